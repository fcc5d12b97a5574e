import Derived.Test.Qxb6600600aModsWc
import Derived.Test.Qxb6600600aModsPlainB
import Derived.Laws.BitsAllLaws
namespace Go.Proofs.Qxb6600600aMods
open Go.RowKit

/-- A hexadecimal digit's letter. -/
def hxI (d : Int) : Int := if d < 10 then 48 + d else 87 + d

set_option maxHeartbeats 400000 in
theorem hex_any (d : Int) (w : World) (h0 : 0 ≤ d) (h1 : d < 16) :
    Calls Trym.prog 24 #[.int .u8 d] w fun e w' => e = .returned (.int .u8 (hxI d)) ∧ w' = w := by
  by_cases h : d < 10
  · go_enter Trym.func24, Trym.ntmps24
    go_wp2
    go_ret
    exact ⟨ret_int (by unfold hxI; rw [if_pos h]), rfl⟩
  · go_enter Trym.func24, Trym.ntmps24
    go_wp2
    go_ret
    exact ⟨ret_int (by unfold hxI; rw [if_neg (by omega)]; omega), rfl⟩

theorem byte_ne {b d : UInt8} (h : b ≠ d) : ((b.toNat : Int) == (d.toNat : Int)) = false := by
  rw [beq_eq_false_iff_ne]
  intro e
  exact h (UInt8.toNat_inj.1 (by omega))
theorem byte_eq {b d : UInt8} (h : b = d) : ((b.toNat : Int) == (d.toNat : Int)) = true := by subst h; simp
theorem take_snoc (s : ByteArray) (k : Nat) (h : k < s.size) : s.data.toList.take (k + 1) = s.data.toList.take k ++ [s[k]] := by
  rw [List.take_succ_eq_append_getElem (by simpa using h)]; rfl

theorem hx_eq (n : Nat) (h : n < 16) : hxI (n : Int) = ((hxB n).toNat : Int) := by
  unfold hxI
  rw [hxB_toNat n h]
  by_cases h1 : n < 10
  · rw [if_pos (by omega), if_pos h1]; omega
  · rw [if_neg (by omega), if_neg h1]; omega
theorem and15 (n : Nat) (h : n < 256) : bits .and .u8 (n : Int) 15 = ((n % 16 : Nat) : Int) := by
  have := u8_and_nat n 15 h (by omega)
  have e : n &&& 15 = n % 16 := Nat.and_two_pow_sub_one_eq_mod n 4
  rw [e] at this
  exact this

set_option maxHeartbeats 1000000 in
set_option maxRecDepth 100000 in
/-- appendQuoted. -/
theorem quoted_any (B : Nat) (v : Value) (l : List UInt8) (s : ByteArray) (w : World) (hown : OwnB 5 B w v l) (hB : B ≤ w.heap.size) (hlen : l.length + 6 * s.size + 2 ≤ 50000000) :
    Calls Trym.prog 14 #[v, .string s] w fun e w' => ∃ ao n cap, e = .returned (.slice ao n cap) ∧ OwnB 5 B w' (.slice ao n cap) (l ++ ([34] ++ qS s.data.toList ++ [34])) ∧ Below B w w' ∧ B ≤ w'.heap.size := by
  obtain ⟨ao, cap, hv⟩ := hown.form
  have hLs : s.size ≤ 50000000 := by omega
  obtain ⟨n, hn⟩ : ∃ n, n = l.length := ⟨_, rfl⟩
  rw [← hn] at hv
  subst hv
  have hln : l.length ≤ 50000000 := by omega
  have HN : Hid (n = l.length) := hn
  clear hn
  go_enter Trym.func14, Trym.ntmps14
  go_wp2_with (at_builtin; refine wpL_lit rfl (.tmp 7) (.tmp 8) 22 5 rfl Trym.underlying22 Trym.brow B _ _ rfl hown 1 1 rfl [34] rfl rfl (by simp; omega) hB ?_; intro ao1 n1 cap1 w1 hown1 hn1 hbel1 hsz1)
  go_loopw [0, 5] (fun o i wr => ∃ (k : Nat) (ao' : Option Addr) (n' cap' : Nat), k ≤ s.size ∧ i = .int .i64 k ∧ o = .slice ao' n' cap' ∧ OwnB 5 B wr (.slice ao' n' cap') (l ++ [34] ++ qS (s.data.toList.take k)) ∧ n' ≤ 100000000 ∧ Below B w wr ∧ B ≤ wr.heap.size) (fun _ i _ => s.size - (intOf i).toNat)
  case atStart => exact ⟨0, ao1, n1, cap1, by omega, rfl, rfl, by simpa [qS] using hown1, hn1, hbel1, hsz1⟩
  case round =>
    clear hown1 hbel1 hsz1 hn1
    obtain ⟨k, ao', n', cap', hk, rfl, rfl, hown', hn', hbel, hsz⟩ := hrel
    have hql : (qS (s.data.toList.take k)).length ≤ 6 * k := by
      have := qS_len (s.data.toList.take k)
      have := List.length_take_le k s.data.toList
      omega
    by_cases hlt : k < s.size
    · have HT : Hid (qS (s.data.toList.take (k + 1)) = qS (s.data.toList.take k) ++ qB s[k]) := by unfold Hid; rw [take_snoc s k hlt, qS_snoc]
      by_cases c34 : s[k] = 34
      · have e34 : ((s[k].toNat : Int) == 34) = true := byte_eq c34
        have HQ : Hid (qB s[k] = [92, s[k]]) := qB_esc (.inl c34)
        clear c34
        go_wp2_with (at_builtin; refine wpL_lit rfl (.tmp 25) (.tmp 27) 22 5 rfl Trym.underlying22 Trym.brow B _ _ rfl hown' 2 2 rfl [92, s[k]] rfl rfl (by simp; omega) hsz ?_; intro ao2 n2 cap2 w2 hown2 hn2 hbel2 hsz2)
        go_roundw
        case rel => exact ⟨k + 1, ao2, n2, cap2, by omega, by go_num, rfl, by rw [HT.out, HQ.out, ← List.append_assoc]; exact hown2, hn2, hbel.trans hbel2, hsz2⟩
        case measure => simp [intOf]; omega
      · have e34 : ((s[k].toNat : Int) == 34) = false := byte_ne c34
        by_cases c92 : s[k] = 92
        · have e92 : ((s[k].toNat : Int) == 92) = true := byte_eq c92
          have HQ : Hid (qB s[k] = [92, s[k]]) := qB_esc (.inr c92)
          clear c34 c92
          go_wp2_with (at_builtin; refine wpL_lit rfl (.tmp 25) (.tmp 27) 22 5 rfl Trym.underlying22 Trym.brow B _ _ rfl hown' 2 2 rfl [92, s[k]] rfl rfl (by simp; omega) hsz ?_; intro ao2 n2 cap2 w2 hown2 hn2 hbel2 hsz2)
          go_roundw
          case rel => exact ⟨k + 1, ao2, n2, cap2, by omega, by go_num, rfl, by rw [HT.out, HQ.out, ← List.append_assoc]; exact hown2, hn2, hbel.trans hbel2, hsz2⟩
          case measure => simp [intOf]; omega
        · have e92 : ((s[k].toNat : Int) == 92) = false := byte_ne c92
          by_cases c32 : s[k].toNat < 32
          · have e32 : (s[k].toNat : Int) < 32 := by omega
            have hand : bits .and .u8 (s[k].toNat : Int) 15 = (s[k].toNat : Int) % 16 := and15 _ (by omega)
            have h1 : hxI ((s[k].toNat : Int) / 16) = ((hxB (s[k].toNat / 16)).toNat : Int) := hx_eq (s[k].toNat / 16) (by omega)
            have h2 : hxI ((s[k].toNat : Int) % 16) = ((hxB (s[k].toNat % 16)).toNat : Int) := hx_eq (s[k].toNat % 16) (by omega)
            have HQ : Hid (qB s[k] = [92, 117, 48, 48, hxB (s[k].toNat / 16), hxB (s[k].toNat % 16)]) := qB_hex c34 c92 c32
            clear c34 c92 c32
            go_wp2_with (first | (go_at_call 24; refine (hex_any _ _ (by omega) (by omega)).mono ?_; rintro e w' ⟨rfl, rfl⟩) | (at_builtin; refine wpL_lit rfl (.tmp 31) (.tmp 38) 22 5 rfl Trym.underlying22 Trym.brow B _ _ rfl hown' 6 6 rfl [92, 117, 48, 48, hxB (s[k].toNat / 16), hxB (s[k].toNat % 16)] rfl rfl (by simp; omega) hsz ?_; intro ao2 n2 cap2 w2 hown2 hn2 hbel2 hsz2))
            go_roundw
            case rel => exact ⟨k + 1, ao2, n2, cap2, by omega, by go_num, rfl, by rw [HT.out, HQ.out, ← List.append_assoc]; exact hown2, hn2, hbel.trans hbel2, hsz2⟩
            case measure => simp [intOf]; omega
          · have e32 : decide ((s[k].toNat : Int) < 32) = false := by simp; omega
            have HQ : Hid (qB s[k] = [s[k]]) := qB_raw c34 c92 c32
            clear c34 c92 c32
            go_wp2_with (at_builtin; refine wpL_lit rfl (.tmp 40) (.tmp 42) 22 5 rfl Trym.underlying22 Trym.brow B _ _ rfl hown' 1 1 rfl [s[k]] rfl rfl (by simp; omega) hsz ?_; intro ao2 n2 cap2 w2 hown2 hn2 hbel2 hsz2)
            go_roundw
            case rel => exact ⟨k + 1, ao2, n2, cap2, by omega, by go_num, rfl, by rw [HT.out, HQ.out, ← List.append_assoc]; exact hown2, hn2, hbel.trans hbel2, hsz2⟩
            case measure => simp [intOf]; omega
    · have hks : k = s.size := by omega
      subst hks
      have hte : s.data.toList.take s.size = s.data.toList := List.take_of_length_le (by simp)
      rw [hte] at hown' hql
      clear hte hlt hk
      go_wp2_with (at_builtin; refine wpL_lit rfl (.tmp 44) (.tmp 45) 22 5 rfl Trym.underlying22 Trym.brow B _ _ rfl hown' 1 1 rfl [34] rfl rfl (by simp; omega) hsz ?_; intro ao2 n2 cap2 w2 hown2 hn2 hbel2 hsz2)
      go_ret
      exact ⟨ao2, n2, cap2, rfl, by simpa using hown2, hbel.trans hbel2, hsz2⟩
end Go.Proofs.Qxb6600600aMods
