import Derived.Test.Qxb6600600aModsKitB
import Derived.Test.Qxb6600600aModsPlainD
import Derived.Test.Qxb6600600aModsWh
namespace Go.Proofs.Qxb6600600aMods
open Go.RowKit

set_option maxHeartbeats 400000 in
/-- closerOf. -/
theorem closer_any (c : Int) (w : World) :
    Calls Trym.prog 26 #[.int .u8 c] w fun e w' => ∃ d : UInt8, e = .returned (.int .u8 (d.toNat : Int)) ∧ (d = 125 ∨ d = 93) ∧ w' = w := by
  by_cases h : c = 123
  · subst h
    go_enter Trym.func26, Trym.ntmps26
    go_wp2
    go_ret
    exact ⟨125, rfl, .inl rfl, rfl⟩
  · have e1 : (c == 123) = false := by rw [beq_eq_false_iff_ne]; exact h
    go_enter Trym.func26, Trym.ntmps26
    go_wp2
    go_ret
    exact ⟨93, rfl, .inr rfl, rfl⟩

set_option maxHeartbeats 1000000 in
set_option maxRecDepth 100000 in
/-- appendQuoted. -/
theorem quoted_at (B g n cap : Nat) (l : List UInt8) (s : ByteArray) (w : World) (hown : OwnB 5 B w (.slice (some ⟨g, 0, none⟩) n cap) l) (hB : B ≤ w.heap.size) (hlen : l.length + 6 * s.size + 2 ≤ 50000000) :
    Calls Trym.prog 14 #[.slice (some ⟨g, 0, none⟩) n cap, .string s] w fun e w' => ∃ g' n' cap', e = .returned (.slice (some ⟨g', 0, none⟩) n' cap') ∧ OwnB 5 B w' (.slice (some ⟨g', 0, none⟩) n' cap') (l ++ ([34] ++ qS s.data.toList ++ [34])) ∧ Mov g w g' w' := by
  have hLs : s.size ≤ 50000000 := by omega
  have hln : l.length ≤ 50000000 := by omega
  go_enter Trym.func14, Trym.ntmps14
  go_wp2_with (at_builtin; refine wpL_atB rfl (.tmp 7) (.tmp 8) 22 5 rfl Trym.underlying22 Trym.brow B _ _ _ _ rfl hown 1 1 rfl [34] rfl rfl (by decide) (by simp; omega) hB ?_; intro g1 n1 cap1 w1 hown1 hn1 hmov1)
  go_loopw [0, 5] (fun o i wr => ∃ (k : Nat) (g' : Nat) (n' cap' : Nat), k ≤ s.size ∧ i = .int .i64 k ∧ o = .slice (some ⟨g', 0, none⟩) n' cap' ∧ OwnB 5 B wr (.slice (some ⟨g', 0, none⟩) n' cap') (l ++ [34] ++ qS (s.data.toList.take k)) ∧ n' ≤ 100000000 ∧ Mov g w g' wr) (fun _ i _ => s.size - (intOf i).toNat)
  case atStart => exact ⟨0, g1, n1, cap1, by omega, rfl, rfl, by simpa [qS] using hown1, hn1, hmov1⟩
  case round =>
    clear hown1 hn1 hmov1
    obtain ⟨k, g', n', cap', hk, rfl, rfl, hown', hn', hmov⟩ := hrel
    have hsz : B ≤ wr.heap.size := Nat.le_trans hB hmov.1.size
    have hql : (qS (s.data.toList.take k)).length ≤ 6 * k := by
      have := qS_len (s.data.toList.take k)
      have := List.length_take_le k s.data.toList
      omega
    by_cases hlt : k < s.size
    · have HT : Hid (qS (s.data.toList.take (k + 1)) = qS (s.data.toList.take k) ++ qB s[k]) := by unfold Hid; rw [take_snoc s k hlt, qS_snoc]
      by_cases c34 : s[k] = 34
      · have e34 : ((s[k].toNat : Int) == 34) = true := byte_eq c34
        have HQ : Hid (qB s[k] = [92, s[k]]) := qB_esc (.inl c34)
        clear c34
        go_wp2_with (at_builtin; refine wpL_atB rfl (.tmp 25) (.tmp 27) 22 5 rfl Trym.underlying22 Trym.brow B _ _ _ _ rfl hown' 2 2 rfl [92, s[k]] rfl rfl (by decide) (by simp; omega) hsz ?_; intro g2 n2 cap2 w2 hown2 hn2 hmov2)
        go_roundw
        case rel => exact ⟨k + 1, g2, n2, cap2, by omega, by go_num, rfl, by rw [HT.out, HQ.out, ← List.append_assoc]; exact hown2, hn2, hmov.trans hmov2⟩
        case measure => simp [intOf]; omega
      · have e34 : ((s[k].toNat : Int) == 34) = false := byte_ne c34
        by_cases c92 : s[k] = 92
        · have e92 : ((s[k].toNat : Int) == 92) = true := byte_eq c92
          have HQ : Hid (qB s[k] = [92, s[k]]) := qB_esc (.inr c92)
          clear c34 c92
          go_wp2_with (at_builtin; refine wpL_atB rfl (.tmp 25) (.tmp 27) 22 5 rfl Trym.underlying22 Trym.brow B _ _ _ _ rfl hown' 2 2 rfl [92, s[k]] rfl rfl (by decide) (by simp; omega) hsz ?_; intro g2 n2 cap2 w2 hown2 hn2 hmov2)
          go_roundw
          case rel => exact ⟨k + 1, g2, n2, cap2, by omega, by go_num, rfl, by rw [HT.out, HQ.out, ← List.append_assoc]; exact hown2, hn2, hmov.trans hmov2⟩
          case measure => simp [intOf]; omega
        · have e92 : ((s[k].toNat : Int) == 92) = false := byte_ne c92
          by_cases c32 : s[k].toNat < 32
          · have e32 : (s[k].toNat : Int) < 32 := by omega
            have hand : bits .and .u8 (s[k].toNat : Int) 15 = (s[k].toNat : Int) % 16 := and15 _ (by omega)
            have h1 : hxI ((s[k].toNat : Int) / 16) = ((hxB (s[k].toNat / 16)).toNat : Int) := hx_eq (s[k].toNat / 16) (by omega)
            have h2 : hxI ((s[k].toNat : Int) % 16) = ((hxB (s[k].toNat % 16)).toNat : Int) := hx_eq (s[k].toNat % 16) (by omega)
            have HQ : Hid (qB s[k] = [92, 117, 48, 48, hxB (s[k].toNat / 16), hxB (s[k].toNat % 16)]) := qB_hex c34 c92 c32
            clear c34 c92 c32
            go_wp2_with (first | (go_at_call 24; refine (hex_any _ _ (by omega) (by omega)).mono ?_; rintro e w' ⟨rfl, rfl⟩) | (at_builtin; refine wpL_atB rfl (.tmp 31) (.tmp 38) 22 5 rfl Trym.underlying22 Trym.brow B _ _ _ _ rfl hown' 6 6 rfl [92, 117, 48, 48, hxB (s[k].toNat / 16), hxB (s[k].toNat % 16)] rfl rfl (by decide) (by simp; omega) hsz ?_; intro g2 n2 cap2 w2 hown2 hn2 hmov2))
            go_roundw
            case rel => exact ⟨k + 1, g2, n2, cap2, by omega, by go_num, rfl, by rw [HT.out, HQ.out, ← List.append_assoc]; exact hown2, hn2, hmov.trans hmov2⟩
            case measure => simp [intOf]; omega
          · have e32 : decide ((s[k].toNat : Int) < 32) = false := by simp; omega
            have HQ : Hid (qB s[k] = [s[k]]) := qB_raw c34 c92 c32
            clear c34 c92 c32
            go_wp2_with (at_builtin; refine wpL_atB rfl (.tmp 40) (.tmp 42) 22 5 rfl Trym.underlying22 Trym.brow B _ _ _ _ rfl hown' 1 1 rfl [s[k]] rfl rfl (by decide) (by simp; omega) hsz ?_; intro g2 n2 cap2 w2 hown2 hn2 hmov2)
            go_roundw
            case rel => exact ⟨k + 1, g2, n2, cap2, by omega, by go_num, rfl, by rw [HT.out, HQ.out, ← List.append_assoc]; exact hown2, hn2, hmov.trans hmov2⟩
            case measure => simp [intOf]; omega
    · have hks : k = s.size := by omega
      subst hks
      have hte : s.data.toList.take s.size = s.data.toList := List.take_of_length_le (by simp)
      rw [hte] at hown' hql
      clear hte hlt hk
      go_wp2_with (at_builtin; refine wpL_atB rfl (.tmp 44) (.tmp 45) 22 5 rfl Trym.underlying22 Trym.brow B _ _ _ _ rfl hown' 1 1 rfl [34] rfl rfl (by decide) (by simp; omega) hsz ?_; intro g2 n2 cap2 w2 hown2 hn2 hmov2)
      go_ret
      exact ⟨g2, n2, cap2, rfl, by simpa using hown2, hmov.trans hmov2⟩
end Go.Proofs.Qxb6600600aMods
