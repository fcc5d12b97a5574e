import Derived.Test.Qxb6602525aModsWa
import Derived.Deep.RegionWith
namespace Go.Proofs.Qxb6602525aMods
open Go.RowKit
set_option linter.unusedVariables false

/-- The loop's relation. -/
def DRel (p : ByteArray) (R : List UInt8) (w : World) (nv iv : Value) (wr : World) : Prop :=
  ∃ (k : Nat) (ao : Option Addr) (n cap : Nat) (l : List UInt8), nv = .slice ao n cap ∧ iv = .int .i64 k ∧ k ≤ p.size ∧ OwnB 5 w.heap.size wr (.slice ao n cap) l ∧ Hid (dec (p.data.toList.drop k) l = some R) ∧ Below w.heap.size w wr ∧ w.heap.size ≤ wr.heap.size ∧ l.length ≤ k

theorem idx_at (p : ByteArray) (j : Nat) (i : Int) (hi : i = (j : Int)) (h : j < p.size) (wx : World) : (Instr.index 9 (.string p) (.int .i64 i)).run Trym.prog wx = .ok (.int .u8 (p[j].toNat : Int)) wx := by
  subst hi
  rw [run_index_string wx 9 p .i64 (j : Int) Trym.underlying9]
  simp [h]
theorem ret_dec {l R : List UInt8} (h : l = R) : Ending.returned (.tuple #[.string ⟨l.toArray⟩, .bool true]) = .returned (.tuple #[.string ⟨R.toArray⟩, .bool true]) := by rw [h]

set_option maxHeartbeats 1000000 in
set_option maxRecDepth 100000 in
/-- decodePart. -/
theorem decode_any (p : ByteArray) (R : List UInt8) (w : World) (hs : p.size ≤ 10000000) (h : dec p.data.toList [] = some R) :
    Calls Trym.prog 27 #[.string p] w fun e w' => e = .returned (.tuple #[.string ⟨R.toArray⟩, .bool true]) ∧ Below w.heap.size w w' := by
  have H0 : Hid (dec (p.data.toList.drop 0) [] = some R) := h
  clear h
  go_enter Trym.func27, Trym.ntmps27
  go_wp2_with (at_make; refine wpL_make0 rfl (.const (.int .i64 0)) (.tmp 10) 25 5 rfl Trym.underlying25 Trym.brow w.heap.size .i64 .i64 _ p.size rfl rfl rfl (by omega) (Nat.le_refl _) ?_; intro wa hO0 hbela hsza)
  go_loopw [4, 5] (fun nv iv wr => DRel p R w nv iv wr) (fun _ iv _ => p.size - (intOf iv).toNat)
  case atStart => exact ⟨0, _, _, _, [], rfl, rfl, by omega, hO0, H0, hbela, hsza, by simp⟩
  case round =>
    clear hO0 hbela hsza
    obtain ⟨k, ao, n, cap, l, rfl, rfl, hk, hown, hd, hbel, hsz, hll⟩ := hrel
    have HL : Hid (n = l.length) := hown.len
    by_cases hlt : k < p.size
    · have hdr := hd.out
      rw [drop_cons p k hlt] at hdr
      by_cases h126 : p[k] = 126
      · have e126 : ((p[k].toNat : Int) == 126) = true := byte_eq h126
        rw [h126] at hdr
        obtain ⟨a, b, r', x, y, hr, hx1, hy1, hdec⟩ := dec_in_tilde hdr
        have h1 : k + 1 < p.size := by
          rcases Nat.lt_or_ge (k + 1) p.size with h | h
          · exact h
          · rw [List.drop_eq_nil_of_le (by simp; omega)] at hr; cases hr
        rw [drop_cons p (k + 1) h1] at hr
        injection hr with hr1 hr2
        have h2 : k + 2 < p.size := by
          rcases Nat.lt_or_ge (k + 2) p.size with h | h
          · exact h
          · rw [show k + 1 + 1 = k + 2 from rfl, List.drop_eq_nil_of_le (by simp; omega)] at hr2; cases hr2
        rw [show k + 1 + 1 = k + 2 from rfl, drop_cons p (k + 2) h2] at hr2
        injection hr2 with hr3 hr4
        subst hr1
        subst hr3
        have hx16 : x < 16 := ix_lt hx1
        have hy16 : y < 16 := ix_lt hy1
        have l1 : lx p[k + 1] = (x : Int) := by unfold lx; rw [hx1]; rfl
        have l2 : lx p[k + 2] = (y : Int) := by unfold lx; rw [hy1]; rfl
        have hor := or_join x y (by omega) hy16
        have HD : Hid (dec (p.data.toList.drop (k + 3)) (l ++ [jn x y]) = some R) := by rw [← hr4] at hdec; exact hdec
        have hjn : ((jn x y).toNat : Int) = (x : Int) * 16 + (y : Int) := by
          unfold jn; rw [UInt8.toNat_ofNat']; omega
        have HJ : Hid (((jn x y).toNat : Int) = (x : Int) * 16 + (y : Int)) := hjn
        have hi1 : (k : Int) + 1 < (p.size : Int) := by omega
        have hi2 : (k : Int) + 2 < (p.size : Int) := by omega
        have hi0 : (0 : Int) ≤ (k : Int) + 1 := by omega
        have hi00 : (0 : Int) ≤ (k : Int) + 2 := by omega
        have hge : decide ((p.size : Int) ≤ (k : Int) + 2) = false := by simp; omega
        clear hdr h126 hr4 hx1 hy1 hdec hjn hd
        go_wp2_with fail
        have hq1 : ∀ wx : World, (Instr.index 9 (.string p) (.int .i64 ((k : Int) + 1))).run Trym.prog wx = .ok (.int .u8 (p[k + 1].toNat : Int)) wx := idx_at p (k + 1) ((k : Int) + 1) (by omega) h1
        have hq2 : ∀ wx : World, (Instr.index 9 (.string p) (.int .i64 ((k : Int) + 2))).run Trym.prog wx = .ok (.int .u8 (p[k + 2].toNat : Int)) wx := idx_at p (k + 2) ((k : Int) + 2) (by omega) h2
        go_quiet ((go_at_call 33; exact Calls.quiet_of_same (idx16 _ _)))
        have hownq : OwnB 5 w.heap.size (wr.drewN nq) (.slice ao n cap) l := hown
        go_wp2_with (at_builtin; refine wpL_lit rfl (.tmp 73) (.tmp 75) 25 5 rfl Trym.underlying25 Trym.brow w.heap.size _ _ rfl hownq 1 1 rfl [jn x y] (by show [Value.int .u8 _] = [Value.int .u8 _]; rw [HJ.out]) rfl (by simp; omega) hsz ?_; intro ao1 n1 cap1 w1 hown1 hn1 hbel1 hsz1)
        go_roundw
        case measure => simp [intOf]; omega
        case rel => exact ⟨k + 3, ao1, n1, cap1, _, rfl, by go_num, by omega, hown1, HD, (below_drewN hbel nq).trans hbel1, hsz1, by simp; omega⟩
      · by_cases h95 : p[k] = 95
        · have e126 : ((p[k].toNat : Int) == 126) = false := byte_ne h126
          have e95 : ((p[k].toNat : Int) == 95) = true := byte_eq h95
          rw [h95] at hdr
          obtain ⟨d, r', hr, hcase⟩ := dec_in_und hdr
          have h1 : k + 1 < p.size := by
            rcases Nat.lt_or_ge (k + 1) p.size with h | h
            · exact h
            · rw [List.drop_eq_nil_of_le (by simp; omega)] at hr; cases hr
          rw [drop_cons p (k + 1) h1] at hr
          injection hr with hr1 hr2
          subst hr1
          have hge : decide ((p.size : Int) ≤ (k : Int) + 1) = false := by simp; omega
          have hi1 : (k : Int) + 1 < (p.size : Int) := by omega
          have hi0 : (0 : Int) ≤ (k : Int) + 1 := by omega
          have hq1 : ∀ wx : World, (Instr.index 9 (.string p) (.int .i64 ((k : Int) + 1))).run Trym.prog wx = .ok (.int .u8 (p[k + 1].toNat : Int)) wx := idx_at p (k + 1) ((k : Int) + 1) (by omega) h1
          rcases hcase with ⟨ha, hb, hdec⟩ | ⟨hno, hu, hdec⟩
          · have HD : Hid (dec (p.data.toList.drop (k + 2)) (l ++ [dn p[k + 1]]) = some R) := by rw [← hr2] at hdec; exact hdec
            have HJ : Hid (((dn p[k + 1]).toNat : Int) = (p[k + 1].toNat : Int) - 32) := by
              show ((dn p[k + 1]).toNat : Int) = (p[k + 1].toNat : Int) - 32
              unfold dn; rw [UInt8.toNat_ofNat']; omega
            have ha' : decide ((97 : Int) ≤ (p[k + 1].toNat : Int)) = true := by simp; omega
            have hb' : decide ((p[k + 1].toNat : Int) ≤ 122) = true := by simp; omega
            clear hdr h126 h95 hdec hr2 hd
            go_wp2_with (at_builtin; refine wpL_lit rfl (.tmp 73) (.tmp 75) 25 5 rfl Trym.underlying25 Trym.brow w.heap.size _ _ rfl hown.drew 1 1 rfl [dn p[k + 1]] (by show [Value.int .u8 _] = [Value.int .u8 _]; rw [HJ.out]) rfl (by simp; omega) hsz ?_; intro ao1 n1 cap1 w1 hown1 hn1 hbel1 hsz1)
            go_roundw
            case measure => simp [intOf]; omega
            case rel => exact ⟨k + 2, ao1, n1, cap1, _, rfl, by go_num, by omega, hown1, HD, hbel.trans hbel1, hsz1, by simp; omega⟩
          · have HD : Hid (dec (p.data.toList.drop (k + 2)) (l ++ [95]) = some R) := by rw [← hr2] at hdec; exact hdec
            have hu' : ((p[k + 1].toNat : Int) == 95) = true := byte_eq hu
            have hu2 : ((p[k + 1].toNat : Int) != 95) = false := by simp [bne, hu']
            have ha' : decide ((97 : Int) ≤ (p[k + 1].toNat : Int)) = false := by rw [hu]; decide
            clear hdr h126 h95 hdec hr2 hd hno
            go_wp2_with (at_builtin; refine wpL_lit rfl (.tmp 73) (.tmp 75) 25 5 rfl Trym.underlying25 Trym.brow w.heap.size _ _ rfl hown.drew 1 1 rfl [95] rfl rfl (by simp; omega) hsz ?_; intro ao1 n1 cap1 w1 hown1 hn1 hbel1 hsz1)
            go_roundw
            case measure => simp [intOf]; omega
            case rel => exact ⟨k + 2, ao1, n1, cap1, _, rfl, by go_num, by omega, hown1, HD, hbel.trans hbel1, hsz1, by simp; omega⟩
        · have e126 : ((p[k].toNat : Int) == 126) = false := byte_ne h126
          have e95 : ((p[k].toNat : Int) == 95) = false := byte_ne h95
          rw [dec_raw _ _ _ h126 h95] at hdr
          have HD : Hid (dec (p.data.toList.drop (k + 1)) (l ++ [p[k]]) = some R) := hdr
          clear hdr h126 h95 hd
          go_wp2_with (at_builtin; refine wpL_lit rfl (.tmp 73) (.tmp 75) 25 5 rfl Trym.underlying25 Trym.brow w.heap.size _ _ rfl hown.drew 1 1 rfl [p[k]] rfl rfl (by simp; omega) hsz ?_; intro ao1 n1 cap1 w1 hown1 hn1 hbel1 hsz1)
          go_roundw
          case measure => simp [intOf]; omega
          case rel => exact ⟨k + 1, ao1, n1, cap1, _, rfl, by go_num, by omega, hown1, HD, hbel.trans hbel1, hsz1, by simp; omega⟩
    · have hend : l = R := by
        have hdr := hd.out
        rw [List.drop_eq_nil_of_le (by simp; omega)] at hdr
        simpa [dec] using hdr
      have hend' : Hid (l = R) := hend
      clear hend
      clear hd
      have hcv := conv_own (w := wr) (src := 25) (dst := 9) Trym.underlying25 Trym.underlying5 Trym.underlying9 hown
      have hcv2 := conv_own (w := wr.drew) (src := 25) (dst := 9) Trym.underlying25 Trym.underlying5 Trym.underlying9 hown.drew
      go_wp2_with fail
      go_ret2
      exact ⟨ret_dec hend'.out, hbel⟩
end Go.Proofs.Qxb6602525aMods
