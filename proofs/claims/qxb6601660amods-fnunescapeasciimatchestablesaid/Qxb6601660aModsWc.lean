import Derived.Test.Qxb6601660aModsWb
import Derived.Test.Qxb6601660aModsPlainC
import Derived.Laws.CopyOwn
namespace Go.Proofs.Qxb6601660aMods
open Go.RowKit
set_option linter.unusedVariables false

section
variable {P : Program}
/-- 'copy(t, s)', t the call's own and as long as s. -/
theorem run_copy_own (w : World) (t ty e : TypeId) (ht : P.underlying t = some (.slice e)) (hr : ByteRow P e)
    (B g n cap : Nat) (l0 l : List UInt8) (hown : OwnB e B w (.slice (some ⟨g, 0, none⟩) n cap) l0)
    (x : Addr) (c : Nat) (hl : l.length = n) (hcell : ∀ j, j < n → w.cell? (x.add j) = some (.int .u8 (bv l j))) :
    ∃ w', (Builtin.copy_ #[t, t] ty #[.slice (some ⟨g, 0, none⟩) n cap, .slice (some x) n c]).run P w = .ok (goInt n) w' ∧ OwnB e B w' (.slice (some ⟨g, 0, none⟩) n cap) l ∧ Below B w w' := by
  obtain ⟨i, hi, hz0, hz1, hz2⟩ := info_parts hr
  have hn0 := hown.len
  have hge := hown.ge
  rcases hown.2 with ⟨h4, _⟩ | ⟨g2, cap2, cur, hv, hb, hg, hnc, hcm, hcs, htake⟩
  · injection h4 with h4; cases h4
  injection hv with hv1 hv2 hv3
  injection hv1 with hv1
  injection hv1 with hv1
  subst hv1
  subst hv3
  have hlen : (bc l).length = n := by rw [bc_length]; exact hl
  have hrun := run_copy_row (P := P) w t t ty e g 0 n cap x n c cur e (bc l) ht (by rw [hi]; simp [hz1]) hg (by rw [hlen]; simp) (fun j v hj => by
    have hjl : j < l.length := by
      have := (List.getElem?_eq_some_iff.1 hj).1
      rw [bc_length] at this
      exact this
    rw [hcell j (by omega)]
    rw [bc_getD _ _ hjl] at hj
    exact hj) (by rw [hlen]; omega) (bc_oneCell l)
  rw [hlen] at hrun
  refine ⟨_, hrun, ?_, below_setRow (Below.refl B w) hge.1 _⟩
  unfold OwnB
  rw [hl]
  refine ⟨by rw [hlen]; simp, .inr ⟨g, cap, _, rfl, hb, setRow_heap w g _ _ e _ hg, by omega, hcm, ?_, ?_⟩⟩
  · simp
    rw [hlen]
    simp at hcs
    omega
  · simp
    rw [← hlen]
    simp
end

set_option maxHeartbeats 400000 in
theorem bytes14_any (a : Option Addr) (len cap : Nat) (w : World) (hl : len ≤ maxLen) :
    Calls Trym.prog 14 #[.slice a len cap] w fun e w' => e = .returned (.bool (decide (len ≤ 1048576))) ∧ w' = w := by
  unfold maxLen at hl
  by_cases h : len ≤ 1048576
  · go_enter Trym.func14, Trym.ntmps14
    go_wp2
    go_ret
    exact ⟨ret_bool (by simp [h]), rfl⟩
  · go_enter Trym.func14, Trym.ntmps14
    go_wp2
    go_ret
    exact ⟨ret_bool (by simp [h]), rfl⟩

/-- What shortEscaped answers. -/
def seE (c : UInt8) : Ending := match ix SH c with
  | some k => .returned (.tuple #[.int .u8 ((SO.getD k 0).toNat : Int), .bool true])
  | none => .returned (.tuple #[.int .u8 0, .bool false])

set_option maxHeartbeats 1000000 in
theorem shortEsc_any (l : List UInt8) (j : Nat) (w : World) : Calls Trym.prog 29 #[.int .u8 (bv l j)] w fun e w' => e = seE (l.getD j 0) ∧ w' = w := by
  by_cases h34 : l.getD j 0 = 34
  · have e34 : (bv l j == 34) = true := bv_eq h34
    have HE : Hid (seE (l.getD j 0) = .returned (.tuple #[.int .u8 34, .bool true])) := by unfold Hid; rw [h34]; rfl
    clear h34
    go_enter Trym.func29, Trym.ntmps29
    go_wp2
    go_ret2
    exact ⟨HE.out.symm, rfl⟩
  by_cases h92 : l.getD j 0 = 92
  · have e92 : (bv l j == 92) = true := bv_eq h92
    have e34 : (bv l j == 34) = false := bv_ne (d := 34) h34
    have HE : Hid (seE (l.getD j 0) = .returned (.tuple #[.int .u8 92, .bool true])) := by unfold Hid; rw [h92]; rfl
    clear h34 h92
    go_enter Trym.func29, Trym.ntmps29
    go_wp2
    go_ret2
    exact ⟨HE.out.symm, rfl⟩
  by_cases h47 : l.getD j 0 = 47
  · have e47 : (bv l j == 47) = true := bv_eq h47
    have e34 : (bv l j == 34) = false := bv_ne (d := 34) h34
    have e92 : (bv l j == 92) = false := bv_ne (d := 92) h92
    have HE : Hid (seE (l.getD j 0) = .returned (.tuple #[.int .u8 47, .bool true])) := by unfold Hid; rw [h47]; rfl
    clear h34 h92 h47
    go_enter Trym.func29, Trym.ntmps29
    go_wp2
    go_ret2
    exact ⟨HE.out.symm, rfl⟩
  by_cases h98 : l.getD j 0 = 98
  · have e98 : (bv l j == 98) = true := bv_eq h98
    have e34 : (bv l j == 34) = false := bv_ne (d := 34) h34
    have e92 : (bv l j == 92) = false := bv_ne (d := 92) h92
    have e47 : (bv l j == 47) = false := bv_ne (d := 47) h47
    have HE : Hid (seE (l.getD j 0) = .returned (.tuple #[.int .u8 8, .bool true])) := by unfold Hid; rw [h98]; rfl
    clear h34 h92 h47 h98
    go_enter Trym.func29, Trym.ntmps29
    go_wp2
    go_ret2
    exact ⟨HE.out.symm, rfl⟩
  by_cases h102 : l.getD j 0 = 102
  · have e102 : (bv l j == 102) = true := bv_eq h102
    have e34 : (bv l j == 34) = false := bv_ne (d := 34) h34
    have e92 : (bv l j == 92) = false := bv_ne (d := 92) h92
    have e47 : (bv l j == 47) = false := bv_ne (d := 47) h47
    have e98 : (bv l j == 98) = false := bv_ne (d := 98) h98
    have HE : Hid (seE (l.getD j 0) = .returned (.tuple #[.int .u8 12, .bool true])) := by unfold Hid; rw [h102]; rfl
    clear h34 h92 h47 h98 h102
    go_enter Trym.func29, Trym.ntmps29
    go_wp2
    go_ret2
    exact ⟨HE.out.symm, rfl⟩
  by_cases h110 : l.getD j 0 = 110
  · have e110 : (bv l j == 110) = true := bv_eq h110
    have e34 : (bv l j == 34) = false := bv_ne (d := 34) h34
    have e92 : (bv l j == 92) = false := bv_ne (d := 92) h92
    have e47 : (bv l j == 47) = false := bv_ne (d := 47) h47
    have e98 : (bv l j == 98) = false := bv_ne (d := 98) h98
    have e102 : (bv l j == 102) = false := bv_ne (d := 102) h102
    have HE : Hid (seE (l.getD j 0) = .returned (.tuple #[.int .u8 10, .bool true])) := by unfold Hid; rw [h110]; rfl
    clear h34 h92 h47 h98 h102 h110
    go_enter Trym.func29, Trym.ntmps29
    go_wp2
    go_ret2
    exact ⟨HE.out.symm, rfl⟩
  by_cases h114 : l.getD j 0 = 114
  · have e114 : (bv l j == 114) = true := bv_eq h114
    have e34 : (bv l j == 34) = false := bv_ne (d := 34) h34
    have e92 : (bv l j == 92) = false := bv_ne (d := 92) h92
    have e47 : (bv l j == 47) = false := bv_ne (d := 47) h47
    have e98 : (bv l j == 98) = false := bv_ne (d := 98) h98
    have e102 : (bv l j == 102) = false := bv_ne (d := 102) h102
    have e110 : (bv l j == 110) = false := bv_ne (d := 110) h110
    have HE : Hid (seE (l.getD j 0) = .returned (.tuple #[.int .u8 13, .bool true])) := by unfold Hid; rw [h114]; rfl
    clear h34 h92 h47 h98 h102 h110 h114
    go_enter Trym.func29, Trym.ntmps29
    go_wp2
    go_ret2
    exact ⟨HE.out.symm, rfl⟩
  by_cases h116 : l.getD j 0 = 116
  · have e116 : (bv l j == 116) = true := bv_eq h116
    have e34 : (bv l j == 34) = false := bv_ne (d := 34) h34
    have e92 : (bv l j == 92) = false := bv_ne (d := 92) h92
    have e47 : (bv l j == 47) = false := bv_ne (d := 47) h47
    have e98 : (bv l j == 98) = false := bv_ne (d := 98) h98
    have e102 : (bv l j == 102) = false := bv_ne (d := 102) h102
    have e110 : (bv l j == 110) = false := bv_ne (d := 110) h110
    have e114 : (bv l j == 114) = false := bv_ne (d := 114) h114
    have HE : Hid (seE (l.getD j 0) = .returned (.tuple #[.int .u8 9, .bool true])) := by unfold Hid; rw [h116]; rfl
    clear h34 h92 h47 h98 h102 h110 h114 h116
    go_enter Trym.func29, Trym.ntmps29
    go_wp2
    go_ret2
    exact ⟨HE.out.symm, rfl⟩
  have e34 : (bv l j == 34) = false := bv_ne (d := 34) h34
  have e92 : (bv l j == 92) = false := bv_ne (d := 92) h92
  have e47 : (bv l j == 47) = false := bv_ne (d := 47) h47
  have e98 : (bv l j == 98) = false := bv_ne (d := 98) h98
  have e102 : (bv l j == 102) = false := bv_ne (d := 102) h102
  have e110 : (bv l j == 110) = false := bv_ne (d := 110) h110
  have e114 : (bv l j == 114) = false := bv_ne (d := 114) h114
  have e116 : (bv l j == 116) = false := bv_ne (d := 116) h116
  have HE : Hid (seE (l.getD j 0) = .returned (.tuple #[.int .u8 0, .bool false])) := by
    have hn : ix SH (l.getD j 0) = none := by
      unfold SH
      simp only [ix]
      rw [if_neg (Ne.symm h34), if_neg (Ne.symm h92), if_neg (Ne.symm h47), if_neg (Ne.symm h98), if_neg (Ne.symm h102), if_neg (Ne.symm h110), if_neg (Ne.symm h114), if_neg (Ne.symm h116)]
      rfl
    unfold Hid seE
    rw [hn]
  clear h34 h92 h47 h98 h102 h110 h114 h116
  go_enter Trym.func29, Trym.ntmps29
  go_wp2
  go_ret2
  exact ⟨HE.out.symm, rfl⟩

/-- What hexDigitValue answers. -/
def hvE (c : UInt8) : Ending := match hv c with
  | some v => .returned (.tuple #[.int .u8 (v : Int), .bool true])
  | none => .returned (.tuple #[.int .u8 0, .bool false])
theorem hvE_some {c : UInt8} {v : Nat} {a : Int} (h : hvR c.toNat = some v) (ha : a = (v : Int)) : Ending.returned (.tuple #[.int .u8 a, .bool true]) = hvE c := by
  unfold hvE; rw [hv_R, h, ha]
theorem hvE_none {c : UInt8} (h : hvR c.toNat = none) : Ending.returned (.tuple #[.int .u8 0, .bool false]) = hvE c := by
  unfold hvE; rw [hv_R, h]

set_option maxHeartbeats 1000000 in
theorem hexValue_any (l : List UInt8) (j : Nat) (w : World) : Calls Trym.prog 30 #[.int .u8 (bv l j)] w fun e w' => e = hvE (l.getD j 0) ∧ w' = w := by
  have hN : bv l j = ((l.getD j 0).toNat : Int) := rfl
  have hlt : (l.getD j 0).toNat < 256 := (l.getD j 0).toNat_lt
  obtain ⟨n, hn⟩ : ∃ n, n = (l.getD j 0).toNat := ⟨_, rfl⟩
  rw [hN, ← hn]
  rw [← hn] at hlt
  have HNn : Hid (n = (l.getD j 0).toNat) := hn
  clear hN hn
  by_cases a1 : 48 ≤ n ∧ n ≤ 57
  · obtain ⟨b1, b2⟩ := a1
    have HE : Hid (hvR (l.getD j 0).toNat = some (n - 48)) := by unfold Hid; rw [← HNn.out]; unfold hvR; rw [if_pos ⟨b1, b2⟩]
    have q1 : decide ((48 : Int) ≤ (n : Int)) = true := by simp; omega
    have q2 : decide ((n : Int) ≤ 57) = true := by simp; omega
    go_enter Trym.func30, Trym.ntmps30
    go_wp2
    go_ret2
    exact ⟨hvE_some HE.out (by omega), rfl⟩
  · by_cases a2 : 97 ≤ n ∧ n ≤ 102
    · have HE : Hid (hvR (l.getD j 0).toNat = some (n - 87)) := by unfold Hid; rw [← HNn.out]; unfold hvR; rw [if_neg a1, if_pos a2]
      obtain ⟨b1, b2⟩ := a2
      have q1 : decide ((48 : Int) ≤ (n : Int)) = true := by simp; omega
      have q2 : decide ((n : Int) ≤ 57) = false := by simp; omega
      have q3 : decide ((97 : Int) ≤ (n : Int)) = true := by simp; omega
      have q4 : decide ((n : Int) ≤ 102) = true := by simp; omega
      clear a1
      go_enter Trym.func30, Trym.ntmps30
      go_wp2
      go_ret2
      exact ⟨hvE_some HE.out (by omega), rfl⟩
    · by_cases a3 : 65 ≤ n ∧ n ≤ 70
      · have HE : Hid (hvR (l.getD j 0).toNat = some (n - 55)) := by unfold Hid; rw [← HNn.out]; unfold hvR; rw [if_neg a1, if_neg a2, if_pos a3]
        obtain ⟨b1, b2⟩ := a3
        have q1 : decide ((48 : Int) ≤ (n : Int)) = true := by simp; omega
        have q2 : decide ((n : Int) ≤ 57) = false := by simp; omega
        have q3 : decide ((97 : Int) ≤ (n : Int)) = false := by simp; omega
        have q5 : decide ((65 : Int) ≤ (n : Int)) = true := by simp; omega
        have q6 : decide ((n : Int) ≤ 70) = true := by simp; omega
        clear a1 a2
        go_enter Trym.func30, Trym.ntmps30
        go_wp2
        go_ret2
        exact ⟨hvE_some HE.out (by omega), rfl⟩
      · have HE : Hid (hvR (l.getD j 0).toNat = none) := by unfold Hid; rw [← HNn.out]; unfold hvR; rw [if_neg a1, if_neg a2, if_neg a3]
        have HA : Hid (¬ (48 ≤ n ∧ n ≤ 57) ∧ ¬ (97 ≤ n ∧ n ≤ 102) ∧ ¬ (65 ≤ n ∧ n ≤ 70)) := ⟨a1, a2, a3⟩
        clear a1 a2 a3
        go_enter Trym.func30, Trym.ntmps30
        go_wp2
        all_goals first
          | (exfalso; have := HA.out; omega)
          | (go_ret2; exact ⟨hvE_none HE.out, rfl⟩)
end Go.Proofs.Qxb6601660aMods
