import Derived.Test.Qxb6601660aModsWc
import Derived.WalkSpells
namespace Go.Proofs.Qxb6601660aMods
open Go.RowKit
set_option linter.unusedVariables false

theorem se_yes (l : List UInt8) (j k : Nat) (h : ix SH (l.getD j 0) = some k) (w : World) : Calls Trym.prog 29 #[.int .u8 (bv l j)] w fun e w' => e = .returned (.tuple #[.int .u8 ((SO.getD k 0).toNat : Int), .bool true]) ∧ w' = w := by
  refine (shortEsc_any l j w).mono ?_
  rintro e w' ⟨rfl, rfl⟩
  exact ⟨by unfold seE; rw [h], rfl⟩
theorem se_no (l : List UInt8) (j : Nat) (h : ix SH (l.getD j 0) = none) (w : World) : Calls Trym.prog 29 #[.int .u8 (bv l j)] w fun e w' => e = .returned (.tuple #[.int .u8 0, .bool false]) ∧ w' = w := by
  refine (shortEsc_any l j w).mono ?_
  rintro e w' ⟨rfl, rfl⟩
  exact ⟨by unfold seE; rw [h], rfl⟩
theorem hx_yes (l : List UInt8) (j v : Nat) (h : hv (l.getD j 0) = some v) (w : World) : Calls Trym.prog 30 #[.int .u8 (bv l j)] w fun e w' => e = .returned (.tuple #[.int .u8 (v : Int), .bool true]) ∧ w' = w := by
  refine (hexValue_any l j w).mono ?_
  rintro e w' ⟨rfl, rfl⟩
  exact ⟨by unfold hvE; rw [h], rfl⟩
theorem hx_no (l : List UInt8) (j : Nat) (h : hv (l.getD j 0) = none) (w : World) : Calls Trym.prog 30 #[.int .u8 (bv l j)] w fun e w' => e = .returned (.tuple #[.int .u8 0, .bool false]) ∧ w' = w := by
  refine (hexValue_any l j w).mono ?_
  rintro e w' ⟨rfl, rfl⟩
  exact ⟨by unfold hvE; rw [h], rfl⟩
theorem or_u8 (a : Int) (v : Nat) (h1 : 48 ≤ a) (h2 : a ≤ 55) (hv : v < 16) : bits .or .u8 ((a - 48) * 16) (v : Int) = (a - 48) * 16 + (v : Int) :=
  bits_join .u8 8 (by decide) wraps_u8 4 ((a - 48) * 16) (v : Int) (by omega) (by omega) (by omega) (by omega) (by omega) (by omega)

set_option maxHeartbeats 400000 in
theorem table_few (ao : Option Addr) (n cap : Nat) (w : World) (hn : n < 2) :
    Calls Trym.prog 16 #[.slice ao n cap] w fun e w' => e = .returned (.tuple #[.int .u8 0, .int .i64 0]) ∧ w' = w := by
  go_enter Trym.func16, Trym.ntmps16
  go_wp2
  go_ret2
  exact ⟨rfl, rfl⟩

set_option maxHeartbeats 1000000 in
set_option maxRecDepth 100000 in
/-- unescapeTable. -/
theorem table_any (g n cap : Nat) (l : List UInt8) (w : World) (hl : l.length = n) (hn : n ≤ 100000000) (h2 : 2 ≤ n) (hc : ∀ j, j < n → w.cell? ⟨g, j, none⟩ = some (.int .u8 (bv l j))) :
    Calls Trym.prog 16 #[.slice (some ⟨g, 0, none⟩) n cap] w fun e w' => e = pair (une l) ∧ w' = w := by
  have HC : Hid (∀ j, j < n → w.cell? ⟨g, j, none⟩ = some (.int .u8 (bv l j))) := hc
  have HLn : Hid (l.length = n) := hl
  have hnl : ¬ l.length < 2 := by omega
  have hc1 := hc 1 (by omega)
  have hi1 : (1 : Int) < (n : Int) := by omega
  have h2d : decide ((n : Int) < 2) = false := by simp; omega
  clear hc hl
  cases hk : ix SH (l.getD 1 0) with
  | some k =>
    have HU : Hid (une l = (((SO.getD k 0).toNat : Int), 2)) := une_two hnl hk
    have HK : Hid (ix SH (l.getD 1 0) = some k) := hk
    clear hk hnl
    go_enter Trym.func16, Trym.ntmps16
    go_wp2_with (go_at_call 29; refine (se_yes l 1 k HK.out _).mono ?_; rintro e w' ⟨rfl, rfl⟩)
    go_ret2
    exact ⟨pair_of HU.out, rfl⟩
  | none =>
    have HK : Hid (ix SH (l.getD 1 0) = none) := hk
    by_cases h117 : l.getD 1 0 = 117
    · have e117 : (bv l 1 == 117) = true := bv_eq h117
      have n117 : (bv l 1 != 117) = false := by unfold bne; rw [e117]; rfl
      by_cases h6 : n < 6
      · have h6d : decide ((n : Int) < 6) = true := by simp; omega
        have HU : Hid (une l = (0, 0)) := une_not hnl hk (.inr (by rw [HLn.out]; exact h6))
        clear hk hnl h117
        go_enter Trym.func16, Trym.ntmps16
        go_wp2_with (go_at_call 29; refine (se_no l 1 HK.out _).mono ?_; rintro e w' ⟨rfl, rfl⟩)
        go_ret2
        exact ⟨pair_of HU.out, rfl⟩
      · have h6d : decide ((n : Int) < 6) = false := by simp; omega
        have hF : Four l := ⟨hnl, hk, by
          rintro (h | h)
          · exact h h117
          · have := HLn.out; omega⟩
        have HF : Hid (Four l) := hF
        have h6n : 6 ≤ n := by omega
        have c2 := HC.out 2 (by omega)
        have c3 := HC.out 3 (by omega)
        have c4 := HC.out 4 (by omega)
        have c5 := HC.out 5 (by omega)
        have i2 : (2 : Int) < (n : Int) := by omega
        have i3 : (3 : Int) < (n : Int) := by omega
        have i4 : (4 : Int) < (n : Int) := by omega
        have i5 : (5 : Int) < (n : Int) := by omega
        clear hk hnl h117 hF h6
        by_cases q2 : l.getD 2 0 = 48
        · have e2 : (bv l 2 == 48) = true := bv_eq q2
          have m2 : (bv l 2 != 48) = false := by unfold bne; rw [e2]; rfl
          by_cases q3 : l.getD 3 0 = 48
          · have e3 : (bv l 3 == 48) = true := bv_eq q3
            have m3 : (bv l 3 != 48) = false := by unfold bne; rw [e3]; rfl
            have hb4 : bv l 4 = ((l.getD 4 0).toNat : Int) := rfl
            by_cases q4 : 48 ≤ (l.getD 4 0).toNat ∧ (l.getD 4 0).toNat ≤ 55
            · have b1 : 48 ≤ bv l 4 := by omega
              have b2 : bv l 4 ≤ 55 := by omega
              have d1 : decide (bv l 4 < 48) = false := by simp; omega
              have d2 : decide (55 < bv l 4) = false := by simp; omega
              cases q5 : hv (l.getD 5 0) with
              | none =>
                have HU : Hid (une l = (0, 0)) := four_5 l HF.out q5
                have HQ : Hid (hv (l.getD 5 0) = none) := q5
                clear q2 q3 q4 q5 hb4
                go_enter Trym.func16, Trym.ntmps16
                go_wp2_with (first | (go_at_call 29; refine (se_no l 1 HK.out _).mono ?_; rintro e w' ⟨rfl, rfl⟩) | (go_at_call 30; refine (hx_no l 5 HQ.out _).mono ?_; rintro e w' ⟨rfl, rfl⟩))
                go_ret2
                exact ⟨pair_of HU.out, rfl⟩
              | some v =>
                have hv16 := hv_lt q5
                have HU : Hid (une l = ((bv l 4 - 48) * 16 + (v : Int), 6)) := by
                  unfold Hid
                  rw [four_yes l HF.out q2 q3 q4 v q5, hb4]
                  congr 1
                  omega
                have HQ : Hid (hv (l.getD 5 0) = some v) := q5
                have hor := or_u8 (bv l 4) v b1 b2 hv16
                clear q2 q3 q4 q5 hb4
                go_enter Trym.func16, Trym.ntmps16
                go_wp2_with (first | (go_at_call 29; refine (se_no l 1 HK.out _).mono ?_; rintro e w' ⟨rfl, rfl⟩) | (go_at_call 30; refine (hx_yes l 5 v HQ.out _).mono ?_; rintro e w' ⟨rfl, rfl⟩))
                go_ret2
                exact ⟨pair_of HU.out, rfl⟩
            · have HU : Hid (une l = (0, 0)) := four_4 l HF.out q4
              by_cases q48 : bv l 4 < 48
              · have d1 : decide (bv l 4 < 48) = true := by simp; omega
                clear q2 q3 q4 hb4
                go_enter Trym.func16, Trym.ntmps16
                go_wp2_with (go_at_call 29; refine (se_no l 1 HK.out _).mono ?_; rintro e w' ⟨rfl, rfl⟩)
                go_ret2
                exact ⟨pair_of HU.out, rfl⟩
              · have d1 : decide (bv l 4 < 48) = false := by simp; omega
                have d2 : decide (55 < bv l 4) = true := by simp; omega
                clear q2 q3 q4 hb4 q48
                go_enter Trym.func16, Trym.ntmps16
                go_wp2_with (go_at_call 29; refine (se_no l 1 HK.out _).mono ?_; rintro e w' ⟨rfl, rfl⟩)
                go_ret2
                exact ⟨pair_of HU.out, rfl⟩
          · have e3 : (bv l 3 == 48) = false := bv_ne (d := 48) q3
            have m3 : (bv l 3 != 48) = true := by unfold bne; rw [e3]; rfl
            have HU : Hid (une l = (0, 0)) := four_3 l HF.out q3
            clear q2 q3
            go_enter Trym.func16, Trym.ntmps16
            go_wp2_with (go_at_call 29; refine (se_no l 1 HK.out _).mono ?_; rintro e w' ⟨rfl, rfl⟩)
            go_ret2
            exact ⟨pair_of HU.out, rfl⟩
        · have e2 : (bv l 2 == 48) = false := bv_ne (d := 48) q2
          have m2 : (bv l 2 != 48) = true := by unfold bne; rw [e2]; rfl
          have HU : Hid (une l = (0, 0)) := four_2 l HF.out q2
          clear q2
          go_enter Trym.func16, Trym.ntmps16
          go_wp2_with (go_at_call 29; refine (se_no l 1 HK.out _).mono ?_; rintro e w' ⟨rfl, rfl⟩)
          go_ret2
          exact ⟨pair_of HU.out, rfl⟩
    · have e117 : (bv l 1 == 117) = false := bv_ne (d := 117) h117
      have n117 : (bv l 1 != 117) = true := by unfold bne; rw [e117]; rfl
      have HU : Hid (une l = (0, 0)) := une_not hnl hk (.inl h117)
      clear hk hnl h117
      go_enter Trym.func16, Trym.ntmps16
      go_wp2_with (go_at_call 29; refine (se_no l 1 HK.out _).mono ?_; rintro e w' ⟨rfl, rfl⟩)
      go_ret2
      exact ⟨pair_of HU.out, rfl⟩

theorem table_to (g n cap : Nat) (l : List UInt8) (a b : Int) (w : World) (hl : l.length = n) (hn : n ≤ 100000000) (h2 : 2 ≤ n) (hc : ∀ j, j < n → w.cell? ⟨g, j, none⟩ = some (.int .u8 (bv l j))) (hu : une l = (a, b)) :
    Calls Trym.prog 16 #[.slice (some ⟨g, 0, none⟩) n cap] w fun e w' => e = .returned (.tuple #[.int .u8 a, .int .i64 b]) ∧ w' = w := by
  refine (table_any g n cap l w hl hn h2 hc).mono ?_
  rintro e w' ⟨rfl, rfl⟩
  exact ⟨by rw [hu]; rfl, rfl⟩

set_option maxHeartbeats 400000 in
theorem zz_few (ao : Option Addr) (n cap : Nat) (w : World) (hn : n < 2) :
    Calls Trym.prog 15 #[.slice ao n cap] w fun e w' => e = .returned (.tuple #[.int .u8 0, .int .i64 0]) ∧ w' = w := by
  go_enter Trym.func15, Trym.ntmps15
  go_wp2_with (go_at_call 28; refine (une_few ao n cap _ hn).mono ?_; rintro e w' ⟨rfl, rfl⟩)
  go_ret2
  exact ⟨rfl, rfl⟩
end Go.Proofs.Qxb6601660aMods
