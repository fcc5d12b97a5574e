import Derived.Test.Qxb6601660aModsProg
import Derived.Test.Qxb6601660aModsKit
import Derived.Test.Qxb6601660aModsPlain
import Derived.Outline
import Derived.WalkLawsBesides
import Derived.Laws.BitsLemmas
import Derived.Laws.BitsAllLaws
namespace Go.Proofs.Qxb6601660aMods
open Go.RowKit

theorem Trym.brow : ByteRow Trym.prog 5 := by unfold ByteRow; kernel_rfl

set_option maxHeartbeats 1000000 in
theorem sliteIndexByte (s : ByteArray) (c : Int) (w : World) :
    Calls Trym.prog 34 #[.string s, .int .u8 c] w fun e w' => e = .returned (.int .i64 (Lib.indexByte s.data.toList c.toNat.toUInt8)) ∧ w' = w := by
  go_enter Trym.func34, Trym.ntmps34
  go_wp2
  rw [run_callFunc_extern Trym.func36 (by kernel_rfl) (by kernel_rfl) (by kernel_rfl) (e := Extern.BytealgIndexByte.indexByte) (by kernel_rfl), Lib.run_indexByteString]
  simp only [Result.andThen]
  rw [Oper.upon_value]
  go_wp2
  go_ret
  exact ⟨rfl, rfl⟩

set_option maxHeartbeats 1000000 in
theorem stringsIndexByte (s : ByteArray) (c : Int) (w : World) :
    Calls Trym.prog 32 #[.string s, .int .u8 c] w fun e w' => e = .returned (.int .i64 (Lib.indexByte s.data.toList c.toNat.toUInt8)) ∧ w' = w := by
  go_enter Trym.func32, Trym.ntmps32
  go_wp2_with (go_at_call 34; refine (sliteIndexByte _ _ _).mono ?_; rintro e w' ⟨rfl, rfl⟩)
  go_ret
  exact ⟨rfl, rfl⟩

/-- Where a byte of the text stands among the letters, among the digits of either case. -/
def sx (l : List UInt8) (j : Nat) : Int := ixI (ix SH (l.getD j 0))
def lx (l : List UInt8) (j : Nat) : Int := ixI (ix LO (l.getD j 0))
def ux (l : List UInt8) (j : Nat) : Int := ixI (ix UP (l.getD j 0))
theorem bv_back (l : List UInt8) (j : Nat) : (bv l j).toNat.toUInt8 = l.getD j 0 := by unfold bv; simp

theorem idxS (l : List UInt8) (j : Nat) (w : World) : Calls Trym.prog 32 #[.string ⟨#[34, 92, 47, 98, 102, 110, 114, 116]⟩, .int .u8 (bv l j)] w fun e w' => e = .returned (.int .i64 (sx l j)) ∧ w' = w := by
  refine (stringsIndexByte _ _ _).mono ?_
  rintro e w' ⟨rfl, rfl⟩
  rw [bv_back, indexByte_ix]
  exact ⟨rfl, rfl⟩
theorem idxL (l : List UInt8) (j : Nat) (w : World) : Calls Trym.prog 32 #[.string ⟨#[48, 49, 50, 51, 52, 53, 54, 55, 56, 57, 97, 98, 99, 100, 101, 102]⟩, .int .u8 (bv l j)] w fun e w' => e = .returned (.int .i64 (lx l j)) ∧ w' = w := by
  refine (stringsIndexByte _ _ _).mono ?_
  rintro e w' ⟨rfl, rfl⟩
  rw [bv_back, indexByte_ix]
  exact ⟨rfl, rfl⟩
theorem idxU (l : List UInt8) (j : Nat) (w : World) : Calls Trym.prog 32 #[.string ⟨#[48, 49, 50, 51, 52, 53, 54, 55, 56, 57, 65, 66, 67, 68, 69, 70]⟩, .int .u8 (bv l j)] w fun e w' => e = .returned (.int .i64 (ux l j)) ∧ w' = w := by
  refine (stringsIndexByte _ _ _).mono ?_
  rintro e w' ⟨rfl, rfl⟩
  rw [bv_back, indexByte_ix]
  exact ⟨rfl, rfl⟩

/-- A pair of results. -/
def pair (p : Int × Int) : Ending := .returned (.tuple #[.int .u8 p.1, .int .i64 p.2])
theorem pair_of {l : List UInt8} {a b : Int} (h : une l = (a, b)) : Ending.returned (.tuple #[.int .u8 a, .int .i64 b]) = pair (une l) := by rw [h]; rfl
theorem or_join (a v : Nat) (ha : a < 65536) (hv : v < 16) : bits .or .i64 ((a : Int) * 16) (v : Int) = (a : Int) * 16 + (v : Int) :=
  bits_join .i64 40 (by decide) (fun n h0 h1 => by rw [IntKind.wrap_i64]; omega) 4 ((a : Int) * 16) (v : Int) (by omega) (by omega) (by omega) (by omega) (by omega) (by omega)

set_option maxHeartbeats 400000 in
theorem une_few (ao : Option Addr) (n cap : Nat) (w : World) (hn : n < 2) :
    Calls Trym.prog 28 #[.slice ao n cap] w fun e w' => e = .returned (.tuple #[.int .u8 0, .int .i64 0]) ∧ w' = w := by
  go_enter Trym.func28, Trym.ntmps28
  go_wp2
  go_ret2
  exact ⟨rfl, rfl⟩

set_option maxHeartbeats 1000000 in
set_option maxRecDepth 100000 in
/-- unescapeASCII. -/
theorem une_any (g n cap : Nat) (l : List UInt8) (w : World) (hl : l.length = n) (hn : n ≤ 100000000) (h2 : 2 ≤ n) (hcap : n ≤ cap) (hcap2 : cap ≤ maxLen) (hc : ∀ j, j < n → w.cell? ⟨g, j, none⟩ = some (.int .u8 (bv l j))) :
    Calls Trym.prog 28 #[.slice (some ⟨g, 0, none⟩) n cap] w fun e w' => e = pair (une l) ∧ w' = w := by
  have HC : Hid (∀ j, j < n → w.cell? ⟨g, j, none⟩ = some (.int .u8 (bv l j))) := hc
  have HLn : Hid (l.length = n) := hl
  have hnl : ¬ l.length < 2 := by omega
  unfold maxLen at hcap2
  have hc1 := hc 1 (by omega)
  have hi1 : (1 : Int) < (n : Int) := by omega
  clear hc hl
  cases hk : ix SH (l.getD 1 0) with
  | some k =>
    have hk8 : k < 8 := ix_lt hk
    have HU : Hid (une l = (((SO.getD k 0).toNat : Int), 2)) := une_two hnl hk
    have hsx : sx l 1 = (k : Int) := by unfold sx; rw [hk]; rfl
    clear hk hnl
    have hk8' : k = 0 ∨ k = 1 ∨ k = 2 ∨ k = 3 ∨ k = 4 ∨ k = 5 ∨ k = 6 ∨ k = 7 := by omega
    rcases hk8' with rfl | rfl | rfl | rfl | rfl | rfl | rfl | rfl
    all_goals
      go_enter Trym.func28, Trym.ntmps28
      go_wp2_with (go_at_call 32; refine (idxS l 1 _).mono ?_; rintro e w' ⟨rfl, rfl⟩)
      go_ret2
      exact ⟨pair_of HU.out, rfl⟩
  | none =>
    have hsx : sx l 1 = -1 := by unfold sx; rw [hk]; rfl
    by_cases h117 : l.getD 1 0 = 117
    · have e117 : (bv l 1 == 117) = true := bv_eq h117
      have n117 : (bv l 1 != 117) = false := by unfold bne; rw [e117]; rfl
      by_cases h6 : n < 6
      · have h6d : decide ((n : Int) < 6) = true := by simp; omega
        have HU : Hid (une l = (0, 0)) := une_not hnl hk (.inr (by rw [HLn.out]; exact h6))
        clear hk hnl h117
        go_enter Trym.func28, Trym.ntmps28
        go_wp2_with (go_at_call 32; refine (idxS l 1 _).mono ?_; rintro e w' ⟨rfl, rfl⟩)
        go_ret2
        exact ⟨pair_of HU.out, rfl⟩
      · have hnot : ¬ (l.getD 1 0 ≠ 117 ∨ l.length < 6) := by
          rintro (h | h)
          · exact h h117
          · have := HLn.out; omega
        have H1 : Hid (okTo l 4 = false → une l = (0, 0)) := une_bad hnl hk hnot
        have H2 : Hid (okTo l 4 = true → 128 ≤ acc l 4 → une l = (0, 0)) := une_big hnl hk hnot
        have H3 : Hid (okTo l 4 = true → ¬ 128 ≤ acc l 4 → une l = (((acc l 4 : Nat) : Int), 6)) := une_four hnl hk hnot
        have h6' : (6 : Int) ≤ (cap : Int) := by omega
        have h6d : decide ((n : Int) < 6) = false := by simp; omega
        have h6n : 6 ≤ n := by omega
        have h2d : decide ((n : Int) < 2) = false := by simp; omega
        clear hk hnl h117 hnot h6
        go_enter Trym.func28, Trym.ntmps28
        go_wp2_with (go_at_call 32; refine (idxS l 1 _).mono ?_; rintro e w' ⟨rfl, rfl⟩)
        go_loop [5, 32] (fun cv iv => ∃ j : Nat, j ≤ 4 ∧ cv = .int .i64 (acc l j : Nat) ∧ iv = .int .i64 j ∧ Hid (okTo l j = true)) (fun _ iv => 4 - (intOf iv).toNat)
        case atStart => exact ⟨0, by omega, rfl, rfl, rfl⟩
        case round =>
          obtain ⟨j, hj, rfl, rfl, hok⟩ := hrel
          have hacc : acc l j < 65536 := Nat.lt_of_lt_of_le (acc_lt l j) (Nat.pow_le_pow_right (by omega) hj)
          by_cases hlt : j < 4
          · have hcell := HC.out (2 + j) (by omega)
            cases hL : ix LO (l.getD (2 + j) 0) with
            | some v =>
              have hv16 : v < 16 := ix_lt hL
              have hhv : hv (l.getD (2 + j) 0) = some v := by unfold hv; rw [hL]
              have hlx : lx l (2 + j) = (v : Int) := by unfold lx; rw [hL]; rfl
              have HA : Hid (acc l (j + 1) = acc l j * 16 + v) := by unfold Hid; rw [acc, hhv]; rfl
              have HK : Hid (okTo l (j + 1) = true) := by unfold Hid; rw [okTo, hok.out, hhv]; rfl
              have hor := or_join (acc l j) v hacc hv16
              clear hL hhv
              go_wp2_with fail
              refine (idxL l (2 + j) _).mono ?_
              rintro e w' ⟨rfl, hw'⟩
              subst hw'
              go_wp2_with fail
              go_round
              case rel => exact ⟨j + 1, by omega, by rw [HA.out]; go_num, by go_num, HK⟩
              case measure => simp [intOf]; omega
            | none =>
              have hlx : lx l (2 + j) = -1 := by unfold lx; rw [hL]; rfl
              cases hU : ix UP (l.getD (2 + j) 0) with
              | some v =>
                have hv16 : v < 16 := ix_lt hU
                have hhv : hv (l.getD (2 + j) 0) = some v := by unfold hv; rw [hL]; exact hU
                have hux : ux l (2 + j) = (v : Int) := by unfold ux; rw [hU]; rfl
                have HA : Hid (acc l (j + 1) = acc l j * 16 + v) := by unfold Hid; rw [acc, hhv]; rfl
                have HK : Hid (okTo l (j + 1) = true) := by unfold Hid; rw [okTo, hok.out, hhv]; rfl
                have hor := or_join (acc l j) v hacc hv16
                clear hL hU hhv
                go_wp2_with fail
                refine (idxL l (2 + j) _).mono ?_
                rintro e w' ⟨rfl, hw'⟩
                subst hw'
                go_wp2_with fail
                refine (idxU l (2 + j) _).mono ?_
                rintro e w' ⟨rfl, hw'⟩
                subst hw'
                go_wp2_with fail
                go_round
                case rel => exact ⟨j + 1, by omega, by rw [HA.out]; go_num, by go_num, HK⟩
                case measure => simp [intOf]; omega
              | none =>
                have hhv : hv (l.getD (2 + j) 0) = none := by unfold hv; rw [hL]; exact hU
                have hux : ux l (2 + j) = -1 := by unfold ux; rw [hU]; rfl
                have hno : okTo l (j + 1) = false := by rw [okTo, hhv]; simp
                have hno4 : okTo l 4 = false := by
                  have := okTo_no (k := 4 - (j + 1)) hno
                  rwa [show j + 1 + (4 - (j + 1)) = 4 by omega] at this
                have HU : Hid (une l = (0, 0)) := H1.out hno4
                clear hL hU hhv hno hno4
                go_wp2_with fail
                refine (idxL l (2 + j) _).mono ?_
                rintro e w' ⟨rfl, hw'⟩
                subst hw'
                go_wp2_with fail
                refine (idxU l (2 + j) _).mono ?_
                rintro e w' ⟨rfl, hw'⟩
                subst hw'
                go_wp2_with fail
                go_ret2
                exact ⟨pair_of HU.out, rfl⟩
          · have hj4 : j = 4 := by omega
            subst hj4
            by_cases hbig : 128 ≤ acc l 4
            · have HU : Hid (une l = (0, 0)) := H2.out hok.out hbig
              have hbd : decide ((128 : Int) ≤ ((acc l 4 : Nat) : Int)) = true := by simp; omega
              go_wp2
              go_ret2
              exact ⟨pair_of HU.out, rfl⟩
            · have HU : Hid (une l = (((acc l 4 : Nat) : Int), 6)) := H3.out hok.out hbig
              have hbd : decide ((128 : Int) ≤ ((acc l 4 : Nat) : Int)) = false := by simp; omega
              have hsm : acc l 4 < 128 := by omega
              go_wp2
              go_ret2
              exact ⟨pair_of HU.out, rfl⟩
    · have e117 : (bv l 1 == 117) = false := bv_ne h117
      have n117 : (bv l 1 != 117) = true := by unfold bne; rw [e117]; rfl
      have HU : Hid (une l = (0, 0)) := une_not hnl hk (.inl h117)
      clear hk hnl h117
      go_enter Trym.func28, Trym.ntmps28
      go_wp2_with (go_at_call 32; refine (idxS l 1 _).mono ?_; rintro e w' ⟨rfl, rfl⟩)
      go_ret2
      exact ⟨pair_of HU.out, rfl⟩
end Go.Proofs.Qxb6601660aMods
