import Derived.Test.Qxb6001356aModsProg
import Derived.Test.Qxb6001356aModsKit
import Derived.Test.Qxb6001356aModsPlain
import Derived.Outline
import Derived.WalkLawsBesides
import Derived.Lib.Bytealg
namespace Go.Proofs.Qxb6001356aMods
open Go.RowKit

def allBl (s : ByteArray) : Bool := s.data.toList.all blk
def hasNL (s : ByteArray) : Bool := s.data.toList.any (· == 10)
/-- A byte as a test on its number. -/
def blI (c : Int) : Bool := c == 32 || (c == 9 || c == 13)
theorem blI_toNat (c : UInt8) : blI (c.toNat : Int) = blk c := by
  have h : ∀ d : UInt8, ((c.toNat : Int) == (d.toNat : Int)) = (c == d) := by
    intro d
    rw [Bool.eq_iff_iff, beq_iff_eq, beq_iff_eq, ← UInt8.toNat_inj]
    omega
  have h1 := h 32; have h2 := h 9; have h3 := h 13
  simp only [UInt8.reduceToNat, Int.cast_ofNat_Int] at h1 h2 h3
  unfold blI blk
  rw [h1, h2, h3, Bool.or_assoc]

set_option maxHeartbeats 400000 in
theorem isBlank_any (c : Int) (w : World) :
    Calls Trym.prog 21 #[.int .u8 c] w fun e w' => e = .returned (.bool (blI c)) ∧ w' = w := by
  by_cases h1 : c = 32
  · subst h1
    go_enter Trym.func21, Trym.ntmps21
    go_wp2
    go_ret
    exact ⟨rfl, rfl⟩
  · have e1 : (c == 32) = false := by simp [h1]
    by_cases h2 : c = 9
    · subst h2
      go_enter Trym.func21, Trym.ntmps21
      go_wp2
      go_ret
      exact ⟨rfl, rfl⟩
    · have e2 : (c == 9) = false := by simp [h2]
      go_enter Trym.func21, Trym.ntmps21
      go_wp2
      go_ret
      exact ⟨by simp [blI, e1, e2], rfl⟩

set_option maxHeartbeats 400000 in
theorem isConfigSpace_any (c : Int) (w : World) :
    Calls Trym.prog 38 #[.int .u8 c] w fun e w' => e = .returned (.bool (blI c)) ∧ w' = w := by
  by_cases h1 : c = 32
  · subst h1
    go_enter Trym.func38, Trym.ntmps38
    go_wp2
    go_ret
    exact ⟨rfl, rfl⟩
  · have e1 : (c == 32) = false := by simp [h1]
    by_cases h2 : c = 9
    · subst h2
      go_enter Trym.func38, Trym.ntmps38
      go_wp2
      go_ret
      exact ⟨rfl, rfl⟩
    · have e2 : (c == 9) = false := by simp [h2]
      go_enter Trym.func38, Trym.ntmps38
      go_wp2
      go_ret
      exact ⟨by simp [blI, e1, e2], rfl⟩

theorem take_snoc (s : ByteArray) (k : Nat) (h : k < s.size) : s.data.toList.take (k + 1) = s.data.toList.take k ++ [s[k]] := by
  rw [List.take_succ_eq_append_getElem (by simpa using h)]; rfl
theorem drop_cons (s : ByteArray) (k : Nat) (h : k < s.size) : s.data.toList.drop k = s[k] :: s.data.toList.drop (k + 1) := by
  rw [List.drop_eq_getElem_cons (by simpa using h)]; rfl

theorem ret_bool {a b : Bool} (h : a = b) : Ending.returned (.bool a) = .returned (.bool b) := by rw [h]
theorem all_false {s : ByteArray} {k : Nat} (h : k < s.size) (f : UInt8 → Bool) (hf : f s[k] = false) : s.data.toList.all f = false := by
  rw [List.all_eq_false]
  exact ⟨s[k], by show s.data[k] ∈ _; simp, by simp [hf]⟩

set_option maxHeartbeats 400000 in
theorem allBlanks_any (s : ByteArray) (w : World) (hs : s.size ≤ maxLen) :
    Calls Trym.prog 12 #[.string s] w fun e w' => e = .returned (.bool (allBl s)) ∧ w' = w := by
  unfold maxLen at hs
  go_enter Trym.func12, Trym.ntmps12
  go_wp2
  go_loop [3] (fun i => ∃ k : Nat, k ≤ s.size ∧ i = .int .i64 k ∧ Hid ((s.data.toList.take k).all blk = true)) (fun i => s.size - (intOf i).toNat)
  case atStart => exact ⟨0, Nat.zero_le _, rfl, by simp [Hid]⟩
  case round =>
    obtain ⟨k, hk, rfl, hall⟩ := hrel
    by_cases hlt : k < s.size
    · cases hb : blk s[k]
      · have hb' : blI (s[k].toNat : Int) = false := by rw [blI_toNat]; exact hb
        have HF : Hid (allBl s = false) := all_false hlt blk hb
        clear hb
        go_wp2_with (go_at_call 21; refine (isBlank_any _ _).mono ?_; rintro e w' ⟨rfl, rfl⟩)
        go_ret
        exact ⟨ret_bool HF.out.symm, rfl⟩
      · have hb' : blI (s[k].toNat : Int) = true := by rw [blI_toNat]; exact hb
        have HF : Hid ((s.data.toList.take (k + 1)).all blk = true) := by unfold Hid; rw [take_snoc s k hlt, List.all_append, hall.out]; simp [hb]
        clear hb
        go_wp2_with (go_at_call 21; refine (isBlank_any _ _).mono ?_; rintro e w' ⟨rfl, rfl⟩)
        go_round
        case rel => exact ⟨k + 1, by omega, by go_num, HF⟩
        case measure => simp [intOf]; omega
    · have HF : Hid (allBl s = true) := by
        have h := hall.out
        rw [List.take_of_length_le (by simp; omega)] at h
        exact h
      go_wp2
      go_ret
      exact ⟨ret_bool HF.out.symm, rfl⟩

theorem byte_ne {b d : UInt8} (h : b ≠ d) : ((b.toNat : Int) == (d.toNat : Int)) = false := by
  rw [beq_eq_false_iff_ne]
  intro e
  exact h (UInt8.toNat_inj.1 (by omega))
theorem byte_eq {b d : UInt8} (h : b = d) : ((b.toNat : Int) == (d.toNat : Int)) = true := by subst h; simp

set_option maxHeartbeats 400000 in
/-- zzHasByte at the newline. -/
theorem hasNL_any (s : ByteArray) (w : World) (hs : s.size ≤ maxLen) :
    Calls Trym.prog 13 #[.string s, .int .u8 10] w fun e w' => e = .returned (.bool (hasNL s)) ∧ w' = w := by
  unfold maxLen at hs
  go_enter Trym.func13, Trym.ntmps13
  go_wp2
  go_loop [5] (fun i => ∃ k : Nat, k ≤ s.size ∧ i = .int .i64 k ∧ Hid ((s.data.toList.take k).any (· == 10) = false)) (fun i => s.size - (intOf i).toNat)
  case atStart => exact ⟨0, Nat.zero_le _, rfl, by simp [Hid]⟩
  case round =>
    obtain ⟨k, hk, rfl, hall⟩ := hrel
    by_cases hlt : k < s.size
    · by_cases hb : s[k] = 10
      · have hb' : ((s[k].toNat : Int) == 10) = true := byte_eq hb
        have HF : Hid (hasNL s = true) := by
          unfold Hid hasNL
          rw [List.any_eq_true]
          exact ⟨s[k], by show s.data[k] ∈ _; simp, by simp [hb]⟩
        clear hb
        go_wp2
        go_ret
        exact ⟨ret_bool HF.out.symm, rfl⟩
      · have hb' : ((s[k].toNat : Int) == 10) = false := byte_ne hb
        have HF : Hid ((s.data.toList.take (k + 1)).any (· == 10) = false) := by unfold Hid; rw [take_snoc s k hlt, List.any_append, hall.out]; simp [hb]
        clear hb
        go_wp2
        go_round
        case rel => exact ⟨k + 1, by omega, by go_num, HF⟩
        case measure => simp [intOf]; omega
    · have HF : Hid (hasNL s = false) := by
        have h := hall.out
        rw [List.take_of_length_le (by simp; omega)] at h
        exact h
      go_wp2
      go_ret
      exact ⟨ret_bool HF.out.symm, rfl⟩

set_option maxHeartbeats 1000000 in
theorem sliteIndexByte (s : ByteArray) (c : Int) (w : World) :
    Calls Trym.prog 42 #[.string s, .int .u8 c] w fun e w' => e = .returned (.int .i64 (Lib.indexByte s.data.toList c.toNat.toUInt8)) ∧ w' = w := by
  go_enter Trym.func42, Trym.ntmps42
  go_wp2
  rw [run_callFunc_extern Trym.func43 (by kernel_rfl) (by kernel_rfl) (by kernel_rfl) (e := Extern.BytealgIndexByte.indexByte) (by kernel_rfl), Lib.run_indexByteString]
  simp only [Result.andThen]
  rw [Oper.upon_value]
  go_wp2
  go_ret
  exact ⟨rfl, rfl⟩

set_option maxHeartbeats 1000000 in
theorem stringsIndexByte (s : ByteArray) (c : Int) (w : World) :
    Calls Trym.prog 39 #[.string s, .int .u8 c] w fun e w' => e = .returned (.int .i64 (Lib.indexByte s.data.toList c.toNat.toUInt8)) ∧ w' = w := by
  go_enter Trym.func39, Trym.ntmps39
  go_wp2_with (go_at_call 42; refine (sliteIndexByte _ _ _).mono ?_; rintro e w' ⟨rfl, rfl⟩)
  go_ret
  exact ⟨rfl, rfl⟩
end Go.Proofs.Qxb6001356aMods
