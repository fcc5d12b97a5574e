import Derived.Test.Qxb6602525aModsWc
namespace Go.Proofs.Qxb6602525aMods
open Go.RowKit
set_option linter.unusedVariables false

/-- Do the lengths sum to at most 2^20? -/
def sumB (a b : Nat) : Bool := decide (a + b ≤ 1048576)
set_option maxHeartbeats 1000000 in
theorem bytes_any (s style : ByteArray) (h1 : s.size ≤ maxLen) (h2 : style.size ≤ maxLen) (w : World) :
    Calls Trym.prog 9 #[.string s, .string style] w fun e w' => e = .returned (.bool (sumB s.size style.size)) ∧ w' = w := by
  unfold maxLen at h1 h2
  go_enter Trym.func9, Trym.ntmps9
  go_wp2
  all_goals
    go_ret
    exact ⟨ret_bool (by unfold sumB; simp; omega), rfl⟩

set_option maxHeartbeats 1000000 in
theorem wrap_any (p s : ByteArray) (w : World) (hs : p.size ≤ 10000000) (h : dec p.data.toList [] = some s.data.toList) :
    Calls Trym.prog 10 #[.string p] w fun e w' => e = .returned (.tuple #[.string s, .bool true]) ∧ Below w.heap.size w w' := by
  have H0 : Hid (dec p.data.toList [] = some s.data.toList) := h
  clear h
  go_enter Trym.func10, Trym.ntmps10
  go_wp2_with (go_at_call 27; refine (decode_any p s.data.toList _ hs H0.out).mono ?_; rintro e w' ⟨rfl, hb⟩)
  go_ret2
  refine ⟨?_, by assumption⟩
  have e1 : (⟨s.data.toList.toArray⟩ : ByteArray) = s := by simp
  first
    | rfl
    | (show Ending.returned (.tuple #[.string ⟨s.data.toList.toArray⟩, .bool true]) = _; rw [e1])

set_option maxHeartbeats 1000000 in
/-- The law. -/
theorem law_any (s style : ByteArray) (h1 : s.size ≤ maxLen) (h2 : style.size ≤ maxLen) (w : World) :
    Calls Trym.prog 3 #[.string s, .string style] w fun e w' => e = .returned (.bool true) ∧ Below w.heap.size w w' := by
  have hb1 := h1
  have hb2 := h2
  unfold maxLen at hb1 hb2
  cases hsum : sumB s.size style.size
  · go_enter Trym.func3, Trym.ntmps3
    go_wp2_with (go_at_call 9; refine (bytes_any s style h1 h2 _).mono ?_; rintro e w' ⟨rfl, rfl⟩)
    go_ret
    exact ⟨rfl, Below.refl _ _⟩
  · by_cases hs : s.size ≤ 262144
    · have d1 : decide ((262144 : Int) < (s.size : Int)) = false := by simp; omega
      by_cases ht : style.size ≤ 262144
      · have d2 : decide ((262144 : Int) < (style.size : Int)) = false := by simp; omega
        go_enter Trym.func3, Trym.ntmps3
        go_wp2_with (first
          | (go_at_call 9; refine (bytes_any s style h1 h2 _).mono ?_; rintro e w' ⟨rfl, rfl⟩)
          | (go_at_call 11; refine (escape_any s style _ hs ht).mono ?_; rintro e w1 ⟨ao, n, cap, l, rfl, hown, hd, hbel, hsz, hlen⟩
             have hcv := conv_own (w := w1) (src := 25) (dst := 9) Trym.underlying25 Trym.underlying5 Trym.underlying9 hown)
          | (go_at_call 10; refine (wrap_any ⟨l.toArray⟩ s _ (by show l.toArray.size ≤ _; simp; omega) (by simpa using hd.out.end)).mono ?_; rintro e w2 ⟨rfl, hb⟩))
        go_ret
        exact ⟨rfl, hbel.trans (hb.mono hbel.size)⟩
      · have d2 : decide ((262144 : Int) < (style.size : Int)) = true := by simp; omega
        go_enter Trym.func3, Trym.ntmps3
        go_wp2_with (go_at_call 9; refine (bytes_any s style h1 h2 _).mono ?_; rintro e w' ⟨rfl, rfl⟩)
        go_ret
        exact ⟨rfl, Below.refl _ _⟩
    · have d1 : decide ((262144 : Int) < (s.size : Int)) = true := by simp; omega
      go_enter Trym.func3, Trym.ntmps3
      go_wp2_with (go_at_call 9; refine (bytes_any s style h1 h2 _).mono ?_; rintro e w' ⟨rfl, rfl⟩)
      go_ret
      exact ⟨rfl, Below.refl _ _⟩
end Go.Proofs.Qxb6602525aMods
