/-
  THE PLAIN LAWS: a string written out between quotes: 'qS'; the scan finds its close.
-/
import Derived.Test.Qxb6600600aModsPlain
namespace Go.Proofs.Qxb6600600aMods

def hxB (n : Nat) : UInt8 := UInt8.ofNat (if n < 10 then 48 + n else 87 + n)
theorem hxB_toNat (n : Nat) (h : n < 16) : (hxB n).toNat = if n < 10 then 48 + n else 87 + n := by
  unfold hxB
  rw [UInt8.toNat_ofNat']
  split <;> omega
theorem hxB_34 (n : Nat) (h : n < 16) : hxB n ≠ 34 := by
  intro e
  have := congrArg UInt8.toNat e
  rw [hxB_toNat n h] at this
  have e2 : (34 : UInt8).toNat = 34 := rfl
  rw [e2] at this
  split at this <;> omega
theorem hxB_92 (n : Nat) (h : n < 16) : hxB n ≠ 92 := by
  intro e
  have := congrArg UInt8.toNat e
  rw [hxB_toNat n h] at this
  have e2 : (92 : UInt8).toNat = 92 := rfl
  rw [e2] at this
  split at this <;> omega

/-- One byte as it is written. -/
def qB (c : UInt8) : List UInt8 :=
  if c = 34 ∨ c = 92 then [92, c] else if c.toNat < 32 then [92, 117, 48, 48, hxB (c.toNat / 16), hxB (c.toNat % 16)] else [c]
def qS (l : List UInt8) : List UInt8 := l.flatMap qB
theorem qB_len (c : UInt8) : (qB c).length ≤ 6 := by
  unfold qB
  split
  · simp
  · split <;> simp
theorem qS_len (l : List UInt8) : (qS l).length ≤ 6 * l.length := by
  induction l with
  | nil => simp [qS]
  | cons c l ih =>
    have := qB_len c
    simp [qS] at ih ⊢
    omega
theorem qS_snoc (l : List UInt8) (c : UInt8) : qS (l ++ [c]) = qS l ++ qB c := by simp [qS]
theorem qB_esc {c : UInt8} (h : c = 34 ∨ c = 92) : qB c = [92, c] := by unfold qB; rw [if_pos h]
theorem qB_hex {c : UInt8} (h1 : c ≠ 34) (h2 : c ≠ 92) (h : c.toNat < 32) : qB c = [92, 117, 48, 48, hxB (c.toNat / 16), hxB (c.toNat % 16)] := by
  unfold qB; rw [if_neg (by simp [h1, h2]), if_pos h]
theorem qB_raw {c : UInt8} (h1 : c ≠ 34) (h2 : c ≠ 92) (h : ¬ c.toNat < 32) : qB c = [c] := by
  unfold qB; rw [if_neg (by simp [h1, h2]), if_neg h]

theorem scan_plain (c : UInt8) (r : List UInt8) (h1 : c ≠ 92) (h2 : c ≠ 34) : scan (c :: r) false = (scan r false).map (· + 1) := by
  rw [scan, if_neg h1, if_neg h2]
theorem scan_esc (c : UInt8) (r : List UInt8) : scan (92 :: c :: r) false = (scan r false).map (· + 2) := by
  rw [scan, if_pos rfl, scan]
  simp [Option.map_map, Function.comp_def]

theorem scan_qB (c : UInt8) (r : List UInt8) : scan (qB c ++ r) false = (scan r false).map (· + (qB c).length) := by
  by_cases h : c = 34 ∨ c = 92
  · rw [qB_esc h]
    exact scan_esc c r
  · have h1 : c ≠ 34 := fun e => h (.inl e)
    have h2 : c ≠ 92 := fun e => h (.inr e)
    by_cases h3 : c.toNat < 32
    · rw [qB_hex h1 h2 h3]
      have a1 : c.toNat / 16 < 16 := by omega
      have a2 : c.toNat % 16 < 16 := by omega
      show scan (92 :: 117 :: 48 :: 48 :: hxB (c.toNat / 16) :: hxB (c.toNat % 16) :: r) false = _
      rw [scan_esc, scan_plain 48 _ (by decide) (by decide), scan_plain 48 _ (by decide) (by decide), scan_plain _ _ (hxB_92 _ a1) (hxB_34 _ a1), scan_plain _ _ (hxB_92 _ a2) (hxB_34 _ a2)]
      simp [Option.map_map, Function.comp_def]
    · rw [qB_raw h1 h2 h3]
      exact scan_plain c r h2 h1

theorem scan_qS (l r : List UInt8) : scan (qS l ++ r) false = (scan r false).map (· + (qS l).length) := by
  induction l with
  | nil => simp [qS]
  | cons c l ih =>
    have e : qS (c :: l) = qB c ++ qS l := by simp [qS]
    rw [e, List.append_assoc, scan_qB, ih]
    simp [Option.map_map, Function.comp_def]
    congr 1
    funext x
    omega

/-- THE PLAIN LAW: the string's own closing quote is found. -/
theorem close_found (p s z : List UInt8) : E (p ++ ([34] ++ qS s ++ [34]) ++ z) (p.length + 1) false = p.length + ([34] ++ qS s ++ [34]).length := by
  unfold E
  have e : (p ++ ([34] ++ qS s ++ [34]) ++ z).drop (p.length + 1) = qS s ++ 34 :: z := by
    have e1 : p ++ ([34] ++ qS s ++ [34]) ++ z = (p ++ [34]) ++ (qS s ++ 34 :: z) := by simp
    have e2 : p.length + 1 = (p ++ [34]).length := by simp
    rw [e1, e2, List.drop_left]
  rw [e, scan_qS]
  have e3 : scan (34 :: z) false = some 1 := by rw [scan]; simp
  rw [e3]
  simp [res]
  omega

end Go.Proofs.Qxb6600600aMods
