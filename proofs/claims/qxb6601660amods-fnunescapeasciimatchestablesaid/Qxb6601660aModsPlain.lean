/-
  THE PLAIN LAWS: no Go in sight. 'une': what an ASCII escape stands for, and its length.
-/
import Derived.Below
import Derived.Lib.Bytealg
namespace Go.Proofs.Qxb6601660aMods

/-- Where the first byte c stands. -/
def ix : List UInt8 → UInt8 → Option Nat
  | [], _ => none
  | b :: l, c => if b = c then some 0 else (ix l c).map (· + 1)
def ixI : Option Nat → Int
  | none => -1
  | some m => m
theorem indexByte_ix (l : List UInt8) (c : UInt8) : Lib.indexByte l c = ixI (ix l c) := by
  induction l with
  | nil => rfl
  | cons b l ih =>
    unfold Lib.indexByte ix
    by_cases h : b = c
    · simp [h, ixI]
    · have hb : (b == c) = false := by simp [h]
      rw [hb, ih, if_neg h]
      cases hx : ix l c with
      | none => simp [ixI]
      | some m =>
        simp only [ixI, Option.map_some]
        have : ((m : Int) == -1) = false := by rw [beq_eq_false_iff_ne]; omega
        simp [this]
theorem ix_lt {l : List UInt8} {c : UInt8} : ∀ {m}, ix l c = some m → m < l.length := by
  induction l with
  | nil => intro m h; simp [ix] at h
  | cons b l ih =>
    intro m h
    unfold ix at h
    by_cases hb : b = c
    · simp [hb] at h; subst h; simp
    · rw [if_neg hb] at h
      cases hx : ix l c with
      | none => simp [hx] at h
      | some k => simp [hx] at h; have := ih hx; simp; omega

def SH : List UInt8 := [34, 92, 47, 98, 102, 110, 114, 116]
def SO : List UInt8 := [34, 92, 47, 8, 12, 10, 13, 9]
def LO : List UInt8 := [48, 49, 50, 51, 52, 53, 54, 55, 56, 57, 97, 98, 99, 100, 101, 102]
def UP : List UInt8 := [48, 49, 50, 51, 52, 53, 54, 55, 56, 57, 65, 66, 67, 68, 69, 70]
/-- A hexadecimal digit's value, as the Go text looks it up. -/
def hv (c : UInt8) : Option Nat := match ix LO c with
  | some v => some v
  | none => ix UP c
theorem hv_lt {c : UInt8} {v : Nat} (h : hv c = some v) : v < 16 := by
  unfold hv at h
  cases hl : ix LO c with
  | some m => rw [hl] at h; simp at h; have := ix_lt hl; simp [LO] at this; omega
  | none => rw [hl] at h; have := ix_lt h; simp [UP] at this; omega

def acc (l : List UInt8) : Nat → Nat
  | 0 => 0
  | j + 1 => acc l j * 16 + (hv (l.getD (2 + j) 0)).getD 0
theorem acc_lt (l : List UInt8) : ∀ j, acc l j < 16 ^ j
  | 0 => by simp [acc]
  | j + 1 => by
    have ih := acc_lt l j
    have : (hv (l.getD (2 + j) 0)).getD 0 < 16 := by
      cases h : hv (l.getD (2 + j) 0) with
      | none => simp
      | some v => exact hv_lt h
    rw [acc, Nat.pow_succ]
    omega
/-- Are the first j of the four digits digits? -/
def okTo (l : List UInt8) : Nat → Bool
  | 0 => true
  | j + 1 => okTo l j && (hv (l.getD (2 + j) 0)).isSome
theorem okTo_no {l : List UInt8} {j k : Nat} (h : okTo l j = false) : okTo l (j + k) = false := by
  induction k with
  | zero => exact h
  | succ k ih => rw [← Nat.add_assoc, okTo, ih]; rfl

/-- What unescapeASCII answers. -/
def une (l : List UInt8) : Int × Int :=
  if l.length < 2 then (0, 0) else
  match ix SH (l.getD 1 0) with
  | some k => (((SO.getD k 0).toNat : Int), 2)
  | none => if l.getD 1 0 ≠ 117 ∨ l.length < 6 then (0, 0) else if okTo l 4 = true then (if 128 ≤ acc l 4 then (0, 0) else (((acc l 4 : Nat) : Int), 6)) else (0, 0)

theorem une_short {l : List UInt8} (h : l.length < 2) : une l = (0, 0) := by unfold une; rw [if_pos h]
theorem une_two {l : List UInt8} {k : Nat} (h : ¬ l.length < 2) (hk : ix SH (l.getD 1 0) = some k) : une l = (((SO.getD k 0).toNat : Int), 2) := by
  unfold une; rw [if_neg h, hk]
theorem une_not {l : List UInt8} (h : ¬ l.length < 2) (hk : ix SH (l.getD 1 0) = none) (h2 : l.getD 1 0 ≠ 117 ∨ l.length < 6) : une l = (0, 0) := by
  unfold une; rw [if_neg h, hk]; simp only; rw [if_pos h2]
theorem une_bad {l : List UInt8} (h : ¬ l.length < 2) (hk : ix SH (l.getD 1 0) = none) (h2 : ¬ (l.getD 1 0 ≠ 117 ∨ l.length < 6)) (h3 : okTo l 4 = false) : une l = (0, 0) := by
  unfold une; rw [if_neg h, hk]; simp only; rw [if_neg h2, if_neg (by rw [h3]; decide)]
theorem une_big {l : List UInt8} (h : ¬ l.length < 2) (hk : ix SH (l.getD 1 0) = none) (h2 : ¬ (l.getD 1 0 ≠ 117 ∨ l.length < 6)) (h3 : okTo l 4 = true) (h4 : 128 ≤ acc l 4) : une l = (0, 0) := by
  unfold une; rw [if_neg h, hk]; simp only; rw [if_neg h2, if_pos h3, if_pos h4]
theorem une_four {l : List UInt8} (h : ¬ l.length < 2) (hk : ix SH (l.getD 1 0) = none) (h2 : ¬ (l.getD 1 0 ≠ 117 ∨ l.length < 6)) (h3 : okTo l 4 = true) (h4 : ¬ 128 ≤ acc l 4) : une l = (((acc l 4 : Nat) : Int), 6) := by
  unfold une; rw [if_neg h, hk]; simp only; rw [if_neg h2, if_pos h3, if_neg h4]

end Go.Proofs.Qxb6601660aMods
