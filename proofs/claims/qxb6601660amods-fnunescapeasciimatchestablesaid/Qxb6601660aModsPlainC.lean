/-
  THE PLAIN LAWS: the closed form of an ASCII escape.
-/
import Derived.Test.Qxb6601660aModsPlain
namespace Go.Proofs.Qxb6601660aMods

/-- A digit's value by ranges. -/
def hvR (n : Nat) : Option Nat := if 48 ≤ n ∧ n ≤ 57 then some (n - 48) else if 97 ≤ n ∧ n ≤ 102 then some (n - 87) else if 65 ≤ n ∧ n ≤ 70 then some (n - 55) else none
theorem hvR_all : ∀ n : Fin 256, hv (UInt8.ofNat n.val) = hvR n.val := by decide +kernel
theorem hv_R (c : UInt8) : hv c = hvR c.toNat := by
  have h := hvR_all ⟨c.toNat, c.toNat_lt⟩
  simpa using h
theorem hv_zero {c : UInt8} (h : hv c = some 0) : c = 48 := by
  rw [hv_R] at h
  unfold hvR at h
  have : c.toNat = 48 := by
    split at h
    · injection h with h; omega
    split at h
    · injection h with h; omega
    split at h
    · injection h with h; omega
    · cases h
  exact UInt8.toNat_inj.1 this
theorem hv_low {c : UInt8} {v : Nat} (h : hv c = some v) (hv8 : v < 8) : 48 ≤ c.toNat ∧ c.toNat ≤ 55 := by
  rw [hv_R] at h
  unfold hvR at h
  split at h
  · injection h with h; omega
  split at h
  · injection h with h; omega
  split at h
  · injection h with h; omega
  · cases h

theorem acc4 (l : List UInt8) : acc l 4 = (((hv (l.getD 2 0)).getD 0 * 16 + (hv (l.getD 3 0)).getD 0) * 16 + (hv (l.getD 4 0)).getD 0) * 16 + (hv (l.getD 5 0)).getD 0 := by
  simp only [acc]
  simp
theorem ok4 (l : List UInt8) : okTo l 4 = ((((hv (l.getD 2 0)).isSome && (hv (l.getD 3 0)).isSome) && (hv (l.getD 4 0)).isSome) && (hv (l.getD 5 0)).isSome) := by
  simp only [okTo]
  simp

/-- The escape has four digits' room and opens by a backslash and u. -/
def Four (l : List UInt8) : Prop := ¬ l.length < 2 ∧ ix SH (l.getD 1 0) = none ∧ ¬ (l.getD 1 0 ≠ 117 ∨ l.length < 6)

theorem four_or (l : List UInt8) (h : Four l) (hb : okTo l 4 = true → 128 ≤ acc l 4) : une l = (0, 0) := by
  obtain ⟨h1, h2, h3⟩ := h
  cases ho : okTo l 4
  · exact une_bad h1 h2 h3 ho
  · exact une_big h1 h2 h3 ho (hb ho)
theorem four_2 (l : List UInt8) (h : Four l) (hc : l.getD 2 0 ≠ 48) : une l = (0, 0) := by
  apply four_or l h
  intro ho
  rw [ok4] at ho
  rw [acc4]
  cases h2 : hv (l.getD 2 0) with
  | none => rw [h2] at ho; simp at ho
  | some v =>
    have : v ≠ 0 := fun e => hc (hv_zero (by rw [h2, e]))
    simp
    omega
theorem four_3 (l : List UInt8) (h : Four l) (hc : l.getD 3 0 ≠ 48) : une l = (0, 0) := by
  apply four_or l h
  intro ho
  rw [ok4] at ho
  rw [acc4]
  cases h2 : hv (l.getD 3 0) with
  | none => rw [h2] at ho; simp at ho
  | some v =>
    have : v ≠ 0 := fun e => hc (hv_zero (by rw [h2, e]))
    simp
    omega
theorem four_4 (l : List UInt8) (h : Four l) (hc : ¬ (48 ≤ (l.getD 4 0).toNat ∧ (l.getD 4 0).toNat ≤ 55)) : une l = (0, 0) := by
  apply four_or l h
  intro ho
  rw [ok4] at ho
  rw [acc4]
  cases h2 : hv (l.getD 4 0) with
  | none => rw [h2] at ho; simp at ho
  | some v =>
    have : ¬ v < 8 := fun e => hc (hv_low h2 e)
    simp
    omega
theorem four_5 (l : List UInt8) (h : Four l) (hc : hv (l.getD 5 0) = none) : une l = (0, 0) := by
  apply four_or l h
  intro ho
  rw [ok4, hc] at ho
  simp at ho
theorem four_yes (l : List UInt8) (h : Four l) (h2 : l.getD 2 0 = 48) (h3 : l.getD 3 0 = 48) (h4 : 48 ≤ (l.getD 4 0).toNat ∧ (l.getD 4 0).toNat ≤ 55) (v : Nat) (h5 : hv (l.getD 5 0) = some v) : une l = (((((l.getD 4 0).toNat - 48) * 16 + v : Nat) : Int), 6) := by
  obtain ⟨q1, q2, q3⟩ := h
  have hv0 : hv 48 = some 0 := by decide
  have hv4 : hv (l.getD 4 0) = some ((l.getD 4 0).toNat - 48) := by
    rw [hv_R]; unfold hvR; rw [if_pos (by omega)]
  have hv16 := hv_lt h5
  have ha : acc l 4 = ((l.getD 4 0).toNat - 48) * 16 + v := by
    rw [acc4, h2, h3, hv0, hv4, h5]; simp
  have ho : okTo l 4 = true := by rw [ok4, h2, h3, hv0, hv4, h5]; rfl
  rw [une_four q1 q2 q3 ho (by rw [ha]; omega), ha]

end Go.Proofs.Qxb6601660aMods
