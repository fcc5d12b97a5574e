/-
  THE PLAIN LAWS: an ASCII character, written as an escape, is read back.
-/
import Derived.Test.Qxb6601660aModsPlain
namespace Go.Proofs.Qxb6601660aMods

/-- The two-byte escape's letter. -/
def sl (c : Nat) : Option UInt8 :=
  if c = 34 then some 34 else if c = 92 then some 92 else if c = 47 then some 47 else if c = 8 then some 98 else if c = 12 then some 102 else if c = 10 then some 110 else if c = 13 then some 114 else if c = 9 then some 116 else none
/-- A hexadecimal digit of either case. -/
def hc (d : Nat) (up : Bool) : UInt8 := UInt8.ofNat (if d < 10 then 48 + d else if up then 55 + d else 87 + d)
theorem hc_toNat (d : Nat) (up : Bool) (h : d < 16) : (hc d up).toNat = if d < 10 then 48 + d else if up then 55 + d else 87 + d := by
  unfold hc
  rw [UInt8.toNat_ofNat']
  split
  · omega
  · split <;> omega
theorem hv_hc : ∀ (d : Fin 16) (up : Bool), hv (hc d.val up) = some d.val := by decide

theorem sl_ix : ∀ (c : Fin 128) , ∀ x, sl c.val = some x → ∃ k, ix SH x = some k ∧ (SO.getD k 0).toNat = c.val := by
  intro c x h
  unfold sl at h
  split at h
  · next e => injection h with h; subst h; exact ⟨0, by decide, by rw [e]; rfl⟩
  split at h
  · next e => injection h with h; subst h; exact ⟨1, by decide, by rw [e]; rfl⟩
  split at h
  · next e => injection h with h; subst h; exact ⟨2, by decide, by rw [e]; rfl⟩
  split at h
  · next e => injection h with h; subst h; exact ⟨3, by decide, by rw [e]; rfl⟩
  split at h
  · next e => injection h with h; subst h; exact ⟨4, by decide, by rw [e]; rfl⟩
  split at h
  · next e => injection h with h; subst h; exact ⟨5, by decide, by rw [e]; rfl⟩
  split at h
  · next e => injection h with h; subst h; exact ⟨6, by decide, by rw [e]; rfl⟩
  split at h
  · next e => injection h with h; subst h; exact ⟨7, by decide, by rw [e]; rfl⟩
  · cases h

theorem back_short (c : Nat) (h : c < 128) (x : UInt8) (hx : sl c = some x) (tail : List UInt8) : une ([] ++ [92] ++ [x] ++ tail) = ((c : Int), 2) := by
  obtain ⟨k, h1, h2⟩ := sl_ix ⟨c, h⟩ x hx
  have h3 : ([] ++ [92] ++ [x] ++ tail : List UInt8).getD 1 0 = x := rfl
  rw [une_two (by simp) (k := k) (by rw [h3]; exact h1)]
  have h4 : (SO.getD k 0).toNat = c := h2
  rw [h4]

theorem back_four (c : Nat) (h : c < 128) (up : Bool) (tail : List UInt8) : une ([] ++ [92] ++ [117, 48, 48, hc (c / 16) up, hc (c % 16) up] ++ tail) = ((c : Int), 6) := by
  have d2 : ([] ++ [92] ++ [117, 48, 48, hc (c / 16) up, hc (c % 16) up] ++ tail : List UInt8).getD 2 0 = 48 := rfl
  have d3 : ([] ++ [92] ++ [117, 48, 48, hc (c / 16) up, hc (c % 16) up] ++ tail : List UInt8).getD 3 0 = 48 := rfl
  have d4 : ([] ++ [92] ++ [117, 48, 48, hc (c / 16) up, hc (c % 16) up] ++ tail : List UInt8).getD 4 0 = hc (c / 16) up := rfl
  have d5 : ([] ++ [92] ++ [117, 48, 48, hc (c / 16) up, hc (c % 16) up] ++ tail : List UInt8).getD 5 0 = hc (c % 16) up := rfl
  have v0 : hv 48 = some 0 := by decide
  have v4 : hv (hc (c / 16) up) = some (c / 16) := hv_hc ⟨c / 16, by omega⟩ up
  have v5 : hv (hc (c % 16) up) = some (c % 16) := hv_hc ⟨c % 16, by omega⟩ up
  have ha : acc ([] ++ [92] ++ [117, 48, 48, hc (c / 16) up, hc (c % 16) up] ++ tail) 4 = c := by
    simp only [acc]
    show (((0 * 16 + (hv (([] ++ [92] ++ [117, 48, 48, hc (c / 16) up, hc (c % 16) up] ++ tail : List UInt8).getD 2 0)).getD 0) * 16 + (hv (([] ++ [92] ++ [117, 48, 48, hc (c / 16) up, hc (c % 16) up] ++ tail : List UInt8).getD 3 0)).getD 0) * 16 + (hv (([] ++ [92] ++ [117, 48, 48, hc (c / 16) up, hc (c % 16) up] ++ tail : List UInt8).getD 4 0)).getD 0) * 16 + (hv (([] ++ [92] ++ [117, 48, 48, hc (c / 16) up, hc (c % 16) up] ++ tail : List UInt8).getD 5 0)).getD 0 = c
    rw [d2, d3, d4, d5, v0, v4, v5]
    simp
    omega
  have ho : okTo ([] ++ [92] ++ [117, 48, 48, hc (c / 16) up, hc (c % 16) up] ++ tail) 4 = true := by
    simp only [okTo]
    show (((true && (hv (([] ++ [92] ++ [117, 48, 48, hc (c / 16) up, hc (c % 16) up] ++ tail : List UInt8).getD 2 0)).isSome) && (hv (([] ++ [92] ++ [117, 48, 48, hc (c / 16) up, hc (c % 16) up] ++ tail : List UInt8).getD 3 0)).isSome) && (hv (([] ++ [92] ++ [117, 48, 48, hc (c / 16) up, hc (c % 16) up] ++ tail : List UInt8).getD 4 0)).isSome && (hv (([] ++ [92] ++ [117, 48, 48, hc (c / 16) up, hc (c % 16) up] ++ tail : List UInt8).getD 5 0)).isSome) = true
    rw [d2, d3, d4, d5, v0, v4, v5]
    rfl
  have h1 : ([] ++ [92] ++ [117, 48, 48, hc (c / 16) up, hc (c % 16) up] ++ tail : List UInt8).getD 1 0 = 117 := rfl
  have hnot : ¬ (([] ++ [92] ++ [117, 48, 48, hc (c / 16) up, hc (c % 16) up] ++ tail : List UInt8).getD 1 0 ≠ 117 ∨ ([] ++ [92] ++ [117, 48, 48, hc (c / 16) up, hc (c % 16) up] ++ tail : List UInt8).length < 6) := by
    rintro (e | e)
    · exact e h1
    · simp at e; omega
  rw [une_four (by simp) (by rw [h1]; decide) hnot ho (by rw [ha]; omega), ha]

end Go.Proofs.Qxb6601660aMods
