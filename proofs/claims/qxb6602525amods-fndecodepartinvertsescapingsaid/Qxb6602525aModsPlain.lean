/-
  THE PLAIN LAWS: no Go in sight. 'dec': what is left of a part's decoding; pieces of escaped text.
-/
import Derived.Below
import Derived.Lib.Bytealg
namespace Go.Proofs.Qxb6602525aMods

def ix : List UInt8 → UInt8 → Option Nat
  | [], _ => none
  | b :: l, c => if b = c then some 0 else (ix l c).map (· + 1)
def ixI : Option Nat → Int
  | none => -1
  | some m => m
theorem indexByte_ix (l : List UInt8) (c : UInt8) : Lib.indexByte l c = ixI (ix l c) := by
  induction l with
  | nil => rfl
  | cons b l ih =>
    unfold Lib.indexByte ix
    by_cases h : b = c
    · simp [h, ixI]
    · have hb : (b == c) = false := by simp [h]
      rw [hb, ih, if_neg h]
      cases hx : ix l c with
      | none => simp [ixI]
      | some m =>
        simp only [ixI, Option.map_some]
        have : ((m : Int) == -1) = false := by rw [beq_eq_false_iff_ne]; omega
        simp [this]
theorem ix_lt {l : List UInt8} {c : UInt8} : ∀ {m}, ix l c = some m → m < l.length := by
  induction l with
  | nil => intro m h; simp [ix] at h
  | cons b l ih =>
    intro m h
    unfold ix at h
    by_cases hb : b = c
    · simp [hb] at h; subst h; simp
    · rw [if_neg hb] at h
      cases hx : ix l c with
      | none => simp [hx] at h
      | some k => simp [hx] at h; have := ih hx; simp; omega

def LO : List UInt8 := [48, 49, 50, 51, 52, 53, 54, 55, 56, 57, 97, 98, 99, 100, 101, 102]
def hx (d : Nat) : UInt8 := UInt8.ofNat (if d < 10 then 48 + d else 87 + d)
theorem hx_toNat (d : Nat) (h : d < 16) : (hx d).toNat = if d < 10 then 48 + d else 87 + d := by
  unfold hx
  rw [UInt8.toNat_ofNat']
  split <;> omega
theorem ix_hx : ∀ d : Fin 16, ix LO (hx d.val) = some d.val := by decide

/-- A byte of two digits; a letter raised. -/
def jn (x y : Nat) : UInt8 := UInt8.ofNat (x * 16 + y)
def dn (d : UInt8) : UInt8 := UInt8.ofNat (d.toNat - 32)
/-- What is left of the part, what has been gathered: the name; 'none' where the Go text refuses. -/
def dec : List UInt8 → List UInt8 → Option (List UInt8)
  | [], b => some b
  | c :: r, b =>
    if c = 126 then
      match r with
      | [] => none
      | [_] => none
      | h :: k :: r' =>
        match ix LO h, ix LO k with
        | some x, some y => dec r' (b ++ [jn x y])
        | _, _ => none
    else if c = 95 then
      match r with
      | [] => none
      | d :: r' => if 97 ≤ d.toNat ∧ d.toNat ≤ 122 then dec r' (b ++ [dn d]) else if d = 95 then dec r' (b ++ [95]) else none
    else dec r (b ++ [c])

theorem dec_raw (c : UInt8) (r b : List UInt8) (h1 : c ≠ 126) (h2 : c ≠ 95) : dec (c :: r) b = dec r (b ++ [c]) := by
  rw [dec.eq_def]; simp [h1, h2]
theorem dec_hex (h k : UInt8) (r b : List UInt8) (x y : Nat) (hx : ix LO h = some x) (hy : ix LO k = some y) : dec (126 :: h :: k :: r) b = dec r (b ++ [jn x y]) := by
  rw [dec.eq_def]; simp [hx, hy]
theorem dec_low (d : UInt8) (r b : List UInt8) (h1 : 97 ≤ d.toNat) (h2 : d.toNat ≤ 122) : dec (95 :: d :: r) b = dec r (b ++ [dn d]) := by
  rw [dec.eq_def]; simp [h1, h2]
theorem dec_und (r b : List UInt8) : dec (95 :: 95 :: r) b = dec r (b ++ [95]) := by
  rw [dec.eq_def]; simp

/-! What it tells where it answers. -/
theorem dec_in_tilde {r b R : List UInt8} (h : dec (126 :: r) b = some R) : ∃ a k r' x y, r = a :: k :: r' ∧ ix LO a = some x ∧ ix LO k = some y ∧ dec r' (b ++ [jn x y]) = some R := by
  rw [dec.eq_def] at h
  simp only [if_pos] at h
  match r, h with
  | [], h => simp at h
  | [_], h => simp at h
  | a :: k :: r', h =>
    cases hx : ix LO a with
    | none => simp [hx] at h
    | some x =>
      cases hy : ix LO k with
      | none => simp [hx, hy] at h
      | some y =>
        simp [hx, hy] at h
        exact ⟨a, k, r', x, y, rfl, hx, hy, h⟩
theorem dec_in_und {r b R : List UInt8} (h : dec (95 :: r) b = some R) : ∃ d r', r = d :: r' ∧ ((97 ≤ d.toNat ∧ d.toNat ≤ 122 ∧ dec r' (b ++ [dn d]) = some R) ∨ (¬ (97 ≤ d.toNat ∧ d.toNat ≤ 122) ∧ d = 95 ∧ dec r' (b ++ [95]) = some R)) := by
  rw [dec.eq_def] at h
  match r, h with
  | [], h => simp at h
  | d :: r', h =>
    refine ⟨d, r', rfl, ?_⟩
    by_cases hd : 97 ≤ d.toNat ∧ d.toNat ≤ 122
    · simp [hd] at h
      exact .inl ⟨hd.1, hd.2, h⟩
    · by_cases h95 : d = 95
      · subst h95
        simp at h
        exact .inr ⟨hd, rfl, h⟩
      · simp [hd, h95] at h

/-- Read from its start, 'out' gives s, whatever follows. -/
def Dec (out s : List UInt8) : Prop := ∀ r b, dec (out ++ r) b = dec r (b ++ s)
theorem Dec.nil : Dec [] [] := by intro r b; simp
theorem Dec.app {x y s t : List UInt8} (h : Dec x s) (k : Dec y t) : Dec (x ++ y) (s ++ t) := by
  intro r b
  rw [List.append_assoc, h, k, List.append_assoc]
theorem Dec.raw {c : UInt8} (h1 : c ≠ 126) (h2 : c ≠ 95) : Dec [c] [c] := fun r b => dec_raw c r b h1 h2
theorem Dec.und : Dec [95, 95] [95] := fun r b => dec_und r b
theorem Dec.low {c : UInt8} (h1 : 65 ≤ c.toNat) (h2 : c.toNat ≤ 90) : Dec [95, UInt8.ofNat (c.toNat + 32)] [c] := by
  intro r b
  have e : (UInt8.ofNat (c.toNat + 32)).toNat = c.toNat + 32 := by rw [UInt8.toNat_ofNat']; omega
  show dec (95 :: UInt8.ofNat (c.toNat + 32) :: r) b = _
  rw [dec_low _ _ _ (by omega) (by omega)]
  unfold dn
  rw [e]
  simp
theorem Dec.hex (c : UInt8) : Dec [126, hx (c.toNat / 16), hx (c.toNat % 16)] [c] := by
  intro r b
  have hc := c.toNat_lt
  have h1 := ix_hx ⟨c.toNat / 16, by omega⟩
  have h2 := ix_hx ⟨c.toNat % 16, by omega⟩
  show dec (126 :: hx (c.toNat / 16) :: hx (c.toNat % 16) :: r) b = _
  rw [dec_hex _ _ _ _ _ _ h1 h2]
  have e : c.toNat / 16 * 16 + c.toNat % 16 = c.toNat := by omega
  unfold jn
  rw [e]
  simp
theorem Dec.end {out s : List UInt8} (h : Dec out s) : dec out [] = some s := by
  have := h [] []
  simp [dec] at this
  exact this

end Go.Proofs.Qxb6602525aMods
