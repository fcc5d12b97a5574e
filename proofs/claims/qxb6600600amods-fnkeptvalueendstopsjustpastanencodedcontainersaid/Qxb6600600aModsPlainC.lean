/-
  THE PLAIN LAWS: where a value ends: 'V'; the roles of bytes: 'roles'.
-/
import Derived.Test.Qxb6600600aModsPlain
namespace Go.Proofs.Qxb6600600aMods

def opn (c : UInt8) : Bool := c == 123 || c == 91
def cls (c : UInt8) : Bool := c == 125 || c == 93
def sep (c : UInt8) : Bool := c == 44 || c == 58

/-- How many bytes ahead of the value's end: the bytes that are left, the depth, inside a string?, escaped? -/
def val : List UInt8 → Nat → Bool → Bool → Option Nat
  | [], _, _, _ => none
  | _ :: r, d, true, true => (val r d true false).map (· + 1)
  | c :: r, d, true, false => if c = 92 then (val r d true true).map (· + 1) else if c = 34 then (if d = 0 then some 1 else (val r d false false).map (· + 1)) else (val r d true false).map (· + 1)
  | c :: r, d, false, e => if c = 34 then (val r d true e).map (· + 1) else if opn c = true then (val r (d + 1) false e).map (· + 1)
      else if cls c = true then (if d = 0 then some 0 else if d = 1 then some 1 else (val r (d - 1) false e).map (· + 1))
      else if sep c = true then (if d = 0 then some 0 else (val r d false e).map (· + 1))
      else (val r d false e).map (· + 1)

def V (l : List UInt8) (j d : Nat) (s e : Bool) : Nat := res l.length j (val (l.drop j) d s e)

theorem V_end (l : List UInt8) (j d : Nat) (s e : Bool) (h : l.length ≤ j) : V l j d s e = l.length := by
  unfold V
  rw [List.drop_eq_nil_of_le h]
  simp [val, res]
theorem V_in_esc (l : List UInt8) (j d : Nat) (h : j < l.length) : V l j d true true = V l (j + 1) d true false := by
  unfold V; rw [drop_at l j h, val, res_map]
theorem V_in_slash (l : List UInt8) (j d : Nat) (h : j < l.length) (hc : l.getD j 0 = 92) : V l j d true false = V l (j + 1) d true true := by
  unfold V; rw [drop_at l j h, val, if_pos hc, res_map]
theorem V_in_close0 (l : List UInt8) (j : Nat) (h : j < l.length) (hc : l.getD j 0 = 34) : V l j 0 true false = j + 1 := by
  unfold V; rw [drop_at l j h, val, if_neg (by rw [hc]; decide), if_pos hc, if_pos rfl, res]
theorem V_in_close (l : List UInt8) (j d : Nat) (h : j < l.length) (hc : l.getD j 0 = 34) (hd : d ≠ 0) : V l j d true false = V l (j + 1) d false false := by
  unfold V; rw [drop_at l j h, val, if_neg (by rw [hc]; decide), if_pos hc, if_neg hd, res_map]
theorem V_in_other (l : List UInt8) (j d : Nat) (h : j < l.length) (h1 : l.getD j 0 ≠ 92) (h2 : l.getD j 0 ≠ 34) : V l j d true false = V l (j + 1) d true false := by
  unfold V; rw [drop_at l j h, val, if_neg h1, if_neg h2, res_map]
theorem V_quote (l : List UInt8) (j d : Nat) (e : Bool) (h : j < l.length) (hc : l.getD j 0 = 34) : V l j d false e = V l (j + 1) d true e := by
  unfold V; rw [drop_at l j h, val, if_pos hc, res_map]
theorem V_open (l : List UInt8) (j d : Nat) (e : Bool) (h : j < l.length) (h0 : l.getD j 0 ≠ 34) (hc : opn (l.getD j 0) = true) : V l j d false e = V l (j + 1) (d + 1) false e := by
  unfold V; rw [drop_at l j h, val, if_neg h0, if_pos hc, res_map]
theorem V_close0 (l : List UInt8) (j : Nat) (e : Bool) (h : j < l.length) (h0 : l.getD j 0 ≠ 34) (h1 : opn (l.getD j 0) = false) (hc : cls (l.getD j 0) = true) : V l j 0 false e = j := by
  unfold V; rw [drop_at l j h, val, if_neg h0, if_neg (by rw [h1]; decide), if_pos hc, if_pos rfl, res]; omega
theorem V_close1 (l : List UInt8) (j : Nat) (e : Bool) (h : j < l.length) (h0 : l.getD j 0 ≠ 34) (h1 : opn (l.getD j 0) = false) (hc : cls (l.getD j 0) = true) : V l j 1 false e = j + 1 := by
  unfold V; rw [drop_at l j h, val, if_neg h0, if_neg (by rw [h1]; decide), if_pos hc, if_neg (by omega), if_pos rfl, res]
theorem V_close (l : List UInt8) (j d : Nat) (e : Bool) (h : j < l.length) (h0 : l.getD j 0 ≠ 34) (h1 : opn (l.getD j 0) = false) (hc : cls (l.getD j 0) = true) (hd : 2 ≤ d) : V l j d false e = V l (j + 1) (d - 1) false e := by
  unfold V; rw [drop_at l j h, val, if_neg h0, if_neg (by rw [h1]; decide), if_pos hc, if_neg (by omega), if_neg (by omega), res_map]
theorem V_sep0 (l : List UInt8) (j : Nat) (e : Bool) (h : j < l.length) (h0 : l.getD j 0 ≠ 34) (h1 : opn (l.getD j 0) = false) (h2 : cls (l.getD j 0) = false) (hc : sep (l.getD j 0) = true) : V l j 0 false e = j := by
  unfold V; rw [drop_at l j h, val, if_neg h0, if_neg (by rw [h1]; decide), if_neg (by rw [h2]; decide), if_pos hc, if_pos rfl, res]; omega
theorem V_sep (l : List UInt8) (j d : Nat) (e : Bool) (h : j < l.length) (h0 : l.getD j 0 ≠ 34) (h1 : opn (l.getD j 0) = false) (h2 : cls (l.getD j 0) = false) (hc : sep (l.getD j 0) = true) (hd : d ≠ 0) : V l j d false e = V l (j + 1) d false e := by
  unfold V; rw [drop_at l j h, val, if_neg h0, if_neg (by rw [h1]; decide), if_neg (by rw [h2]; decide), if_pos hc, if_neg hd, res_map]
theorem V_other (l : List UInt8) (j d : Nat) (e : Bool) (h : j < l.length) (h0 : l.getD j 0 ≠ 34) (h1 : opn (l.getD j 0) = false) (h2 : cls (l.getD j 0) = false) (hc : sep (l.getD j 0) = false) : V l j d false e = V l (j + 1) d false e := by
  unfold V; rw [drop_at l j h, val, if_neg h0, if_neg (by rw [h1]; decide), if_neg (by rw [h2]; decide), if_neg (by rw [hc]; decide), res_map]


theorem scan_le (r : List UInt8) : ∀ (s : Bool) (k : Nat), scan r s = some k → 1 ≤ k ∧ k ≤ r.length := by
  induction r with
  | nil => intro s k h; simp [scan] at h
  | cons c r ih =>
    intro s k h
    cases s
    · rw [scan] at h
      split at h
      · cases hs : scan r true with
        | none => simp [hs] at h
        | some m => simp [hs] at h; have := ih true m hs; simp; omega
      · split at h
        · simp at h; simp; omega
        · cases hs : scan r false with
          | none => simp [hs] at h
          | some m => simp [hs] at h; have := ih false m hs; simp; omega
    · rw [scan] at h
      cases hs : scan r false with
      | none => simp [hs] at h
      | some m => simp [hs] at h; have := ih false m hs; simp; omega

theorem E_le (l : List UInt8) (j : Nat) (s : Bool) (h : j ≤ l.length) : j ≤ E l j s ∧ E l j s ≤ l.length := by
  unfold E
  cases hs : scan (l.drop j) s with
  | none => simp [res]; exact h
  | some k =>
    have := scan_le _ _ _ hs
    simp at this
    simp [res]
    omega

/-- Inside a string the value's end is told by the string's. -/
theorem val_scan (r : List UInt8) (d : Nat) : ∀ s, val r d true s = match scan r s with
    | none => none
    | some k => if d = 0 then some k else (val (r.drop k) d false false).map (· + k) := by
  induction r with
  | nil => intro s; simp [val, scan]
  | cons c r ih =>
    intro s
    have step : ∀ s', (val r d true s').map (· + 1) = match (scan r s').map (· + 1) with
        | none => none
        | some k => if d = 0 then some k else (val ((c :: r).drop k) d false false).map (· + k) := by
      intro s'
      rw [ih s']
      cases scan r s' with
      | none => rfl
      | some k =>
        simp only [Option.map_some, List.drop_succ_cons]
        split
        · rfl
        · simp [Option.map_map, Function.comp_def, Nat.add_assoc]
    cases s
    · rw [val, scan]
      split
      · exact step true
      · split
        · simp
        · exact step false
    · rw [val, scan]
      exact step false

theorem V_string (l : List UInt8) (i d : Nat) (h : i < l.length) (hc : l.getD i 0 = 34) : V l i d false false = if d = 0 then E l (i + 1) false else V l (E l (i + 1) false) d false false := by
  rw [V_quote l i d false h hc]
  unfold V E
  rw [val_scan]
  cases hs : scan (l.drop (i + 1)) false with
  | none =>
    simp only [res]
    split
    · rfl
    · rw [List.drop_eq_nil_of_le (Nat.le_refl _)]; simp [val]
  | some k =>
    by_cases hd : d = 0
    · simp [hd, res]
    · simp only [if_neg hd]
      rw [List.drop_drop, res_add]
      rfl

/-- The role of every byte: outside strings, an opening quote, inside, a closing quote. -/
def roles : List UInt8 → Bool → Bool → List UInt8
  | [], _, _ => []
  | c :: r, false, e => if c = 34 then 1 :: roles r true e else 0 :: roles r false e
  | _ :: r, true, true => 2 :: roles r true false
  | c :: r, true, false => if c = 92 then 2 :: roles r true true else if c = 34 then 3 :: roles r false false else 2 :: roles r true false

theorem roles_len (l : List UInt8) : ∀ s e, (roles l s e).length = l.length := by
  induction l with
  | nil => intro s e; rfl
  | cons c r ih =>
    intro s e
    cases s
    · rw [roles]; split <;> simp [ih]
    · cases e
      · rw [roles]; split
        · simp [ih]
        · split <;> simp [ih]
      · rw [roles]; simp [ih]

theorem rol_head {R : List UInt8} {k : Nat} {x : UInt8} {r : List UInt8} (h : R.drop k = x :: r) : R.getD k 0 = x ∧ R.drop (k + 1) = r := by
  constructor
  · have : R[k]? = some x := by
      have h2 : (R.drop k)[0]? = some x := by rw [h]; rfl
      rw [List.getElem?_drop] at h2
      simpa using h2
    simp [List.getD, this]
  · have h2 : (R.drop k).drop 1 = r := by rw [h]; rfl
    rw [List.drop_drop] at h2
    exact h2

end Go.Proofs.Qxb6600600aMods
