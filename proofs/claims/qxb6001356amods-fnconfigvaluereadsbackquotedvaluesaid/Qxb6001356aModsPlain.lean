/-
  THE PLAIN LAW: no Go in sight. 'cfg': what is left of a config value's reading, a step a byte; 'esc': the value as it is written between quotes.
-/
import Derived.Below
namespace Go.Proofs.Qxb6001356aMods

def blk (c : UInt8) : Bool := c == 32 || c == 9 || c == 13
def com (c : UInt8) : Bool := c == 35 || c == 59

def unesc (c : UInt8) : Option UInt8 :=
  if c = 92 then some 92 else if c = 34 then some 34 else if c = 110 then some 10 else if c = 116 then some 9 else if c = 98 then some 8 else none

/-- What is left of the text, what has been gathered, 'quoted', 'comment', 'blanks': the value and what is left ahead of the line's end; 'none' where the Go text refuses, or goes a way that the law never takes. -/
def cfg : List UInt8 → List UInt8 → Bool → Bool → Nat → Option (List UInt8 × List UInt8)
  | [], b, q, _, _ => if q then none else some (b, [])
  | c :: r, b, q, cm, n =>
    if c = 10 then (if q then none else some (b, c :: r))
    else if cm = true then cfg r b q true n
    else if blk c = true ∧ q = false then cfg r b q false (if b.length = 0 then n else n + 1)
    else if com c = true ∧ q = false then cfg r b q true n
    else if n ≠ 0 then none
    else if c = 34 then cfg r b (!q) false 0
    else if q = false then none
    else if c = 92 then
      match r with
      | [] => none
      | e :: r' => if e = 10 then none else
        match unesc e with
        | none => none
        | some x => cfg r' (b ++ [x]) q false 0
    else cfg r (b ++ [c]) q false 0

theorem cfg_end (b : List UInt8) (q cm : Bool) (n : Nat) : cfg [] b q cm n = if q then none else some (b, []) := by
  rw [cfg.eq_def]
theorem cfg_nl (r b : List UInt8) (q cm : Bool) (n : Nat) : cfg (10 :: r) b q cm n = if q then none else some (b, 10 :: r) := by
  rw [cfg.eq_def]; simp
theorem cfg_comment (c : UInt8) (r b : List UInt8) (q : Bool) (n : Nat) (h : c ≠ 10) : cfg (c :: r) b q true n = cfg r b q true n := by
  rw [cfg.eq_def]; simp [h]
theorem cfg_blank (c : UInt8) (r b : List UInt8) (n : Nat) (hb : blk c = true) : cfg (c :: r) b false false n = cfg r b false false (if b.length = 0 then n else n + 1) := by
  have h : c ≠ 10 := by rintro rfl; revert hb; decide
  rw [cfg.eq_def]; simp [h, hb]
theorem cfg_com (c : UInt8) (r b : List UInt8) (n : Nat) (hc : com c = true) : cfg (c :: r) b false false n = cfg r b false true n := by
  have h : c ≠ 10 := by rintro rfl; revert hc; decide
  have hb : blk c = false := by
    simp [com] at hc
    rcases hc with rfl | rfl <;> decide
  rw [cfg.eq_def]; simp [h, hb, hc]
/-- A byte that is neither: what the Go text's second switch does. -/
theorem cfg_esc (e : UInt8) (r b : List UInt8) (x : UInt8) (he : unesc e = some x) : cfg (92 :: e :: r) b true false 0 = cfg r (b ++ [x]) true false 0 := by
  have h : e ≠ 10 := by rintro rfl; simp [unesc] at he
  rw [cfg.eq_def]; simp [h, he]
theorem cfg_quote (r b : List UInt8) (q : Bool) : cfg (34 :: r) b q false 0 = cfg r b (!q) false 0 := by
  have hb : blk 34 = false := by decide
  have hc : com 34 = false := by decide
  rw [cfg.eq_def]; simp [hb, hc]
theorem cfg_plain (c : UInt8) (r b : List UInt8) (h : c ≠ 10) (h1 : c ≠ 92) (h2 : c ≠ 34) : cfg (c :: r) b true false 0 = cfg r (b ++ [c]) true false 0 := by
  rw [cfg.eq_def]; simp [h, h1, h2]

/-! What it tells where it answers. -/
theorem cfg_in_un {c : UInt8} {r b : List UInt8} {n : Nat} {R : List UInt8 × List UInt8} (h : cfg (c :: r) b false false n = some R) (h0 : c ≠ 10) (hb : blk c = false) :
    (com c = true ∧ cfg r b false true n = some R) ∨ (com c = false ∧ c = 34 ∧ n = 0 ∧ cfg r b true false 0 = some R) := by
  rw [cfg.eq_def] at h
  simp only [h0, hb] at h
  cases hc : com c
  · simp [hc] at h
    right
    exact ⟨rfl, h.2.1, h.1, h.2.2⟩
  · simp [hc] at h
    left
    exact ⟨rfl, h⟩
theorem cfg_in_q {c : UInt8} {r b : List UInt8} {n : Nat} {R : List UInt8 × List UInt8} (h : cfg (c :: r) b true false n = some R) (h0 : c ≠ 10) :
    n = 0 ∧ ((c = 34 ∧ cfg r b false false 0 = some R) ∨ (c = 92 ∧ ∃ e r' x, r = e :: r' ∧ e ≠ 10 ∧ unesc e = some x ∧ cfg r' (b ++ [x]) true false 0 = some R) ∨
      (c ≠ 34 ∧ c ≠ 92 ∧ cfg r (b ++ [c]) true false 0 = some R)) := by
  rw [cfg.eq_def] at h
  simp only [h0] at h
  by_cases hn : n = 0
  · subst hn
    refine ⟨rfl, ?_⟩
    by_cases h34 : c = 34
    · subst h34
      left
      simpa using h
    · by_cases h92 : c = 92
      · subst h92
        right; left
        refine ⟨rfl, ?_⟩
        cases r with
        | nil => simp at h
        | cons e r' =>
          simp at h
          obtain ⟨he, h⟩ := h
          cases hu : unesc e with
          | none => simp [hu] at h
          | some x => simp [hu] at h; exact ⟨e, r', x, rfl, he, hu, h⟩
      · right; right
        refine ⟨h34, h92, ?_⟩
        simpa [h34, h92] using h
  · simp [hn] at h

def escB (c : UInt8) : List UInt8 :=
  if c = 92 then [92, 92] else if c = 34 then [92, 34] else if c = 10 then [92, 110] else if c = 9 then [92, 116] else if c = 8 then [92, 98] else [c]
def esc (l : List UInt8) : List UInt8 := l.flatMap escB

theorem escB_len (c : UInt8) : (escB c).length ≤ 2 := by
  unfold escB; repeat (split; · simp)
  simp
theorem esc_len (l : List UInt8) : (esc l).length ≤ 2 * l.length := by
  induction l with
  | nil => simp [esc]
  | cons c l ih =>
    have := escB_len c
    simp [esc] at ih ⊢
    omega
theorem esc_snoc (l : List UInt8) (c : UInt8) : esc (l ++ [c]) = esc l ++ escB c := by simp [esc]

theorem cfg_escB (c : UInt8) (r b : List UInt8) : cfg (escB c ++ r) b true false 0 = cfg r (b ++ [c]) true false 0 := by
  unfold escB
  split
  · next h => subst h; exact cfg_esc 92 r b 92 (by decide)
  split
  · next h => subst h; exact cfg_esc 34 r b 34 (by decide)
  split
  · next h => subst h; exact cfg_esc 110 r b 10 (by decide)
  split
  · next h => subst h; exact cfg_esc 116 r b 9 (by decide)
  split
  · next h => subst h; exact cfg_esc 98 r b 8 (by decide)
  · next h1 h2 h3 h4 h5 => exact cfg_plain c r b h3 h1 h2

theorem cfg_escs (l r : List UInt8) : ∀ b, cfg (esc l ++ r) b true false 0 = cfg r (b ++ l) true false 0 := by
  induction l with
  | nil => intro b; simp [esc]
  | cons c l ih =>
    intro b
    have : esc (c :: l) ++ r = escB c ++ (esc l ++ r) := by simp [esc]
    rw [this, cfg_escB, ih]
    simp

theorem cfg_lead (l r : List UInt8) (h : l.all blk = true) : cfg (l ++ r) [] false false 0 = cfg r [] false false 0 := by
  induction l with
  | nil => rfl
  | cons c l ih =>
    simp at h
    rw [List.cons_append, cfg_blank _ _ _ _ h.1]
    simp
    exact ih (by simpa using h.2)

theorem cfg_trail (l r b : List UInt8) (h : l.all blk = true) : ∀ n, ∃ n', cfg (l ++ r) b false false n = cfg r b false false n' := by
  induction l with
  | nil => intro n; exact ⟨n, rfl⟩
  | cons c l ih =>
    intro n
    simp at h
    rw [List.cons_append, cfg_blank _ _ _ _ h.1]
    exact ih (by simpa using h.2) _

theorem cfg_note (l r b : List UInt8) (n : Nat) (h : ∀ c ∈ l, c ≠ 10) : cfg (l ++ 10 :: r) b false true n = some (b, 10 :: r) := by
  induction l with
  | nil => rw [List.nil_append, cfg_nl]; simp
  | cons c l ih =>
    rw [List.cons_append, cfg_comment _ _ _ _ _ (h c (by simp))]
    exact ih (fun d hd => h d (by simp [hd]))

/-- The comment that may stand ahead of the line's end. -/
def cmt (comment semi : Bool) (note : List UInt8) : List UInt8 := if comment then (if semi then 59 else 35) :: note else []

/-- THE PLAIN LAW: what is written is read back. -/
theorem plain (lead value trail note tail : List UInt8) (comment semi : Bool) (hl : lead.all blk = true) (ht : trail.all blk = true) (hn : ∀ c ∈ note, c ≠ 10) :
    cfg (lead ++ (34 :: (esc value ++ (34 :: (trail ++ (cmt comment semi note ++ 10 :: tail)))))) [] false false 0 = some (value, 10 :: tail) := by
  rw [cfg_lead _ _ hl, cfg_quote]
  show cfg _ [] true false 0 = _
  rw [cfg_escs, cfg_quote, List.nil_append]
  show cfg _ value false false 0 = _
  obtain ⟨n', h'⟩ := cfg_trail trail (cmt comment semi note ++ 10 :: tail) value ht 0
  rw [h']
  unfold cmt
  cases comment
  · simp [cfg_nl]
  · simp only [if_true, List.cons_append]
    rw [cfg_com _ _ _ _ (by cases semi <;> decide)]
    exact cfg_note _ _ _ _ hn

end Go.Proofs.Qxb6001356aMods
