/-
  THE PLAIN LAWS: no Go in sight. 'scan': the forward escape scan; 'E': where it ends.
-/
import Derived.Below
import Derived.Lib.Bytealg
namespace Go.Proofs.Qxb6600600aMods

/-- How many bytes up to and with the closing quote; 'none' where there is none. The second argument: is the next byte escaped? -/
def scan : List UInt8 → Bool → Option Nat
  | [], _ => none
  | _ :: r, true => (scan r false).map (· + 1)
  | c :: r, false => if c = 92 then (scan r true).map (· + 1) else if c = 34 then some 1 else (scan r false).map (· + 1)

def res (n j : Nat) : Option Nat → Nat
  | some k => j + k
  | none => n
theorem res_map (n j : Nat) (o : Option Nat) : res n j (o.map (· + 1)) = res n (j + 1) o := by
  cases o <;> simp [res]; omega
theorem res_add (n j k : Nat) (o : Option Nat) : res n j (o.map (· + k)) = res n (j + k) o := by
  cases o <;> simp [res]; omega

/-- Where the string ends whose next byte stands at j. -/
def E (l : List UInt8) (j : Nat) (s : Bool) : Nat := res l.length j (scan (l.drop j) s)

theorem drop_at (l : List UInt8) (k : Nat) (h : k < l.length) : l.drop k = l.getD k 0 :: l.drop (k + 1) := by
  rw [List.drop_eq_getElem_cons h]
  simp [List.getD, List.getElem?_eq_getElem h]

theorem E_end (l : List UInt8) (j : Nat) (s : Bool) (h : l.length ≤ j) : E l j s = l.length := by
  unfold E
  rw [List.drop_eq_nil_of_le h]
  simp [scan, res]
theorem E_escaped (l : List UInt8) (j : Nat) (h : j < l.length) : E l j true = E l (j + 1) false := by
  unfold E
  rw [drop_at l j h, scan, res_map]
theorem E_slash (l : List UInt8) (j : Nat) (h : j < l.length) (hc : l.getD j 0 = 92) : E l j false = E l (j + 1) true := by
  unfold E
  rw [drop_at l j h, scan, if_pos hc, res_map]
theorem E_quote (l : List UInt8) (j : Nat) (h : j < l.length) (hc : l.getD j 0 = 34) : E l j false = j + 1 := by
  unfold E
  rw [drop_at l j h, scan, if_neg (by rw [hc]; decide), if_pos hc, res]
theorem E_other (l : List UInt8) (j : Nat) (h : j < l.length) (h1 : l.getD j 0 ≠ 92) (h2 : l.getD j 0 ≠ 34) : E l j false = E l (j + 1) false := by
  unfold E
  rw [drop_at l j h, scan, if_neg h1, if_neg h2, res_map]

/-- Is the byte behind these escaped? -/
def st : List UInt8 → Bool → Bool
  | [], s => s
  | _ :: r, true => st r false
  | c :: r, false => st r (c == 92)

theorem scan_none (a : List UInt8) (h : ∀ c ∈ a, c ≠ 34) : ∀ s, scan a s = none := by
  induction a with
  | nil => intro s; rfl
  | cons c a ih =>
    have ih' := ih (fun d hd => h d (by simp [hd]))
    intro s
    cases s
    · rw [scan, if_neg (h c (by simp)), ih' true, ih' false]; simp
    · rw [scan, ih' false]; rfl

theorem scan_pre (a r : List UInt8) (h : ∀ c ∈ a, c ≠ 34) : ∀ s, scan (a ++ 34 :: r) s = if st a s then (scan r false).map (· + (a.length + 1)) else some (a.length + 1) := by
  induction a with
  | nil =>
    intro s
    cases s
    · simp [scan, st]
    · simp [scan, st]
  | cons c a ih =>
    have ih' := ih (fun d hd => h d (by simp [hd]))
    have hc := h c (by simp)
    intro s
    cases s
    · rw [List.cons_append, scan, if_neg hc]
      by_cases h92 : c = 92
      · rw [if_pos h92, ih' true, st, h92]
        simp
        split <;> simp [Option.map_map, Function.comp_def, Nat.add_assoc]
      · have hb : (c == 92) = false := beq_eq_false_iff_ne.2 h92
        rw [if_neg h92, ih' false, st, hb]
        simp
        split <;> simp [Option.map_map, Function.comp_def, Nat.add_assoc]
    · rw [List.cons_append, scan, ih' false, st]
      simp
      split <;> simp [Option.map_map, Function.comp_def, Nat.add_assoc]

theorem st_snoc (a : List UInt8) (c : UInt8) : ∀ s, st (a ++ [c]) s = if c = 92 then !(st a s) else false := by
  induction a with
  | nil =>
    intro s
    by_cases h : c = 92
    · subst h; cases s <;> simp [st]
    · have hb : (c == 92) = false := beq_eq_false_iff_ne.2 h
      cases s <;> simp [st, hb, h]
  | cons d a ih =>
    intro s
    cases s
    · simp only [List.cons_append, st]; exact ih _
    · simp only [List.cons_append, st]; exact ih _

theorem st_rep (p : List UInt8) (h : st p false = false) : ∀ t, st (p ++ List.replicate t 92) false = (t % 2 == 1)
  | 0 => by simpa using h
  | t + 1 => by
    rw [List.replicate_succ', ← List.append_assoc, st_snoc, st_rep p h t]
    rw [if_pos rfl]
    by_cases e : t % 2 = 1
    · have : (t + 1) % 2 = 0 := by omega
      simp [e, this]
    · have e' : t % 2 = 0 := by omega
      have : (t + 1) % 2 = 1 := by omega
      simp [e', this]

/-- The backslashes that stand together at the end of A, counted: 't' of them, all that there are. -/
theorem st_count (A : List UInt8) (t : Nat) (ht : t ≤ A.length) (hA : A = A.take (A.length - t) ++ List.replicate t 92) (hs : t = A.length ∨ A.getD (A.length - t - 1) 0 ≠ 92) : st A false = (t % 2 == 1) := by
  rw [hA]
  apply st_rep
  rcases hs with hs | hs
  · rw [hs, Nat.sub_self]; rfl
  · rcases Nat.lt_or_ge t A.length with h | h
    · have e : A.length - t = (A.length - t - 1) + 1 := by omega
      have hl : A.length - t - 1 < A.length := by omega
      rw [e, List.take_succ_eq_append_getElem hl, st_snoc, if_neg]
      intro e2
      apply hs
      simp [List.getD, List.getElem?_eq_getElem hl, e2]
    · have : A.length - t = 0 := by omega
      rw [this]; rfl

theorem count_more (A : List UInt8) (t : Nat) (ht : t < A.length) (hA : A = A.take (A.length - t) ++ List.replicate t 92) (h : A.getD (A.length - t - 1) 0 = 92) : A = A.take (A.length - (t + 1)) ++ List.replicate (t + 1) 92 := by
  have e : A.length - t = (A.length - (t + 1)) + 1 := by omega
  have hl : A.length - (t + 1) < A.length := by omega
  have hg : A[A.length - (t + 1)] = 92 := by
    have : A.length - t - 1 = A.length - (t + 1) := by omega
    rw [this] at h
    simpa [List.getD, List.getElem?_eq_getElem hl] using h
  rw [e, List.take_succ_eq_append_getElem hl, hg] at hA
  rw [hA]
  have : (List.take (A.length - (t + 1)) A ++ [92] ++ List.replicate t 92).length = A.length := by rw [← hA]
  rw [this, List.append_assoc]
  simp only [List.replicate_succ]
  rw [List.take_append_of_le_length (by simp), List.take_take]
  simp

/-- Where the first byte c stands. -/
def ix : List UInt8 → UInt8 → Option Nat
  | [], _ => none
  | b :: l, c => if b = c then some 0 else (ix l c).map (· + 1)
def ixI : Option Nat → Int
  | none => -1
  | some m => m
theorem indexByte_ix (l : List UInt8) (c : UInt8) : Lib.indexByte l c = ixI (ix l c) := by
  induction l with
  | nil => rfl
  | cons b l ih =>
    unfold Lib.indexByte ix
    by_cases h : b = c
    · simp [h, ixI]
    · have hb : (b == c) = false := by simp [h]
      rw [hb, ih, if_neg h]
      cases hx : ix l c with
      | none => simp [ixI]
      | some m =>
        simp only [ixI, Option.map_some]
        have : ((m : Int) == -1) = false := by rw [beq_eq_false_iff_ne]; omega
        simp [this]
theorem ix_none {l : List UInt8} {c : UInt8} (h : ix l c = none) : ∀ x ∈ l, x ≠ c := by
  induction l with
  | nil => simp
  | cons b l ih =>
    unfold ix at h
    by_cases hb : b = c
    · simp [hb] at h
    · rw [if_neg hb] at h
      intro x hx
      rcases List.mem_cons.1 hx with rfl | hx
      · exact hb
      · exact ih (by simpa using h) x hx
theorem ix_some {l : List UInt8} {c : UInt8} : ∀ {m}, ix l c = some m → m < l.length ∧ (∀ x ∈ l.take m, x ≠ c) ∧ l = l.take m ++ c :: l.drop (m + 1) := by
  induction l with
  | nil => intro m h; simp [ix] at h
  | cons b l ih =>
    intro m h
    unfold ix at h
    by_cases hb : b = c
    · simp [hb] at h
      subst h
      simp [hb]
    · rw [if_neg hb] at h
      cases hx : ix l c with
      | none => simp [hx] at h
      | some k =>
        simp [hx] at h
        subst h
        obtain ⟨h1, h2, h3⟩ := ih hx
        refine ⟨by simp; omega, ?_, ?_⟩
        · intro x hx
          simp only [List.take_succ_cons, List.mem_cons] at hx
          rcases hx with rfl | hx
          · exact hb
          · exact h2 x hx
        · simp only [List.take_succ_cons, List.drop_succ_cons, List.cons_append]
          exact congrArg (b :: ·) h3

/-- One round of the search: no quote is left. -/
theorem E_none (l : List UInt8) (i : Nat) (h : ix (l.drop i) 34 = none) : E l i false = l.length := by
  unfold E
  rw [scan_none _ (ix_none h)]
  rfl
/-- One round of the search: the next quote stands m bytes on. -/
theorem E_some (l : List UInt8) (i m : Nat) (h : ix (l.drop i) 34 = some m) : i + m < l.length ∧ ((l.drop i).take m).length = m ∧ E l i false = if st ((l.drop i).take m) false then E l (i + m + 1) false else i + m + 1 := by
  obtain ⟨h1, h2, h3⟩ := ix_some h
  simp only [List.length_drop] at h1
  have hl : ((l.drop i).take m).length = m := by simp; omega
  refine ⟨by omega, hl, ?_⟩
  unfold E
  rw [h3, scan_pre _ _ h2]
  rw [← h3, hl, List.drop_drop]
  have : i + (m + 1) = i + m + 1 := by omega
  rw [this]
  split
  · rw [res_add]; rfl
  · simp [res]; omega

theorem seg_getD (l : List UInt8) (i m k : Nat) (hk : k < m) : ((l.drop i).take m).getD k 0 = l.getD (i + k) 0 := by
  rw [List.getD_eq_getElem?_getD, List.getElem?_take, if_pos hk, List.getElem?_drop, List.getD_eq_getElem?_getD]

end Go.Proofs.Qxb6600600aMods
