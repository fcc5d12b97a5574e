/-
  PLAIN AIDS OVER ANY PROGRAM: a slice of bytes that the call itself owns ('OwnB'), appends onto it, 'string(b)' of it.
-/
import Derived.WalkKit
import Derived.Lib.AppendStr
import Derived.Laws.IdiomStrings
import Derived.Laws.AppendOwnNone
import Derived.Lib.BytesEntry
import Derived.Lib.SliceRun
namespace Go.Proofs.Qxb6602525aMods
open Go.RowKit

/-- Bytes as cells. -/
def bc (l : List UInt8) : List Value := l.map fun b => Value.int .u8 b.toNat

theorem bc_length (l : List UInt8) : (bc l).length = l.length := by simp [bc]
theorem bc_append (l r : List UInt8) : bc (l ++ r) = bc l ++ bc r := by simp [bc]
theorem bc_oneCell (l : List UInt8) : ∀ u ∈ bc l, u.oneCell' = true := by
  intro u hu
  simp only [bc, List.mem_map] at hu
  obtain ⟨b, _, rfl⟩ := hu
  rfl

/-- The slice value v owns the bytes l, among the blocks from B on (elements of type e). -/
def OwnB (e : TypeId) (B : Nat) (w : World) (v : Value) (l : List UInt8) : Prop := w.ownsRow B e 1 v l.length (bc l)

theorem OwnB.form {e : TypeId} {B : Nat} {w : World} {v : Value} {l : List UInt8} (h : OwnB e B w v l) : ∃ ao cap, v = .slice ao l.length cap := by
  rcases h.2 with ⟨h1, h2⟩ | ⟨g, cap, cur, h1, _⟩
  · exact ⟨none, 0, by rw [h1, h2]⟩
  · exact ⟨some ⟨g, 0, none⟩, cap, h1⟩

theorem OwnB.len {e : TypeId} {B : Nat} {w : World} {ao : Option Addr} {n cap : Nat} {l : List UInt8} (h : OwnB e B w (.slice ao n cap) l) : n = l.length := by
  obtain ⟨ao', cap', h1⟩ := h.form
  injection h1

theorem OwnB.nil (e : TypeId) (B : Nat) (w : World) : OwnB e B w (.slice none 0 0) [] := World.ownsRow_nil w B e 1

theorem OwnB.alloc {e : TypeId} {B : Nat} {w : World} {v : Value} {l : List UInt8} (h : OwnB e B w v l) (o : Obj) : OwnB e B (w.alloc o) v l := World.ownsRow.alloc h o
theorem OwnB.drew {e : TypeId} {B : Nat} {w : World} {v : Value} {l : List UInt8} (h : OwnB e B w v l) : OwnB e B w.drew v l := h

/-- The element type's row of the program's table. -/
def ByteRow (P : Program) (e : TypeId) : Prop := (P.info? e).map (fun i => (i.zero, i.size, i.bytes)) = some (some (.int .u8 0), 1, 1)

section
variable {P : Program}

/-- 'append(t, s...)', t the call's own, s a string. -/
theorem wpL_str {w : World} {ops : Array Oper} {rest : List Oper} {o : Oper} {a : Act} {Q : Exit → Act → World → Prop} (hgd : o.guard = none) (sl x : Operand) (t u e : TypeId)
    (ho : o.op = .call { callee := .builtin .append, args := #[sl, x], argTypes := #[t, u] })
    (ht : P.underlying t = some (.slice e)) (hu : P.underlying u = some .string) (hr : ByteRow P e)
    (B : Nat) (v : Value) (l : List UInt8) (hs : a.eval sl = v) (hown : OwnB e B w v l) (s : ByteArray) (hx : a.eval x = .string s)
    (hlen : l.length + s.size ≤ 100000000) (hB : B ≤ w.heap.size)
    (h : ∀ ao n cap w', OwnB e B w' (.slice ao n cap) (l ++ s.data.toList) → n ≤ 100000000 → Below B w w' → B ≤ w'.heap.size → wpList P ops Q rest (a.put o.dst (.slice ao n cap)) w') : wpList P ops Q (o :: rest) a w := by
  obtain ⟨i, hi, hz0, hz1, hz2⟩ := info_parts hr
  have hm : l.length + s.size ≤ maxLen := by unfold maxLen; omega
  refine Lib.wpList_append_own_string w hgd sl x t u ho B e i ht hu hi hz0 hz1 hz2 v l.length (bc l) hs hown s hx hm (by omega) hB ?_
  intro v' w' hown' hgrow _
  have hl' : (l ++ s.data.toList).length = l.length + s.size := by
    rw [List.length_append, Array.length_toList]; rfl
  have hb' : OwnB e B w' v' (l ++ s.data.toList) := by
    unfold OwnB
    rw [hl', bc_append]
    exact hown'
  have hbel : Below B w w' := (Below.refl B w).grown hgrow hB (fun k hk => (World.ownsRow.lt hown k hk).1)
  obtain ⟨ao, cap, hv⟩ := hb'.form
  subst hv
  exact h ao _ cap w' hb' (by omega) hbel (Nat.le_trans hB hbel.size)

/-- 'append(t, x, y, ..)', t the call's own, what is appended laid in a block of its own just ahead. -/
theorem wpL_lit {w : World} {cs : Array Value} {ops : Array Oper} {rest : List Oper} {o : Oper} {a : Act} {Q : Exit → Act → World → Prop} (hgd : o.guard = none) (sl x : Operand) (t e : TypeId)
    (ho : o.op = .call { callee := .builtin .append, args := #[sl, x], argTypes := #[t, t] })
    (ht : P.underlying t = some (.slice e)) (hr : ByteRow P e)
    (B : Nat) (v : Value) (l : List UInt8) (hs : a.eval sl = v) (hown : OwnB e B w v l)
    (m c : Nat) (hx : a.eval x = .slice (some ⟨w.heap.size, 0, none⟩) m c) (news : List UInt8) (hcs : cs.toList = bc news) (hm : news.length = m)
    (hlen : l.length + news.length ≤ 100000000) (hB : B ≤ w.heap.size)
    (h : ∀ ao n cap w', OwnB e B w' (.slice ao n cap) (l ++ news) → n ≤ 100000000 → Below B w w' → B ≤ w'.heap.size → wpList P ops Q rest (a.put o.dst (.slice ao n cap)) w') : wpList P ops Q (o :: rest) a (w.alloc (.cells cs e)) := by
  obtain ⟨i, hi, hz0, hz1, hz2⟩ := info_parts hr
  have hm1 : l.length + m ≤ maxLen := by unfold maxLen; omega
  refine wpList_append_own (w.alloc (.cells cs e)) hgd sl x t ho B e i (.int .u8 0) 1 1 ht hi hz0 hz1 hz2 rfl (by decide) v l.length (bc l) hs (World.ownsRow.alloc hown _) ⟨w.heap.size, 0, none⟩ m c (bc news) hx (by rw [bc_length]; omega) ?_ (bc_oneCell _) hm1 (by omega) (by simp; omega) ?_
  · intro j u hj
    have hadd : (⟨w.heap.size, 0, none⟩ : Addr).add j = ⟨w.heap.size, j, none⟩ := by unfold Addr.add; split <;> simp_all
    rw [hadd, World.cell?_alloc_mark]
    rw [← hcs] at hj
    simpa using hj
  · intro v' w' hown' hgrow _
    have hl' : (l ++ news).length = l.length + m := by rw [List.length_append, hm]
    have hb' : OwnB e B w' v' (l ++ news) := by
      unfold OwnB
      rw [hl', bc_append]
      exact hown'
    have hbel : Below B w w' := ((Below.refl B w).alloc hB _).grown hgrow (by simp; omega) (fun k hk => (World.ownsRow.lt hown k hk).1)
    obtain ⟨ao, cap, hv⟩ := hb'.form
    subst hv
    exact h ao _ cap w' hb' (by omega) hbel (Nat.le_trans hB hbel.size)

/-- 'string(t)', t the call's own. -/
theorem conv_own {w : World} {e src dst : TypeId} (hs : P.underlying src = some (.slice e)) (he : P.underlying e = some (.int .u8)) (hd : P.underlying dst = some .string)
    {B : Nat} {ao : Option Addr} {n cap : Nat} {l : List UInt8} (h : OwnB e B w (.slice ao n cap) l) :
    (convert src dst (.slice ao n cap)).run P w = .ok (.string ⟨l.toArray⟩) w := by
  have hn := h.len
  subst hn
  rcases h.2 with ⟨h1, h2⟩ | ⟨g, cap', cur, h1, _⟩
  · injection h1 with h3 h4 h5
    subst h3
    have : l = [] := List.eq_nil_of_length_eq_zero h2
    subst this
    rw [run_convert_bytes_string w src dst e none _ cap hs he hd]
    simp [Conv.bytesToString]
    rfl
  · injection h1 with h3 h4 h5
    subst h3
    refine run_convert_bytes_back w src dst e ⟨g, 0, none⟩ cap l hs he hd (fun j hj => ?_)
    have := World.ownsRow.cells h (g := g) rfl j (.int .u8 (l[j].toNat : Int)) (by simp [bc, List.getElem?_eq_getElem hj])
    exact this


/-- 'make([]byte, n)'. -/
theorem wpL_make {w : World} {ops : Array Oper} {rest : List Oper} {o : Oper} {a : Act} {Q : Exit → Act → World → Prop} (hgd : o.guard = none) (l c : Operand) (t e : TypeId)
    (ho : o.op = Op.makeSlice t l c) (ht : P.underlying t = some (.slice e)) (hr : ByteRow P e) (B : Nat) (kl kc : IntKind) (L C : Int) (n : Nat)
    (hl : a.eval l = .int kl L) (hc : a.eval c = .int kc C) (hL : L = (n : Int)) (hC : C = (n : Int)) (hn : n ≤ 100000000) (hB : B ≤ w.heap.size)
    (h : ∀ w', OwnB e B w' (.slice (some ⟨w.heap.size, 0, none⟩) n n) (List.replicate n 0) → Below B w w' → B ≤ w'.heap.size → wpList P ops Q rest (a.put o.dst (.slice (some ⟨w.heap.size, 0, none⟩) n n)) w') : wpList P ops Q (o :: rest) a w := by
  obtain ⟨i, hi, hz0, hz1, hz2⟩ := info_parts hr
  refine wpList_make_full w hgd l c t ho B e i (.int .u8 0) 1 ht hi hz0 hz1 kl kc L C n hl hc hL hC (by rw [hz2]; omega) (by unfold maxLen; omega) hB ?_
  intro w' hown hgrow
  have hbel : Below B w w' := (Below.refl B w).grown hgrow hB (fun k hk => by cases hk)
  refine h w' ?_ hbel (Nat.le_trans hB hbel.size)
  unfold OwnB
  have e1 : bc (List.replicate n 0) = (madeCells (Value.int .u8 0).cells (n * 1)).toList := by
    show _ = (madeCells #[Value.int .u8 0] (n * 1)).toList
    rw [toList_madeCells_one]
    simp [bc]
  rw [e1, List.length_replicate]
  exact hown

/-- 'make([]byte, 0, n)'. -/
theorem wpL_make0 {w : World} {ops : Array Oper} {rest : List Oper} {o : Oper} {a : Act} {Q : Exit → Act → World → Prop} (hgd : o.guard = none) (l c : Operand) (t e : TypeId)
    (ho : o.op = Op.makeSlice t l c) (ht : P.underlying t = some (.slice e)) (hr : ByteRow P e) (B : Nat) (kl kc : IntKind) (C : Int) (n : Nat)
    (hl : a.eval l = .int kl 0) (hc : a.eval c = .int kc C) (hC : C = (n : Int)) (hn : n ≤ 100000000) (hB : B ≤ w.heap.size)
    (h : ∀ w', OwnB e B w' (.slice (some ⟨w.heap.size, 0, none⟩) 0 n) [] → Below B w w' → B ≤ w'.heap.size → wpList P ops Q rest (a.put o.dst (.slice (some ⟨w.heap.size, 0, none⟩) 0 n)) w') : wpList P ops Q (o :: rest) a w := by
  obtain ⟨i, hi, hz0, hz1, hz2⟩ := info_parts hr
  refine wpList_make_own w hgd l c t ho B e i (.int .u8 0) 1 ht hi hz0 hz1 kl kc C n hl hc hC (by rw [hz2]; omega) (by unfold maxLen; omega) hB ?_
  intro w' hown hgrow
  have hbel : Below B w w' := (Below.refl B w).grown hgrow hB (fun k hk => by cases hk)
  exact h w' hown hbel (Nat.le_trans hB hbel.size)

/-- The number that stands at place j. -/
def bv (l : List UInt8) (j : Nat) : Int := ((l.getD j 0).toNat : Int)

theorem bv_ge (l : List UInt8) (j : Nat) : 0 ≤ bv l j := by unfold bv; omega
theorem bv_le (l : List UInt8) (j : Nat) : bv l j ≤ 255 := by
  unfold bv
  have := (l.getD j 0).toNat_lt
  omega
theorem bv_eq {l : List UInt8} {j : Nat} {d : UInt8} (h : l.getD j 0 = d) : (bv l j == (d.toNat : Int)) = true := by
  unfold bv; rw [h]; simp
theorem bv_ne {l : List UInt8} {j : Nat} {d : UInt8} (h : l.getD j 0 ≠ d) : (bv l j == (d.toNat : Int)) = false := by
  rw [beq_eq_false_iff_ne]
  intro e
  unfold bv at e
  exact h (UInt8.toNat_inj.1 (by omega))
theorem drop_getD (l : List UInt8) (k : Nat) (h : k < l.length) : l.drop k = l.getD k 0 :: l.drop (k + 1) := by
  rw [List.drop_eq_getElem_cons h]
  simp [List.getD, List.getElem?_eq_getElem h]
theorem take_getD (l : List UInt8) (k : Nat) (h : k < l.length) : l.take (k + 1) = l.take k ++ [l.getD k 0] := by
  rw [List.take_succ_eq_append_getElem h]
  simp [List.getD, List.getElem?_eq_getElem h]

theorem bc_getD (l : List UInt8) (j : Nat) (h : j < l.length) : (bc l)[j]? = some (.int .u8 (bv l j)) := by
  unfold bc bv
  simp [List.getElem?_eq_getElem h, List.getD]

theorem OwnB.cell {e : TypeId} {B : Nat} {w : World} {g n cap : Nat} {l : List UInt8} (h : OwnB e B w (.slice (some ⟨g, 0, none⟩) n cap) l) (j : Nat) (hj : j < l.length) : w.cell? ⟨g, j, none⟩ = some (.int .u8 (bv l j)) := by
  have hn := h.len
  subst hn
  rw [World.ownsRow.cellAt h j (by omega)]
  exact bc_getD l j hj
theorem OwnB.frozen {e : TypeId} {B : Nat} {w : World} {g n cap : Nat} {l : List UInt8} (h : OwnB e B w (.slice (some ⟨g, 0, none⟩) n cap) l) (j : Nat) : w.frozen? ⟨g, j, none⟩ = false := by
  have hn := h.len
  subst hn
  exact World.ownsRow.frozenAt h j
theorem OwnB.ge {e : TypeId} {B : Nat} {w : World} {g n cap : Nat} {l : List UInt8} (h : OwnB e B w (.slice (some ⟨g, 0, none⟩) n cap) l) : B ≤ g ∧ g < w.heap.size := by
  exact World.ownsRow.lt h g rfl
theorem OwnB.set {e : TypeId} {B : Nat} {w : World} {g n cap : Nat} {l : List UInt8} (h : OwnB e B w (.slice (some ⟨g, 0, none⟩) n cap) l) (j : Nat) (b : UInt8) (x : Int) (hx : x = (b.toNat : Int)) :
    OwnB e B (w.setCell ⟨g, j, none⟩ (.int .u8 x)) (.slice (some ⟨g, 0, none⟩) n cap) (l.set j b) := by
  have hn := h.len
  subst hn
  subst hx
  have := (World.ownsRow.stored h j (.int .u8 (b.toNat : Int))).1
  unfold OwnB
  have e1 : bc (l.set j b) = (bc l).set j (.int .u8 (b.toNat : Int)) := by simp [bc, List.map_set]
  rw [e1, List.length_set]
  exact this
/-- What is owned stays owned in a later world in which that block has not turned. -/
theorem OwnB.later {e : TypeId} {B : Nat} {w w' : World} {v : Value} {l : List UInt8} (h : OwnB e B w v l) {C : Nat} (hb : Below C w w') (hC : ∀ k, v.ownBlock = some k → k < C) : OwnB e B w' v l := by
  unfold OwnB at h ⊢
  obtain ⟨h1, h2⟩ := h
  refine ⟨h1, ?_⟩
  rcases h2 with h2 | ⟨g, cap, cur, hv, hB, hg, hrest⟩
  · exact .inl h2
  · refine .inr ⟨g, cap, cur, hv, hB, ?_, hrest⟩
    rw [hb.block g (hC g (by rw [hv]; rfl))]
    exact hg

/-- 'append(t, p...)', t the call's own, p another slice of bytes, its cells known. -/
theorem wpL_row {w : World} {ops : Array Oper} {rest : List Oper} {o : Oper} {a : Act} {Q : Exit → Act → World → Prop} (hgd : o.guard = none) (sl x : Operand) (t e : TypeId)
    (ho : o.op = .call { callee := .builtin .append, args := #[sl, x], argTypes := #[t, t] })
    (ht : P.underlying t = some (.slice e)) (hr : ByteRow P e)
    (B : Nat) (v : Value) (l : List UInt8) (hs : a.eval sl = v) (hown : OwnB e B w v l)
    (ad : Option Addr) (m c : Nat) (hx : a.eval x = .slice ad m c) (news : List UInt8) (hm : news.length = m) (hnil : ad = none → m = 0 ∧ c = 0)
    (hcell : ∀ x, ad = some x → ∀ j, j < m → w.cell? (x.add j) = some (.int .u8 (bv news j)))
    (hlen : l.length + news.length ≤ 100000000) (hB : B ≤ w.heap.size)
    (h : ∀ ao n cap w', OwnB e B w' (.slice ao n cap) (l ++ news) → n ≤ 100000000 → Below B w w' → B ≤ w'.heap.size → wpList P ops Q rest (a.put o.dst (.slice ao n cap)) w') : wpList P ops Q (o :: rest) a w := by
  obtain ⟨i, hi, hz0, hz1, hz2⟩ := info_parts hr
  cases ad with
  | none =>
    obtain ⟨rfl, rfl⟩ := hnil rfl
    have hn0 : news = [] := List.eq_nil_of_length_eq_zero hm
    subst hn0
    refine wpList_append_own_none hgd sl x t ho B e i 1 ht hi v l.length (bc l) hs hown hx ?_
    obtain ⟨ao, cap, hv⟩ := hown.form
    subst hv
    exact h ao _ cap w (by simpa using hown) (by simp at hlen; omega) (Below.refl _ _) hB
  | some x0 =>
    have hm1 : l.length + m ≤ maxLen := by unfold maxLen; omega
    refine wpList_append_own w hgd sl x t ho B e i (.int .u8 0) 1 1 ht hi hz0 hz1 hz2 rfl (by decide) v l.length (bc l) hs hown x0 m c (bc news) hx (by rw [bc_length]; omega) ?_ (bc_oneCell _) hm1 (by omega) hB ?_
    · intro j u hj
      have hjl : j < news.length := by
        have := (List.getElem?_eq_some_iff.1 hj).1
        rw [bc_length] at this
        exact this
      rw [hcell x0 rfl j (by omega)]
      rw [bc_getD _ _ hjl] at hj
      exact hj
    · intro v' w' hown' hgrow _
      have hl' : (l ++ news).length = l.length + m := by rw [List.length_append, hm]
      have hb' : OwnB e B w' v' (l ++ news) := by
        unfold OwnB
        rw [hl', bc_append]
        exact hown'
      have hbel : Below B w w' := (Below.refl B w).grown hgrow hB (fun k hk => (World.ownsRow.lt hown k hk).1)
      obtain ⟨ao, cap, hv⟩ := hb'.form
      subst hv
      exact h ao _ cap w' hb' (by omega) hbel (Nat.le_trans hB hbel.size)

/-- A slice that came in: its bytes. -/
def RowAt (w : World) (a : Option Addr) (len : Nat) (l : List UInt8) : Prop :=
  l.length = len ∧ ((a = none ∧ len = 0) ∨ ∃ x, a = some x ∧ ∀ i, i < len → w.cell? (x.add i) = some (.int .u8 (bv l i)))

theorem OwnB.letter {e : TypeId} {B : Nat} {w : World} {v : Value} {l : List UInt8} (h : OwnB e B w v l) : ∃ r, Hid (r = l) ∧ OwnB e B w v r := ⟨l, rfl, h⟩

theorem ret_bool {a b : Bool} (h : a = b) : Ending.returned (.bool a) = .returned (.bool b) := by rw [h]
theorem ret_int {k : IntKind} {a b : Int} (h : a = b) : Ending.returned (.int k a) = .returned (.int k b) := by rw [h]

theorem rowOf {w : World} {a : Option Addr} {len cap : Nat} {zs : List Int} (hrow : (a = none ∧ len = 0 ∧ cap = 0 ∧ zs = []) ∨
    ∃ x, a = some x ∧ len ≤ cap ∧ cap ≤ maxLen ∧ zs.length = cap ∧ (∀ i, i < zs.length → w.cell? (x.add i) = some (.int .u8 (zs.getD i 0))) ∧ ∀ n ∈ zs, (Lit.int .u8 n).wf = true) :
    ∃ l, RowAt w a len l ∧ len ≤ maxLen := by
  rcases hrow with ⟨rfl, rfl, rfl, rfl⟩ | ⟨x, rfl, hl, hm, hz, hcell, hwf⟩
  · exact ⟨[], ⟨rfl, .inl ⟨rfl, rfl⟩⟩, by unfold maxLen; omega⟩
  · refine ⟨(zs.take len).map fun n => UInt8.ofNat n.toNat, ⟨by simp; omega, .inr ⟨x, rfl, fun i hi => ?_⟩⟩, by omega⟩
    rw [hcell i (by omega)]
    have hlt : i < zs.length := by omega
    have hb : 0 ≤ zs[i] ∧ zs[i] ≤ 255 := by
      have := hwf zs[i] (List.getElem_mem hlt)
      have e1 : IntKind.u8.min = 0 := by decide
      have e2 : IntKind.u8.max = 255 := by decide
      simp [Lit.wf, e1, e2] at this
      omega
    have e1 : zs.getD i 0 = zs[i] := by simp [List.getD, List.getElem?_eq_getElem hlt]
    have e2 : ((zs.take len).map fun n => UInt8.ofNat n.toNat).getD i 0 = UInt8.ofNat zs[i].toNat := by
      have h1 : ((zs.take len).map fun n => UInt8.ofNat n.toNat)[i]? = some (UInt8.ofNat zs[i].toNat) := by
        rw [List.getElem?_map, List.getElem?_take, if_pos hi, List.getElem?_eq_getElem hlt]
        rfl
      rw [List.getD_eq_getElem?_getD, h1]
      rfl
    have e3 : bv ((zs.take len).map fun n => UInt8.ofNat n.toNat) i = zs[i] := by
      unfold bv
      rw [e2, UInt8.toNat_ofNat']
      omega
    rw [e1, e3]

end
end Go.Proofs.Qxb6602525aMods
