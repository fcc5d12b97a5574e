/-
  PLAIN AIDS OVER ANY PROGRAM: a slice of bytes that the call itself owns ('OwnB'), appends onto it, 'string(b)' of it.
-/
import Derived.WalkKit
import Derived.Lib.AppendStr
import Derived.Laws.IdiomStrings
namespace Go.Proofs.Qxb6001356aMods
open Go.RowKit

/-- Bytes as cells. -/
def bc (l : List UInt8) : List Value := l.map fun b => Value.int .u8 b.toNat

theorem bc_length (l : List UInt8) : (bc l).length = l.length := by simp [bc]
theorem bc_append (l r : List UInt8) : bc (l ++ r) = bc l ++ bc r := by simp [bc]
theorem bc_oneCell (l : List UInt8) : ∀ u ∈ bc l, u.oneCell' = true := by
  intro u hu
  simp only [bc, List.mem_map] at hu
  obtain ⟨b, _, rfl⟩ := hu
  rfl

/-- The slice value v owns the bytes l, among the blocks from B on (elements of type e). -/
def OwnB (e : TypeId) (B : Nat) (w : World) (v : Value) (l : List UInt8) : Prop := w.ownsRow B e 1 v l.length (bc l)

theorem OwnB.form {e : TypeId} {B : Nat} {w : World} {v : Value} {l : List UInt8} (h : OwnB e B w v l) : ∃ ao cap, v = .slice ao l.length cap := by
  rcases h.2 with ⟨h1, h2⟩ | ⟨g, cap, cur, h1, _⟩
  · exact ⟨none, 0, by rw [h1, h2]⟩
  · exact ⟨some ⟨g, 0, none⟩, cap, h1⟩

theorem OwnB.len {e : TypeId} {B : Nat} {w : World} {ao : Option Addr} {n cap : Nat} {l : List UInt8} (h : OwnB e B w (.slice ao n cap) l) : n = l.length := by
  obtain ⟨ao', cap', h1⟩ := h.form
  injection h1

theorem OwnB.nil (e : TypeId) (B : Nat) (w : World) : OwnB e B w (.slice none 0 0) [] := World.ownsRow_nil w B e 1

theorem OwnB.alloc {e : TypeId} {B : Nat} {w : World} {v : Value} {l : List UInt8} (h : OwnB e B w v l) (o : Obj) : OwnB e B (w.alloc o) v l := World.ownsRow.alloc h o
theorem OwnB.drew {e : TypeId} {B : Nat} {w : World} {v : Value} {l : List UInt8} (h : OwnB e B w v l) : OwnB e B w.drew v l := h

/-- The element type's row of the program's table. -/
def ByteRow (P : Program) (e : TypeId) : Prop := (P.info? e).map (fun i => (i.zero, i.size, i.bytes)) = some (some (.int .u8 0), 1, 1)

section
variable {P : Program}

/-- 'append(t, s...)', t the call's own, s a string. -/
theorem wpL_str {w : World} {ops : Array Oper} {rest : List Oper} {o : Oper} {a : Act} {Q : Exit → Act → World → Prop} (hgd : o.guard = none) (sl x : Operand) (t u e : TypeId)
    (ho : o.op = .call { callee := .builtin .append, args := #[sl, x], argTypes := #[t, u] })
    (ht : P.underlying t = some (.slice e)) (hu : P.underlying u = some .string) (hr : ByteRow P e)
    (B : Nat) (v : Value) (l : List UInt8) (hs : a.eval sl = v) (hown : OwnB e B w v l) (s : ByteArray) (hx : a.eval x = .string s)
    (hlen : l.length + s.size ≤ 100000000) (hB : B ≤ w.heap.size)
    (h : ∀ ao n cap w', OwnB e B w' (.slice ao n cap) (l ++ s.data.toList) → n ≤ 100000000 → Below B w w' → B ≤ w'.heap.size → wpList P ops Q rest (a.put o.dst (.slice ao n cap)) w') : wpList P ops Q (o :: rest) a w := by
  obtain ⟨i, hi, hz0, hz1, hz2⟩ := info_parts hr
  have hm : l.length + s.size ≤ maxLen := by unfold maxLen; omega
  refine Lib.wpList_append_own_string w hgd sl x t u ho B e i ht hu hi hz0 hz1 hz2 v l.length (bc l) hs hown s hx hm (by omega) hB ?_
  intro v' w' hown' hgrow _
  have hl' : (l ++ s.data.toList).length = l.length + s.size := by
    rw [List.length_append, Array.length_toList]; rfl
  have hb' : OwnB e B w' v' (l ++ s.data.toList) := by
    unfold OwnB
    rw [hl', bc_append]
    exact hown'
  have hbel : Below B w w' := (Below.refl B w).grown hgrow hB (fun k hk => (World.ownsRow.lt hown k hk).1)
  obtain ⟨ao, cap, hv⟩ := hb'.form
  subst hv
  exact h ao _ cap w' hb' (by omega) hbel (Nat.le_trans hB hbel.size)

/-- 'append(t, x, y, ..)', t the call's own, what is appended laid in a block of its own just ahead. -/
theorem wpL_lit {w : World} {cs : Array Value} {ops : Array Oper} {rest : List Oper} {o : Oper} {a : Act} {Q : Exit → Act → World → Prop} (hgd : o.guard = none) (sl x : Operand) (t e : TypeId)
    (ho : o.op = .call { callee := .builtin .append, args := #[sl, x], argTypes := #[t, t] })
    (ht : P.underlying t = some (.slice e)) (hr : ByteRow P e)
    (B : Nat) (v : Value) (l : List UInt8) (hs : a.eval sl = v) (hown : OwnB e B w v l)
    (m c : Nat) (hx : a.eval x = .slice (some ⟨w.heap.size, 0, none⟩) m c) (news : List UInt8) (hcs : cs.toList = bc news) (hm : news.length = m)
    (hlen : l.length + news.length ≤ 100000000) (hB : B ≤ w.heap.size)
    (h : ∀ ao n cap w', OwnB e B w' (.slice ao n cap) (l ++ news) → n ≤ 100000000 → Below B w w' → B ≤ w'.heap.size → wpList P ops Q rest (a.put o.dst (.slice ao n cap)) w') : wpList P ops Q (o :: rest) a (w.alloc (.cells cs e)) := by
  obtain ⟨i, hi, hz0, hz1, hz2⟩ := info_parts hr
  have hm1 : l.length + m ≤ maxLen := by unfold maxLen; omega
  refine wpList_append_own (w.alloc (.cells cs e)) hgd sl x t ho B e i (.int .u8 0) 1 1 ht hi hz0 hz1 hz2 rfl (by decide) v l.length (bc l) hs (World.ownsRow.alloc hown _) ⟨w.heap.size, 0, none⟩ m c (bc news) hx (by rw [bc_length]; omega) ?_ (bc_oneCell _) hm1 (by omega) (by simp; omega) ?_
  · intro j u hj
    have hadd : (⟨w.heap.size, 0, none⟩ : Addr).add j = ⟨w.heap.size, j, none⟩ := by unfold Addr.add; split <;> simp_all
    rw [hadd, World.cell?_alloc_mark]
    rw [← hcs] at hj
    simpa using hj
  · intro v' w' hown' hgrow _
    have hl' : (l ++ news).length = l.length + m := by rw [List.length_append, hm]
    have hb' : OwnB e B w' v' (l ++ news) := by
      unfold OwnB
      rw [hl', bc_append]
      exact hown'
    have hbel : Below B w w' := ((Below.refl B w).alloc hB _).grown hgrow (by simp; omega) (fun k hk => (World.ownsRow.lt hown k hk).1)
    obtain ⟨ao, cap, hv⟩ := hb'.form
    subst hv
    exact h ao _ cap w' hb' (by omega) hbel (Nat.le_trans hB hbel.size)

/-- 'string(t)', t the call's own. -/
theorem conv_own {w : World} {e src dst : TypeId} (hs : P.underlying src = some (.slice e)) (he : P.underlying e = some (.int .u8)) (hd : P.underlying dst = some .string)
    {B : Nat} {ao : Option Addr} {n cap : Nat} {l : List UInt8} (h : OwnB e B w (.slice ao n cap) l) :
    (convert src dst (.slice ao n cap)).run P w = .ok (.string ⟨l.toArray⟩) w := by
  have hn := h.len
  subst hn
  rcases h.2 with ⟨h1, h2⟩ | ⟨g, cap', cur, h1, _⟩
  · injection h1 with h3 h4 h5
    subst h3
    have : l = [] := List.eq_nil_of_length_eq_zero h2
    subst this
    rw [run_convert_bytes_string w src dst e none _ cap hs he hd]
    simp [Conv.bytesToString]
    rfl
  · injection h1 with h3 h4 h5
    subst h3
    refine run_convert_bytes_back w src dst e ⟨g, 0, none⟩ cap l hs he hd (fun j hj => ?_)
    have := World.ownsRow.cells h (g := g) rfl j (.int .u8 (l[j].toNat : Int)) (by simp [bc, List.getElem?_eq_getElem hj])
    exact this

end
end Go.Proofs.Qxb6001356aMods
