/-
  PLAIN AIDS OVER ANY PROGRAM: several slices of the call's own side by side: where the new one lies ('Mov'), what is kept.
-/
import Derived.Test.Qxb6600600aModsWe
import Derived.Deep.AppendLies
import Derived.WalkSmall
namespace Go.Proofs.Qxb6600600aMods
open Go.RowKit

/-- From w to w' the row at block g alone was written; it lies at block g' now: the same one, or a new one. -/
def Mov (g : Nat) (w : World) (g' : Nat) (w' : World) : Prop := w.grownBy w' (some g) ∧ (g' = g ∨ w.heap.size ≤ g') ∧ g' < w'.heap.size

theorem Mov.refl {g : Nat} {w : World} (h : g < w.heap.size) : Mov g w g w := ⟨World.grownBy.refl w _, .inl rfl, h⟩
theorem Mov.trans {g g' g'' : Nat} {w w' w'' : World} (h : Mov g w g' w') (k : Mov g' w' g'' w'') : Mov g w g'' w'' := by
  obtain ⟨h1, h2, h3⟩ := h
  obtain ⟨k1, k2, k3⟩ := k
  refine ⟨⟨k1.os.trans h1.os, k1.tape.trans h1.tape, k1.output.trans h1.output, Nat.le_trans h1.size k1.size, fun i hi hne => ?_⟩, ?_, k3⟩
  · have hg : i ≠ g := fun e => hne (by rw [e])
    rw [k1.block i (Nat.lt_of_lt_of_le hi h1.size) (fun e => by injection e with e; rcases h2 with h2 | h2 <;> omega), h1.block i hi hne]
  · have := h1.size
    rcases k2 with k2 | k2
    · rw [k2]; exact h2
    · right; omega
theorem Mov.kept {g g' : Nat} {w w' : World} (h : Mov g w g' w') {B : Nat} {e : TypeId} {k n cap : Nat} {xs : List Value} (ho : w.ownsRow B e 1 (.slice (some ⟨k, 0, none⟩) n cap) n xs) (hne : k ≠ g) : w'.ownsRow B e 1 (.slice (some ⟨k, 0, none⟩) n cap) n xs :=
  World.ownsRow.kept ho h.1 (.inr (fun e => hne (by injection e)))
theorem Mov.keptB {g g' : Nat} {w w' : World} (h : Mov g w g' w') {B : Nat} {e : TypeId} {k n cap : Nat} {l : List UInt8} (ho : OwnB e B w (.slice (some ⟨k, 0, none⟩) n cap) l) (hne : k ≠ g) : OwnB e B w' (.slice (some ⟨k, 0, none⟩) n cap) l :=
  World.ownsRow.kept ho h.1 (.inr (fun e => hne (by injection e)))
theorem Mov.below {g g' : Nat} {w w' : World} (h : Mov g w g' w') {B : Nat} (hB : B ≤ g) (hw : B ≤ w.heap.size) : Below B w w' :=
  (Below.refl B w).grown h.1 hw (fun k hk => by injection hk with hk; omega)
theorem Mov.ne {g g' : Nat} {w w' : World} (h : Mov g w g' w') {k : Nat} (hk : k < w.heap.size) (hne : k ≠ g) : k ≠ g' := by
  rcases h.2.1 with h2 | h2 <;> omega

/-- The element type's row of the program's table: one cell, one byte. -/
def OneRow (P : Program) (e : TypeId) (z : Value) : Prop := (P.info? e).map (fun i => (i.zero, i.size, i.bytes)) = some (some z, 1, 1)

section
variable {P : Program}

/-- 'append(t, x, ..)', what is appended laid in a block of its own just ahead: where the new slice lies. -/
theorem wpL_at {w : World} {cs : Array Value} {ops : Array Oper} {rest : List Oper} {o : Oper} {a : Act} {Q : Exit → Act → World → Prop} (hgd : o.guard = none) (sl x : Operand) (t e : TypeId) (z : Value)
    (ho : o.op = .call { callee := .builtin .append, args := #[sl, x], argTypes := #[t, t] })
    (ht : P.underlying t = some (.slice e)) (hr : OneRow P e z) (hz : z.cells.size = 1)
    (B g n cap : Nat) (xs : List Value) (hs : a.eval sl = .slice (some ⟨g, 0, none⟩) n cap) (hown : w.ownsRow B e 1 (.slice (some ⟨g, 0, none⟩) n cap) n xs)
    (m c : Nat) (hx : a.eval x = .slice (some ⟨w.heap.size, 0, none⟩) m c) (hm : cs.size = m) (h0 : 0 < m) (h1 : ∀ u ∈ cs.toList, u.oneCell' = true)
    (hlen : n + m ≤ 100000000) (hB : B ≤ w.heap.size)
    (h : ∀ g' cap' w', w'.ownsRow B e 1 (.slice (some ⟨g', 0, none⟩) (n + m) cap') (n + m) (xs ++ cs.toList) → Mov g w g' w' → wpList P ops Q rest (a.put o.dst (.slice (some ⟨g', 0, none⟩) (n + m) cap')) w') : wpList P ops Q (o :: rest) a (w.alloc (.cells cs e)) := by
  obtain ⟨i, hi, hz0, hz1, hz2⟩ := info_parts hr
  have hm1 : n + m ≤ maxLen := by unfold maxLen; omega
  refine wpList_append_lies (w.alloc (.cells cs e)) hgd sl x t ho B e i z 1 1 ht hi hz0 hz1 hz2 hz (by decide) (.slice (some ⟨g, 0, none⟩) n cap) n xs hs (World.ownsRow.alloc hown _) ⟨w.heap.size, 0, none⟩ m c cs.toList hx (by simp; omega) ?_ h1 h0 hm1 (by omega) (by simp; omega) (w.heap.size + 1) (by simp) ?_
  · intro j u hj
    rw [add_lit0, Nat.zero_add, World.cell?_alloc_mark]
    simpa using hj
  · intro g' cap' w' hown' hgrow hat hlt
    refine h g' cap' w' hown' ⟨⟨hgrow.os, hgrow.tape, hgrow.output, ?_, fun k hk hne => ?_⟩, ?_, hlt⟩
    · have := hgrow.size
      simp at this
      omega
    · rw [hgrow.block k (by simp; omega) hne]
      exact Below.heap_alloc w _ k hk
    · rcases hat with h2 | h2
      · left; injection h2 with h2; exact h2.symm
      · right; omega

/-- The same, the elements bytes. -/
theorem wpL_atB {w : World} {cs : Array Value} {ops : Array Oper} {rest : List Oper} {o : Oper} {a : Act} {Q : Exit → Act → World → Prop} (hgd : o.guard = none) (sl x : Operand) (t e : TypeId)
    (ho : o.op = .call { callee := .builtin .append, args := #[sl, x], argTypes := #[t, t] })
    (ht : P.underlying t = some (.slice e)) (hr : ByteRow P e)
    (B g n cap : Nat) (l : List UInt8) (hs : a.eval sl = .slice (some ⟨g, 0, none⟩) n cap) (hown : OwnB e B w (.slice (some ⟨g, 0, none⟩) n cap) l)
    (m c : Nat) (hx : a.eval x = .slice (some ⟨w.heap.size, 0, none⟩) m c) (news : List UInt8) (hcs : cs.toList = bc news) (hm : news.length = m) (h0 : 0 < m)
    (hlen : l.length + news.length ≤ 100000000) (hB : B ≤ w.heap.size)
    (h : ∀ g' n' cap' w', OwnB e B w' (.slice (some ⟨g', 0, none⟩) n' cap') (l ++ news) → n' ≤ 100000000 → Mov g w g' w' → wpList P ops Q rest (a.put o.dst (.slice (some ⟨g', 0, none⟩) n' cap')) w') : wpList P ops Q (o :: rest) a (w.alloc (.cells cs e)) := by
  have hn := hown.len
  subst hn
  refine wpL_at hgd sl x t e (.int .u8 0) ho ht hr rfl B g _ cap (bc l) hs hown m c hx (by rw [← Array.length_toList, hcs, bc_length, hm]) h0 (by rw [hcs]; exact bc_oneCell _) (by omega) hB ?_
  intro g' cap' w' hown' hmov
  have hl' : (l ++ news).length = l.length + m := by rw [List.length_append, hm]
  refine h g' (l.length + m) cap' w' ?_ (by omega) hmov
  unfold OwnB
  rw [hl', bc_append, ← hcs]
  exact hown'

/-- 'append(t, "..."...)'. -/
theorem run_str_at (w : World) (t u ty e : TypeId) (ht : P.underlying t = some (.slice e)) (hu : P.underlying u = some .string) (hr : ByteRow P e) (B g n cap : Nat) (l : List UInt8)
    (hown : OwnB e B w (.slice (some ⟨g, 0, none⟩) n cap) l) (s : ByteArray) (hlen : l.length + s.size ≤ 100000000) (hB : B ≤ w.heap.size) :
    ∃ g' n' cap' w', (Builtin.append_ #[t, u] ty #[.slice (some ⟨g, 0, none⟩) n cap, .string s]).run P w = .ok (.slice (some ⟨g', 0, none⟩) n' cap') w' ∧
      OwnB e B w' (.slice (some ⟨g', 0, none⟩) n' cap') (l ++ s.data.toList) ∧ n' ≤ 100000000 ∧ Mov g w g' w' := by
  obtain ⟨i, hi, hz0, hz1, hz2⟩ := info_parts hr
  have hn := hown.len
  subst hn
  have hge := hown.ge
  obtain ⟨v', w', hrun, h2, h3, _⟩ := Lib.run_append_own_string (P := P) w B t u ty e i ht hu hi hz0 hz1 hz2 (.slice (some ⟨g, 0, none⟩) l.length cap) l.length (bc l) hown s (by unfold maxLen; omega) (by omega) hB
  have hl' : (l ++ s.data.toList).length = l.length + s.size := by rw [List.length_append, Array.length_toList]; rfl
  have hO : OwnB e B w' v' (l ++ s.data.toList) := by
    unfold OwnB
    rw [hl', bc_append]
    exact h2
  rcases hown.2 with ⟨h4, _⟩ | ⟨g2, cap2, cur, hv, hb, hg, hnc, hcm, hcs, htake⟩
  · injection h4 with h4; cases h4
  injection hv with hv1 hv2 hv3
  injection hv1 with hv1
  injection hv1 with hv1
  subst hv1
  subst hv3
  by_cases hroom : l.length + s.size ≤ cap
  · have hr2 := Lib.run_append_room_string (P := P) w t u ty e i ht hu hi hz1 g l.length cap cur hg s hroom (by omega)
    rw [hr2] at hrun
    injection hrun with e1 e2
    subst e1
    exact ⟨g, _, _, w', by rw [hr2, e2], hO, by omega, h3, .inl rfl, Nat.lt_of_lt_of_le hge.2 h3.size⟩
  · have holds : ∀ j u, (bc l)[j]? = some u → w.cell? ((⟨g, 0, none⟩ : Addr).add j) = some u := World.ownsRow.cells hown (g := g) rfl
    have hr2 := Lib.run_append_grow_string (P := P) w t u ty e i (.int .u8 0) ht hu hi hz0 ⟨g, 0, none⟩ l.length cap (bc l) (by rw [bc_length, hz1]; omega) holds s (by omega) (by omega) (by rw [hz2]; exact growslice_fits (by omega) (by omega))
    rw [hr2] at hrun
    injection hrun with e1 e2
    subst e1
    refine ⟨w.heap.size, _, _, w', by rw [hr2, e2], hO, by omega, h3, .inr (Nat.le_refl _), ?_⟩
    exact hO.ge.2

theorem wpL_strAt {w : World} {ops : Array Oper} {rest : List Oper} {o : Oper} {a : Act} {Q : Exit → Act → World → Prop} (hgd : o.guard = none) (sl x : Operand) (t u e : TypeId)
    (ho : o.op = .call { callee := .builtin .append, args := #[sl, x], argTypes := #[t, u] })
    (ht : P.underlying t = some (.slice e)) (hu : P.underlying u = some .string) (hr : ByteRow P e)
    (B g n cap : Nat) (l : List UInt8) (hs : a.eval sl = .slice (some ⟨g, 0, none⟩) n cap) (hown : OwnB e B w (.slice (some ⟨g, 0, none⟩) n cap) l) (s : ByteArray) (hx : a.eval x = .string s)
    (hlen : l.length + s.size ≤ 100000000) (hB : B ≤ w.heap.size)
    (h : ∀ g' n' cap' w', OwnB e B w' (.slice (some ⟨g', 0, none⟩) n' cap') (l ++ s.data.toList) → n' ≤ 100000000 → Mov g w g' w' → wpList P ops Q rest (a.put o.dst (.slice (some ⟨g', 0, none⟩) n' cap')) w') : wpList P ops Q (o :: rest) a w := by
  refine wpList_plain hgd fun K hK => ?_
  obtain ⟨g', n', cap', w', hr, h2, h3, h4⟩ := run_str_at (P := P) w t u o.type e ht hu hr B g n cap l hown s hlen hB
  unfold Oper.wp execOp
  simp only [ho, resolve, invoke, builtin, Sem.run_bind, Sem.run_pure, Result.andThen_ok, List.map_toArray, List.map_cons, List.map_nil, hs, hx, hr]
  exact hK _ _ (h g' n' cap' w' h2 h3 h4)
end
end Go.Proofs.Qxb6600600aMods
