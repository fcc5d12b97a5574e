/-
  'Rows.FnUnescapeASCIIMatchesTableSaid', PROVED: the guide's shell (proof-skeleton.mjs); the walk out of the contracts of this seat's own texts.
-/
import Derived.Test.Qxb6601660aModsRows
import Derived.WalkKit
import Derived.ProofKit
import Derived.OpenShut
import Derived.ShutString
import Derived.ChangeOld
import Derived.Below
import Derived.Test.Qxb6601660aModsWd
import Derived.Test.Qxb6601660aModsHead
namespace Go.Proofs.Qxb6601660aMods.fnUnescapeASCIIMatchesTable
open Go.ChangeShapes Go.WideShapes Go.ChangeAt Go.RowKit
open Go.ChangeMaps (open_string shut_string)
set_option linter.unusedVariables false

theorem own : ownKnob Trym.prog.godebug = none := by kernel_rfl
theorem laidOut : laidOutB Trym.prog = true := by kernel_rfl

/-- WHAT THE WALK IS TOLD OF A SLICE OF INTEGERS THAT CAME IN: it is nil; or it leads to a row of 'cap' cells, the numbers 'zs' (the first 'len' are its elements, the rest its spare room), each fitting its kind. -/
def IsRow (k : IntKind) (w : World) (a : Option Addr) (len cap : Nat) (zs : List Int) : Prop :=
  (a = none ∧ len = 0 ∧ cap = 0 ∧ zs = []) ∨
  ∃ x, a = some x ∧ len ≤ cap ∧ cap ≤ maxLen ∧ zs.length = cap ∧ (∀ i, i < zs.length → w.cell? (x.add i) = some (.int k (zs.getD i 0))) ∧ ∀ n ∈ zs, (Lit.int k n).wf = true

/-! ### STEP 1: THE WALK: the Go text returns true, and writes nothing that was there. -/
set_option maxHeartbeats 1000000 in
theorem walk (a0 : Option Addr) (len0 cap0 : Nat) (z0 : List Int) (w : World) (w0 : IsRow .u8 w a0 len0 cap0 z0) :
    Calls Trym.prog 5 #[.slice a0 len0 cap0] w fun e w' => e = .returned (.bool true) ∧ Below w.heap.size w w' := by
  obtain ⟨l, hrow, hlen⟩ := rowOf w0
  clear w0
  have HR : Hid (RowAt w a0 len0 l) := hrow
  have HL : Hid (l.length = len0) := hrow.1
  by_cases h20 : len0 ≤ 1048576
  · have hd : decide (len0 ≤ 1048576) = true := by simp [h20]
    have d1 : decide ((1048576 : Int) < (len0 : Int)) = false := by simp; omega
    rcases hrow.2 with ⟨rfl, rfl⟩ | ⟨x, rfl, hcell⟩
    · have hnil := fun wx : World => run_neq_slice_nil_any (P := Trym.prog) wx 22 5 none 0 cap0 0 0 Trym.underlying22
      simp only [Option.isNone_none, Bool.not_true] at hnil
      clear hrow
      go_enter Trym.func5, Trym.ntmps5
      go_wp2_with (first | (go_at_call 14; refine (bytes14_any none 0 cap0 _ hlen).mono ?_; rintro e w' ⟨rfl, hw'⟩; subst hw') | (go_at_call 15; refine (zz_few none 0 cap0 _ (by omega)).mono ?_; rintro e w5 ⟨rfl, hw5⟩; subst hw5) | (go_at_call 16; refine (table_few none 0 cap0 _ (by omega)).mono ?_; rintro e w6 ⟨rfl, hw6⟩; subst hw6))
      go_ret
      exact ⟨rfl, Below.refl _ _⟩
    · have hnil := fun wx : World => run_neq_slice_nil_any (P := Trym.prog) wx 22 5 (some x) len0 cap0 0 0 Trym.underlying22
      simp only [Option.isNone_some, Bool.not_false] at hnil
      clear hrow hcell
      go_enter Trym.func5, Trym.ntmps5
      go_wp2_with (first | (go_at_call 14; refine (bytes14_any (some x) len0 cap0 _ hlen).mono ?_; rintro e w' ⟨rfl, hw'⟩; subst hw') | (at_make; refine wpL_make rfl (.tmp 17) (.tmp 17) 22 5 rfl Trym.underlying22 Trym.brow w'.heap.size .i64 .i64 _ _ len0 rfl rfl rfl rfl (by omega) (Nat.le_refl _) ?_; intro wa hO0 hbela hsza; obtain ⟨wb, hcp, hO1, hbelb⟩ := run_copy_own (P := Trym.prog) wa 22 3 5 Trym.underlying22 Trym.brow w'.heap.size _ len0 len0 _ l hO0 x cap0 HL.out (row_later HR.out hbela x rfl)))
      have HO : Hid (OwnB 5 w'.heap.size wb (.slice (some ⟨w'.heap.size, 0, none⟩) len0 len0) l) := hO1
      have hbel := hbela.trans hbelb
      clear hO0 hO1
      by_cases h2 : len0 < 2
      · go_wp2_with (first | (go_at_call 15; refine (zz_few _ len0 len0 _ h2).mono ?_; rintro e w5 ⟨rfl, hw5⟩; subst hw5) | (go_at_call 16; refine (table_few _ len0 len0 _ h2).mono ?_; rintro e w6 ⟨rfl, hw6⟩; subst hw6))
        go_ret
        exact ⟨rfl, hbel⟩
      · have HC : Hid (∀ j, j < len0 → wb.cell? ⟨w'.heap.size, j, none⟩ = some (.int .u8 (bv l j))) := fun j hj => HO.out.cell j (by rw [HL.out]; exact hj)
        have h2' : 2 ≤ len0 := by omega
        obtain ⟨ua, ub, hu⟩ : ∃ ua ub, une l = (ua, ub) := ⟨_, _, rfl⟩
        have HU : Hid (une l = (ua, ub)) := hu
        clear hu HO
        go_wp2_with (first | (go_at_call 15; refine (zz_to w'.heap.size len0 len0 l ua ub _ HL.out (by omega) h2' (Nat.le_refl _) hlen HC.out HU.out).mono ?_; rintro e w5 ⟨rfl, hw5⟩; subst hw5) | (go_at_call 16; refine (table_to w'.heap.size len0 len0 l ua ub _ HL.out (by omega) h2' HC.out HU.out).mono ?_; rintro e w6 ⟨rfl, hw6⟩; subst hw6))
        go_ret
        exact ⟨rfl, hbel⟩
  · have hd : decide (len0 ≤ 1048576) = false := by simp; omega
    go_enter Trym.func5, Trym.ntmps5
    go_wp2_with (go_at_call 14; refine (bytes14_any a0 len0 cap0 _ hlen).mono ?_; rintro e w' ⟨rfl, rfl⟩)
    go_ret
    exact ⟨rfl, Below.refl _ _⟩

/-! ### THE ROW's STEP: WRITTEN OUT: LEAVE IT -/
set_option maxRecDepth 100000 in
theorem lifted (os : Os) (started : os.Started) (H : Type) (enc : TypeId × Value → H) :
    ReturnsInHanded {} Trym.checked os 5 .any (Rows.fnUnescapeASCIIMatchesTableSpec.pre6 enc Trym.prog Trym.f5 Rows.fnUnescapeASCIIMatchesTableRow.domain false) (Rows.fnUnescapeASCIIMatchesTableSpec.post enc Trym.prog Trym.f5 false true false false) := by
  refine returnsInHanded_of_change (C := Trym.checked) own started (by kernel_rfl) Trym.func5
    (ChangeSpec.witness6 (enc := enc) (C := Trym.checked) false ⟨#[], #[.slice none 0 0], []⟩ 8 (by kernel_rfl) (by kernel_rfl) (by kernel_rfl) (by kernel_rfl)) ?_
  intro W base args ds gs before hval0 hW hcnd _
  have hval : ∀ (j : Nat) t v, Trym.f5.params[j]? = some t → args[j]? = some v → Value.okWide Trym.prog W .any base t v := hval0
  have hW' := hW
  obtain ⟨p, q, hA0, hV, rfl, hfz, hnd⟩ := hW
  have hA : DataW.TrodAll enc Trym.prog W 0 (fun _ => true) true Trym.f5.params.toList args.toList ds p := hA0
  rw [Trym.params5] at hA hval
  obtain ⟨v0, vs0, d0, ds0, p0, q0, hargs, rfl, rfl, h0, r0⟩ := trodAll_cons hA
  obtain ⟨rfl, rfl, rfl⟩ := trodAll_nil r0
  obtain rfl : args = #[v0] := by cases args; simp_all
  obtain ⟨rfl, rfl⟩ := trodVars_none hV
  obtain ⟨a0, len0, cap0, rfl⟩ := okWide_slice Trym.underlying22 (hval 0 22 v0 rfl rfl)
  have k0 := h0
  have lt0 : ∀ x ∈ p0, x.block < W.heap.size := by obtain ⟨m, hm⟩ := k0; exact DataW.trod_lt m _ _ _ hm
  obtain ⟨z0, w0⟩ : ∃ zs, IsRow .u8 W a0 len0 cap0 zs := by
    obtain ⟨fuel, hf⟩ := h0
    rcases open_ints Trym.underlying22 Trym.underlying5 (by kernel_rfl) hf with ⟨hcs, _⟩ | ⟨x, l, c, zs, hcs, _, hl, hm, hz, _, hcell, hwz⟩
    · simp [Value.cells] at hcs
      obtain ⟨rfl, rfl, rfl⟩ := hcs
      exact ⟨[], .inl ⟨rfl, rfl, rfl, rfl⟩⟩
    · simp [Value.cells] at hcs
      obtain ⟨rfl, rfl, rfl⟩ := hcs
      exact ⟨zs, .inr ⟨_, rfl, hl, hm, by simpa using hz, hcell, hwz⟩⟩
  clear hA0 hval0
  refine (walk a0 len0 cap0 z0 W w0).mono fun e W' ⟨he, bel⟩ => ?_
  subst he
  exact ⟨_, rfl, _, _, _, [], _, [], hW', trodAll_mk1 (shut_bool Trym.underlying4 _), (trodAll_cons_mk (Below.trod laidOut (by kernel_rfl) (of_decide_eq_true (by kernel_rfl)) k0 bel lt0) trodAll_mk0), rfl, bel.frame _, fun h => by cases h⟩

theorem closed1 : Trym.pinned.checked.prog.funcNamed Rows.fnUnescapeASCIIMatchesTableRow.func = some 5 := by kernel_rfl
theorem closed2 : joinedFacts Trym.pinned.checked.prog 5 Trym.f5 Rows.fnUnescapeASCIIMatchesTableSpec Rows.fnUnescapeASCIIMatchesTableRow = true := by
  rw [pinned_prog]
  unfold joinedFacts
  rw [mayEnter_ok, liftsFinal_ok, make_ok]
  kernel_rfl
theorem closed3 : Trym.f5.isInstance Trym.pinned.checked.prog Rows.fnUnescapeASCIIMatchesTableRow.origin Rows.fnUnescapeASCIIMatchesTableRow.targs := of_decide_eq_true (by kernel_rfl)
theorem closed4 : Trym.f5.isWrapper Trym.pinned.checked.prog Rows.fnUnescapeASCIIMatchesTableRow.wrapper Rows.fnUnescapeASCIIMatchesTableRow.mainSum := by
  unfold Func.isWrapper; first | (rw [if_pos (by decide +kernel)]; kernel_rfl) | (rw [if_neg (by decide +kernel)]; exact ⟨rfl, rfl⟩)
theorem over : Rows.fnUnescapeASCIIMatchesTableRow.holds Trym.pinned (OpenSpec.ofChange Rows.fnUnescapeASCIIMatchesTableSpec) :=
  OpenClaim.holds_of_wide 5 Trym.f5 rfl rfl rfl rfl rfl rfl rfl ⟨rfl, rfl, rfl, rfl, rfl⟩ rfl rfl rfl rfl rfl closed1 Trym.func5 closed2
    closed3 closed4
    (fun os started H enc _ => lifted os started H enc)

/-- ████ THE STATEMENT ████ -/
theorem proved : Rows.FnUnescapeASCIIMatchesTableSaid := over
end Go.Proofs.Qxb6601660aMods.fnUnescapeASCIIMatchesTable
