/-
  'Rows.FnDecodePartInvertsEscapingSaid', PROVED: the guide's shell (proof-skeleton.mjs); the walk out of the contracts of this seat's own texts.
-/
import Derived.Test.Qxb6602525aModsRows
import Derived.WalkKit
import Derived.ProofKit
import Derived.OpenShut
import Derived.ShutString
import Derived.ChangeOld
import Derived.Below
import Derived.Test.Qxb6602525aModsWd
import Derived.Test.Qxb6602525aModsHead
namespace Go.Proofs.Qxb6602525aMods.fnDecodePartInvertsEscaping
open Go.ChangeShapes Go.WideShapes Go.ChangeAt Go.RowKit
open Go.ChangeMaps (open_string shut_string)
set_option linter.unusedVariables false      -- a walk need not use every 'w<i>' (that an integer argument fits its kind)

theorem own : ownKnob Trym.prog.godebug = none := by kernel_rfl

/-! ### STEP 1: THE WALK: the Go text returns true; of what was there nothing turns ('Below'). -/
theorem walk (a0 : ByteArray) (a1 : ByteArray) (w0 : a0.size ≤ maxLen) (w1 : a1.size ≤ maxLen) (w : World) :
    Calls Trym.prog 3 #[.string a0, .string a1] w fun e w' => e = .returned (.bool true) ∧ Below w.heap.size w w' :=
  law_any a0 a1 w0 w1 w

/-! ### THE ROW's STEP: WRITTEN OUT: LEAVE IT -/
set_option maxRecDepth 100000 in
theorem lifted (os : Os) (started : os.Started) (H : Type) (enc : TypeId × Value → H) :
    ReturnsInHanded {} Trym.checked os 3 .any (Rows.fnDecodePartInvertsEscapingSpec.pre6 enc Trym.prog Trym.f3 Rows.fnDecodePartInvertsEscapingRow.domain false) (Rows.fnDecodePartInvertsEscapingSpec.post enc Trym.prog Trym.f3 false true false false) := by
  refine returnsInHanded_of_change (C := Trym.checked) own started (by kernel_rfl) Trym.func3
    (ChangeSpec.witness6 (enc := enc) (C := Trym.checked) false ⟨#[], #[.string ByteArray.empty, .string ByteArray.empty], []⟩ 8 (by kernel_rfl) (by kernel_rfl) (by kernel_rfl) (by kernel_rfl)) ?_
  intro W base args ds gs before hval0 hW hcnd _
  have hval : ∀ (j : Nat) t v, Trym.f3.params[j]? = some t → args[j]? = some v → Value.okWide Trym.prog W .any base t v := hval0
  have hW' := hW
  obtain ⟨p, q, hA0, hV, rfl, hfz, hnd⟩ := hW
  have hA : DataW.TrodAll enc Trym.prog W 0 (fun _ => true) true Trym.f3.params.toList args.toList ds p := hA0
  rw [Trym.params3] at hA hval
  obtain ⟨v0, vs0, d0, ds0, p0, q0, hargs, rfl, rfl, h0, r0⟩ := trodAll_cons hA
  obtain ⟨v1, vs1, d1, ds1, p1, q1, rfl, rfl, rfl, h1, r1⟩ := trodAll_cons r0
  obtain ⟨rfl, rfl, rfl⟩ := trodAll_nil r1
  obtain rfl : args = #[v0, v1] := by cases args; simp_all
  obtain ⟨rfl, rfl⟩ := trodVars_none hV
  obtain ⟨a0, rfl, rfl, rfl, w0⟩ := open_string Trym.underlying9 (hval 0 9 v0 rfl rfl) h0
  obtain ⟨a1, rfl, rfl, rfl, w1⟩ := open_string Trym.underlying9 (hval 1 9 v1 rfl rfl) h1
  clear hA0 hval0
  simp only [List.append_nil] at hW'
  refine (walk a0 a1 w0 w1 W).mono fun e W' ⟨he, bel⟩ => ?_
  subst he
  exact ⟨_, rfl, _, _, _, [], [], [], hW', trodAll_mk1 (shut_bool Trym.underlying4 _), (trodAll_cons_mk (shut_string Trym.underlying9 w0) (trodAll_cons_mk (shut_string Trym.underlying9 w1) trodAll_mk0)), rfl, bel.frame _, fun h => by cases h⟩

theorem closed1 : Trym.pinned.checked.prog.funcNamed Rows.fnDecodePartInvertsEscapingRow.func = some 3 := by kernel_rfl
theorem closed2 : joinedFacts Trym.pinned.checked.prog 3 Trym.f3 Rows.fnDecodePartInvertsEscapingSpec Rows.fnDecodePartInvertsEscapingRow = true := by
  rw [pinned_prog]
  unfold joinedFacts
  rw [mayEnter_ok, liftsFinal_ok, make_ok]
  kernel_rfl
theorem closed3 : Trym.f3.isInstance Trym.pinned.checked.prog Rows.fnDecodePartInvertsEscapingRow.origin Rows.fnDecodePartInvertsEscapingRow.targs := of_decide_eq_true (by kernel_rfl)
theorem closed4 : Trym.f3.isWrapper Trym.pinned.checked.prog Rows.fnDecodePartInvertsEscapingRow.wrapper Rows.fnDecodePartInvertsEscapingRow.mainSum := by
  unfold Func.isWrapper; first | (rw [if_pos (by decide +kernel)]; kernel_rfl) | (rw [if_neg (by decide +kernel)]; exact ⟨rfl, rfl⟩)
theorem over : Rows.fnDecodePartInvertsEscapingRow.holds Trym.pinned (OpenSpec.ofChange Rows.fnDecodePartInvertsEscapingSpec) :=
  OpenClaim.holds_of_wide 3 Trym.f3 rfl rfl rfl rfl rfl rfl rfl ⟨rfl, rfl, rfl, rfl, rfl⟩ rfl rfl rfl rfl rfl closed1 Trym.func3 closed2
    closed3 closed4
    (fun os started H enc _ => lifted os started H enc)

/-- ████ THE STATEMENT ████ -/
theorem proved : Rows.FnDecodePartInvertsEscapingSaid :=
  over
end Go.Proofs.Qxb6602525aMods.fnDecodePartInvertsEscaping
