/-
  'Rows.FnConfigValueReadsBackQuotedValueSaid', PROVED: the guide's shell (proof-skeleton.mjs), the walk out of the contracts of Qxb6001356aModsWa to Wd, the plain law in Qxb6001356aModsPlain.
-/
import Derived.Test.Qxb6001356aModsRows
import Derived.WalkKit
import Derived.ProofKit
import Derived.OpenShut
import Derived.ShutString
import Derived.ChangeOld
import Derived.Below
import Derived.Test.Qxb6001356aModsWd
import Derived.Test.Qxb6001356aModsHead
namespace Go.Proofs.Qxb6001356aMods.fnConfigValueReadsBackQuotedValue
open Go.ChangeShapes Go.WideShapes Go.ChangeAt Go.RowKit
open Go.ChangeMaps (open_string shut_string)
set_option linter.unusedVariables false      -- a walk need not use every 'w<i>' (that an integer argument fits its kind)

theorem own : ownKnob Trym.prog.godebug = none := by kernel_rfl

/-! ### STEP 1: THE WALK: the Go text returns true; of what was there nothing turns ('Below'). -/
theorem walk (a0 : ByteArray) (a1 : ByteArray) (a2 : ByteArray) (a3 : ByteArray) (a4 : Bool) (a5 : Bool) (a6 : ByteArray) (a7 : ByteArray) (w0 : a0.size ≤ maxLen) (w1 : a1.size ≤ maxLen) (w2 : a2.size ≤ maxLen) (w3 : a3.size ≤ maxLen) (w6 : a6.size ≤ maxLen) (w7 : a7.size ≤ maxLen) (w : World) :
    Calls Trym.prog 6 #[.string a0, .string a1, .string a2, .string a3, .bool a4, .bool a5, .string a6, .string a7] w fun e w' => e = .returned (.bool true) ∧ Below w.heap.size w w' := by
  cases hs : sumB a0.size a1.size a2.size a3.size a6.size a7.size
  · exact law_out a0 a1 a2 a3 a6 a7 a4 a5 w0 w1 w2 w3 w6 w7 w (.inl hs)
  by_cases hok : okB a0 a1 a2 a3 a6 a7
  · cases hb : allBl a1
    · exact law_out2 a0 a1 a2 a3 a6 a7 a4 a5 w0 w1 w2 w3 w6 w7 w hs hok (.inl hb)
    cases hb2 : allBl a3
    · exact law_out2 a0 a1 a2 a3 a6 a7 a4 a5 w0 w1 w2 w3 w6 w7 w hs hok (.inr (.inl ⟨hb, hb2⟩))
    cases hb3 : hasNL a6
    · exact law_in a0 a1 a2 a3 a6 a7 a4 a5 w hs hok hb hb2 hb3
    · exact law_out2 a0 a1 a2 a3 a6 a7 a4 a5 w0 w1 w2 w3 w6 w7 w hs hok (.inr (.inr ⟨hb, hb2, hb3⟩))
  · exact law_out a0 a1 a2 a3 a6 a7 a4 a5 w0 w1 w2 w3 w6 w7 w (.inr ⟨hs, hok⟩)

/-! ### THE ROW's STEP: WRITTEN OUT: LEAVE IT -/
set_option maxRecDepth 100000 in
theorem lifted (os : Os) (started : os.Started) (H : Type) (enc : TypeId × Value → H) :
    ReturnsInHanded {} Trym.checked os 6 .any (Rows.fnConfigValueReadsBackQuotedValueSpec.pre6 enc Trym.prog Trym.f6 Rows.fnConfigValueReadsBackQuotedValueRow.domain false) (Rows.fnConfigValueReadsBackQuotedValueSpec.post enc Trym.prog Trym.f6 false true false false) := by
  refine returnsInHanded_of_change (C := Trym.checked) own started (by kernel_rfl) Trym.func6
    (ChangeSpec.witness6 (enc := enc) (C := Trym.checked) false ⟨#[], #[.string ByteArray.empty, .string ByteArray.empty, .string ByteArray.empty, .string ByteArray.empty, .bool false, .bool false, .string ByteArray.empty, .string ByteArray.empty], []⟩ 8 (by kernel_rfl) (by kernel_rfl) (by kernel_rfl) (by kernel_rfl)) ?_
  intro W base args ds gs before hval0 hW hcnd _
  have hval : ∀ (j : Nat) t v, Trym.f6.params[j]? = some t → args[j]? = some v → Value.okWide Trym.prog W .any base t v := hval0
  have hW' := hW
  obtain ⟨p, q, hA0, hV, rfl, hfz, hnd⟩ := hW
  have hA : DataW.TrodAll enc Trym.prog W 0 (fun _ => true) true Trym.f6.params.toList args.toList ds p := hA0
  rw [Trym.params6] at hA hval
  obtain ⟨v0, vs0, d0, ds0, p0, q0, hargs, rfl, rfl, h0, r0⟩ := trodAll_cons hA
  obtain ⟨v1, vs1, d1, ds1, p1, q1, rfl, rfl, rfl, h1, r1⟩ := trodAll_cons r0
  obtain ⟨v2, vs2, d2, ds2, p2, q2, rfl, rfl, rfl, h2, r2⟩ := trodAll_cons r1
  obtain ⟨v3, vs3, d3, ds3, p3, q3, rfl, rfl, rfl, h3, r3⟩ := trodAll_cons r2
  obtain ⟨v4, vs4, d4, ds4, p4, q4, rfl, rfl, rfl, h4, r4⟩ := trodAll_cons r3
  obtain ⟨v5, vs5, d5, ds5, p5, q5, rfl, rfl, rfl, h5, r5⟩ := trodAll_cons r4
  obtain ⟨v6, vs6, d6, ds6, p6, q6, rfl, rfl, rfl, h6, r6⟩ := trodAll_cons r5
  obtain ⟨v7, vs7, d7, ds7, p7, q7, rfl, rfl, rfl, h7, r7⟩ := trodAll_cons r6
  obtain ⟨rfl, rfl, rfl⟩ := trodAll_nil r7
  obtain rfl : args = #[v0, v1, v2, v3, v4, v5, v6, v7] := by cases args; simp_all
  obtain ⟨rfl, rfl⟩ := trodVars_none hV
  obtain ⟨a0, rfl, rfl, rfl, w0⟩ := open_string Trym.underlying9 (hval 0 9 v0 rfl rfl) h0
  obtain ⟨a1, rfl, rfl, rfl, w1⟩ := open_string Trym.underlying9 (hval 1 9 v1 rfl rfl) h1
  obtain ⟨a2, rfl, rfl, rfl, w2⟩ := open_string Trym.underlying9 (hval 2 9 v2 rfl rfl) h2
  obtain ⟨a3, rfl, rfl, rfl, w3⟩ := open_string Trym.underlying9 (hval 3 9 v3 rfl rfl) h3
  obtain ⟨a4, rfl, rfl, rfl⟩ := open_bool Trym.underlying4 (hval 4 4 v4 rfl rfl) h4
  obtain ⟨a5, rfl, rfl, rfl⟩ := open_bool Trym.underlying4 (hval 5 4 v5 rfl rfl) h5
  obtain ⟨a6, rfl, rfl, rfl, w6⟩ := open_string Trym.underlying9 (hval 6 9 v6 rfl rfl) h6
  obtain ⟨a7, rfl, rfl, rfl, w7⟩ := open_string Trym.underlying9 (hval 7 9 v7 rfl rfl) h7
  clear hA0 hval0
  simp only [List.append_nil] at hW'
  refine (walk a0 a1 a2 a3 a4 a5 a6 a7 w0 w1 w2 w3 w6 w7 W).mono fun e W' ⟨he, bel⟩ => ?_
  subst he
  exact ⟨_, rfl, _, _, _, [], [], [], hW', trodAll_mk1 (shut_bool Trym.underlying4 _), (trodAll_cons_mk (shut_string Trym.underlying9 w0) (trodAll_cons_mk (shut_string Trym.underlying9 w1) (trodAll_cons_mk (shut_string Trym.underlying9 w2) (trodAll_cons_mk (shut_string Trym.underlying9 w3) (trodAll_cons_mk (shut_bool Trym.underlying4 _) (trodAll_cons_mk (shut_bool Trym.underlying4 _) (trodAll_cons_mk (shut_string Trym.underlying9 w6) (trodAll_cons_mk (shut_string Trym.underlying9 w7) trodAll_mk0)))))))), rfl, bel.frame _, fun h => by cases h⟩

theorem closed1 : Trym.pinned.checked.prog.funcNamed Rows.fnConfigValueReadsBackQuotedValueRow.func = some 6 := by kernel_rfl
theorem closed2 : joinedFacts Trym.pinned.checked.prog 6 Trym.f6 Rows.fnConfigValueReadsBackQuotedValueSpec Rows.fnConfigValueReadsBackQuotedValueRow = true := by
  rw [pinned_prog]
  unfold joinedFacts
  rw [mayEnter_ok, liftsFinal_ok, make_ok]
  kernel_rfl
theorem closed3 : Trym.f6.isInstance Trym.pinned.checked.prog Rows.fnConfigValueReadsBackQuotedValueRow.origin Rows.fnConfigValueReadsBackQuotedValueRow.targs := of_decide_eq_true (by kernel_rfl)
theorem closed4 : Trym.f6.isWrapper Trym.pinned.checked.prog Rows.fnConfigValueReadsBackQuotedValueRow.wrapper Rows.fnConfigValueReadsBackQuotedValueRow.mainSum := by
  unfold Func.isWrapper; first | (rw [if_pos (by decide +kernel)]; kernel_rfl) | (rw [if_neg (by decide +kernel)]; exact ⟨rfl, rfl⟩)
theorem over : Rows.fnConfigValueReadsBackQuotedValueRow.holds Trym.pinned (OpenSpec.ofChange Rows.fnConfigValueReadsBackQuotedValueSpec) :=
  OpenClaim.holds_of_wide 6 Trym.f6 rfl rfl rfl rfl rfl rfl rfl ⟨rfl, rfl, rfl, rfl, rfl⟩ rfl rfl rfl rfl rfl closed1 Trym.func6 closed2
    closed3 closed4
    (fun os started H enc _ => lifted os started H enc)

/-- ████ THE STATEMENT ████ -/
theorem proved : Rows.FnConfigValueReadsBackQuotedValueSaid :=
  over
end Go.Proofs.Qxb6001356aMods.fnConfigValueReadsBackQuotedValue
