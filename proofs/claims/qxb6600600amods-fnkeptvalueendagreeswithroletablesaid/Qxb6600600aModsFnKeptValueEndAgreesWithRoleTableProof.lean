/-
  'Rows.FnKeptValueEndAgreesWithRoleTableSaid', PROVED: the guide's shell (proof-skeleton.mjs); the walk out of the contracts of this seat's own texts.
-/
import Derived.Test.Qxb6600600aModsRows
import Derived.WalkKit
import Derived.ProofKit
import Derived.OpenShut
import Derived.ShutString
import Derived.ChangeOld
import Derived.Below
import Derived.Test.Qxb6600600aModsWh
import Derived.Test.Qxb6600600aModsHead
namespace Go.Proofs.Qxb6600600aMods.fnKeptValueEndAgreesWithRoleTable
open Go.ChangeShapes Go.WideShapes Go.ChangeAt Go.RowKit
open Go.ChangeMaps (open_string shut_string)
set_option linter.unusedVariables false

theorem own : ownKnob Trym.prog.godebug = none := by kernel_rfl
theorem laidOut : laidOutB Trym.prog = true := by kernel_rfl

/-- WHAT THE WALK IS TOLD OF A SLICE OF INTEGERS THAT CAME IN: it is nil; or it leads to a row of 'cap' cells, the numbers 'zs' (the first 'len' are its elements, the rest its spare room), each fitting its kind. -/
def IsRow (k : IntKind) (w : World) (a : Option Addr) (len cap : Nat) (zs : List Int) : Prop :=
  (a = none ∧ len = 0 ∧ cap = 0 ∧ zs = []) ∨
  ∃ x, a = some x ∧ len ≤ cap ∧ cap ≤ maxLen ∧ zs.length = cap ∧ (∀ i, i < zs.length → w.cell? (x.add i) = some (.int k (zs.getD i 0))) ∧ ∀ n ∈ zs, (Lit.int k n).wf = true

/-! ### STEP 1: THE WALK: the Go text returns true, and writes nothing that was there. -/
set_option maxHeartbeats 1000000 in
theorem walk (a0 : Option Addr) (len0 cap0 : Nat) (z0 : List Int) (w : World) (w0 : IsRow .u8 w a0 len0 cap0 z0) :
    Calls Trym.prog 6 #[.slice a0 len0 cap0] w fun e w' => e = .returned (.bool true) ∧ Below w.heap.size w w' := by
  obtain ⟨l, hrow, hlen⟩ := rowOf w0
  clear w0
  by_cases h20 : len0 ≤ 1048576
  · have hd : decide (len0 ≤ 1048576) = true := by simp [h20]
    have d1 : decide ((1048576 : Int) < (len0 : Int)) = false := by simp; omega
    have HP : Hid (RowAt w a0 len0 l) := hrow
    have HL : Hid (l.length = len0) := hrow.1
    clear hrow
    go_enter Trym.func6, Trym.ntmps6
    go_wp2_with (go_at_call 16; refine (bytes16_any a0 len0 cap0 _ hlen).mono ?_; rintro e w' ⟨rfl, hw'⟩; subst hw')
    refine (clone_any a0 len0 cap0 l _ HP.out (by omega)).mono ?_
    rintro e w1 ⟨ao, cap', rfl, hown, hbel⟩
    by_cases h0 : len0 = 0
    · subst h0
      clear hown HP
      go_wp2_with (first | (go_at_call 17; refine (zzValue_zero ao cap' _).mono ?_; rintro e w2 ⟨rfl, hw2⟩; subst hw2) | (go_at_call 18; refine (roles_zero ao cap' _).mono ?_; rintro e w3 ⟨rfl, hb3⟩))
      go_ret
      exact ⟨rfl, hbel.trans (hb3.mono hbel.size)⟩
    · obtain ⟨g, hg, hnc, hcm⟩ := hown.big (by omega)
      subst hg
      have HR : Hid (∀ j, j < len0 → w1.cell? ⟨g, j, none⟩ = some (.int .u8 (bv l j))) := fun j hj => hown.cell j (by rw [HL.out]; exact hj)
      clear hown HP
      go_wp2_with (first | (go_at_call 17; refine (zzValue_any g len0 cap' l _ HL.out (by omega) hnc hcm HR.out).mono ?_; rintro e w2 ⟨rfl, hw2⟩; subst hw2) | (go_at_call 18; refine (roles_any g len0 cap' l _ HL.out (by omega) HR.out).mono ?_; rintro e w3 ⟨rfl, hb3⟩))
      go_ret
      exact ⟨rfl, hbel.trans (hb3.mono hbel.size)⟩
  · have hd : decide (len0 ≤ 1048576) = false := by simp; omega
    go_enter Trym.func6, Trym.ntmps6
    go_wp2_with (go_at_call 16; refine (bytes16_any a0 len0 cap0 _ hlen).mono ?_; rintro e w' ⟨rfl, rfl⟩)
    go_ret
    exact ⟨rfl, Below.refl _ _⟩

/-! ### THE ROW's STEP: WRITTEN OUT: LEAVE IT -/
set_option maxRecDepth 100000 in
theorem lifted (os : Os) (started : os.Started) (H : Type) (enc : TypeId × Value → H) :
    ReturnsInHanded {} Trym.checked os 6 .any (Rows.fnKeptValueEndAgreesWithRoleTableSpec.pre6 enc Trym.prog Trym.f6 Rows.fnKeptValueEndAgreesWithRoleTableRow.domain false) (Rows.fnKeptValueEndAgreesWithRoleTableSpec.post enc Trym.prog Trym.f6 false true false false) := by
  refine returnsInHanded_of_change (C := Trym.checked) own started (by kernel_rfl) Trym.func6
    (ChangeSpec.witness6 (enc := enc) (C := Trym.checked) false ⟨#[], #[.slice none 0 0], []⟩ 8 (by kernel_rfl) (by kernel_rfl) (by kernel_rfl) (by kernel_rfl)) ?_
  intro W base args ds gs before hval0 hW hcnd _
  have hval : ∀ (j : Nat) t v, Trym.f6.params[j]? = some t → args[j]? = some v → Value.okWide Trym.prog W .any base t v := hval0
  have hW' := hW
  obtain ⟨p, q, hA0, hV, rfl, hfz, hnd⟩ := hW
  have hA : DataW.TrodAll enc Trym.prog W 0 (fun _ => true) true Trym.f6.params.toList args.toList ds p := hA0
  rw [Trym.params6] at hA hval
  obtain ⟨v0, vs0, d0, ds0, p0, q0, hargs, rfl, rfl, h0, r0⟩ := trodAll_cons hA
  obtain ⟨rfl, rfl, rfl⟩ := trodAll_nil r0
  obtain rfl : args = #[v0] := by cases args; simp_all
  obtain ⟨rfl, rfl⟩ := trodVars_none hV
  obtain ⟨a0, len0, cap0, rfl⟩ := okWide_slice Trym.underlying22 (hval 0 22 v0 rfl rfl)
  have k0 := h0
  have lt0 : ∀ x ∈ p0, x.block < W.heap.size := by obtain ⟨m, hm⟩ := k0; exact DataW.trod_lt m _ _ _ hm
  obtain ⟨z0, w0⟩ : ∃ zs, IsRow .u8 W a0 len0 cap0 zs := by
    obtain ⟨fuel, hf⟩ := h0
    rcases open_ints Trym.underlying22 Trym.underlying5 (by kernel_rfl) hf with ⟨hcs, _⟩ | ⟨x, l, c, zs, hcs, _, hl, hm, hz, _, hcell, hwz⟩
    · simp [Value.cells] at hcs
      obtain ⟨rfl, rfl, rfl⟩ := hcs
      exact ⟨[], .inl ⟨rfl, rfl, rfl, rfl⟩⟩
    · simp [Value.cells] at hcs
      obtain ⟨rfl, rfl, rfl⟩ := hcs
      exact ⟨zs, .inr ⟨_, rfl, hl, hm, by simpa using hz, hcell, hwz⟩⟩
  clear hA0 hval0
  refine (walk a0 len0 cap0 z0 W w0).mono fun e W' ⟨he, bel⟩ => ?_
  subst he
  exact ⟨_, rfl, _, _, _, [], _, [], hW', trodAll_mk1 (shut_bool Trym.underlying4 _), (trodAll_cons_mk (Below.trod laidOut (by kernel_rfl) (of_decide_eq_true (by kernel_rfl)) k0 bel lt0) trodAll_mk0), rfl, bel.frame _, fun h => by cases h⟩

theorem closed1 : Trym.pinned.checked.prog.funcNamed Rows.fnKeptValueEndAgreesWithRoleTableRow.func = some 6 := by kernel_rfl
theorem closed2 : joinedFacts Trym.pinned.checked.prog 6 Trym.f6 Rows.fnKeptValueEndAgreesWithRoleTableSpec Rows.fnKeptValueEndAgreesWithRoleTableRow = true := by
  rw [pinned_prog]
  unfold joinedFacts
  rw [mayEnter_ok, liftsFinal_ok, make_ok]
  kernel_rfl
theorem closed3 : Trym.f6.isInstance Trym.pinned.checked.prog Rows.fnKeptValueEndAgreesWithRoleTableRow.origin Rows.fnKeptValueEndAgreesWithRoleTableRow.targs := of_decide_eq_true (by kernel_rfl)
theorem closed4 : Trym.f6.isWrapper Trym.pinned.checked.prog Rows.fnKeptValueEndAgreesWithRoleTableRow.wrapper Rows.fnKeptValueEndAgreesWithRoleTableRow.mainSum := by
  unfold Func.isWrapper; first | (rw [if_pos (by decide +kernel)]; kernel_rfl) | (rw [if_neg (by decide +kernel)]; exact ⟨rfl, rfl⟩)
theorem over : Rows.fnKeptValueEndAgreesWithRoleTableRow.holds Trym.pinned (OpenSpec.ofChange Rows.fnKeptValueEndAgreesWithRoleTableSpec) :=
  OpenClaim.holds_of_wide 6 Trym.f6 rfl rfl rfl rfl rfl rfl rfl ⟨rfl, rfl, rfl, rfl, rfl⟩ rfl rfl rfl rfl rfl closed1 Trym.func6 closed2
    closed3 closed4
    (fun os started H enc _ => lifted os started H enc)

/-- ████ THE STATEMENT ████ -/
theorem proved : Rows.FnKeptValueEndAgreesWithRoleTableSaid := over
end Go.Proofs.Qxb6600600aMods.fnKeptValueEndAgreesWithRoleTable
