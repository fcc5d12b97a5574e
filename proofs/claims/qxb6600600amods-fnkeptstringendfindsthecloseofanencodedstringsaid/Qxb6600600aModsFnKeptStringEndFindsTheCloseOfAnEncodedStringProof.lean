/-
  'Rows.FnKeptStringEndFindsTheCloseOfAnEncodedStringSaid', PROVED: the guide's shell (proof-skeleton.mjs); the walk out of the contracts of this seat's own texts.
-/
import Derived.Test.Qxb6600600aModsRows
import Derived.WalkKit
import Derived.ProofKit
import Derived.OpenShut
import Derived.ShutString
import Derived.ChangeOld
import Derived.Below
import Derived.Test.Qxb6600600aModsWe
import Derived.Test.Qxb6600600aModsHead
namespace Go.Proofs.Qxb6600600aMods.fnKeptStringEndFindsTheCloseOfAnEncodedString
open Go.ChangeShapes Go.WideShapes Go.ChangeAt Go.RowKit
open Go.ChangeMaps (open_string shut_string)
set_option linter.unusedVariables false

theorem own : ownKnob Trym.prog.godebug = none := by kernel_rfl
theorem laidOut : laidOutB Trym.prog = true := by kernel_rfl

/-- WHAT THE WALK IS TOLD OF A SLICE OF INTEGERS THAT CAME IN: it is nil; or it leads to a row of 'cap' cells, the numbers 'zs' (the first 'len' are its elements, the rest its spare room), each fitting its kind. -/
def IsRow (k : IntKind) (w : World) (a : Option Addr) (len cap : Nat) (zs : List Int) : Prop :=
  (a = none ∧ len = 0 ∧ cap = 0 ∧ zs = []) ∨
  ∃ x, a = some x ∧ len ≤ cap ∧ cap ≤ maxLen ∧ zs.length = cap ∧ (∀ i, i < zs.length → w.cell? (x.add i) = some (.int k (zs.getD i 0))) ∧ ∀ n ∈ zs, (Lit.int k n).wf = true

/-! ### STEP 1: THE WALK: the Go text returns true, and writes nothing that was there. -/
set_option maxHeartbeats 1000000 in
set_option maxRecDepth 100000 in
theorem walk (a0 : Option Addr) (len0 cap0 : Nat) (z0 : List Int) (a1 : ByteArray) (a2 : Option Addr) (len2 cap2 : Nat) (z2 : List Int) (w : World) (w0 : IsRow .u8 w a0 len0 cap0 z0) (w1 : a1.size ≤ maxLen) (w2 : IsRow .u8 w a2 len2 cap2 z2) :
    Calls Trym.prog 4 #[.slice a0 len0 cap0, .string a1, .slice a2 len2 cap2] w fun e w' => e = .returned (.bool true) ∧ Below w.heap.size w w' := by
  obtain ⟨p, hp, hp0⟩ := rowOf w0
  obtain ⟨q, hq, hq0⟩ := rowOf w2
  clear w0 w2
  cases hsum : sum3 len0 a1.size len2
  · go_enter Trym.func4, Trym.ntmps4
    go_wp2_with (go_at_call 13; refine (bytes13_any a0 len0 cap0 a1 a2 len2 cap2 _ hp0 w1 hq0).mono ?_; rintro e w' ⟨rfl, rfl⟩)
    go_ret
    exact ⟨rfl, Below.refl _ _⟩
  · have hs : len0 + a1.size + len2 ≤ 1048576 := by unfold sum3 at hsum; simpa using hsum
    have d1 : decide ((1048576 : Int) < (len0 : Int)) = false := by simp; omega
    have d2 : decide ((1048576 : Int) < (a1.size : Int)) = false := by simp; omega
    have d3 : decide ((1048576 : Int) < (len2 : Int)) = false := by simp; omega
    have d4 : decide ((1048576 : Int) < (len0 : Int) + (a1.size : Int) + (len2 : Int)) = false := by simp; omega
    have HP : Hid (RowAt w a0 len0 p) := hp
    have HQ : Hid (RowAt w a2 len2 q) := hq
    have HPl : Hid (p.length = len0) := hp.1
    have HQl : Hid (q.length = len2) := hq.1
    clear hp hq
    go_enter Trym.func4, Trym.ntmps4
    go_wp2_with (go_at_call 13; refine (bytes13_any a0 len0 cap0 a1 a2 len2 cap2 _ hp0 w1 hq0).mono ?_; rintro e w' ⟨rfl, hw'⟩; subst hw')
    clear hp0 hq0 w1
    refine (clone_any a0 len0 cap0 p _ HP.out (by omega)).mono ?_
    rintro e wa ⟨ap, cp, rfl, hownp, hbela⟩
    have HQa : Hid (RowAt wa a2 len2 q) := rowAt_later HQ.out hbela
    have hza := hbela.size
    have HOP : Hid (OwnB 5 w'.heap.size wa (.slice ap len0 cp) p) := hownp
    clear HQ HP hownp
    go_wp2_with fail
    refine (clone_any a2 len2 cap2 q _ HQa.out (by omega)).mono ?_
    rintro e wb ⟨aq, cq, rfl, hownq, hbelb⟩
    have HOPb : Hid (OwnB 5 w'.heap.size wb (.slice ap len0 cp) p) := HOP.out.row hbelb
    have HOQ : Hid (OwnB 5 wa.heap.size wb (.slice aq len2 cq) q) := hownq
    have hbb : Below w'.heap.size w' wb := hbela.trans (hbelb.mono hza)
    clear HOP HQa hownq hbela hbelb
    go_wp2_with (first | (at_make; refine wpL_make0 rfl (.const (.int .i64 0)) (.tmp 49) 22 5 rfl Trym.underlying22 Trym.brow wb.heap.size .i64 .i64 _ (len0 + 6 * a1.size + 2 + len2) rfl rfl (by omega) (by omega) (Nat.le_refl _) ?_; intro wc hownc hbelc hszc) | (at_builtin; refine wpL_row rfl (.tmp 51) (.tmp 52) 22 5 rfl Trym.underlying22 Trym.brow wb.heap.size _ [] rfl hownc ap len0 cp rfl p HPl.out HOPb.out.nilcap (HOPb.out.row hbelc).rowcells (by rw [HPl.out]; simp; omega) hszc ?_; intro ad nd cd wd hownd hnd hbeld hszd) | (go_at_call 14; refine (quoted_any wb.heap.size _ _ a1 _ hownd hszd (by simp [HPl.out]; omega)).mono ?_; rintro e we ⟨ae, ne, ce, rfl, howne, hbele, hsze⟩) | (at_builtin; refine wpL_row rfl (.tmp 59) (.tmp 60) 22 5 rfl Trym.underlying22 Trym.brow wb.heap.size _ _ rfl howne aq len2 cq rfl q HQl.out HOQ.out.nilcap (HOQ.out.row (hbelc.trans (hbeld.trans hbele))).rowcells (by have := qS_len a1.data.toList; simp at this; simp [HPl.out, HQl.out]; omega) hsze ?_; intro af nf cf wf hownf hnf hbelf hszf))
    have hne := howne.len
    have hnf2 := hownf.len
    have hcl := close_found p a1.data.toList q
    obtain ⟨full, HF, hownF⟩ := hownf.letter
    have hfl := hownF.len
    have hEf : E full (len0 + 1) false = ne := by
      rw [HF.out, hne]
      have e1 : ([] ++ p ++ ([34] ++ qS a1.data.toList ++ [34]) ++ q : List UInt8) = p ++ ([34] ++ qS a1.data.toList ++ [34]) ++ q := by simp
      rw [e1, ← HPl.out, hcl]
      simp
    have hlt : len0 < nf := by
      rw [hnf2]
      simp [HPl.out]
    obtain ⟨g, hg, hnc, hcm⟩ := hownF.big (by omega)
    subst hg
    have hbel : Below w'.heap.size w' wf := hbb.trans ((hbelc.trans (hbeld.trans (hbele.trans hbelf))).mono hbb.size)
    refine (zzString_to g nf cf full len0 ne _ hfl.symm hnf hnc hcm hlt (fun j hj => hownF.cell j (by omega)) hEf).mono ?_
    rintro e wz ⟨rfl, hwz⟩
    subst hwz
    clear hEf hcl hfl hne hnf2 hownF HF howne hownf
    go_wp2
    go_ret
    exact ⟨rfl, hbel⟩

/-! ### THE ROW's STEP: WRITTEN OUT: LEAVE IT -/
set_option maxRecDepth 100000 in
theorem lifted (os : Os) (started : os.Started) (H : Type) (enc : TypeId × Value → H) :
    ReturnsInHanded {} Trym.checked os 4 .any (Rows.fnKeptStringEndFindsTheCloseOfAnEncodedStringSpec.pre6 enc Trym.prog Trym.f4 Rows.fnKeptStringEndFindsTheCloseOfAnEncodedStringRow.domain false) (Rows.fnKeptStringEndFindsTheCloseOfAnEncodedStringSpec.post enc Trym.prog Trym.f4 false true false false) := by
  refine returnsInHanded_of_change (C := Trym.checked) own started (by kernel_rfl) Trym.func4
    (ChangeSpec.witness6 (enc := enc) (C := Trym.checked) false ⟨#[], #[.slice none 0 0, .string ByteArray.empty, .slice none 0 0], []⟩ 8 (by kernel_rfl) (by kernel_rfl) (by kernel_rfl) (by kernel_rfl)) ?_
  intro W base args ds gs before hval0 hW hcnd _
  have hval : ∀ (j : Nat) t v, Trym.f4.params[j]? = some t → args[j]? = some v → Value.okWide Trym.prog W .any base t v := hval0
  have hW' := hW
  obtain ⟨p, q, hA0, hV, rfl, hfz, hnd⟩ := hW
  have hA : DataW.TrodAll enc Trym.prog W 0 (fun _ => true) true Trym.f4.params.toList args.toList ds p := hA0
  rw [Trym.params4] at hA hval
  obtain ⟨v0, vs0, d0, ds0, p0, q0, hargs, rfl, rfl, h0, r0⟩ := trodAll_cons hA
  obtain ⟨v1, vs1, d1, ds1, p1, q1, rfl, rfl, rfl, h1, r1⟩ := trodAll_cons r0
  obtain ⟨v2, vs2, d2, ds2, p2, q2, rfl, rfl, rfl, h2, r2⟩ := trodAll_cons r1
  obtain ⟨rfl, rfl, rfl⟩ := trodAll_nil r2
  obtain rfl : args = #[v0, v1, v2] := by cases args; simp_all
  obtain ⟨rfl, rfl⟩ := trodVars_none hV
  obtain ⟨a0, len0, cap0, rfl⟩ := okWide_slice Trym.underlying22 (hval 0 22 v0 rfl rfl)
  have k0 := h0
  have lt0 : ∀ x ∈ p0, x.block < W.heap.size := by obtain ⟨m, hm⟩ := k0; exact DataW.trod_lt m _ _ _ hm
  obtain ⟨z0, w0⟩ : ∃ zs, IsRow .u8 W a0 len0 cap0 zs := by
    obtain ⟨fuel, hf⟩ := h0
    rcases open_ints Trym.underlying22 Trym.underlying5 (by kernel_rfl) hf with ⟨hcs, _⟩ | ⟨x, l, c, zs, hcs, _, hl, hm, hz, _, hcell, hwz⟩
    · simp [Value.cells] at hcs
      obtain ⟨rfl, rfl, rfl⟩ := hcs
      exact ⟨[], .inl ⟨rfl, rfl, rfl, rfl⟩⟩
    · simp [Value.cells] at hcs
      obtain ⟨rfl, rfl, rfl⟩ := hcs
      exact ⟨zs, .inr ⟨_, rfl, hl, hm, by simpa using hz, hcell, hwz⟩⟩
  obtain ⟨a1, rfl, rfl, rfl, w1⟩ := open_string Trym.underlying9 (hval 1 9 v1 rfl rfl) h1
  obtain ⟨a2, len2, cap2, rfl⟩ := okWide_slice Trym.underlying22 (hval 2 22 v2 rfl rfl)
  have k2 := h2
  have lt2 : ∀ x ∈ p2, x.block < W.heap.size := by obtain ⟨m, hm⟩ := k2; exact DataW.trod_lt m _ _ _ hm
  obtain ⟨z2, w2⟩ : ∃ zs, IsRow .u8 W a2 len2 cap2 zs := by
    obtain ⟨fuel, hf⟩ := h2
    rcases open_ints Trym.underlying22 Trym.underlying5 (by kernel_rfl) hf with ⟨hcs, _⟩ | ⟨x, l, c, zs, hcs, _, hl, hm, hz, _, hcell, hwz⟩
    · simp [Value.cells] at hcs
      obtain ⟨rfl, rfl, rfl⟩ := hcs
      exact ⟨[], .inl ⟨rfl, rfl, rfl, rfl⟩⟩
    · simp [Value.cells] at hcs
      obtain ⟨rfl, rfl, rfl⟩ := hcs
      exact ⟨zs, .inr ⟨_, rfl, hl, hm, by simpa using hz, hcell, hwz⟩⟩
  clear hA0 hval0
  refine (walk a0 len0 cap0 z0 a1 a2 len2 cap2 z2 W w0 w1 w2).mono fun e W' ⟨he, bel⟩ => ?_
  subst he
  exact ⟨_, rfl, _, _, _, [], _, [], hW', trodAll_mk1 (shut_bool Trym.underlying4 _), (trodAll_cons_mk (Below.trod laidOut (by kernel_rfl) (of_decide_eq_true (by kernel_rfl)) k0 bel lt0) (trodAll_cons_mk (shut_string Trym.underlying9 w1) (trodAll_cons_mk (Below.trod laidOut (by kernel_rfl) (of_decide_eq_true (by kernel_rfl)) k2 bel lt2) trodAll_mk0))), rfl, bel.frame _, fun h => by cases h⟩

theorem closed1 : Trym.pinned.checked.prog.funcNamed Rows.fnKeptStringEndFindsTheCloseOfAnEncodedStringRow.func = some 4 := by kernel_rfl
theorem closed2 : joinedFacts Trym.pinned.checked.prog 4 Trym.f4 Rows.fnKeptStringEndFindsTheCloseOfAnEncodedStringSpec Rows.fnKeptStringEndFindsTheCloseOfAnEncodedStringRow = true := by
  rw [pinned_prog]
  unfold joinedFacts
  rw [mayEnter_ok, liftsFinal_ok, make_ok]
  kernel_rfl
theorem closed3 : Trym.f4.isInstance Trym.pinned.checked.prog Rows.fnKeptStringEndFindsTheCloseOfAnEncodedStringRow.origin Rows.fnKeptStringEndFindsTheCloseOfAnEncodedStringRow.targs := of_decide_eq_true (by kernel_rfl)
theorem closed4 : Trym.f4.isWrapper Trym.pinned.checked.prog Rows.fnKeptStringEndFindsTheCloseOfAnEncodedStringRow.wrapper Rows.fnKeptStringEndFindsTheCloseOfAnEncodedStringRow.mainSum := by
  unfold Func.isWrapper; first | (rw [if_pos (by decide +kernel)]; kernel_rfl) | (rw [if_neg (by decide +kernel)]; exact ⟨rfl, rfl⟩)
theorem over : Rows.fnKeptStringEndFindsTheCloseOfAnEncodedStringRow.holds Trym.pinned (OpenSpec.ofChange Rows.fnKeptStringEndFindsTheCloseOfAnEncodedStringSpec) :=
  OpenClaim.holds_of_wide 4 Trym.f4 rfl rfl rfl rfl rfl rfl rfl ⟨rfl, rfl, rfl, rfl, rfl⟩ rfl rfl rfl rfl rfl closed1 Trym.func4 closed2
    closed3 closed4
    (fun os started H enc _ => lifted os started H enc)

/-- ████ THE STATEMENT ████ -/
theorem proved : Rows.FnKeptStringEndFindsTheCloseOfAnEncodedStringSaid := over
end Go.Proofs.Qxb6600600aMods.fnKeptStringEndFindsTheCloseOfAnEncodedString
