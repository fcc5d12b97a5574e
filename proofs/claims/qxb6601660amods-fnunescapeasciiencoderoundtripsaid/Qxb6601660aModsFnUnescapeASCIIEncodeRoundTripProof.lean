/-
  'Rows.FnUnescapeASCIIEncodeRoundTripSaid', PROVED: the guide's shell (proof-skeleton.mjs); the walk out of the contracts of this seat's own texts.
-/
import Derived.Test.Qxb6601660aModsRows
import Derived.WalkKit
import Derived.ProofKit
import Derived.OpenShut
import Derived.ShutString
import Derived.ChangeOld
import Derived.Below
import Derived.Test.Qxb6601660aModsWb
import Derived.Test.Qxb6601660aModsHead
namespace Go.Proofs.Qxb6601660aMods.fnUnescapeASCIIEncodeRoundTrip
open Go.ChangeShapes Go.WideShapes Go.ChangeAt Go.RowKit
open Go.ChangeMaps (open_string shut_string)
set_option linter.unusedVariables false

theorem own : ownKnob Trym.prog.godebug = none := by kernel_rfl
theorem laidOut : laidOutB Trym.prog = true := by kernel_rfl

/-- WHAT THE WALK IS TOLD OF A SLICE OF INTEGERS THAT CAME IN: it is nil; or it leads to a row of 'cap' cells, the numbers 'zs' (the first 'len' are its elements, the rest its spare room), each fitting its kind. -/
def IsRow (k : IntKind) (w : World) (a : Option Addr) (len cap : Nat) (zs : List Int) : Prop :=
  (a = none ∧ len = 0 ∧ cap = 0 ∧ zs = []) ∨
  ∃ x, a = some x ∧ len ≤ cap ∧ cap ≤ maxLen ∧ zs.length = cap ∧ (∀ i, i < zs.length → w.cell? (x.add i) = some (.int k (zs.getD i 0))) ∧ ∀ n ∈ zs, (Lit.int k n).wf = true

/-! ### STEP 1: THE WALK: the Go text returns true, and writes nothing that was there. -/
set_option maxHeartbeats 1000000 in
theorem walk (a0 : Int) (a1 : Bool) (a2 : Bool) (a3 : Option Addr) (len3 cap3 : Nat) (z3 : List Int) (w : World) (w0 : (Lit.int .u8 a0).wf = true) (w3 : IsRow .u8 w a3 len3 cap3 z3) :
    Calls Trym.prog 6 #[.int .u8 a0, .bool a1, .bool a2, .slice a3 len3 cap3] w fun e w' => e = .returned (.bool true) ∧ Below w.heap.size w w' := by
  obtain ⟨l, hrow, hlen⟩ := rowOf w3
  have hnil : a3 = none → len3 = 0 ∧ cap3 = 0 := by
    intro h
    rcases w3 with ⟨_, h1, h2, _⟩ | ⟨x, hx, _⟩
    · exact ⟨h1, h2⟩
    · rw [hx] at h; cases h
  have hb := bounds_u8 w0
  obtain ⟨c, rfl⟩ := Int.eq_ofNat_of_zero_le hb.1
  clear w3 w0
  have hc256 : c < 256 := by omega
  have HR : Hid (RowAt w a3 len3 l) := hrow
  have HN : Hid (a3 = none → len3 = 0 ∧ cap3 = 0) := hnil
  have HL : Hid (l.length = len3) := hrow.1
  clear hrow hnil hb
  by_cases h20 : len3 ≤ 1048576
  · have hd : decide (len3 ≤ 1048576) = true := by simp [h20]
    have d1 : decide ((1048576 : Int) < (len3 : Int)) = false := by simp; omega
    by_cases h128 : 128 ≤ c
    · have hge : decide ((128 : Int) ≤ (c : Int)) = true := by simp; omega
      go_enter Trym.func6, Trym.ntmps6
      go_wp2_with (go_at_call 17; refine (bytes17_any _ a1 a2 a3 len3 cap3 _ hlen).mono ?_; rintro e w' ⟨rfl, rfl⟩)
      go_ret
      exact ⟨rfl, Below.refl _ _⟩
    · have hge : decide ((128 : Int) ≤ (c : Int)) = false := by simp; omega
      have hc8 : c < 128 := by omega
      by_cases hsh : a2 = true ∧ (sl c).isSome = true
      · obtain ⟨rfl, hs⟩ := hsh
        obtain ⟨x, hx⟩ := Option.isSome_iff_exists.1 hs
        have HX : Hid (sl c = some x) := hx
        clear hs hx
        go_enter Trym.func6, Trym.ntmps6
        go_wp2_with (first | (go_at_call 17; refine (bytes17_any _ a1 true a3 len3 cap3 _ hlen).mono ?_; rintro e w' ⟨rfl, hw'⟩; subst hw') | (at_make; refine wpL_make0 rfl (.const (.int .i64 0)) (.tmp 28) 22 5 rfl Trym.underlying22 Trym.brow w'.heap.size .i64 .i64 _ (6 + len3) rfl rfl (by omega) (by omega) (Nat.le_refl _) ?_; intro wa hO0 hbela hsza) | (at_builtin; refine wpL_lit rfl (.tmp 30) (.tmp 31) 22 5 rfl Trym.underlying22 Trym.brow w'.heap.size _ _ rfl hO0 1 1 rfl [92] rfl rfl (by simp) hsza ?_; intro b1 n1 c1 w1 hO1 hn1 hbel1 hsz1) | (go_at_call 18; refine (short_yes c x HX.out _).mono ?_; rintro e w5 ⟨rfl, hw5⟩; subst hw5) | (at_builtin; refine wpL_lit rfl (.tmp 42) (.tmp 44) 22 5 rfl Trym.underlying22 Trym.brow w'.heap.size _ _ rfl hO1 1 1 rfl [x] rfl rfl (by simp) hsz1 ?_; intro b2 n2 c2 w2 hO2 hn2 hbel2 hsz2) | (at_builtin; refine wpL_row rfl (.tmp 59) (.tmp 60) 22 5 rfl Trym.underlying22 Trym.brow w'.heap.size _ _ rfl hO2 a3 len3 cap3 rfl l HL.out HN.out (row_later HR.out (hbela.trans (hbel1.trans hbel2))) (by rw [HL.out]; simp; omega) hsz2 ?_; intro b3 n3 c3 w3 hO3 hn3 hbel3 hsz3))
        have hn2' := hO2.len
        have hn3' := hO3.len
        obtain ⟨full, HF, hownF⟩ := hO3.letter
        have hu : une full = ((c : Int), (n2 : Int)) := by
          rw [HF.out, back_short c hc8 x HX.out l, hn2']
          simp
        have hfl := hownF.len
        have h2n : 2 ≤ n3 := by rw [hn3']; simp
        obtain ⟨g, hg, hnc, hcm⟩ := hownF.big (by omega)
        subst hg
        have hbel := hbela.trans (hbel1.trans (hbel2.trans hbel3))
        refine (zz_to g n3 c3 full c n2 _ hfl.symm hn3 h2n hnc hcm (fun j hj => hownF.cell j (by omega)) hu).mono ?_
        rintro e wz ⟨rfl, hwz⟩
        subst hwz
        clear hu hfl hn2' hn3' hownF HF hO1 hO2 hO3
        go_wp2
        go_ret
        exact ⟨rfl, hbel⟩
      · have hand : bits .and .u8 (c : Int) 15 = (c : Int) % 16 := and15 c hc256
        have q1 : hcI ((c : Int) / 16) a1 = ((hc (c / 16) a1).toNat : Int) := hcI_eq (c / 16) a1 (by omega)
        have q2 : hcI ((c : Int) % 16) a1 = ((hc (c % 16) a1).toNat : Int) := hcI_eq (c % 16) a1 (by omega)
        cases a2
        · clear hsh
          cases hx : sl c with
          | some x =>
            have HX : Hid (sl c = some x) := hx
            clear hx
            go_enter Trym.func6, Trym.ntmps6
            go_wp2_with (first | (go_at_call 17; refine (bytes17_any _ a1 false a3 len3 cap3 _ hlen).mono ?_; rintro e w' ⟨rfl, hw'⟩; subst hw') | (at_make; refine wpL_make0 rfl (.const (.int .i64 0)) (.tmp 28) 22 5 rfl Trym.underlying22 Trym.brow w'.heap.size .i64 .i64 _ (6 + len3) rfl rfl (by omega) (by omega) (Nat.le_refl _) ?_; intro wa hO0 hbela hsza) | (at_builtin; refine wpL_lit rfl (.tmp 30) (.tmp 31) 22 5 rfl Trym.underlying22 Trym.brow w'.heap.size _ _ rfl hO0 1 1 rfl [92] rfl rfl (by simp) hsza ?_; intro b1 n1 c1 w1 hO1 hn1 hbel1 hsz1) | (go_at_call 18; refine (short_yes c x HX.out _).mono ?_; rintro e w5 ⟨rfl, hw5⟩; subst hw5) | (go_at_call 19; refine (hex_any _ a1 _ (by omega) (by omega)).mono ?_; rintro e w6 ⟨rfl, hw6⟩; subst hw6) | (at_builtin; refine wpL_lit rfl (.tmp 46) (.tmp 55) 22 5 rfl Trym.underlying22 Trym.brow w'.heap.size _ _ rfl hO1 5 5 rfl [117, 48, 48, hc (c / 16) a1, hc (c % 16) a1] rfl rfl (by simp) hsz1 ?_; intro b2 n2 c2 w2 hO2 hn2 hbel2 hsz2) | (at_builtin; refine wpL_row rfl (.tmp 59) (.tmp 60) 22 5 rfl Trym.underlying22 Trym.brow w'.heap.size _ _ rfl hO2 a3 len3 cap3 rfl l HL.out HN.out (row_later HR.out (hbela.trans (hbel1.trans hbel2))) (by rw [HL.out]; simp; omega) hsz2 ?_; intro b3 n3 c3 w3 hO3 hn3 hbel3 hsz3))
            have hn2' := hO2.len
            have hn3' := hO3.len
            obtain ⟨full, HF, hownF⟩ := hO3.letter
            have hu : une full = ((c : Int), (n2 : Int)) := by
              rw [HF.out, back_four c hc8 a1 l, hn2']
              simp
            have hfl := hownF.len
            have h2n : 2 ≤ n3 := by rw [hn3']; simp
            obtain ⟨g, hg, hnc, hcm⟩ := hownF.big (by omega)
            subst hg
            have hbel := hbela.trans (hbel1.trans (hbel2.trans hbel3))
            refine (zz_to g n3 c3 full c n2 _ hfl.symm hn3 h2n hnc hcm (fun j hj => hownF.cell j (by omega)) hu).mono ?_
            rintro e wz ⟨rfl, hwz⟩
            subst hwz
            clear hu hfl hn2' hn3' hownF HF hO1 hO2 hO3
            go_wp2
            go_ret
            exact ⟨rfl, hbel⟩
          | none =>
            have HX : Hid (sl c = none) := hx
            clear hx
            go_enter Trym.func6, Trym.ntmps6
            go_wp2_with (first | (go_at_call 17; refine (bytes17_any _ a1 false a3 len3 cap3 _ hlen).mono ?_; rintro e w' ⟨rfl, hw'⟩; subst hw') | (at_make; refine wpL_make0 rfl (.const (.int .i64 0)) (.tmp 28) 22 5 rfl Trym.underlying22 Trym.brow w'.heap.size .i64 .i64 _ (6 + len3) rfl rfl (by omega) (by omega) (Nat.le_refl _) ?_; intro wa hO0 hbela hsza) | (at_builtin; refine wpL_lit rfl (.tmp 30) (.tmp 31) 22 5 rfl Trym.underlying22 Trym.brow w'.heap.size _ _ rfl hO0 1 1 rfl [92] rfl rfl (by simp) hsza ?_; intro b1 n1 c1 w1 hO1 hn1 hbel1 hsz1) | (go_at_call 18; refine (short_no c HX.out _).mono ?_; rintro e w5 ⟨rfl, hw5⟩; subst hw5) | (go_at_call 19; refine (hex_any _ a1 _ (by omega) (by omega)).mono ?_; rintro e w6 ⟨rfl, hw6⟩; subst hw6) | (at_builtin; refine wpL_lit rfl (.tmp 46) (.tmp 55) 22 5 rfl Trym.underlying22 Trym.brow w'.heap.size _ _ rfl hO1 5 5 rfl [117, 48, 48, hc (c / 16) a1, hc (c % 16) a1] rfl rfl (by simp) hsz1 ?_; intro b2 n2 c2 w2 hO2 hn2 hbel2 hsz2) | (at_builtin; refine wpL_row rfl (.tmp 59) (.tmp 60) 22 5 rfl Trym.underlying22 Trym.brow w'.heap.size _ _ rfl hO2 a3 len3 cap3 rfl l HL.out HN.out (row_later HR.out (hbela.trans (hbel1.trans hbel2))) (by rw [HL.out]; simp; omega) hsz2 ?_; intro b3 n3 c3 w3 hO3 hn3 hbel3 hsz3))
            have hn2' := hO2.len
            have hn3' := hO3.len
            obtain ⟨full, HF, hownF⟩ := hO3.letter
            have hu : une full = ((c : Int), (n2 : Int)) := by
              rw [HF.out, back_four c hc8 a1 l, hn2']
              simp
            have hfl := hownF.len
            have h2n : 2 ≤ n3 := by rw [hn3']; simp
            obtain ⟨g, hg, hnc, hcm⟩ := hownF.big (by omega)
            subst hg
            have hbel := hbela.trans (hbel1.trans (hbel2.trans hbel3))
            refine (zz_to g n3 c3 full c n2 _ hfl.symm hn3 h2n hnc hcm (fun j hj => hownF.cell j (by omega)) hu).mono ?_
            rintro e wz ⟨rfl, hwz⟩
            subst hwz
            clear hu hfl hn2' hn3' hownF HF hO1 hO2 hO3
            go_wp2
            go_ret
            exact ⟨rfl, hbel⟩
        · have hx : sl c = none := by
            cases h : sl c with
            | none => rfl
            | some x => exact absurd ⟨rfl, by rw [h]; rfl⟩ hsh
          have HX : Hid (sl c = none) := hx
          clear hx hsh
          go_enter Trym.func6, Trym.ntmps6
          go_wp2_with (first | (go_at_call 17; refine (bytes17_any _ a1 true a3 len3 cap3 _ hlen).mono ?_; rintro e w' ⟨rfl, hw'⟩; subst hw') | (at_make; refine wpL_make0 rfl (.const (.int .i64 0)) (.tmp 28) 22 5 rfl Trym.underlying22 Trym.brow w'.heap.size .i64 .i64 _ (6 + len3) rfl rfl (by omega) (by omega) (Nat.le_refl _) ?_; intro wa hO0 hbela hsza) | (at_builtin; refine wpL_lit rfl (.tmp 30) (.tmp 31) 22 5 rfl Trym.underlying22 Trym.brow w'.heap.size _ _ rfl hO0 1 1 rfl [92] rfl rfl (by simp) hsza ?_; intro b1 n1 c1 w1 hO1 hn1 hbel1 hsz1) | (go_at_call 18; refine (short_no c HX.out _).mono ?_; rintro e w5 ⟨rfl, hw5⟩; subst hw5) | (go_at_call 19; refine (hex_any _ a1 _ (by omega) (by omega)).mono ?_; rintro e w6 ⟨rfl, hw6⟩; subst hw6) | (at_builtin; refine wpL_lit rfl (.tmp 46) (.tmp 55) 22 5 rfl Trym.underlying22 Trym.brow w'.heap.size _ _ rfl hO1 5 5 rfl [117, 48, 48, hc (c / 16) a1, hc (c % 16) a1] rfl rfl (by simp) hsz1 ?_; intro b2 n2 c2 w2 hO2 hn2 hbel2 hsz2) | (at_builtin; refine wpL_row rfl (.tmp 59) (.tmp 60) 22 5 rfl Trym.underlying22 Trym.brow w'.heap.size _ _ rfl hO2 a3 len3 cap3 rfl l HL.out HN.out (row_later HR.out (hbela.trans (hbel1.trans hbel2))) (by rw [HL.out]; simp; omega) hsz2 ?_; intro b3 n3 c3 w3 hO3 hn3 hbel3 hsz3))
          have hn2' := hO2.len
          have hn3' := hO3.len
          obtain ⟨full, HF, hownF⟩ := hO3.letter
          have hu : une full = ((c : Int), (n2 : Int)) := by
            rw [HF.out, back_four c hc8 a1 l, hn2']
            simp
          have hfl := hownF.len
          have h2n : 2 ≤ n3 := by rw [hn3']; simp
          obtain ⟨g, hg, hnc, hcm⟩ := hownF.big (by omega)
          subst hg
          have hbel := hbela.trans (hbel1.trans (hbel2.trans hbel3))
          refine (zz_to g n3 c3 full c n2 _ hfl.symm hn3 h2n hnc hcm (fun j hj => hownF.cell j (by omega)) hu).mono ?_
          rintro e wz ⟨rfl, hwz⟩
          subst hwz
          clear hu hfl hn2' hn3' hownF HF hO1 hO2 hO3
          go_wp2
          go_ret
          exact ⟨rfl, hbel⟩
  · have hd : decide (len3 ≤ 1048576) = false := by simp; omega
    go_enter Trym.func6, Trym.ntmps6
    go_wp2_with (go_at_call 17; refine (bytes17_any _ a1 a2 a3 len3 cap3 _ hlen).mono ?_; rintro e w' ⟨rfl, rfl⟩)
    go_ret
    exact ⟨rfl, Below.refl _ _⟩

/-! ### THE ROW's STEP: WRITTEN OUT: LEAVE IT -/
set_option maxRecDepth 100000 in
theorem lifted (os : Os) (started : os.Started) (H : Type) (enc : TypeId × Value → H) :
    ReturnsInHanded {} Trym.checked os 6 .any (Rows.fnUnescapeASCIIEncodeRoundTripSpec.pre6 enc Trym.prog Trym.f6 Rows.fnUnescapeASCIIEncodeRoundTripRow.domain false) (Rows.fnUnescapeASCIIEncodeRoundTripSpec.post enc Trym.prog Trym.f6 false true false false) := by
  refine returnsInHanded_of_change (C := Trym.checked) own started (by kernel_rfl) Trym.func6
    (ChangeSpec.witness6 (enc := enc) (C := Trym.checked) false ⟨#[], #[.int .u8 0, .bool false, .bool false, .slice none 0 0], []⟩ 8 (by kernel_rfl) (by kernel_rfl) (by kernel_rfl) (by kernel_rfl)) ?_
  intro W base args ds gs before hval0 hW hcnd _
  have hval : ∀ (j : Nat) t v, Trym.f6.params[j]? = some t → args[j]? = some v → Value.okWide Trym.prog W .any base t v := hval0
  have hW' := hW
  obtain ⟨p, q, hA0, hV, rfl, hfz, hnd⟩ := hW
  have hA : DataW.TrodAll enc Trym.prog W 0 (fun _ => true) true Trym.f6.params.toList args.toList ds p := hA0
  rw [Trym.params6] at hA hval
  obtain ⟨v0, vs0, d0, ds0, p0, q0, hargs, rfl, rfl, h0, r0⟩ := trodAll_cons hA
  obtain ⟨v1, vs1, d1, ds1, p1, q1, rfl, rfl, rfl, h1, r1⟩ := trodAll_cons r0
  obtain ⟨v2, vs2, d2, ds2, p2, q2, rfl, rfl, rfl, h2, r2⟩ := trodAll_cons r1
  obtain ⟨v3, vs3, d3, ds3, p3, q3, rfl, rfl, rfl, h3, r3⟩ := trodAll_cons r2
  obtain ⟨rfl, rfl, rfl⟩ := trodAll_nil r3
  obtain rfl : args = #[v0, v1, v2, v3] := by cases args; simp_all
  obtain ⟨rfl, rfl⟩ := trodVars_none hV
  obtain ⟨a0, rfl, rfl, rfl, w0⟩ := open_int Trym.underlying5 (hval 0 5 v0 rfl rfl) h0
  obtain ⟨a1, rfl, rfl, rfl⟩ := open_bool Trym.underlying4 (hval 1 4 v1 rfl rfl) h1
  obtain ⟨a2, rfl, rfl, rfl⟩ := open_bool Trym.underlying4 (hval 2 4 v2 rfl rfl) h2
  obtain ⟨a3, len3, cap3, rfl⟩ := okWide_slice Trym.underlying22 (hval 3 22 v3 rfl rfl)
  have k3 := h3
  have lt3 : ∀ x ∈ p3, x.block < W.heap.size := by obtain ⟨m, hm⟩ := k3; exact DataW.trod_lt m _ _ _ hm
  obtain ⟨z3, w3⟩ : ∃ zs, IsRow .u8 W a3 len3 cap3 zs := by
    obtain ⟨fuel, hf⟩ := h3
    rcases open_ints Trym.underlying22 Trym.underlying5 (by kernel_rfl) hf with ⟨hcs, _⟩ | ⟨x, l, c, zs, hcs, _, hl, hm, hz, _, hcell, hwz⟩
    · simp [Value.cells] at hcs
      obtain ⟨rfl, rfl, rfl⟩ := hcs
      exact ⟨[], .inl ⟨rfl, rfl, rfl, rfl⟩⟩
    · simp [Value.cells] at hcs
      obtain ⟨rfl, rfl, rfl⟩ := hcs
      exact ⟨zs, .inr ⟨_, rfl, hl, hm, by simpa using hz, hcell, hwz⟩⟩
  clear hA0 hval0
  refine (walk a0 a1 a2 a3 len3 cap3 z3 W w0 w3).mono fun e W' ⟨he, bel⟩ => ?_
  subst he
  exact ⟨_, rfl, _, _, _, [], _, [], hW', trodAll_mk1 (shut_bool Trym.underlying4 _), (trodAll_cons_mk (shut_int Trym.underlying5 w0) (trodAll_cons_mk (shut_bool Trym.underlying4 _) (trodAll_cons_mk (shut_bool Trym.underlying4 _) (trodAll_cons_mk (Below.trod laidOut (by kernel_rfl) (of_decide_eq_true (by kernel_rfl)) k3 bel lt3) trodAll_mk0)))), rfl, bel.frame _, fun h => by cases h⟩

theorem closed1 : Trym.pinned.checked.prog.funcNamed Rows.fnUnescapeASCIIEncodeRoundTripRow.func = some 6 := by kernel_rfl
theorem closed2 : joinedFacts Trym.pinned.checked.prog 6 Trym.f6 Rows.fnUnescapeASCIIEncodeRoundTripSpec Rows.fnUnescapeASCIIEncodeRoundTripRow = true := by
  rw [pinned_prog]
  unfold joinedFacts
  rw [mayEnter_ok, liftsFinal_ok, make_ok]
  kernel_rfl
theorem closed3 : Trym.f6.isInstance Trym.pinned.checked.prog Rows.fnUnescapeASCIIEncodeRoundTripRow.origin Rows.fnUnescapeASCIIEncodeRoundTripRow.targs := of_decide_eq_true (by kernel_rfl)
theorem closed4 : Trym.f6.isWrapper Trym.pinned.checked.prog Rows.fnUnescapeASCIIEncodeRoundTripRow.wrapper Rows.fnUnescapeASCIIEncodeRoundTripRow.mainSum := by
  unfold Func.isWrapper; first | (rw [if_pos (by decide +kernel)]; kernel_rfl) | (rw [if_neg (by decide +kernel)]; exact ⟨rfl, rfl⟩)
theorem over : Rows.fnUnescapeASCIIEncodeRoundTripRow.holds Trym.pinned (OpenSpec.ofChange Rows.fnUnescapeASCIIEncodeRoundTripSpec) :=
  OpenClaim.holds_of_wide 6 Trym.f6 rfl rfl rfl rfl rfl rfl rfl ⟨rfl, rfl, rfl, rfl, rfl⟩ rfl rfl rfl rfl rfl closed1 Trym.func6 closed2
    closed3 closed4
    (fun os started H enc _ => lifted os started H enc)

/-- ████ THE STATEMENT ████ -/
theorem proved : Rows.FnUnescapeASCIIEncodeRoundTripSaid := over
end Go.Proofs.Qxb6601660aMods.fnUnescapeASCIIEncodeRoundTrip
