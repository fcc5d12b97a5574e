import Derived.Test.Qxb6600600aModsWk
import Derived.Deep.DeepCutAuto
namespace Go.Proofs.Qxb6600600aMods
open Go.RowKit
set_option linter.unusedVariables false

/-- The ops lie below block B. -/
def OpsAt (B : Nat) (w : World) (ap : Option Addr) (n : Nat) (l : List UInt8) : Prop :=
  l.length = n ∧ ∀ j, j < n → ∃ gp, ap = some ⟨gp, 0, none⟩ ∧ gp < B ∧ w.cell? ⟨gp, j, none⟩ = some (.int .u8 (bv l j))
theorem OpsAt.later {B : Nat} {w w' : World} {aw : Option Addr} {m : Nat} {ws : List UInt8} (h : OpsAt B w aw m ws) (hb : Below B w w') : OpsAt B w' aw m ws := by
  refine ⟨h.1, fun j hj => ?_⟩
  obtain ⟨gw, h1, h2, h3⟩ := h.2 j hj
  exact ⟨gw, h1, h2, by rw [hb.cell (p := ⟨gw, j, none⟩) h2]; exact h3⟩

theorem Trym.boolrow : OneRow Trym.prog 4 (.bool false) := by unfold OneRow; kernel_rfl

theorem row_cap {w : World} {B : Nat} {e : TypeId} {g n cap : Nat} {xs : List Value} (h : w.ownsRow B e 1 (.slice (some ⟨g, 0, none⟩) n cap) n xs) : n ≤ cap ∧ cap ≤ 9223372036854775807 := by
  rcases h.2 with ⟨h1, _⟩ | ⟨g', cap', cur, h1, _, _, h2, h3, _⟩
  · injection h1 with h1; cases h1
  · injection h1 with _ _ h6
    subst h6
    unfold maxLen at h3
    exact ⟨h2, h3⟩
theorem OwnB.caps {e : TypeId} {B : Nat} {w : World} {g n cap : Nat} {l : List UInt8} (h : OwnB e B w (.slice (some ⟨g, 0, none⟩) n cap) l) : n ≤ cap ∧ cap ≤ 9223372036854775807 := by
  have hl := h.len
  subst hl
  exact row_cap h
theorem OwnB.pop {e : TypeId} {B : Nat} {w : World} {g D cap : Nat} {l : List UInt8} (h : OwnB e B w (.slice (some ⟨g, 0, none⟩) (D + 1) cap) l) : OwnB e B w (.slice (some ⟨g, 0, none⟩) D cap) (l.take D) := by
  have hl := h.len
  have ht : (l.take D).length = D := by simp; omega
  unfold OwnB
  rw [ht]
  refine ownsRow_pop (last := bc (l.drop D)) (by rw [bc_length]; omega) ?_
  rw [← bc_append, List.take_append_drop]
  have := h
  unfold OwnB at this
  rw [← hl] at this
  exact this
theorem OwnF.pop {B : Nat} {w : World} {g D cap : Nat} {l : List Bool} (h : OwnF B w g (D + 1) cap l) : OwnF B w g D cap (l.take D) := by
  obtain ⟨hl, ho⟩ := h
  have ht : (l.take D).length = D := by simp; omega
  refine ⟨ht, ownsRow_pop (last := fc (l.drop D)) (by simp [fc]; omega) ?_⟩
  have e : fc (l.take D) ++ fc (l.drop D) = fc l := by unfold fc; rw [← List.map_append, List.take_append_drop]
  rw [e]
  exact ho
theorem St.pop {B : Nat} {w : World} {go no co gk ck gf cf D : Nat} {lo lk : List UInt8} {lf : List Bool} (h : St B w go no co gk ck gf cf (D + 1) lo lk lf) : St B w go no co gk ck gf cf D lo (lk.take D) (lf.take D) := by
  obtain ⟨h1, h2, h3, n1, n2, n3, hB⟩ := h
  exact ⟨h1, h2.pop, h3.pop, n1, n2, n3, hB⟩
/-- A container is opened: its kind, and that nothing is in it yet. -/
theorem St.push {B : Nat} {w : World} {go no co gk ck gf cf D : Nat} {lo lk : List UInt8} {lf : List Bool} (h : St B w go no co gk ck gf cf D lo lk lf) {gk' ck' : Nat} {w1 : World} {lk' : List UInt8} (hK : OwnB 5 B w1 (.slice (some ⟨gk', 0, none⟩) (D + 1) ck') lk') (hm : Mov gk w gk' w1)
    {gf' cf' : Nat} {w2 : World} (hF : w2.ownsRow B 4 1 (.slice (some ⟨gf', 0, none⟩) (D + 1) cf') (D + 1) (fc lf ++ [.bool false])) (hm2 : Mov gf w1 gf' w2) :
    St B w2 go no co gk' ck' gf' cf' (D + 1) lo lk' (lf ++ [false]) ∧ Below B w w2 := by
  obtain ⟨h1, h2, h3, n1, n2, n3, hB⟩ := h
  have hb := hm.below h2.ge.1 hB
  have hB1 := Nat.le_trans hB hb.size
  have h3' := h3.kept hm (Ne.symm n3)
  have hb2 := hm2.below h3'.ge.1 hB1
  have h1' := hm.keptB h1 n1
  have q1 : go ≠ gk' := hm.ne h1.ge.2 n1
  have q3 : gf ≠ gk' := hm.ne h3.ge.2 (Ne.symm n3)
  refine ⟨⟨hm2.keptB h1' n2, hm2.keptB hK (Ne.symm q3), ⟨by simp [h3.1], ?_⟩, q1, hm2.ne h1'.ge.2 n2, hm2.ne hK.ge.2 (Ne.symm q3), Nat.le_trans hB1 hb2.size⟩, hb.trans hb2⟩
  have e : fc (lf ++ [false]) = fc lf ++ [.bool false] := by simp [fc]
  rw [e]
  exact hF
theorem St.start (w : World) : St w.heap.size (((w.alloc (Obj.cells #[] 5)).alloc (Obj.cells #[] 5)).alloc (Obj.cells #[] 4)) w.heap.size 0 0 (w.heap.size + 1) 0 (w.heap.size + 1 + 1) 0 0 [] [] [] ∧ Below w.heap.size w (((w.alloc (Obj.cells #[] 5)).alloc (Obj.cells #[] 5)).alloc (Obj.cells #[] 4)) := by
  have a1 : (w.alloc (Obj.cells #[] 5)).ownsRow w.heap.size 5 1 (.slice (some ⟨w.heap.size, 0, none⟩) 0 0) 0 [] := World.ownsRow_lit w #[] 0 (Nat.le_refl _) (by unfold maxLen; omega) rfl
  have a2 : ((w.alloc (Obj.cells #[] 5)).alloc (Obj.cells #[] 5)).ownsRow w.heap.size 5 1 (.slice (some ⟨w.heap.size + 1, 0, none⟩) 0 0) 0 [] := by
    have := World.ownsRow_lit (base := w.heap.size) (e := 5) (size := 1) (w.alloc (Obj.cells #[] 5)) #[] 0 (by simp) (by unfold maxLen; omega) rfl
    simpa using this
  have a3 : (((w.alloc (Obj.cells #[] 5)).alloc (Obj.cells #[] 5)).alloc (Obj.cells #[] 4)).ownsRow w.heap.size 4 1 (.slice (some ⟨w.heap.size + 1 + 1, 0, none⟩) 0 0) 0 [] := by
    have := World.ownsRow_lit (base := w.heap.size) (e := 4) (size := 1) ((w.alloc (Obj.cells #[] 5)).alloc (Obj.cells #[] 5)) #[] 0 (by simp; omega) (by unfold maxLen; omega) rfl
    simpa using this
  exact ⟨⟨(a1.alloc _).alloc _, a2.alloc _, ⟨rfl, a3⟩, by omega, by omega, by omega, by simp; omega⟩, (((Below.refl _ w).alloc (Nat.le_refl _) _).alloc (by simp) _).alloc (by simp; omega) _⟩

/-- What buildContainer leaves: text that opens one container and closes it at its end. -/
def BPost (w : World) (e : Ending) (w' : World) : Prop :=
  ∃ (g' n' c' : Nat) (lo : List UInt8) (c : UInt8), e = .returned (.slice (some ⟨g', 0, none⟩) n' c') ∧ OwnB 5 w.heap.size w' (.slice (some ⟨g', 0, none⟩) n' c') (lo ++ [c]) ∧ Good lo 1 ∧ (c = 125 ∨ c = 93) ∧ Below w.heap.size w w' ∧ n' ≤ 40000000

/-- A slice's length. -/
def lenOf : Value → Nat
  | .slice _ n _ => n
  | _ => 0

/-- The loop's relation. -/
def BRel (n m : Nat) (ws : List ByteArray) (w : World) (ov kv fv wv iv : Value) (wr : World) : Prop :=
  ∃ (go no co gk ck gf cf D : Nat) (lo lk : List UInt8) (lf : List Bool) (wi k : Nat), ov = .slice (some ⟨go, 0, none⟩) no co ∧ kv = .slice (some ⟨gk, 0, none⟩) (D + 1) ck ∧ fv = .slice (some ⟨gf, 0, none⟩) (D + 1) cf ∧ wv = .int .i64 wi ∧ iv = .int .i64 k ∧
    k ≤ n ∧ wi ≤ m ∧ D ≤ k ∧ St w.heap.size wr go no co gk ck gf cf (D + 1) lo lk lf ∧ Good lo (D + 1) ∧ Below w.heap.size w wr ∧ lo.length ≤ 20 * (k + 1) + 6 * tot ws wi
/-- The relation of the loop that closes. -/
def CRel (n : Nat) (w : World) (ov kv : Value) (wr : World) : Prop :=
  ∃ (go no co gk ck D : Nat) (lo lk : List UInt8), ov = .slice (some ⟨go, 0, none⟩) no co ∧ kv = .slice (some ⟨gk, 0, none⟩) D ck ∧ OwnB 5 w.heap.size wr (.slice (some ⟨go, 0, none⟩) no co) lo ∧ OwnB 5 w.heap.size wr (.slice (some ⟨gk, 0, none⟩) D ck) lk ∧ go ≠ gk ∧
    ((1 ≤ D ∧ Good lo D) ∨ (D = 0 ∧ ∃ lo' c, lo = lo' ++ [c] ∧ Good lo' 1 ∧ (c = 125 ∨ c = 93))) ∧ Below w.heap.size w wr ∧ lo.length + D ≤ 30000000 ∧ D ≤ n + 1

set_option maxHeartbeats 4000000 in
set_option maxRecDepth 100000 in
theorem build_any (ap : Option Addr) (n cp : Nat) (lp : List UInt8) (aw : Option Addr) (m cw : Nat) (ws : List ByteArray) (w : World)
    (hp : OpsAt w.heap.size w ap n lp) (hw : WordsAt w.heap.size w aw m ws) (hn : n ≤ 1048576) (hm : m ≤ 1048576) (hws : tot ws m ≤ 1048576) :
    Calls Trym.prog 21 #[.slice ap n cp, .slice aw m cw] w fun e w' => BPost w e w' := by
  have HP : Hid (OpsAt w.heap.size w ap n lp) := hp
  have HW : Hid (WordsAt w.heap.size w aw m ws) := hw
  clear hp hw
  go_enter Trym.func21, Trym.ntmps21
  go_upto_region 5 with fail
  go_cut [26] (fun s26 wc => (∃ b : Bool, s26 = .bool b) ∧ wc = (((w.alloc (Obj.cells #[] 5)).alloc (Obj.cells #[] 5)).alloc (Obj.cells #[] 4)))
  case first =>
    by_cases h0 : 0 < n
    · obtain ⟨gp, rfl, hgp, hc0⟩ := HP.out.2 0 h0
      have h0' : (0 : Int) < (n : Int) := by omega
      have hb0 := bv_ge lp 0
      have hc3 : (((w.alloc (Obj.cells #[] 5)).alloc (Obj.cells #[] 5)).alloc (Obj.cells #[] 4)).cell? ⟨gp, 0, none⟩ = some (.int .u8 (bv lp 0)) := by
        have hb : Below w.heap.size w (((w.alloc (Obj.cells #[] 5)).alloc (Obj.cells #[] 5)).alloc (Obj.cells #[] 4)) := (((Below.refl _ w).alloc (Nat.le_refl _) _).alloc (by simp) _).alloc (by simp; omega) _
        rw [hb.cell (p := ⟨gp, 0, none⟩) hgp]
        exact hc0
      go_wp2_with fail
      go_meet
      exact ⟨⟨_, rfl⟩, rfl⟩
    · have h0' : decide ((0 : Int) < (n : Int)) = false := by simp; omega
      go_wp2_with fail
      go_meet
      exact ⟨⟨_, rfl⟩, rfl⟩
  case rest =>
    obtain ⟨⟨b, rfl⟩, rfl⟩ := hcut
    go_upto_if 26 with fail
    go_cut [8] (fun s8 wc => (∃ c : UInt8, s8 = .int .u8 (c.toNat : Int) ∧ (c = 123 ∨ c = 91)) ∧ Hid (wc = (((w.alloc (Obj.cells #[] 5)).alloc (Obj.cells #[] 5)).alloc (Obj.cells #[] 4))))
    case first =>
      cases b
      · go_wp2_with fail
        go_meet
        exact ⟨⟨91, rfl, .inr rfl⟩, rfl⟩
      · go_wp2_with fail
        go_meet
        exact ⟨⟨123, rfl, .inl rfl⟩, rfl⟩
    case rest =>
      obtain ⟨⟨c, rfl, hc⟩, HWC⟩ := hcut
      -- MARK
      have HS0 : Hid (St w.heap.size wc w.heap.size 0 0 (w.heap.size + 1) 0 (w.heap.size + 1 + 1) 0 0 [] [] [] ∧ Below w.heap.size w wc) := by rw [HWC.out]; exact St.start w
      clear HWC
      go_wp2_with (first | (at_builtin; refine wpL_atB rfl (.tmp 27) (.tmp 29) 22 5 rfl Trym.underlying22 Trym.brow w.heap.size _ _ _ _ rfl HS0.out.1.1 1 1 rfl [c] rfl rfl (by decide) (by first | omega | (simp; done) | (simp; omega)) HS0.out.1.2.2.2.2.2.2 ?_; intro g1 n1 c1 w1 hO1 hn1 hmov1; have hs1 := HS0.out.1.movO hO1 hmov1; have HS1 : Hid (St w.heap.size w1 g1 n1 c1 (w.heap.size + 1) 0 (w.heap.size + 1 + 1) 0 0 ([] ++ [c]) [] [] ∧ Below w.heap.size w w1) := ⟨hs1.1, HS0.out.2.trans hs1.2⟩; clear hs1 hO1 hmov1) | (at_builtin; refine wpL_atB rfl (.tmp 31) (.tmp 33) 22 5 rfl Trym.underlying22 Trym.brow w.heap.size _ _ _ _ rfl HS1.out.1.2.1 1 1 rfl [c] rfl rfl (by decide) (by have := HS1.out.1.2.1.len; first | omega | (simp; done) | (simp; omega)) HS1.out.1.2.2.2.2.2.2 ?_; intro g2 n2 c2 w2 hK2 hn2 hmov2; obtain rfl : n2 = 0 + 1 := by (have q1 := hK2.len; have q2 := HS1.out.1.2.1.len; simp at q1; omega)) | (at_builtin; refine wpL_at rfl (.tmp 35) (.tmp 36) 38 4 (.bool false) rfl Trym.underlying38 Trym.boolrow rfl w.heap.size _ _ _ _ rfl (HS1.out.1.2.2.1.kept hmov2 (Ne.symm HS1.out.1.2.2.2.2.2.1)).2 1 1 rfl rfl (by decide) (by intro u hu; simp at hu; subst hu; rfl) (by omega) (Nat.le_trans HS1.out.1.2.2.2.2.2.2 hmov2.1.size) ?_; intro g3 c3 w3 hF3 hmov3))
      have hs3 := HS1.out.1.push hK2 hmov2 hF3 hmov3
      have hgood : Good ([] ++ [c]) 1 := Takes.open hc 0
      have hbel3 := HS1.out.2.trans hs3.2
      have hst3 := hs3.1
      clear hs3 HS1 HS0 hK2 hmov2 hF3 hmov3
      go_loopw [5, 6, 7, 9, 10] (fun ov kv fv wv iv wr => BRel n m ws w ov kv fv wv iv wr) (fun _ _ _ _ iv _ => n - (intOf iv).toNat)
      case atStart => exact ⟨_, _, _, _, _, _, _, 0, _, _, _, 0, 0, rfl, rfl, rfl, rfl, rfl, by omega, by omega, by omega, hst3, hgood, hbel3, by simp; omega⟩
      case round =>
        clear hst3 hgood hbel3
        obtain ⟨go, no, co, gk, ck, gf, cf, D, lo, lk, lf, wi, k, rfl, rfl, rfl, rfl, rfl, hk, hwi, hDk, hst, hg, hbel, hlo⟩ := hrel
        have htm : tot ws wi ≤ tot ws m := tot_le ws hwi
        have HS : Hid (St w.heap.size wr go no co gk ck gf cf (D + 1) lo lk lf) := hst
        have HG : Hid (Good lo (D + 1)) := hg
        have HKl : Hid (D + 1 = lk.length) := hst.2.1.len
        have HOl : Hid (no = lo.length) := hst.1.len
        clear hst hg
        by_cases hlt : k < n
        · obtain ⟨gp, rfl, hgp, hcp⟩ := HP.out.2 k hlt
          have hread : wr.cell? ⟨gp, k, none⟩ = some (.int .u8 (bv lp k)) := by
            rw [hbel.cell (p := ⟨gp, k, none⟩) hgp]; exact hcp
          have hb0 := bv_ge lp k
          clear hcp
          have hmod : bv lp k % 6 = 0 ∨ bv lp k % 6 = 1 ∨ bv lp k % 6 = 2 ∨ bv lp k % 6 = 3 ∨ bv lp k % 6 = 4 ∨ bv lp k % 6 = 5 := by omega
          rcases hmod with hop | hop | hop | hop | hop | hop
          · go_wp2_with (first | (go_at_call 27; refine (before_any w.heap.size go no co gk ck gf cf D lo lk lf aw m cw wi ws _ HS.out (by omega) HG.out (HW.out.later hbel) hwi (by omega) (by omega) (by omega)).mono ?_; rintro e wb ⟨ga, na, ca, la, fa, wa, rfl, hsa, hga, hbela, hwa1, hwa2, hla⟩; have HSa : Hid (St w.heap.size wb ga na ca gk ck gf cf (D + 1) la lk fa) := hsa; have HGa : Hid (Good la (D + 1)) := hga; have hbela' := hbel.trans hbela; have htm2 : tot ws wa ≤ tot ws m := tot_le ws hwa2; have hwb : (wa : Int) ≤ (m : Int) := (by omega); clear hsa hga hbela) | (at_builtin; refine wpL_atB rfl (.tmp 91) (.tmp 93) 22 5 rfl Trym.underlying22 Trym.brow w.heap.size _ _ _ _ rfl HSa.out.1 1 1 rfl [91] rfl rfl (by decide) (by first | omega | (simp; done) | (simp; omega)) HSa.out.2.2.2.2.2.2 ?_; intro g1 n1 c1 w1 hO1 hn1 hmov1; have hs1 := HSa.out.movO hO1 hmov1; have HS1 : Hid (St w.heap.size w1 g1 n1 c1 gk ck gf cf (D + 1) (la ++ [91]) lk fa ∧ Below w.heap.size w w1) := ⟨hs1.1, hbela'.trans hs1.2⟩; clear hs1 hO1 hmov1) | (at_builtin; refine wpL_atB rfl (.tmp 95) (.tmp 97) 22 5 rfl Trym.underlying22 Trym.brow w.heap.size _ _ _ _ rfl HS1.out.1.2.1 1 1 rfl [91] rfl rfl (by decide) (by have := HS1.out.1.2.1.len; first | omega | (simp; done) | (simp; omega)) HS1.out.1.2.2.2.2.2.2 ?_; intro g2 n2 c2 w2 hK2 hn2 hmov2; obtain rfl : n2 = D + 1 + 1 := by (have q1 := hK2.len; have q2 := HS1.out.1.2.1.len; simp at q1; omega)) | (at_builtin; refine wpL_at rfl (.tmp 99) (.tmp 100) 38 4 (.bool false) rfl Trym.underlying38 Trym.boolrow rfl w.heap.size _ _ _ _ rfl (HS1.out.1.2.2.1.kept hmov2 (Ne.symm HS1.out.1.2.2.2.2.2.1)).2 1 1 rfl rfl (by decide) (by intro u hu; simp at hu; subst hu; rfl) (by omega) (Nat.le_trans HS1.out.1.2.2.2.2.2.2 hmov2.1.size) ?_; intro g3 c3 w3 hF3 hmov3))
            have hs3 := HS1.out.1.push hK2 hmov2 hF3 hmov3
            go_roundw
            case rel => exact ⟨_, _, _, _, _, _, _, D + 1, _, _, _, wa, k + 1, rfl, rfl, rfl, rfl, by go_num, by omega, by omega, by omega, hs3.1, HGa.out.app (Takes.open (.inr rfl) (D + 1)), HS1.out.2.trans hs3.2, by simp; omega⟩
            case measure => simp [intOf]; omega
          · go_wp2_with (first | (go_at_call 27; refine (before_any w.heap.size go no co gk ck gf cf D lo lk lf aw m cw wi ws _ HS.out (by omega) HG.out (HW.out.later hbel) hwi (by omega) (by omega) (by omega)).mono ?_; rintro e wb ⟨ga, na, ca, la, fa, wa, rfl, hsa, hga, hbela, hwa1, hwa2, hla⟩; have HSa : Hid (St w.heap.size wb ga na ca gk ck gf cf (D + 1) la lk fa) := hsa; have HGa : Hid (Good la (D + 1)) := hga; have hbela' := hbel.trans hbela; have htm2 : tot ws wa ≤ tot ws m := tot_le ws hwa2; have hwb : (wa : Int) ≤ (m : Int) := (by omega); clear hsa hga hbela) | (at_builtin; refine wpL_atB rfl (.tmp 91) (.tmp 93) 22 5 rfl Trym.underlying22 Trym.brow w.heap.size _ _ _ _ rfl HSa.out.1 1 1 rfl [123] rfl rfl (by decide) (by first | omega | (simp; done) | (simp; omega)) HSa.out.2.2.2.2.2.2 ?_; intro g1 n1 c1 w1 hO1 hn1 hmov1; have hs1 := HSa.out.movO hO1 hmov1; have HS1 : Hid (St w.heap.size w1 g1 n1 c1 gk ck gf cf (D + 1) (la ++ [123]) lk fa ∧ Below w.heap.size w w1) := ⟨hs1.1, hbela'.trans hs1.2⟩; clear hs1 hO1 hmov1) | (at_builtin; refine wpL_atB rfl (.tmp 95) (.tmp 97) 22 5 rfl Trym.underlying22 Trym.brow w.heap.size _ _ _ _ rfl HS1.out.1.2.1 1 1 rfl [123] rfl rfl (by decide) (by have := HS1.out.1.2.1.len; first | omega | (simp; done) | (simp; omega)) HS1.out.1.2.2.2.2.2.2 ?_; intro g2 n2 c2 w2 hK2 hn2 hmov2; obtain rfl : n2 = D + 1 + 1 := by (have q1 := hK2.len; have q2 := HS1.out.1.2.1.len; simp at q1; omega)) | (at_builtin; refine wpL_at rfl (.tmp 99) (.tmp 100) 38 4 (.bool false) rfl Trym.underlying38 Trym.boolrow rfl w.heap.size _ _ _ _ rfl (HS1.out.1.2.2.1.kept hmov2 (Ne.symm HS1.out.1.2.2.2.2.2.1)).2 1 1 rfl rfl (by decide) (by intro u hu; simp at hu; subst hu; rfl) (by omega) (Nat.le_trans HS1.out.1.2.2.2.2.2.2 hmov2.1.size) ?_; intro g3 c3 w3 hF3 hmov3))
            have hs3 := HS1.out.1.push hK2 hmov2 hF3 hmov3
            go_roundw
            case rel => exact ⟨_, _, _, _, _, _, _, D + 1, _, _, _, wa, k + 1, rfl, rfl, rfl, rfl, by go_num, by omega, by omega, by omega, hs3.1, HGa.out.app (Takes.open (.inl rfl) (D + 1)), HS1.out.2.trans hs3.2, by simp; omega⟩
            case measure => simp [intOf]; omega
          · cases D with
            | zero =>
              go_wp2
              go_roundw
              case rel => exact ⟨_, _, _, _, _, _, _, 0, _, _, _, wi, k + 1, rfl, rfl, rfl, rfl, by go_num, by omega, by omega, by omega, HS.out, HG.out, hbel, by omega⟩
              case measure => simp [intOf]; omega
            | succ D =>
              have hkc := HS.out.2.1.cell (D + 1) (by have := HKl.out; omega)
              obtain ⟨hk1, hk2⟩ := HS.out.2.1.caps
              obtain ⟨hf1, hf2⟩ := row_cap HS.out.2.2.1.2
              go_wp2_with (first | (go_at_call 26; refine (closer_any _ _).mono ?_; rintro e wc ⟨d, rfl, hd, hwc⟩; subst hwc) | (at_builtin; refine wpL_atB rfl (.tmp 54) (.tmp 62) 22 5 rfl Trym.underlying22 Trym.brow w.heap.size _ _ _ _ rfl HS.out.1 1 1 rfl [d] rfl rfl (by decide) (by first | omega | (simp; done) | (simp; omega)) HS.out.2.2.2.2.2.2 ?_; intro g1 n1 c1 w1 hO1 hn1 hmov1))
              have hs1 := HS.out.movO hO1 hmov1
              go_roundw
              case rel => exact ⟨_, _, _, _, _, _, _, D, _, _, _, wi, k + 1, rfl, rfl, rfl, rfl, by go_num, by omega, by omega, by omega, hs1.1.pop, HG.out.app (Takes.close hd D), hbel.trans hs1.2, by simp; omega⟩
              case measure => simp [intOf]; omega
          · go_wp2_with fail
            refine (before_any w.heap.size go no co gk ck gf cf D lo lk lf aw m cw wi ws _ HS.out (by omega) HG.out (HW.out.later hbel) hwi (by omega) (by omega) (by omega)).mono ?_
            rintro e wb ⟨ga, na, ca, la, fa, wa, rfl, hsa, hga, hbela, hwa1, hwa2, hla⟩
            have HSa : Hid (St w.heap.size wb ga na ca gk ck gf cf (D + 1) la lk fa) := hsa
            have HGa : Hid (Good la (D + 1)) := hga
            have hbela' := hbel.trans hbela
            have htm2 : tot ws wa ≤ tot ws m := tot_le ws hwa2
            have hwb : (wa : Int) ≤ (m : Int) := (by omega)
            clear hsa hga hbela
            by_cases hlt2 : wa < m
            · obtain ⟨gw, rfl, hgw, hwc⟩ := HW.out.2 wa hlt2
              have hts := tot_succ ws wa (by rw [HW.out.1]; exact hlt2)
              have htm3 : tot ws (wa + 1) ≤ tot ws m := tot_le ws hlt2
              obtain ⟨sw, hsw⟩ : ∃ sw, sw = ws.getD wa ByteArray.empty := ⟨_, rfl⟩
              rw [← hsw] at hwc hts
              have hwr : wb.cell? ⟨gw, wa, none⟩ = some (.string sw) := by rw [hbela'.cell (p := ⟨gw, wa, none⟩) hgw]; exact hwc
              have hsz : sw.size ≤ 2000000 := by omega
              have hq := qS_len sw.data.toList
              rw [Array.length_toList] at hq
              have hq' : (qS sw.data.toList).length ≤ 6 * sw.size := hq
              have HTS : Hid (tot ws (wa + 1) = tot ws wa + sw.size) := hts
              clear hwc hts hsw hq
              go_wp2_with (go_at_call 14; refine (quoted_at w.heap.size _ _ _ _ sw _ HSa.out.1 HSa.out.2.2.2.2.2.2 (by omega)).mono ?_; rintro e wz ⟨g1, n1, c1, rfl, hO1, hmov1⟩)
              have hs1 := HSa.out.movO hO1 hmov1
              go_roundw
              case rel => exact ⟨_, _, _, _, _, _, _, D, _, _, _, wa + 1, k + 1, rfl, rfl, rfl, by go_num, by go_num, by omega, by omega, by omega, hs1.1, HGa.out.app (Takes.str _ D), hbela'.trans hs1.2, by rw [HTS.out]; simp; omega⟩
              case measure => simp [intOf]; omega
            · have hlt2' : decide ((wa : Int) < (m : Int)) = false := by simp; omega
              go_wp2_with (go_at_call 14; refine (quoted_nil w.heap.size _ _ _ _ _ HSa.out.1 HSa.out.2.2.2.2.2.2 (by omega)).mono ?_; rintro e wz ⟨g1, n1, c1, rfl, hO1, hmov1⟩)
              have hs1 := HSa.out.movO hO1 hmov1
              go_roundw
              case rel => exact ⟨_, _, _, _, _, _, _, D, _, _, _, wa, k + 1, rfl, rfl, rfl, rfl, by go_num, by omega, by omega, by omega, hs1.1, HGa.out.app (Takes.empty D), hbela'.trans hs1.2, by simp; omega⟩
              case measure => simp [intOf]; omega
          · go_wp2_with (first | (go_at_call 27; refine (before_any w.heap.size go no co gk ck gf cf D lo lk lf aw m cw wi ws _ HS.out (by omega) HG.out (HW.out.later hbel) hwi (by omega) (by omega) (by omega)).mono ?_; rintro e wb ⟨ga, na, ca, la, fa, wa, rfl, hsa, hga, hbela, hwa1, hwa2, hla⟩; have HSa : Hid (St w.heap.size wb ga na ca gk ck gf cf (D + 1) la lk fa) := hsa; have HGa : Hid (Good la (D + 1)) := hga; have hbela' := hbel.trans hbela; have htm2 : tot ws wa ≤ tot ws m := tot_le ws hwa2; have hwb : (wa : Int) ≤ (m : Int) := (by omega); clear hsa hga hbela) | (at_builtin; refine wpL_strAt rfl (.tmp 119) (.const (.string ⟨#[45, 49, 50, 46, 53, 101, 43, 51]⟩)) 22 9 5 rfl Trym.underlying22 Trym.underlying9 Trym.brow w.heap.size _ _ _ _ rfl HSa.out.1 ⟨#[45, 49, 50, 46, 53, 101, 43, 51]⟩ rfl (by rw [show (⟨#[45, 49, 50, 46, 53, 101, 43, 51]⟩ : ByteArray).size = 8 from rfl]; omega) HSa.out.2.2.2.2.2.2 ?_; intro g1 n1 c1 w1 hO1 hn1 hmov1))
            have hs1 := HSa.out.movO hO1 hmov1
            go_roundw
            case rel => exact ⟨_, _, _, _, _, _, _, D, _, _, _, wa, k + 1, rfl, rfl, rfl, rfl, by go_num, by omega, by omega, by omega, hs1.1, HGa.out.app (Takes.number (D + 1)), hbela'.trans hs1.2, by simp; omega⟩
            case measure => simp [intOf]; omega
          · go_wp2_with (first | (go_at_call 27; refine (before_any w.heap.size go no co gk ck gf cf D lo lk lf aw m cw wi ws _ HS.out (by omega) HG.out (HW.out.later hbel) hwi (by omega) (by omega) (by omega)).mono ?_; rintro e wb ⟨ga, na, ca, la, fa, wa, rfl, hsa, hga, hbela, hwa1, hwa2, hla⟩; have HSa : Hid (St w.heap.size wb ga na ca gk ck gf cf (D + 1) la lk fa) := hsa; have HGa : Hid (Good la (D + 1)) := hga; have hbela' := hbel.trans hbela; have htm2 : tot ws wa ≤ tot ws m := tot_le ws hwa2; have hwb : (wa : Int) ≤ (m : Int) := (by omega); clear hsa hga hbela) | (at_builtin; refine wpL_strAt rfl (.tmp 121) (.const (.string ⟨#[110, 117, 108, 108]⟩)) 22 9 5 rfl Trym.underlying22 Trym.underlying9 Trym.brow w.heap.size _ _ _ _ rfl HSa.out.1 ⟨#[110, 117, 108, 108]⟩ rfl (by rw [show (⟨#[110, 117, 108, 108]⟩ : ByteArray).size = 4 from rfl]; omega) HSa.out.2.2.2.2.2.2 ?_; intro g1 n1 c1 w1 hO1 hn1 hmov1))
            have hs1 := HSa.out.movO hO1 hmov1
            go_roundw
            case rel => exact ⟨_, _, _, _, _, _, _, D, _, _, _, wa, k + 1, rfl, rfl, rfl, rfl, by go_num, by omega, by omega, by omega, hs1.1, HGa.out.app (Takes.null (D + 1)), hbela'.trans hs1.2, by simp; omega⟩
            case measure => simp [intOf]; omega
        · have hkn : D ≤ n := by omega
          have hlen0 : lo.length + (D + 1) ≤ 30000000 := by omega
          go_wp2
          go_loopw [5, 6] (fun ov kv wr => CRel n w ov kv wr) (fun _ kv _ => lenOf kv)
          case atStart => exact ⟨_, _, _, _, _, D + 1, _, _, rfl, rfl, HS.out.1, HS.out.2.1, HS.out.2.2.2.1, .inl ⟨by omega, HG.out⟩, hbel, by omega, by omega⟩
          case round =>
            clear HS HG HKl HOl hbel hlo hlen0
            obtain ⟨go, no, co, gk, ck, D, lo, lk, rfl, rfl, hO, hK, hne, hD, hbel, hlo, hDn⟩ := hrel
            have HKl : Hid (D = lk.length) := hK.len
            have HO : Hid (OwnB 5 w.heap.size wr (.slice (some ⟨go, 0, none⟩) no co) lo) := hO
            have HK : Hid (OwnB 5 w.heap.size wr (.slice (some ⟨gk, 0, none⟩) D ck) lk) := hK
            have hsz : w.heap.size ≤ wr.heap.size := hbel.size
            have hno : no ≤ 30000000 := by have := hO.len; omega
            clear hO hK
            cases D with
            | zero =>
              rcases hD with ⟨h1, _⟩ | ⟨_, lo', c', rfl, hg, hc'⟩
              · omega
              · go_wp2
                go_ret
                exact ⟨_, _, _, lo', c', rfl, HO.out, hg, hc', hbel, by omega⟩
            | succ D =>
              have HG : Hid (Good lo (D + 1)) := by
                rcases hD with ⟨_, h⟩ | ⟨h, _⟩
                · exact h
                · omega
              clear hD
              have hkc := HK.out.cell D (by have := HKl.out; omega)
              obtain ⟨hk1, hk2⟩ := HK.out.caps
              go_wp2_with (first | (go_at_call 26; refine (closer_any _ _).mono ?_; rintro e wc ⟨d, rfl, hd, hwc⟩; subst hwc) | (at_builtin; refine wpL_atB rfl (.tmp 126) (.tmp 134) 22 5 rfl Trym.underlying22 Trym.brow w.heap.size _ _ _ _ rfl HO.out 1 1 rfl [d] rfl rfl (by decide) (by first | omega | (simp; done) | (simp; omega)) hsz ?_; intro g1 n1 c1 w1 hO1 hn1 hmov1))
              have hK1 := (hmov1.keptB HK.out (Ne.symm hne)).pop
              have hb1 := hbel.trans (hmov1.below HO.out.ge.1 hsz)
              have hne1 : g1 ≠ gk := Ne.symm (hmov1.ne HK.out.ge.2 (Ne.symm hne))
              have hcl : (1 ≤ D ∧ Good (lo ++ [d]) D) ∨ (D = 0 ∧ ∃ lo' c, lo ++ [d] = lo' ++ [c] ∧ Good lo' 1 ∧ (c = 125 ∨ c = 93)) := by
                cases D with
                | zero => exact .inr ⟨rfl, lo, d, rfl, HG.out, hd⟩
                | succ D => exact .inl ⟨by omega, HG.out.app (Takes.close hd D)⟩
              go_roundw
              case rel => exact ⟨_, _, _, _, _, D, _, _, rfl, rfl, hO1, hK1, hne1, hcl, hb1, by simp; omega, by omega⟩
              case measure => simp [lenOf]
end Go.Proofs.Qxb6600600aMods
