import Derived.Test.Qxb6600600aModsWi
namespace Go.Proofs.Qxb6600600aMods
open Go.RowKit
set_option linter.unusedVariables false

/-- How many bytes the first j words hold. -/
def tot (ws : List ByteArray) (j : Nat) : Nat := ((ws.take j).map (·.size)).sum
theorem tot_succ (ws : List ByteArray) (j : Nat) (h : j < ws.length) : tot ws (j + 1) = tot ws j + (ws.getD j ByteArray.empty).size := by
  unfold tot
  rw [List.take_succ_eq_append_getElem h, List.map_append, List.sum_append]
  simp only [List.map_cons, List.map_nil, List.sum_cons, List.sum_nil, Nat.add_zero]
  rw [List.getD_eq_getElem?_getD, List.getElem?_eq_getElem h]
  rfl
theorem tot_mono (ws : List ByteArray) (j k : Nat) : tot ws j ≤ tot ws (j + k) := by
  induction k with
  | zero => exact Nat.le_refl _
  | succ k ih =>
    rcases Nat.lt_or_ge (j + k) ws.length with h | h
    · have := tot_succ ws (j + k) h
      rw [← Nat.add_assoc]; omega
    · have e : tot ws (j + (k + 1)) = tot ws (j + k) := by
        unfold tot
        rw [List.take_of_length_le (by omega), List.take_of_length_le h]
      omega
theorem tot_le (ws : List ByteArray) {j k : Nat} (h : j ≤ k) : tot ws j ≤ tot ws k := by
  have := tot_mono ws j (k - j)
  rw [show j + (k - j) = k by omega] at this
  exact this

/-- The words lie below block B. -/
def WordsAt (B : Nat) (w : World) (aw : Option Addr) (m : Nat) (ws : List ByteArray) : Prop :=
  ws.length = m ∧ ∀ j, j < m → ∃ gw, aw = some ⟨gw, 0, none⟩ ∧ gw < B ∧ w.cell? ⟨gw, j, none⟩ = some (.string (ws.getD j ByteArray.empty))
theorem WordsAt.later {B : Nat} {w w' : World} {aw : Option Addr} {m : Nat} {ws : List ByteArray} (h : WordsAt B w aw m ws) (hb : Below B w w') : WordsAt B w' aw m ws := by
  refine ⟨h.1, fun j hj => ?_⟩
  obtain ⟨gw, h1, h2, h3⟩ := h.2 j hj
  exact ⟨gw, h1, h2, by rw [hb.cell (p := ⟨gw, j, none⟩) h2]; exact h3⟩

/-- A row of bools as cells. -/
def fc (l : List Bool) : List Value := l.map Value.bool
/-- The slice value v owns the bools l. -/
def OwnF (B : Nat) (w : World) (g n cap : Nat) (l : List Bool) : Prop := l.length = n ∧ w.ownsRow B 4 1 (.slice (some ⟨g, 0, none⟩) n cap) n (fc l)
theorem OwnF.cell {B : Nat} {w : World} {g n cap : Nat} {l : List Bool} (h : OwnF B w g n cap l) (j : Nat) (hj : j < n) : w.cell? ⟨g, j, none⟩ = some (.bool (l.getD j false)) := by
  rw [World.ownsRow.cellAt h.2 j (by omega)]
  have hl : j < l.length := by rw [h.1]; exact hj
  simp [fc, List.getD, List.getElem?_eq_getElem hl]
theorem OwnF.frozen {B : Nat} {w : World} {g n cap : Nat} {l : List Bool} (h : OwnF B w g n cap l) (j : Nat) : w.frozen? ⟨g, j, none⟩ = false := World.ownsRow.frozenAt h.2 j
theorem OwnF.ge {B : Nat} {w : World} {g n cap : Nat} {l : List Bool} (h : OwnF B w g n cap l) : B ≤ g ∧ g < w.heap.size := World.ownsRow.lt h.2 g rfl
theorem OwnF.set {B : Nat} {w : World} {g n cap : Nat} {l : List Bool} (h : OwnF B w g n cap l) (j : Nat) (b : Bool) : OwnF B (w.setCell ⟨g, j, none⟩ (.bool b)) g n cap (l.set j b) ∧ Mov g w g (w.setCell ⟨g, j, none⟩ (.bool b)) := by
  have h2 := World.ownsRow.stored h.2 j (.bool b)
  refine ⟨⟨by rw [List.length_set]; exact h.1, ?_⟩, h2.2, .inl rfl, ?_⟩
  · have e : fc (l.set j b) = (fc l).set j (.bool b) := by simp [fc, List.map_set]
    rw [e]
    exact h2.1
  · exact Nat.lt_of_lt_of_le h.ge.2 h2.2.size
theorem OwnF.kept {B : Nat} {w : World} {g n cap : Nat} {l : List Bool} (h : OwnF B w g n cap l) {k k' : Nat} {w' : World} (hm : Mov k w k' w') (hne : g ≠ k) : OwnF B w' g n cap l := ⟨h.1, hm.kept h.2 hne⟩

/-- The three rows that are being built: the text, the open containers' kinds, whether each is filled. -/
def St (B : Nat) (w : World) (go no co gk ck gf cf D : Nat) (lo lk : List UInt8) (lf : List Bool) : Prop :=
  OwnB 5 B w (.slice (some ⟨go, 0, none⟩) no co) lo ∧ OwnB 5 B w (.slice (some ⟨gk, 0, none⟩) D ck) lk ∧ OwnF B w gf D cf lf ∧ go ≠ gk ∧ go ≠ gf ∧ gk ≠ gf ∧ B ≤ w.heap.size

theorem lt_of {D n : Nat} (h : D + 1 = n) : D < n := by omega
theorem quoted_nil (B g n cap : Nat) (l : List UInt8) (w : World) (hown : OwnB 5 B w (.slice (some ⟨g, 0, none⟩) n cap) l) (hB : B ≤ w.heap.size) (hlen : l.length ≤ 40000000) :
    Calls Trym.prog 14 #[.slice (some ⟨g, 0, none⟩) n cap, .string ⟨#[]⟩] w fun e w' => ∃ g' n' cap', e = .returned (.slice (some ⟨g', 0, none⟩) n' cap') ∧ OwnB 5 B w' (.slice (some ⟨g', 0, none⟩) n' cap') (l ++ [34, 34]) ∧ Mov g w g' w' := by
  have hs : (⟨#[]⟩ : ByteArray).size = 0 := rfl
  refine (quoted_at B g n cap l ⟨#[]⟩ w hown hB (by rw [hs]; omega)).mono ?_
  rintro e w' ⟨g', n', cap', rfl, h1, h2⟩
  exact ⟨g', n', cap', rfl, h1, h2⟩
theorem Takes.empty (D : Nat) : Takes [34, 34] (D + 1) (D + 1) := Takes.str [] D
theorem St.movO {B : Nat} {w : World} {go no co gk ck gf cf D : Nat} {lo lk : List UInt8} {lf : List Bool} (h : St B w go no co gk ck gf cf D lo lk lf) {g1 m1 c1 : Nat} {w1 : World} {lo1 : List UInt8} (hO : OwnB 5 B w1 (.slice (some ⟨g1, 0, none⟩) m1 c1) lo1) (hm : Mov go w g1 w1) :
    St B w1 g1 m1 c1 gk ck gf cf D lo1 lk lf ∧ Below B w w1 := by
  obtain ⟨h1, h2, h3, n1, n2, n3, hB⟩ := h
  have hb := hm.below h1.ge.1 hB
  exact ⟨⟨hO, hm.keptB h2 (Ne.symm n1), h3.kept hm (Ne.symm n2), Ne.symm (hm.ne h2.ge.2 (Ne.symm n1)), Ne.symm (hm.ne h3.ge.2 (Ne.symm n2)), n3, Nat.le_trans hB hb.size⟩, hb⟩
theorem St.setF {B : Nat} {w : World} {go no co gk ck gf cf D : Nat} {lo lk : List UInt8} {lf : List Bool} (h : St B w go no co gk ck gf cf D lo lk lf) (j : Nat) (b : Bool) :
    St B (w.setCell ⟨gf, j, none⟩ (.bool b)) go no co gk ck gf cf D lo lk (lf.set j b) ∧ Below B w (w.setCell ⟨gf, j, none⟩ (.bool b)) := by
  obtain ⟨h1, h2, h3, n1, n2, n3, hB⟩ := h
  obtain ⟨k1, k2⟩ := h3.set j b
  have hb := k2.below h3.ge.1 hB
  exact ⟨⟨k2.keptB h1 n2, k2.keptB h2 n3, k1, n1, n2, n3, Nat.le_trans hB hb.size⟩, hb⟩

set_option maxHeartbeats 1000000 in
set_option maxRecDepth 100000 in
theorem before_tn (B go no co gk ck gf cf D : Nat) (lo lk : List UInt8) (lf : List Bool) (aw : Option Addr) (m cw wi : Nat) (ws : List ByteArray) (w : World)
    (hst : St B w go no co gk ck gf cf (D + 1) lo lk lf) (hD : D ≤ 2000000) (hg : Good lo (D + 1)) (hw : WordsAt B w aw m ws) (hwi : wi ≤ m) (hm : m ≤ 2000000) (hlo : lo.length ≤ 30000000) (hws : tot ws m ≤ 2000000)
    (hfl : lf.getD D false = true) (h123 : lk.getD D 0 ≠ 123) :
    Calls Trym.prog 27 #[.slice (some ⟨go, 0, none⟩) no co, .slice (some ⟨gk, 0, none⟩) (D + 1) ck, .slice (some ⟨gf, 0, none⟩) (D + 1) cf, .slice aw m cw, .int .i64 wi] w fun e w' =>
      ∃ (go' no' co' : Nat) (lo' : List UInt8) (lf' : List Bool) (wi' : Nat), e = .returned (.tuple #[.slice (some ⟨go', 0, none⟩) no' co', .int .i64 wi']) ∧ St B w' go' no' co' gk ck gf cf (D + 1) lo' lk lf' ∧ Good lo' (D + 1) ∧ Below B w w' ∧ wi ≤ wi' ∧ wi' ≤ m ∧ lo'.length + 6 * tot ws wi ≤ lo.length + 4 + 6 * tot ws wi' := by
  have HKl : Hid (D + 1 = lk.length) := hst.2.1.len
  have hfc := hst.2.2.1.cell D (by omega)
  rw [hfl] at hfc
  have e123 : (bv lk D == 123) = false := bv_ne (d := 123) h123
  have HW : Hid (WordsAt B w aw m ws) := hw
  have HG : Hid (Good lo (D + 1)) := hg
  have HS : Hid (St B w go no co gk ck gf cf (D + 1) lo lk lf) := hst
  clear hfl hw hg hst h123
  go_enter Trym.func27, Trym.ntmps27
  go_wp2_with (first | (at_builtin; refine wpL_atB rfl (.tmp 21) (.tmp 22) 22 5 rfl Trym.underlying22 Trym.brow B _ _ _ _ rfl HS.out.1 1 1 rfl [44] rfl rfl (by decide) (by first | omega | (simp; omega)) HS.out.2.2.2.2.2.2 ?_; intro g1 m1 c1 w1 hO1 hm1 hmov1; have hs1 := HS.out.movO hO1 hmov1; have hfa := hs1.1.2.2.1.cell D (by omega); have hff := hs1.1.2.2.1.frozen D; have hkc := hs1.1.2.1.cell D (lt_of HKl.out); have h2 := hs1.1.setF D true; have hkc2 := h2.1.2.1.cell D (lt_of HKl.out); have HS2 : Hid (St B (w1.setCell ⟨gf, D, none⟩ (.bool true)) _ _ _ _ _ _ _ _ _ _ _ ∧ Below B w (w1.setCell ⟨gf, D, none⟩ (.bool true))) := ⟨h2.1, (hs1.2).trans h2.2⟩; clear h2; clear hs1 hO1 hmov1))
  go_ret2
  refine ⟨_, _, _, _, _, wi, rfl, HS2.out.1, (HG.out.app (Takes.sep (.inl rfl) D)), HS2.out.2, by omega, by omega, ?_⟩
  simp

set_option maxHeartbeats 1000000 in
set_option maxRecDepth 100000 in
theorem before_te (B go no co gk ck gf cf D : Nat) (lo lk : List UInt8) (lf : List Bool) (aw : Option Addr) (m cw wi : Nat) (ws : List ByteArray) (w : World)
    (hst : St B w go no co gk ck gf cf (D + 1) lo lk lf) (hD : D ≤ 2000000) (hg : Good lo (D + 1)) (hw : WordsAt B w aw m ws) (hwi : wi ≤ m) (hm : m ≤ 2000000) (hlo : lo.length ≤ 30000000) (hws : tot ws m ≤ 2000000)
    (hfl : lf.getD D false = true) (h123 : lk.getD D 0 = 123) (hge : m ≤ wi) :
    Calls Trym.prog 27 #[.slice (some ⟨go, 0, none⟩) no co, .slice (some ⟨gk, 0, none⟩) (D + 1) ck, .slice (some ⟨gf, 0, none⟩) (D + 1) cf, .slice aw m cw, .int .i64 wi] w fun e w' =>
      ∃ (go' no' co' : Nat) (lo' : List UInt8) (lf' : List Bool) (wi' : Nat), e = .returned (.tuple #[.slice (some ⟨go', 0, none⟩) no' co', .int .i64 wi']) ∧ St B w' go' no' co' gk ck gf cf (D + 1) lo' lk lf' ∧ Good lo' (D + 1) ∧ Below B w w' ∧ wi ≤ wi' ∧ wi' ≤ m ∧ lo'.length + 6 * tot ws wi ≤ lo.length + 4 + 6 * tot ws wi' := by
  have HKl : Hid (D + 1 = lk.length) := hst.2.1.len
  have hfc := hst.2.2.1.cell D (by omega)
  rw [hfl] at hfc
  have e123 : (bv lk D == 123) = true := bv_eq h123
  have hlt' : decide ((wi : Int) < (m : Int)) = false := by simp; omega
  have HW : Hid (WordsAt B w aw m ws) := hw
  have HG : Hid (Good lo (D + 1)) := hg
  have HS : Hid (St B w go no co gk ck gf cf (D + 1) lo lk lf) := hst
  clear hfl hw hg hst h123
  go_enter Trym.func27, Trym.ntmps27
  go_wp2_with (first | (at_builtin; refine wpL_atB rfl (.tmp 21) (.tmp 22) 22 5 rfl Trym.underlying22 Trym.brow B _ _ _ _ rfl HS.out.1 1 1 rfl [44] rfl rfl (by decide) (by first | omega | (simp; omega)) HS.out.2.2.2.2.2.2 ?_; intro g1 m1 c1 w1 hO1 hm1 hmov1; have hs1 := HS.out.movO hO1 hmov1; have hfa := hs1.1.2.2.1.cell D (by omega); have hff := hs1.1.2.2.1.frozen D; have hkc := hs1.1.2.1.cell D (lt_of HKl.out); have h2 := hs1.1.setF D true; have hkc2 := h2.1.2.1.cell D (lt_of HKl.out); have HS2 : Hid (St B (w1.setCell ⟨gf, D, none⟩ (.bool true)) _ _ _ _ _ _ _ _ _ _ _ ∧ Below B w (w1.setCell ⟨gf, D, none⟩ (.bool true))) := ⟨h2.1, (hs1.2).trans h2.2⟩; clear h2; clear hs1 hO1 hmov1) | (go_at_call 14; refine (quoted_nil B _ _ _ _ _ HS2.out.1.1 HS2.out.1.2.2.2.2.2.2 (by first | omega | (simp; omega))).mono ?_; rintro e w3 ⟨g3, m3, c3, rfl, hO3, hmov3⟩; have hs3 := HS2.out.1.movO hO3 hmov3; have HS3 : Hid (St B w3 _ _ _ _ _ _ _ _ _ _ _ ∧ Below B w w3) := ⟨hs3.1, HS2.out.2.trans hs3.2⟩; clear hs3 hO3 hmov3) | (at_builtin; refine wpL_atB rfl (.tmp 45) (.tmp 46) 22 5 rfl Trym.underlying22 Trym.brow B _ _ _ _ rfl HS3.out.1.1 1 1 rfl [58] rfl rfl (by decide) (by first | omega | (simp; omega)) HS3.out.1.2.2.2.2.2.2 ?_; intro g4 m4 c4 w4 hO4 hm4 hmov4; have hs4 := HS3.out.1.movO hO4 hmov4; have HS4 : Hid (St B w4 _ _ _ _ _ _ _ _ _ _ _ ∧ Below B w w4) := ⟨hs4.1, HS3.out.2.trans hs4.2⟩; clear hs4 hO4 hmov4))
  go_ret2
  refine ⟨_, _, _, _, _, wi, rfl, HS4.out.1, (((HG.out.app (Takes.sep (.inl rfl) D)).app (Takes.empty D)).app (Takes.sep (.inr rfl) D)), HS4.out.2, by omega, by omega, ?_⟩
  simp
  try omega

set_option maxHeartbeats 1000000 in
set_option maxRecDepth 100000 in
theorem before_tw (B go no co gk ck gf cf D : Nat) (lo lk : List UInt8) (lf : List Bool) (aw : Option Addr) (m cw wi : Nat) (ws : List ByteArray) (w : World)
    (hst : St B w go no co gk ck gf cf (D + 1) lo lk lf) (hD : D ≤ 2000000) (hg : Good lo (D + 1)) (hw : WordsAt B w aw m ws) (hwi : wi ≤ m) (hm : m ≤ 2000000) (hlo : lo.length ≤ 30000000) (hws : tot ws m ≤ 2000000)
    (hfl : lf.getD D false = true) (h123 : lk.getD D 0 = 123) (hlt : wi < m) :
    Calls Trym.prog 27 #[.slice (some ⟨go, 0, none⟩) no co, .slice (some ⟨gk, 0, none⟩) (D + 1) ck, .slice (some ⟨gf, 0, none⟩) (D + 1) cf, .slice aw m cw, .int .i64 wi] w fun e w' =>
      ∃ (go' no' co' : Nat) (lo' : List UInt8) (lf' : List Bool) (wi' : Nat), e = .returned (.tuple #[.slice (some ⟨go', 0, none⟩) no' co', .int .i64 wi']) ∧ St B w' go' no' co' gk ck gf cf (D + 1) lo' lk lf' ∧ Good lo' (D + 1) ∧ Below B w w' ∧ wi ≤ wi' ∧ wi' ≤ m ∧ lo'.length + 6 * tot ws wi ≤ lo.length + 4 + 6 * tot ws wi' := by
  have HKl : Hid (D + 1 = lk.length) := hst.2.1.len
  have hfc := hst.2.2.1.cell D (by omega)
  rw [hfl] at hfc
  have e123 : (bv lk D == 123) = true := bv_eq h123
  obtain ⟨gw, rfl, hgw, hwc⟩ := hw.2 wi hlt
  have hts : tot ws (wi + 1) = tot ws wi + (ws.getD wi ByteArray.empty).size := tot_succ ws wi (by rw [hw.1]; exact hlt)
  have htm : tot ws (wi + 1) ≤ tot ws m := tot_le ws hlt
  obtain ⟨sw, hsw⟩ : ∃ sw, sw = ws.getD wi ByteArray.empty := ⟨_, rfl⟩
  rw [← hsw] at hwc hts
  have hq := qS_len sw.data.toList
  rw [Array.length_toList] at hq
  have hq' : (qS sw.data.toList).length ≤ 6 * sw.size := hq
  have hsz : sw.size ≤ 2000000 := by omega
  have HTS : Hid (tot ws (wi + 1) = tot ws wi + sw.size) := hts
  clear hsw hts hq htm
  have HW : Hid (WordsAt B w (some ⟨gw, 0, none⟩) m ws) := hw
  have HG : Hid (Good lo (D + 1)) := hg
  have HS : Hid (St B w go no co gk ck gf cf (D + 1) lo lk lf) := hst
  clear hfl hw hg hst h123
  go_enter Trym.func27, Trym.ntmps27
  go_wp2_with (first | (at_builtin; refine wpL_atB rfl (.tmp 21) (.tmp 22) 22 5 rfl Trym.underlying22 Trym.brow B _ _ _ _ rfl HS.out.1 1 1 rfl [44] rfl rfl (by decide) (by first | omega | (simp; omega)) HS.out.2.2.2.2.2.2 ?_; intro g1 m1 c1 w1 hO1 hm1 hmov1; have hs1 := HS.out.movO hO1 hmov1; have hfa := hs1.1.2.2.1.cell D (by omega); have hff := hs1.1.2.2.1.frozen D; have hkc := hs1.1.2.1.cell D (lt_of HKl.out); have h2 := hs1.1.setF D true; have hkc2 := h2.1.2.1.cell D (lt_of HKl.out); have hwc2 : (w1.setCell ⟨gf, D, none⟩ (.bool true)).cell? ⟨gw, wi, none⟩ = some (.string sw) := (((hs1.2).trans h2.2).cell (p := ⟨gw, wi, none⟩) hgw).trans hwc; have HS2 : Hid (St B (w1.setCell ⟨gf, D, none⟩ (.bool true)) _ _ _ _ _ _ _ _ _ _ _ ∧ Below B w (w1.setCell ⟨gf, D, none⟩ (.bool true))) := ⟨h2.1, (hs1.2).trans h2.2⟩; clear h2; clear hs1 hO1 hmov1) | (go_at_call 14; refine (quoted_at B _ _ _ _ sw _ HS2.out.1.1 HS2.out.1.2.2.2.2.2.2 (by first | omega | (simp; omega))).mono ?_; rintro e w3 ⟨g3, m3, c3, rfl, hO3, hmov3⟩; have hs3 := HS2.out.1.movO hO3 hmov3; have HS3 : Hid (St B w3 _ _ _ _ _ _ _ _ _ _ _ ∧ Below B w w3) := ⟨hs3.1, HS2.out.2.trans hs3.2⟩; clear hs3 hO3 hmov3) | (at_builtin; refine wpL_atB rfl (.tmp 45) (.tmp 46) 22 5 rfl Trym.underlying22 Trym.brow B _ _ _ _ rfl HS3.out.1.1 1 1 rfl [58] rfl rfl (by decide) (by first | omega | (simp; omega)) HS3.out.1.2.2.2.2.2.2 ?_; intro g4 m4 c4 w4 hO4 hm4 hmov4; have hs4 := HS3.out.1.movO hO4 hmov4; have HS4 : Hid (St B w4 _ _ _ _ _ _ _ _ _ _ _ ∧ Below B w w4) := ⟨hs4.1, HS3.out.2.trans hs4.2⟩; clear hs4 hO4 hmov4))
  go_ret2
  refine ⟨_, _, _, _, _, wi + 1, rfl, HS4.out.1, (((HG.out.app (Takes.sep (.inl rfl) D)).app (Takes.str _ D)).app (Takes.sep (.inr rfl) D)), HS4.out.2, by omega, by omega, ?_⟩
  rw [HTS.out]
  simp
  try omega

set_option maxHeartbeats 1000000 in
set_option maxRecDepth 100000 in
theorem before_fn (B go no co gk ck gf cf D : Nat) (lo lk : List UInt8) (lf : List Bool) (aw : Option Addr) (m cw wi : Nat) (ws : List ByteArray) (w : World)
    (hst : St B w go no co gk ck gf cf (D + 1) lo lk lf) (hD : D ≤ 2000000) (hg : Good lo (D + 1)) (hw : WordsAt B w aw m ws) (hwi : wi ≤ m) (hm : m ≤ 2000000) (hlo : lo.length ≤ 30000000) (hws : tot ws m ≤ 2000000)
    (hfl : lf.getD D false = false) (h123 : lk.getD D 0 ≠ 123) :
    Calls Trym.prog 27 #[.slice (some ⟨go, 0, none⟩) no co, .slice (some ⟨gk, 0, none⟩) (D + 1) ck, .slice (some ⟨gf, 0, none⟩) (D + 1) cf, .slice aw m cw, .int .i64 wi] w fun e w' =>
      ∃ (go' no' co' : Nat) (lo' : List UInt8) (lf' : List Bool) (wi' : Nat), e = .returned (.tuple #[.slice (some ⟨go', 0, none⟩) no' co', .int .i64 wi']) ∧ St B w' go' no' co' gk ck gf cf (D + 1) lo' lk lf' ∧ Good lo' (D + 1) ∧ Below B w w' ∧ wi ≤ wi' ∧ wi' ≤ m ∧ lo'.length + 6 * tot ws wi ≤ lo.length + 4 + 6 * tot ws wi' := by
  have HKl : Hid (D + 1 = lk.length) := hst.2.1.len
  have hfc := hst.2.2.1.cell D (by omega)
  rw [hfl] at hfc
  have e123 : (bv lk D == 123) = false := bv_ne (d := 123) h123
  have HW : Hid (WordsAt B w aw m ws) := hw
  have HG : Hid (Good lo (D + 1)) := hg
  have HS : Hid (St B w go no co gk ck gf cf (D + 1) lo lk lf) := hst
  clear hfl hw hg hst h123
  have hfa := HS.out.2.2.1.cell D (by omega)
  have hff := HS.out.2.2.1.frozen D
  have hkc := HS.out.2.1.cell D (lt_of HKl.out)
  have h2 := HS.out.setF D true
  have hkc2 := h2.1.2.1.cell D (lt_of HKl.out)
  have HS2 : Hid (St B (w.setCell ⟨gf, D, none⟩ (.bool true)) _ _ _ _ _ _ _ _ _ _ _ ∧ Below B w (w.setCell ⟨gf, D, none⟩ (.bool true))) := ⟨h2.1, (Below.refl B w).trans h2.2⟩
  clear h2
  go_enter Trym.func27, Trym.ntmps27
  go_wp2
  go_ret2
  refine ⟨_, _, _, _, _, wi, rfl, HS2.out.1, HG.out, HS2.out.2, by omega, by omega, ?_⟩
  simp

set_option maxHeartbeats 1000000 in
set_option maxRecDepth 100000 in
theorem before_fe (B go no co gk ck gf cf D : Nat) (lo lk : List UInt8) (lf : List Bool) (aw : Option Addr) (m cw wi : Nat) (ws : List ByteArray) (w : World)
    (hst : St B w go no co gk ck gf cf (D + 1) lo lk lf) (hD : D ≤ 2000000) (hg : Good lo (D + 1)) (hw : WordsAt B w aw m ws) (hwi : wi ≤ m) (hm : m ≤ 2000000) (hlo : lo.length ≤ 30000000) (hws : tot ws m ≤ 2000000)
    (hfl : lf.getD D false = false) (h123 : lk.getD D 0 = 123) (hge : m ≤ wi) :
    Calls Trym.prog 27 #[.slice (some ⟨go, 0, none⟩) no co, .slice (some ⟨gk, 0, none⟩) (D + 1) ck, .slice (some ⟨gf, 0, none⟩) (D + 1) cf, .slice aw m cw, .int .i64 wi] w fun e w' =>
      ∃ (go' no' co' : Nat) (lo' : List UInt8) (lf' : List Bool) (wi' : Nat), e = .returned (.tuple #[.slice (some ⟨go', 0, none⟩) no' co', .int .i64 wi']) ∧ St B w' go' no' co' gk ck gf cf (D + 1) lo' lk lf' ∧ Good lo' (D + 1) ∧ Below B w w' ∧ wi ≤ wi' ∧ wi' ≤ m ∧ lo'.length + 6 * tot ws wi ≤ lo.length + 4 + 6 * tot ws wi' := by
  have HKl : Hid (D + 1 = lk.length) := hst.2.1.len
  have hfc := hst.2.2.1.cell D (by omega)
  rw [hfl] at hfc
  have e123 : (bv lk D == 123) = true := bv_eq h123
  have hlt' : decide ((wi : Int) < (m : Int)) = false := by simp; omega
  have HW : Hid (WordsAt B w aw m ws) := hw
  have HG : Hid (Good lo (D + 1)) := hg
  have HS : Hid (St B w go no co gk ck gf cf (D + 1) lo lk lf) := hst
  clear hfl hw hg hst h123
  have hfa := HS.out.2.2.1.cell D (by omega)
  have hff := HS.out.2.2.1.frozen D
  have hkc := HS.out.2.1.cell D (lt_of HKl.out)
  have h2 := HS.out.setF D true
  have hkc2 := h2.1.2.1.cell D (lt_of HKl.out)
  have HS2 : Hid (St B (w.setCell ⟨gf, D, none⟩ (.bool true)) _ _ _ _ _ _ _ _ _ _ _ ∧ Below B w (w.setCell ⟨gf, D, none⟩ (.bool true))) := ⟨h2.1, (Below.refl B w).trans h2.2⟩
  clear h2
  go_enter Trym.func27, Trym.ntmps27
  go_wp2_with (first | (go_at_call 14; refine (quoted_nil B _ _ _ _ _ HS2.out.1.1 HS2.out.1.2.2.2.2.2.2 (by first | omega | (simp; omega))).mono ?_; rintro e w3 ⟨g3, m3, c3, rfl, hO3, hmov3⟩; have hs3 := HS2.out.1.movO hO3 hmov3; have HS3 : Hid (St B w3 _ _ _ _ _ _ _ _ _ _ _ ∧ Below B w w3) := ⟨hs3.1, HS2.out.2.trans hs3.2⟩; clear hs3 hO3 hmov3) | (at_builtin; refine wpL_atB rfl (.tmp 45) (.tmp 46) 22 5 rfl Trym.underlying22 Trym.brow B _ _ _ _ rfl HS3.out.1.1 1 1 rfl [58] rfl rfl (by decide) (by first | omega | (simp; omega)) HS3.out.1.2.2.2.2.2.2 ?_; intro g4 m4 c4 w4 hO4 hm4 hmov4; have hs4 := HS3.out.1.movO hO4 hmov4; have HS4 : Hid (St B w4 _ _ _ _ _ _ _ _ _ _ _ ∧ Below B w w4) := ⟨hs4.1, HS3.out.2.trans hs4.2⟩; clear hs4 hO4 hmov4))
  go_ret2
  refine ⟨_, _, _, _, _, wi, rfl, HS4.out.1, ((HG.out.app (Takes.empty D)).app (Takes.sep (.inr rfl) D)), HS4.out.2, by omega, by omega, ?_⟩
  simp
  try omega

set_option maxHeartbeats 1000000 in
set_option maxRecDepth 100000 in
theorem before_fw (B go no co gk ck gf cf D : Nat) (lo lk : List UInt8) (lf : List Bool) (aw : Option Addr) (m cw wi : Nat) (ws : List ByteArray) (w : World)
    (hst : St B w go no co gk ck gf cf (D + 1) lo lk lf) (hD : D ≤ 2000000) (hg : Good lo (D + 1)) (hw : WordsAt B w aw m ws) (hwi : wi ≤ m) (hm : m ≤ 2000000) (hlo : lo.length ≤ 30000000) (hws : tot ws m ≤ 2000000)
    (hfl : lf.getD D false = false) (h123 : lk.getD D 0 = 123) (hlt : wi < m) :
    Calls Trym.prog 27 #[.slice (some ⟨go, 0, none⟩) no co, .slice (some ⟨gk, 0, none⟩) (D + 1) ck, .slice (some ⟨gf, 0, none⟩) (D + 1) cf, .slice aw m cw, .int .i64 wi] w fun e w' =>
      ∃ (go' no' co' : Nat) (lo' : List UInt8) (lf' : List Bool) (wi' : Nat), e = .returned (.tuple #[.slice (some ⟨go', 0, none⟩) no' co', .int .i64 wi']) ∧ St B w' go' no' co' gk ck gf cf (D + 1) lo' lk lf' ∧ Good lo' (D + 1) ∧ Below B w w' ∧ wi ≤ wi' ∧ wi' ≤ m ∧ lo'.length + 6 * tot ws wi ≤ lo.length + 4 + 6 * tot ws wi' := by
  have HKl : Hid (D + 1 = lk.length) := hst.2.1.len
  have hfc := hst.2.2.1.cell D (by omega)
  rw [hfl] at hfc
  have e123 : (bv lk D == 123) = true := bv_eq h123
  obtain ⟨gw, rfl, hgw, hwc⟩ := hw.2 wi hlt
  have hts : tot ws (wi + 1) = tot ws wi + (ws.getD wi ByteArray.empty).size := tot_succ ws wi (by rw [hw.1]; exact hlt)
  have htm : tot ws (wi + 1) ≤ tot ws m := tot_le ws hlt
  obtain ⟨sw, hsw⟩ : ∃ sw, sw = ws.getD wi ByteArray.empty := ⟨_, rfl⟩
  rw [← hsw] at hwc hts
  have hq := qS_len sw.data.toList
  rw [Array.length_toList] at hq
  have hq' : (qS sw.data.toList).length ≤ 6 * sw.size := hq
  have hsz : sw.size ≤ 2000000 := by omega
  have HTS : Hid (tot ws (wi + 1) = tot ws wi + sw.size) := hts
  clear hsw hts hq htm
  have HW : Hid (WordsAt B w (some ⟨gw, 0, none⟩) m ws) := hw
  have HG : Hid (Good lo (D + 1)) := hg
  have HS : Hid (St B w go no co gk ck gf cf (D + 1) lo lk lf) := hst
  clear hfl hw hg hst h123
  have hfa := HS.out.2.2.1.cell D (by omega)
  have hff := HS.out.2.2.1.frozen D
  have hkc := HS.out.2.1.cell D (lt_of HKl.out)
  have h2 := HS.out.setF D true
  have hkc2 := h2.1.2.1.cell D (lt_of HKl.out)
  have hwc2 : (w.setCell ⟨gf, D, none⟩ (.bool true)).cell? ⟨gw, wi, none⟩ = some (.string sw) := (((Below.refl B w).trans h2.2).cell (p := ⟨gw, wi, none⟩) hgw).trans hwc
  have HS2 : Hid (St B (w.setCell ⟨gf, D, none⟩ (.bool true)) _ _ _ _ _ _ _ _ _ _ _ ∧ Below B w (w.setCell ⟨gf, D, none⟩ (.bool true))) := ⟨h2.1, (Below.refl B w).trans h2.2⟩
  clear h2
  go_enter Trym.func27, Trym.ntmps27
  go_wp2_with (first | (go_at_call 14; refine (quoted_at B _ _ _ _ sw _ HS2.out.1.1 HS2.out.1.2.2.2.2.2.2 (by first | omega | (simp; omega))).mono ?_; rintro e w3 ⟨g3, m3, c3, rfl, hO3, hmov3⟩; have hs3 := HS2.out.1.movO hO3 hmov3; have HS3 : Hid (St B w3 _ _ _ _ _ _ _ _ _ _ _ ∧ Below B w w3) := ⟨hs3.1, HS2.out.2.trans hs3.2⟩; clear hs3 hO3 hmov3) | (at_builtin; refine wpL_atB rfl (.tmp 45) (.tmp 46) 22 5 rfl Trym.underlying22 Trym.brow B _ _ _ _ rfl HS3.out.1.1 1 1 rfl [58] rfl rfl (by decide) (by first | omega | (simp; omega)) HS3.out.1.2.2.2.2.2.2 ?_; intro g4 m4 c4 w4 hO4 hm4 hmov4; have hs4 := HS3.out.1.movO hO4 hmov4; have HS4 : Hid (St B w4 _ _ _ _ _ _ _ _ _ _ _ ∧ Below B w w4) := ⟨hs4.1, HS3.out.2.trans hs4.2⟩; clear hs4 hO4 hmov4))
  go_ret2
  refine ⟨_, _, _, _, _, wi + 1, rfl, HS4.out.1, ((HG.out.app (Takes.str _ D)).app (Takes.sep (.inr rfl) D)), HS4.out.2, by omega, by omega, ?_⟩
  rw [HTS.out]
  simp
  try omega

end Go.Proofs.Qxb6600600aMods
