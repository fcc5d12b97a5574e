import Derived.Test.Qxb6600600aModsWj
namespace Go.Proofs.Qxb6600600aMods
open Go.RowKit

theorem before_any (B go no co gk ck gf cf D : Nat) (lo lk : List UInt8) (lf : List Bool) (aw : Option Addr) (m cw wi : Nat) (ws : List ByteArray) (w : World)
    (hst : St B w go no co gk ck gf cf (D + 1) lo lk lf) (hD : D ≤ 2000000) (hg : Good lo (D + 1)) (hw : WordsAt B w aw m ws) (hwi : wi ≤ m) (hm : m ≤ 2000000) (hlo : lo.length ≤ 30000000) (hws : tot ws m ≤ 2000000) :
    Calls Trym.prog 27 #[.slice (some ⟨go, 0, none⟩) no co, .slice (some ⟨gk, 0, none⟩) (D + 1) ck, .slice (some ⟨gf, 0, none⟩) (D + 1) cf, .slice aw m cw, .int .i64 wi] w fun e w' =>
      ∃ (go' no' co' : Nat) (lo' : List UInt8) (lf' : List Bool) (wi' : Nat), e = .returned (.tuple #[.slice (some ⟨go', 0, none⟩) no' co', .int .i64 wi']) ∧ St B w' go' no' co' gk ck gf cf (D + 1) lo' lk lf' ∧ Good lo' (D + 1) ∧ Below B w w' ∧ wi ≤ wi' ∧ wi' ≤ m ∧ lo'.length + 6 * tot ws wi ≤ lo.length + 4 + 6 * tot ws wi' := by
  by_cases h123 : lk.getD D 0 = 123
  · by_cases hlt : wi < m
    · cases hfl : lf.getD D false
      · exact before_fw B go no co gk ck gf cf D lo lk lf aw m cw wi ws w hst hD hg hw hwi hm hlo hws hfl h123 hlt
      · exact before_tw B go no co gk ck gf cf D lo lk lf aw m cw wi ws w hst hD hg hw hwi hm hlo hws hfl h123 hlt
    · cases hfl : lf.getD D false
      · exact before_fe B go no co gk ck gf cf D lo lk lf aw m cw wi ws w hst hD hg hw hwi hm hlo hws hfl h123 (by omega)
      · exact before_te B go no co gk ck gf cf D lo lk lf aw m cw wi ws w hst hD hg hw hwi hm hlo hws hfl h123 (by omega)
  · cases hfl : lf.getD D false
    · exact before_fn B go no co gk ck gf cf D lo lk lf aw m cw wi ws w hst hD hg hw hwi hm hlo hws hfl h123
    · exact before_tn B go no co gk ck gf cf D lo lk lf aw m cw wi ws w hst hD hg hw hwi hm hlo hws hfl h123

theorem Trym.info9 : (Trym.prog.info? 9).map (fun i => (i.zero, i.size, i.bytes)) = some (some (.string ⟨#[]⟩), 1, 16) := by kernel_rfl

/-- Strings as cells. -/
def sc (l : List ByteArray) : List Value := l.map Value.string

/-- A slice of strings that came in. -/
def StrAt (w : World) (a : Option Addr) (len : Nat) (ws : List ByteArray) : Prop :=
  ws.length = len ∧ ((a = none ∧ len = 0) ∨ ∃ x, a = some x ∧ ∀ i, i < len → w.cell? (x.add i) = some (.string (ws.getD i ByteArray.empty)))
theorem strAt_later {w w' : World} {a : Option Addr} {len : Nat} {l : List ByteArray} (h : StrAt w a len l) (hb : Below w.heap.size w w') : StrAt w' a len l := by
  obtain ⟨h1, h2⟩ := h
  refine ⟨h1, ?_⟩
  rcases h2 with h2 | ⟨x, hx, hc⟩
  · exact .inl h2
  · exact .inr ⟨x, hx, fun i hi => by rw [hb.cell (cell_lt (hc i hi))]; exact hc i hi⟩

theorem sc_step (l : List ByteArray) (k : Nat) (h : k < l.length) : (sc (l.take k ++ List.replicate (l.length - k) ⟨#[]⟩)).set k (.string (l.getD k ByteArray.empty)) = sc (l.take (k + 1) ++ List.replicate (l.length - (k + 1)) ⟨#[]⟩) := by
  have e : l.length - k = (l.length - (k + 1)) + 1 := by omega
  have hk : (l.take k).length = k := by simp; omega
  have e2 : l.take (k + 1) = l.take k ++ [l.getD k ByteArray.empty] := by
    rw [List.take_succ_eq_append_getElem h, List.getD_eq_getElem?_getD, List.getElem?_eq_getElem h]
    rfl
  rw [e, List.replicate_succ, e2]
  unfold sc
  rw [List.map_append, List.set_append_right _ _ (by simp; omega), List.length_map, hk, Nat.sub_self]
  simp

set_option maxHeartbeats 400000 in
theorem cloneS_nil (c : Nat) (w : World) :
    Calls Trym.prog 20 #[.slice none 0 c] w fun e w' => e = .returned (.slice none 0 0) ∧ w' = w := by
  have hnil := Lib.run_eql_slice_nil (P := Trym.prog) w 31 9 none 0 c 0 0 Trym.underlying31
  simp only [Option.isNone_none] at hnil
  go_enter Trym.func20, Trym.ntmps20
  go_wp2
  go_ret
  exact ⟨rfl, rfl⟩

set_option maxHeartbeats 1000000 in
theorem cloneS_some (x : Addr) (len c : Nat) (l : List ByteArray) (w : World) (hl : l.length = len) (hn : len ≤ 100000000) (hc : ∀ i, i < len → w.cell? (x.add i) = some (.string (l.getD i ByteArray.empty))) :
    Calls Trym.prog 20 #[.slice (some x) len c] w fun e w' => e = .returned (.slice (some ⟨w.heap.size, 0, none⟩) len len) ∧ w'.ownsRow w.heap.size 9 1 (.slice (some ⟨w.heap.size, 0, none⟩) len len) len (sc l) ∧ Below w.heap.size w w' := by
  have hnil := Lib.run_eql_slice_nil (P := Trym.prog) w 31 9 (some x) len c 0 0 Trym.underlying31
  simp only [Option.isNone_some] at hnil
  obtain ⟨i0, hi, hz0, hz1, hz2⟩ := info_parts Trym.info9
  have hI : Hid (Trym.prog.info? 9 = some i0) := hi
  have hZ0 : Hid (i0.zero = some (.string ⟨#[]⟩)) := hz0
  have hZ1 : Hid (i0.size = 1) := hz1
  have hZ2 : Hid (i0.bytes = 16) := hz2
  clear hi hz0 hz1 hz2
  have HC : Hid (∀ i, i < len → w.cell? (x.add i) = some (.string (l.getD i ByteArray.empty)) ∧ x.block < w.heap.size) := by
    intro i hi
    refine ⟨hc i hi, ?_⟩
    have := cell_lt (hc i hi)
    have e : (x.add i).block = x.block := by unfold Addr.add; split <;> rfl
    rw [e] at this
    exact this
  have HLn : Hid (l.length = len) := hl
  have HX : Hid (0 < len → ∃ b o, x = ⟨b, o, none⟩) := by
    intro h0
    obtain ⟨b, o, spot⟩ := x
    have hspot : spot = none := by simpa [Addr.add] using World.cell?_spot (hc 0 h0)
    subst hspot
    exact ⟨b, o, rfl⟩
  clear hc hl
  go_enter Trym.func20, Trym.ntmps20
  go_wp2_with (at_make; refine wpList_make_full _ rfl (.tmp 8) (.tmp 8) 31 rfl w.heap.size 9 i0 (.string ⟨#[]⟩) 1 Trym.underlying31 hI.out hZ0.out hZ1.out .i64 .i64 _ _ len rfl rfl rfl rfl (by rw [hZ2.out]; omega) (by unfold maxLen; omega) (Nat.le_refl _) ?_; intro w1 hown1 hgrow1)
  have hbel1 : Below w.heap.size w w1 := (Below.refl _ w).grown hgrow1 (Nat.le_refl _) (fun k hk => by cases hk)
  have hown2 : w1.ownsRow w.heap.size 9 1 (.slice (some ⟨w.heap.size, 0, none⟩) len len) len (sc (l.take 0 ++ List.replicate (len - 0) ⟨#[]⟩)) := by
    have e1 : sc (l.take 0 ++ List.replicate (len - 0) ⟨#[]⟩) = (madeCells (Value.string ⟨#[]⟩).cells (len * 1)).toList := by
      show _ = (madeCells #[Value.string ⟨#[]⟩] (len * 1)).toList
      rw [toList_madeCells_one]
      simp [sc]
    rw [e1]
    exact hown1
  clear hown1 hgrow1
  go_loopw [4] (fun i wr => ∃ k : Nat, k ≤ len ∧ i = .int .i64 k ∧ wr.ownsRow w.heap.size 9 1 (.slice (some ⟨w.heap.size, 0, none⟩) len len) len (sc (l.take k ++ List.replicate (len - k) ⟨#[]⟩)) ∧ Below w.heap.size w wr) (fun i _ => len - (intOf i).toNat)
  case atStart => exact ⟨0, by omega, rfl, hown2, hbel1⟩
  case round =>
    clear hown2 hbel1 hnil
    obtain ⟨k, hk, rfl, hown, hbel⟩ := hrel
    by_cases hlt : k < len
    · obtain ⟨b, o, rfl⟩ := HX.out (by omega)
      have hlk : k < l.length := by rw [HLn.out]; exact hlt
      have hread : wr.cell? ⟨b, o + k, none⟩ = some (.string (l.getD k ByteArray.empty)) := by
        have h1 := HC.out k hlt
        rw [add_lit0] at h1
        rw [hbel.cell (p := ⟨b, o + k, none⟩) h1.2]
        exact h1.1
      obtain ⟨u, hth⟩ : ∃ u, wr.cell? ⟨w.heap.size, k, none⟩ = some u := by
        rw [World.ownsRow.cellAt hown k (by omega)]
        have : k < (sc (l.take k ++ List.replicate (len - k) ⟨#[]⟩)).length := by have := hown.1; omega
        exact ⟨_, List.getElem?_eq_getElem this⟩
      have hfz : wr.frozen? ⟨w.heap.size, k, none⟩ = false := World.ownsRow.frozenAt hown k
      obtain ⟨s, hs⟩ : ∃ s, s = l.getD k ByteArray.empty := ⟨_, rfl⟩
      rw [← hs] at hread
      have HS : (wr.setCell ⟨w.heap.size, k, none⟩ (.string s)).ownsRow w.heap.size 9 1 (.slice (some ⟨w.heap.size, 0, none⟩) len len) len (sc (l.take (k + 1) ++ List.replicate (len - (k + 1)) ⟨#[]⟩)) := by
        have := (World.ownsRow.stored hown k (.string s)).1
        rw [hs] at this ⊢
        have e := sc_step l k hlk
        rw [HLn.out] at e
        rw [e] at this
        exact this
      have HSB := hbel.setCell (p := ⟨w.heap.size, k, none⟩) (Nat.le_refl _) (.string s)
      clear hown hbel hs
      go_wp2
      go_roundw
      case rel => exact ⟨k + 1, by omega, by go_num, HS, HSB⟩
      case measure => simp [intOf]; omega
    · have hkl : k = len := by omega
      subst hkl
      have hown' : wr.ownsRow w.heap.size 9 1 (.slice (some ⟨w.heap.size, 0, none⟩) k k) k (sc l) := by
        have := hown
        rw [List.take_of_length_le (by rw [HLn.out]; exact Nat.le_refl _), Nat.sub_self] at this
        simpa using this
      clear hown
      go_wp2
      go_ret
      exact ⟨rfl, hown', hbel⟩

/-- cloneStrings, whatever comes in. -/
theorem cloneS_any (a : Option Addr) (len cap : Nat) (l : List ByteArray) (w : World) (hrow : StrAt w a len l) (hn : len ≤ 100000000) :
    Calls Trym.prog 20 #[.slice a len cap] w fun e w' => ∃ ao cap', e = .returned (.slice ao len cap') ∧ WordsAt w'.heap.size w' ao len l ∧ Below w.heap.size w w' := by
  obtain ⟨hl, hr⟩ := hrow
  rcases hr with ⟨rfl, rfl⟩ | ⟨x, rfl, hcell⟩
  · refine (cloneS_nil cap w).mono ?_
    rintro e w' ⟨rfl, rfl⟩
    exact ⟨none, 0, rfl, ⟨hl, fun j hj => by omega⟩, Below.refl _ _⟩
  · refine (cloneS_some x len cap l w hl hn hcell).mono ?_
    rintro e w' ⟨rfl, h1, h2⟩
    refine ⟨_, _, rfl, ⟨hl, fun j hj => ⟨w.heap.size, rfl, (World.ownsRow.lt h1 w.heap.size rfl).2, ?_⟩⟩, h2⟩
    rw [World.ownsRow.cellAt h1 j (by omega)]
    have hjl : j < l.length := by omega
    simp [sc, List.getD, List.getElem?_eq_getElem hjl]
theorem WordsAt.up {B B' : Nat} {w : World} {aw : Option Addr} {m : Nat} {ws : List ByteArray} (h : WordsAt B w aw m ws) (hB : B ≤ B') : WordsAt B' w aw m ws := by
  refine ⟨h.1, fun j hj => ?_⟩
  obtain ⟨gw, h1, h2, h3⟩ := h.2 j hj
  exact ⟨gw, h1, by omega, h3⟩
end Go.Proofs.Qxb6600600aMods
