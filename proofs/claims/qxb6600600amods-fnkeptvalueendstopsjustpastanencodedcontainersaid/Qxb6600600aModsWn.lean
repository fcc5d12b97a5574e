import Derived.Test.Qxb6600600aModsWm
namespace Go.Proofs.Qxb6600600aMods
open Go.RowKit
set_option linter.unusedVariables false

set_option maxHeartbeats 2000000 in
set_option maxRecDepth 100000 in
theorem container_walk (a0 : Option Addr) (n cap0 : Nat) (lp : List UInt8) (aw : Option Addr) (m cw : Nat) (ws : List ByteArray) (a2 : Option Addr) (r cap2 : Nat) (lq : List UInt8) (w : World)
    (hp : RowAt w a0 n lp) (hp0 : n ≤ maxLen) (hs : StrAt w aw m ws) (hm0 : m ≤ maxLen) (hq : RowAt w a2 r lq) (hq0 : r ≤ maxLen) :
    Calls Trym.prog 7 #[.slice a0 n cap0, .slice aw m cw, .slice a2 r cap2] w fun e w' => e = .returned (.bool true) ∧ Below w.heap.size w w' := by
  have HP : Hid (RowAt w a0 n lp) := hp
  have HQ : Hid (RowAt w a2 r lq) := hq
  have HS : Hid (StrAt w aw m ws) := hs
  have HQl : Hid (lq.length = r) := hq.1
  have HPl : Hid (lp.length = n) := hp.1
  clear hp hq hs
  go_enter Trym.func7, Trym.ntmps7
  go_wp2_with fail
  refine (bytes19_any a0 n cap0 aw m cw ws a2 r cap2 _ hp0 hm0 hq0 HS.out).mono ?_
  rintro e w' ⟨⟨b, rfl⟩, hw'⟩
  subst hw'
  unfold maxLen at hp0 hm0 hq0
  cases b
  · go_wp2
    go_ret
    exact ⟨rfl, Below.refl _ _⟩
  by_cases hn : n ≤ 1048576
  · by_cases hr : r ≤ 1048576
    · by_cases hm : m ≤ 65536
      · have d1 : decide ((1048576 : Int) < (n : Int)) = false := by simp; omega
        have d2 : decide ((1048576 : Int) < (r : Int)) = false := by simp; omega
        have d3 : decide ((65536 : Int) < (m : Int)) = false := by simp; omega
        go_wp2
        go_loop [7, 8] (fun tv iv => ∃ (t k : Nat), k ≤ m ∧ t = n + r + 16 * m + tot ws k ∧ t ≤ 4000000 ∧ tv = .int .i64 t ∧ iv = .int .i64 k) (fun _ iv => m - (intOf iv).toNat)
        case atStart => exact ⟨n + r + 16 * m, 0, by omega, by simp [tot], by omega, by go_num, rfl⟩
        case round =>
          obtain ⟨t, k, hk, ht, ht4, rfl, rfl⟩ := hrel
          have HT : Hid (t = n + r + 16 * m + tot ws k) := ht
          clear ht
          by_cases hlt : k < m
          · obtain ⟨b, o, rfl, hcell⟩ := strAt_at HS.out k hlt
            have hread := hcell k hlt
            have hts := tot_succ ws k (by rw [HS.out.1]; exact hlt)
            obtain ⟨s, hse⟩ : ∃ s, s = ws.getD k ByteArray.empty := ⟨_, rfl⟩
            rw [← hse] at hread hts
            have HTS : Hid (tot ws (k + 1) = tot ws k + s.size) := hts
            clear hcell hse hts
            by_cases hs1 : s.size ≤ 1048576
            · by_cases hs2 : t + s.size ≤ 1048576
              · go_wp2
                go_round
                case rel => exact ⟨t + s.size, k + 1, by omega, by rw [HTS.out]; have := HT.out; omega, by omega, by go_num, by go_num⟩
                case measure => simp [intOf]; omega
              · go_wp2
                go_ret
                exact ⟨rfl, Below.refl _ _⟩
            · go_wp2
              go_ret
              exact ⟨rfl, Below.refl _ _⟩
          · have hkm : k = m := by omega
            subst hkm
            by_cases hbig : t ≤ 1048576
            · have htot : tot ws k ≤ 1048576 := by have := HT.out; omega
              have dt : decide ((1048576 : Int) < (t : Int)) = false := by simp; omega
              clear HT hlt hk
              go_wp2_with fail
              refine (clone_any a0 n cap0 lp _ HP.out (by omega)).mono ?_
              rintro e wa ⟨ap, cp, rfl, hownp, hbela⟩
              have HSa : Hid (StrAt wa aw k ws) := strAt_later HS.out hbela
              have HQa : Hid (RowAt wa a2 r lq) := rowAt_later HQ.out hbela
              have HOP : Hid (OwnB 5 w'.heap.size wa (.slice ap n cp) lp) := hownp
              clear HS HQ HP hownp
              go_wp2_with fail
              refine (cloneS_any aw k cw ws _ HSa.out (by omega)).mono ?_
              rintro e wb ⟨av, cv, rfl, hwords, hbelb⟩
              have HQb : Hid (RowAt wb a2 r lq) := rowAt_later HQa.out hbelb
              have HOPb : Hid (OwnB 5 w'.heap.size wb (.slice ap n cp) lp) := HOP.out.row hbelb
              have HWb : Hid (WordsAt wb.heap.size wb av k ws) := hwords
              have hbb : Below w'.heap.size w' wb := hbela.trans (hbelb.mono hbela.size)
              clear HSa HQa HOP hwords hbela hbelb
              go_wp2_with fail
              refine (clone_any a2 r cap2 lq _ HQb.out (by omega)).mono ?_
              rintro e wc ⟨aq, cq, rfl, hownq, hbelc⟩
              have HOPc : Hid (OpsAt wc.heap.size wc ap n lp) := opsAt_of (HOPb.out.row hbelc) (Nat.le_refl _)
              have HWc : Hid (WordsAt wc.heap.size wc av k ws) := (HWb.out.later hbelc).up hbelc.size
              have HOQ : Hid (OwnB 5 wb.heap.size wc (.slice aq r cq) lq) := hownq
              have hbc : Below w'.heap.size w' wc := hbb.trans (hbelc.mono hbb.size)
              clear HQb HOPb HWb hownq hbelc hbb
              go_wp2_with fail
              refine (build_any ap n cp lp av k cv ws _ HOPc.out HWc.out hn (by omega) htot).mono ?_
              rintro e wd ⟨ge, ne, ce, lo, cl, rfl, hownd, hgood, hcl, hbeld, hned⟩
              have HOE : Hid (OwnB 5 wc.heap.size wd (.slice (some ⟨ge, 0, none⟩) ne ce) (lo ++ [cl])) := hownd
              have HNe : Hid (ne = (lo ++ [cl]).length) := hownd.len
              have HGo : Hid (Good lo 1 ∧ (cl = 125 ∨ cl = 93)) := ⟨hgood, hcl⟩
              have HOQd : Hid (OwnB 5 wb.heap.size wd (.slice aq r cq) lq) := HOQ.out.row hbeld
              have hbd : Below w'.heap.size w' wd := hbc.trans (hbeld.mono hbc.size)
              clear HOPc HWc HOQ hownd hgood hcl hbeld hbc
              by_cases he24 : ne ≤ 16777216
              · have d24 : decide ((16777216 : Int) < (ne : Int)) = false := by simp; omega
                go_wp2_with (first | (at_make; refine wpL_make0 rfl (.const (.int .i64 0)) (.tmp 77) 22 5 rfl Trym.underlying22 Trym.brow wd.heap.size .i64 .i64 _ (ne + r) rfl rfl (by omega) (by omega) (Nat.le_refl _) ?_; intro we hO0 hbele hsze) | (at_builtin; refine wpL_row rfl (.tmp 79) (.tmp 80) 22 5 rfl Trym.underlying22 Trym.brow wd.heap.size _ [] rfl hO0 (some ⟨ge, 0, none⟩) ne ce rfl (lo ++ [cl]) HNe.out.symm HOE.out.nilcap (HOE.out.row hbele).rowcells (by have := HNe.out; simp at this; simp; omega) hsze ?_; intro a1 n1 c1 w1 hO1 hn1 hbel1 hsz1) | (at_builtin; refine wpL_row rfl (.tmp 82) (.tmp 83) 22 5 rfl Trym.underlying22 Trym.brow wd.heap.size _ _ rfl hO1 aq r cq rfl lq HQl.out HOQd.out.nilcap (HOQd.out.row (hbele.trans hbel1)).rowcells (by have := HNe.out; have := HQl.out; simp at *; omega) hsz1 ?_; intro af nf cf wf hownf hnf hbelf hszf))
                have hnf2 := hownf.len
                obtain ⟨full, HF, hownF⟩ := hownf.letter
                have hfl := hownF.len
                have hVf : V full 0 0 false false = ne := by
                  rw [HF.out, HNe.out]
                  have e1 : ([] ++ (lo ++ [cl]) ++ lq : List UInt8) = (lo ++ [cl]) ++ lq := by simp
                  rw [e1]
                  exact ends_here lo lq cl HGo.out.1 HGo.out.2
                have hpos : 0 < nf := by rw [hnf2]; simp; omega
                obtain ⟨g, hg, hnc, hcm⟩ := hownF.big hpos
                subst hg
                have hbel : Below w'.heap.size w' wf := hbd.trans ((hbele.trans (hbel1.trans hbelf)).mono hbd.size)
                refine (zzValue_to g nf cf full ne _ hfl.symm hnf hnc hcm (fun j hj => hownF.cell j (by omega)) hVf).mono ?_
                rintro e wz ⟨rfl, hwz⟩
                subst hwz
                clear hVf hfl hnf2 hownF HF hownf
                go_wp2
                go_ret
                exact ⟨rfl, hbel⟩
              · go_wp2
                go_ret
                exact ⟨rfl, hbd⟩
            · go_wp2
              go_ret
              exact ⟨rfl, Below.refl _ _⟩
      · go_wp2
        go_ret
        exact ⟨rfl, Below.refl _ _⟩
    · go_wp2
      go_ret
      exact ⟨rfl, Below.refl _ _⟩
  · go_wp2
    go_ret
    exact ⟨rfl, Below.refl _ _⟩
end Go.Proofs.Qxb6600600aMods
