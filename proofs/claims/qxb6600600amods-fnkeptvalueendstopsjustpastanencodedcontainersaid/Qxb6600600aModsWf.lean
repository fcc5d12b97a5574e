import Derived.Test.Qxb6600600aModsWe
import Derived.Test.Qxb6600600aModsPlainC
namespace Go.Proofs.Qxb6600600aMods
open Go.RowKit

theorem two_yes {l : List UInt8} {k : Nat} {a b : UInt8} (h : (l.getD k 0 == a || l.getD k 0 == b) = true) : (bv l k == (a.toNat : Int)) = true ∨ ((bv l k == (a.toNat : Int)) = false ∧ (bv l k == (b.toNat : Int)) = true) := by
  by_cases h1 : l.getD k 0 = a
  · exact .inl (bv_eq h1)
  · rw [Bool.or_eq_true, beq_iff_eq, beq_iff_eq] at h
    exact .inr ⟨bv_ne h1, bv_eq (h.resolve_left h1)⟩
theorem two_no {l : List UInt8} {k : Nat} {a b : UInt8} (h : (l.getD k 0 == a || l.getD k 0 == b) = false) : (bv l k == (a.toNat : Int)) = false ∧ (bv l k == (b.toNat : Int)) = false := by
  rw [Bool.or_eq_false_iff, beq_eq_false_iff_ne, beq_eq_false_iff_ne] at h
  exact ⟨bv_ne h.1, bv_ne h.2⟩
theorem opn_yes {l : List UInt8} {k : Nat} (h : opn (l.getD k 0) = true) : (bv l k == 123) = true ∨ ((bv l k == 123) = false ∧ (bv l k == 91) = true) := two_yes (a := 123) (b := 91) h
theorem opn_no {l : List UInt8} {k : Nat} (h : opn (l.getD k 0) = false) : (bv l k == 123) = false ∧ (bv l k == 91) = false := two_no (a := 123) (b := 91) h
theorem cls_yes {l : List UInt8} {k : Nat} (h : cls (l.getD k 0) = true) : (bv l k == 125) = true ∨ ((bv l k == 125) = false ∧ (bv l k == 93) = true) := two_yes (a := 125) (b := 93) h
theorem cls_no {l : List UInt8} {k : Nat} (h : cls (l.getD k 0) = false) : (bv l k == 125) = false ∧ (bv l k == 93) = false := two_no (a := 125) (b := 93) h
theorem sep_yes {l : List UInt8} {k : Nat} (h : sep (l.getD k 0) = true) : (bv l k == 44) = true ∨ ((bv l k == 44) = false ∧ (bv l k == 58) = true) := two_yes (a := 44) (b := 58) h
theorem sep_no {l : List UInt8} {k : Nat} (h : sep (l.getD k 0) = false) : (bv l k == 44) = false ∧ (bv l k == 58) = false := two_no (a := 44) (b := 58) h

set_option maxHeartbeats 2000000 in
set_option maxRecDepth 100000 in
/-- keptValueEnd. -/
theorem keptValue_any (g n cap : Nat) (l : List UInt8) (w : World) (hl : l.length = n) (hn : n ≤ 100000000) (hcap : n ≤ cap) (hcap2 : cap ≤ maxLen) (hc : ∀ j, j < n → w.cell? ⟨g, j, none⟩ = some (.int .u8 (bv l j))) :
    Calls Trym.prog 25 #[.slice (some ⟨g, 0, none⟩) n cap] w fun e w' => e = .returned (.int .i64 (V l 0 0 false false)) ∧ w' = w := by
  have HC : Hid (∀ j, j < n → w.cell? ⟨g, j, none⟩ = some (.int .u8 (bv l j))) := hc
  have HLn : Hid (l.length = n) := hl
  clear hc hl
  go_enter Trym.func25, Trym.ntmps25
  go_wp2
  go_loop [3, 4] (fun dv iv => ∃ (d k : Nat), k ≤ n ∧ d ≤ k ∧ dv = .int .i64 d ∧ iv = .int .i64 k ∧ Hid (V l k d false false = V l 0 0 false false)) (fun _ iv => n - (intOf iv).toNat)
  case atStart => exact ⟨0, 0, by omega, by omega, rfl, rfl, rfl⟩
  case round =>
    obtain ⟨d, k, hk, hd, rfl, rfl, hV⟩ := hrel
    by_cases hlt : k < n
    · have hcell := HC.out k hlt
      have hlk : k < l.length := by rw [HLn.out]; exact hlt
      by_cases h34 : l.getD k 0 = 34
      · have e34 : (bv l k == 34) = true := bv_eq h34
        have hs := V_string l k d hlk h34
        have hEl := E_le l (k + 1) false (by omega)
        have hE2 : E l (k + 1) false ≤ n := by rw [← HLn.out]; exact hEl.2
        have hE1 := hEl.1
        clear h34 hEl
        by_cases hd0 : d = 0
        · subst hd0
          have HR : Hid (E l (k + 1) false = V l 0 0 false false) := by rw [if_pos rfl] at hs; exact hs.symm.trans hV.out
          clear hs
          go_wp2_with (go_at_call 23; refine (keptString_any g n cap l k _ HLn.out hn hcap hcap2 hlt HC.out).mono ?_; rintro e w' ⟨rfl, rfl⟩)
          go_ret
          exact ⟨ret_int (by rw [← HR.out]), rfl⟩
        · have hd0' : ((d : Int) == 0) = false := by rw [beq_eq_false_iff_ne]; omega
          have HR : Hid (V l (E l (k + 1) false) d false false = V l 0 0 false false) := by rw [if_neg hd0] at hs; exact hs.symm.trans hV.out
          clear hs hd0
          go_wp2_with (go_at_call 23; refine (keptString_any g n cap l k _ HLn.out hn hcap hcap2 hlt HC.out).mono ?_; rintro e w' ⟨rfl, rfl⟩)
          go_round
          case rel => exact ⟨d, E l (k + 1) false, hE2, by omega, rfl, rfl, HR⟩
          case measure => simp [intOf]; omega
      · have e34 : (bv l k == 34) = false := bv_ne h34
        cases hop : opn (l.getD k 0)
        · obtain ⟨e123, e91⟩ := opn_no hop
          cases hcl : cls (l.getD k 0)
          · obtain ⟨e125, e93⟩ := cls_no hcl
            cases hse : sep (l.getD k 0)
            · obtain ⟨e44, e58⟩ := sep_no hse
              have HR : Hid (V l (k + 1) d false false = V l 0 0 false false) := (V_other l k d false hlk h34 hop hcl hse).symm.trans hV.out
              clear h34 hop hcl hse
              go_wp2
              go_round
              case rel => exact ⟨d, k + 1, by omega, by omega, rfl, by go_num, HR⟩
              case measure => simp [intOf]; omega
            · by_cases hd0 : d = 0
              · subst hd0
                have HR : Hid (k = V l 0 0 false false) := (V_sep0 l k false hlk h34 hop hcl hse).symm.trans hV.out
                rcases sep_yes hse with e44 | ⟨e44, e58⟩
                all_goals
                  clear h34 hop hcl hse
                  go_wp2
                  go_ret
                  exact ⟨ret_int (by rw [← HR.out]), rfl⟩
              · have hd0' : ((d : Int) == 0) = false := by rw [beq_eq_false_iff_ne]; omega
                have HR : Hid (V l (k + 1) d false false = V l 0 0 false false) := (V_sep l k d false hlk h34 hop hcl hse hd0).symm.trans hV.out
                rcases sep_yes hse with e44 | ⟨e44, e58⟩
                all_goals
                  clear h34 hop hcl hse hd0
                  go_wp2
                  go_round
                  case rel => exact ⟨d, k + 1, by omega, by omega, rfl, by go_num, HR⟩
                  case measure => simp [intOf]; omega
          · by_cases hd0 : d = 0
            · subst hd0
              have HR : Hid (k = V l 0 0 false false) := (V_close0 l k false hlk h34 hop hcl).symm.trans hV.out
              rcases cls_yes hcl with e125 | ⟨e125, e93⟩
              all_goals
                clear h34 hop hcl
                go_wp2
                go_ret
                exact ⟨ret_int (by rw [← HR.out]), rfl⟩
            · by_cases hd1 : d = 1
              · subst hd1
                have HR : Hid (k + 1 = V l 0 0 false false) := (V_close1 l k false hlk h34 hop hcl).symm.trans hV.out
                rcases cls_yes hcl with e125 | ⟨e125, e93⟩
                all_goals
                  clear h34 hop hcl hd0
                  go_wp2
                  go_ret
                  exact ⟨ret_int (by rw [← HR.out]; omega), rfl⟩
              · have hd0' : ((d : Int) == 0) = false := by rw [beq_eq_false_iff_ne]; omega
                have hd1' : ((d : Int) - 1 == 0) = false := by rw [beq_eq_false_iff_ne]; omega
                have HR : Hid (V l (k + 1) (d - 1) false false = V l 0 0 false false) := (V_close l k d false hlk h34 hop hcl (by omega)).symm.trans hV.out
                have hd2 : 2 ≤ d := by omega
                rcases cls_yes hcl with e125 | ⟨e125, e93⟩
                all_goals
                  clear h34 hop hcl hd0 hd1
                  go_wp2
                  go_round
                  case rel => exact ⟨d - 1, k + 1, by omega, by omega, by go_num, by go_num, HR⟩
                  case measure => simp [intOf]; omega
        · have HR : Hid (V l (k + 1) (d + 1) false false = V l 0 0 false false) := (V_open l k d false hlk h34 hop).symm.trans hV.out
          rcases opn_yes hop with e123 | ⟨e123, e91⟩
          all_goals
            clear h34 hop
            go_wp2
            go_round
            case rel => exact ⟨d + 1, k + 1, by omega, by omega, by go_num, by go_num, HR⟩
            case measure => simp [intOf]; omega
    · have HR : Hid (n = V l 0 0 false false) := by
        have := V_end l k d false false (by rw [HLn.out]; omega)
        unfold Hid
        rw [← hV.out, this, HLn.out]
      go_wp2
      go_ret
      exact ⟨ret_int (by rw [← HR.out]), rfl⟩

set_option maxHeartbeats 400000 in
/-- keptValueEnd at an empty text. -/
theorem keptValue_zero (ao : Option Addr) (cap : Nat) (w : World) :
    Calls Trym.prog 25 #[.slice ao 0 cap] w fun e w' => e = .returned (.int .i64 0) ∧ w' = w := by
  go_enter Trym.func25, Trym.ntmps25
  go_wp2
  refine wp_loop_rounds 1 ?_
  rw [rounds_succ]
  go_wp2
  go_ret
  exact ⟨rfl, rfl⟩
end Go.Proofs.Qxb6600600aMods
