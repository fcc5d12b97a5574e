import Derived.Test.Qxb6600600aModsWf
namespace Go.Proofs.Qxb6600600aMods
open Go.RowKit

theorem role_step (R : List UInt8) (n k : Nat) (x : UInt8) (hl : R.length = n) (h : k < n) (hx : R.getD k 0 = x) : (R.take k ++ List.replicate (n - k) 0).set k x = R.take (k + 1) ++ List.replicate (n - (k + 1)) 0 := by
  subst hl
  rw [← hx]
  exact clone_step R k h
theorem zero_step (R : List UInt8) (n k : Nat) (hl : R.length = n) (h : k < n) (hx : R.getD k 0 = 0) : R.take k ++ List.replicate (n - k) 0 = R.take (k + 1) ++ List.replicate (n - (k + 1)) 0 := by
  have e : n - k = (n - (k + 1)) + 1 := by omega
  rw [e, List.replicate_succ, take_getD R k (by omega), hx]
  simp

set_option maxHeartbeats 4000000 in
set_option maxRecDepth 100000 in
/-- valueEndByRoles. -/
theorem roles_any (g n cap : Nat) (l : List UInt8) (w : World) (hl : l.length = n) (hn : n ≤ 100000000) (hc : ∀ j, j < n → w.cell? ⟨g, j, none⟩ = some (.int .u8 (bv l j))) :
    Calls Trym.prog 18 #[.slice (some ⟨g, 0, none⟩) n cap] w fun e w' => e = .returned (.int .i64 (V l 0 0 false false)) ∧ Below w.heap.size w w' := by
  have HC : Hid (∀ j, j < n → w.cell? ⟨g, j, none⟩ = some (.int .u8 (bv l j)) ∧ g < w.heap.size) := fun j hj => ⟨hc j hj, cell_lt (hc j hj)⟩
  have HLn : Hid (l.length = n) := hl
  obtain ⟨RS, hRS⟩ : ∃ RS, RS = roles l false false := ⟨_, rfl⟩
  have HRl : Hid (RS.length = n) := by unfold Hid; rw [hRS, roles_len, hl]
  have HR0 : Hid (RS.drop 0 = roles (l.drop 0) false false) := by unfold Hid; simpa using hRS
  clear hc hl hRS
  go_enter Trym.func18, Trym.ntmps18
  go_wp2_with (at_make; refine wpL_make rfl (.tmp 14) (.tmp 14) 22 5 rfl Trym.underlying22 Trym.brow w.heap.size .i64 .i64 _ _ n rfl rfl rfl rfl hn (Nat.le_refl _) ?_; intro w1 hown1 hbel1 hsz1)
  go_loopw [5, 6, 7] (fun s e i wr => ∃ (sb eb : Bool) (k : Nat), k ≤ n ∧ s = .bool sb ∧ e = .bool eb ∧ i = .int .i64 k ∧ OwnB 5 w.heap.size wr (.slice (some ⟨w.heap.size, 0, none⟩) n n) (RS.take k ++ List.replicate (n - k) 0) ∧ Below w.heap.size w wr ∧ Hid (RS.drop k = roles (l.drop k) sb eb)) (fun _ _ i _ => n - (intOf i).toNat)
  case atStart => exact ⟨false, false, 0, by omega, rfl, rfl, rfl, by simpa using hown1, hbel1, HR0⟩
  case round =>
    clear hown1 hbel1 hsz1
    obtain ⟨sb, eb, k, hk, rfl, rfl, rfl, hown, hbel, hR⟩ := hrel
    by_cases hlt : k < n
    · have hlk : k < l.length := by rw [HLn.out]; exact hlt
      have hread : wr.cell? ⟨g, k, none⟩ = some (.int .u8 (bv l k)) := by
        have h1 := HC.out k hlt
        rw [hbel.cell (p := ⟨g, k, none⟩) h1.2]
        exact h1.1
      have hfr := hown.frozen k
      have hth := hown.cell k (by have := HRl.out; simp; omega)
      cases sb
      · by_cases h34 : l.getD k 0 = 34
        · have e34 : (bv l k == 34) = true := bv_eq h34
          have hx : RS.drop k = 1 :: roles (l.drop (k + 1)) true eb := by rw [hR.out, drop_at l k hlk, roles, if_pos h34]
          obtain ⟨hg, hdn⟩ := rol_head hx
          have HD : Hid (RS.drop (k + 1) = roles (l.drop (k + 1)) true eb) := hdn
          have HS := hown.set k 1 1 rfl
          have hst := role_step RS n k 1 HRl.out hlt hg
          rw [hst] at HS
          have HSB := hbel.setCell (p := ⟨w.heap.size, k, none⟩) (Nat.le_refl _) (.int .u8 1)
          clear hx hg hdn hst hown hbel h34
          go_wp2
          go_roundw
          case rel => exact ⟨true, eb, k + 1, by omega, rfl, rfl, by go_num, HS, HSB, HD⟩
          case measure => simp [intOf]; omega
        · have e34 : (bv l k == 34) = false := bv_ne h34
          have hx : RS.drop k = 0 :: roles (l.drop (k + 1)) false eb := by rw [hR.out, drop_at l k hlk, roles, if_neg h34]
          obtain ⟨hg, hdn⟩ := rol_head hx
          have HD : Hid (RS.drop (k + 1) = roles (l.drop (k + 1)) false eb) := hdn
          have HS := hown
          rw [zero_step RS n k HRl.out hlt hg] at HS
          have HSB := hbel
          clear hx hg hdn hown hbel h34
          go_wp2
          go_roundw
          case rel => exact ⟨false, eb, k + 1, by omega, rfl, rfl, by go_num, HS, HSB, HD⟩
          case measure => simp [intOf]; omega
      · cases eb
        · by_cases h92 : l.getD k 0 = 92
          · have e92 : (bv l k == 92) = true := bv_eq h92
            have hx : RS.drop k = 2 :: roles (l.drop (k + 1)) true true := by rw [hR.out, drop_at l k hlk, roles, if_pos h92]
            obtain ⟨hg, hdn⟩ := rol_head hx
            have HD : Hid (RS.drop (k + 1) = roles (l.drop (k + 1)) true true) := hdn
            have HS := hown.set k 2 2 rfl
            have hst := role_step RS n k 2 HRl.out hlt hg
            rw [hst] at HS
            have HSB := hbel.setCell (p := ⟨w.heap.size, k, none⟩) (Nat.le_refl _) (.int .u8 2)
            clear hx hg hdn hst hown hbel h92
            go_wp2
            go_roundw
            case rel => exact ⟨true, true, k + 1, by omega, rfl, rfl, by go_num, HS, HSB, HD⟩
            case measure => simp [intOf]; omega
          · have e92 : (bv l k == 92) = false := bv_ne h92
            by_cases h34 : l.getD k 0 = 34
            · have e34 : (bv l k == 34) = true := bv_eq h34
              have hx : RS.drop k = 3 :: roles (l.drop (k + 1)) false false := by rw [hR.out, drop_at l k hlk, roles, if_neg h92, if_pos h34]
              obtain ⟨hg, hdn⟩ := rol_head hx
              have HD : Hid (RS.drop (k + 1) = roles (l.drop (k + 1)) false false) := hdn
              have HS := hown.set k 3 3 rfl
              have hst := role_step RS n k 3 HRl.out hlt hg
              rw [hst] at HS
              have HSB := hbel.setCell (p := ⟨w.heap.size, k, none⟩) (Nat.le_refl _) (.int .u8 3)
              clear hx hg hdn hst hown hbel h92 h34
              go_wp2
              go_roundw
              case rel => exact ⟨false, false, k + 1, by omega, rfl, rfl, by go_num, HS, HSB, HD⟩
              case measure => simp [intOf]; omega
            · have e34 : (bv l k == 34) = false := bv_ne h34
              have hx : RS.drop k = 2 :: roles (l.drop (k + 1)) true false := by rw [hR.out, drop_at l k hlk, roles, if_neg h92, if_neg h34]
              obtain ⟨hg, hdn⟩ := rol_head hx
              have HD : Hid (RS.drop (k + 1) = roles (l.drop (k + 1)) true false) := hdn
              have HS := hown.set k 2 2 rfl
              have hst := role_step RS n k 2 HRl.out hlt hg
              rw [hst] at HS
              have HSB := hbel.setCell (p := ⟨w.heap.size, k, none⟩) (Nat.le_refl _) (.int .u8 2)
              clear hx hg hdn hst hown hbel h92 h34
              go_wp2
              go_roundw
              case rel => exact ⟨true, false, k + 1, by omega, rfl, rfl, by go_num, HS, HSB, HD⟩
              case measure => simp [intOf]; omega
        · have hx : RS.drop k = 2 :: roles (l.drop (k + 1)) true false := by rw [hR.out, drop_at l k hlk, roles]
          obtain ⟨hg, hdn⟩ := rol_head hx
          have HD : Hid (RS.drop (k + 1) = roles (l.drop (k + 1)) true false) := hdn
          have HS := hown.set k 2 2 rfl
          have hst := role_step RS n k 2 HRl.out hlt hg
          rw [hst] at HS
          have HSB := hbel.setCell (p := ⟨w.heap.size, k, none⟩) (Nat.le_refl _) (.int .u8 2)
          clear hx hg hdn hst hown hbel 
          go_wp2
          go_roundw
          case rel => exact ⟨true, false, k + 1, by omega, rfl, rfl, by go_num, HS, HSB, HD⟩
          case measure => simp [intOf]; omega
    · have hkn : k = n := by omega
      subst hkn
      have hown' : OwnB 5 w.heap.size wr (.slice (some ⟨w.heap.size, 0, none⟩) k k) RS := by
        have := hown
        rw [List.take_of_length_le (by rw [HRl.out]; exact Nat.le_refl _), Nat.sub_self] at this
        simpa using this
      have HO : Hid (∀ j, j < k → wr.cell? ⟨w.heap.size, j, none⟩ = some (.int .u8 (bv RS j)) ∧ wr.cell? ⟨g, j, none⟩ = some (.int .u8 (bv l j))) := by
        intro j hj
        refine ⟨hown'.cell j (by rw [HRl.out]; exact hj), ?_⟩
        have h1 := HC.out j hj
        rw [hbel.cell (p := ⟨g, j, none⟩) h1.2]
        exact h1.1
      clear hown hown' hR hlt hk
      go_wp2
      obtain ⟨n, hnk⟩ : ∃ n, n = k := ⟨_, rfl⟩
      subst hnk
      go_loop [9, 10] (fun dv iv => ∃ (d k : Nat) (sb eb : Bool), k ≤ n ∧ d ≤ k ∧ dv = .int .i64 d ∧ iv = .int .i64 k ∧ Hid (RS.drop k = roles (l.drop k) sb eb) ∧ Hid (V l k d sb eb = V l 0 0 false false)) (fun _ iv => n - (intOf iv).toNat)
      case atStart => exact ⟨0, 0, false, false, by omega, by omega, rfl, rfl, HR0, rfl⟩
      case round =>
        obtain ⟨d, k, sb, eb, hk, hd, rfl, rfl, hR, hV⟩ := hrel
        by_cases hlt : k < n
        · have hlk : k < l.length := by rw [HLn.out]; exact hlt
          obtain ⟨hrole, hread⟩ := HO.out k hlt
          cases sb
          · by_cases h34 : l.getD k 0 = 34
            · have hx : RS.drop k = 1 :: roles (l.drop (k + 1)) true eb := by rw [hR.out, drop_at l k hlk, roles, if_pos h34]
              obtain ⟨hg, hdn⟩ := rol_head hx
              have HD : Hid (RS.drop (k + 1) = roles (l.drop (k + 1)) true eb) := hdn
              have r3 : (bv RS k == 3) = false := bv_ne (d := 3) (by rw [hg]; decide)
              have r0 : (bv RS k == 0) = false := bv_ne (d := 0) (by rw [hg]; decide)
              clear hx hg hdn
              have HR : Hid (V l (k + 1) d true eb = V l 0 0 false false) := (V_quote l k d eb hlk h34).symm.trans hV.out
              clear h34
              go_wp2
              go_round
              case rel => exact ⟨d, k + 1, true, eb, by omega, by omega, by go_num, by go_num, HD, HR⟩
              case measure => simp [intOf]; omega
            · have hx : RS.drop k = 0 :: roles (l.drop (k + 1)) false eb := by rw [hR.out, drop_at l k hlk, roles, if_neg h34]
              obtain ⟨hg, hdn⟩ := rol_head hx
              have HD : Hid (RS.drop (k + 1) = roles (l.drop (k + 1)) false eb) := hdn
              have r3 : (bv RS k == 3) = false := bv_ne (d := 3) (by rw [hg]; decide)
              have r0 : (bv RS k == 0) = true := bv_eq hg
              clear hx hg hdn
              cases hop : opn (l.getD k 0)
              · obtain ⟨e123, e91⟩ := opn_no hop
                cases hcl : cls (l.getD k 0)
                · obtain ⟨e125, e93⟩ := cls_no hcl
                  cases hse : sep (l.getD k 0)
                  · obtain ⟨e44, e58⟩ := sep_no hse
                    have HR : Hid (V l (k + 1) d false eb = V l 0 0 false false) := (V_other l k d eb hlk h34 hop hcl hse).symm.trans hV.out
                    clear h34 hop hcl hse
                    go_wp2
                    go_round
                    case rel => exact ⟨d, k + 1, false, eb, by omega, by omega, by go_num, by go_num, HD, HR⟩
                    case measure => simp [intOf]; omega
                  · by_cases hd0 : d = 0
                    · subst hd0
                      have HR : Hid (k = V l 0 0 false false) := (V_sep0 l k eb hlk h34 hop hcl hse).symm.trans hV.out
                      rcases sep_yes hse with e44 | ⟨e44, e58⟩
                      all_goals
                        clear h34 hop hcl hse
                        go_wp2
                        go_ret
                        exact ⟨ret_int (by rw [← HR.out]), hbel⟩
                    · have hd0' : ((d : Int) == 0) = false := by rw [beq_eq_false_iff_ne]; omega
                      have HR : Hid (V l (k + 1) d false eb = V l 0 0 false false) := (V_sep l k d eb hlk h34 hop hcl hse hd0).symm.trans hV.out
                      rcases sep_yes hse with e44 | ⟨e44, e58⟩
                      all_goals
                        clear h34 hop hcl hse hd0
                        go_wp2
                        go_round
                        case rel => exact ⟨d, k + 1, false, eb, by omega, by omega, by go_num, by go_num, HD, HR⟩
                        case measure => simp [intOf]; omega
                · by_cases hd0 : d = 0
                  · subst hd0
                    have HR : Hid (k = V l 0 0 false false) := (V_close0 l k eb hlk h34 hop hcl).symm.trans hV.out
                    rcases cls_yes hcl with e125 | ⟨e125, e93⟩
                    all_goals
                      clear h34 hop hcl
                      go_wp2
                      go_ret
                      exact ⟨ret_int (by rw [← HR.out]), hbel⟩
                  · by_cases hd1 : d = 1
                    · subst hd1
                      have HR : Hid (k + 1 = V l 0 0 false false) := (V_close1 l k eb hlk h34 hop hcl).symm.trans hV.out
                      rcases cls_yes hcl with e125 | ⟨e125, e93⟩
                      all_goals
                        clear h34 hop hcl hd0
                        go_wp2
                        go_ret
                        exact ⟨ret_int (by rw [← HR.out]; omega), hbel⟩
                    · have hd0' : ((d : Int) == 0) = false := by rw [beq_eq_false_iff_ne]; omega
                      have hd1' : ((d : Int) == 1) = false := by rw [beq_eq_false_iff_ne]; omega
                      have hd2 : 2 ≤ d := by omega
                      have HR : Hid (V l (k + 1) (d - 1) false eb = V l 0 0 false false) := (V_close l k d eb hlk h34 hop hcl hd2).symm.trans hV.out
                      rcases cls_yes hcl with e125 | ⟨e125, e93⟩
                      all_goals
                        clear h34 hop hcl hd0 hd1
                        go_wp2
                        go_round
                        case rel => exact ⟨d - 1, k + 1, false, eb, by omega, by omega, by go_num, by go_num, HD, HR⟩
                        case measure => simp [intOf]; omega
              · have HR : Hid (V l (k + 1) (d + 1) false eb = V l 0 0 false false) := (V_open l k d eb hlk h34 hop).symm.trans hV.out
                rcases opn_yes hop with e123 | ⟨e123, e91⟩
                all_goals
                  clear h34 hop
                  go_wp2
                  go_round
                  case rel => exact ⟨d + 1, k + 1, false, eb, by omega, by omega, by go_num, by go_num, HD, HR⟩
                  case measure => simp [intOf]; omega
          · cases eb
            · by_cases h92 : l.getD k 0 = 92
              · have hx : RS.drop k = 2 :: roles (l.drop (k + 1)) true true := by rw [hR.out, drop_at l k hlk, roles, if_pos h92]
                obtain ⟨hg, hdn⟩ := rol_head hx
                have HD : Hid (RS.drop (k + 1) = roles (l.drop (k + 1)) true true) := hdn
                have r3 : (bv RS k == 3) = false := bv_ne (d := 3) (by rw [hg]; decide)
                have r0 : (bv RS k == 0) = false := bv_ne (d := 0) (by rw [hg]; decide)
                clear hx hg hdn
                have HR : Hid (V l (k + 1) d true true = V l 0 0 false false) := (V_in_slash l k d hlk h92).symm.trans hV.out
                clear h92
                go_wp2
                go_round
                case rel => exact ⟨d, k + 1, true, true, by omega, by omega, by go_num, by go_num, HD, HR⟩
                case measure => simp [intOf]; omega
              · by_cases h34 : l.getD k 0 = 34
                · have hx : RS.drop k = 3 :: roles (l.drop (k + 1)) false false := by rw [hR.out, drop_at l k hlk, roles, if_neg h92, if_pos h34]
                  obtain ⟨hg, hdn⟩ := rol_head hx
                  have HD : Hid (RS.drop (k + 1) = roles (l.drop (k + 1)) false false) := hdn
                  have r3 : (bv RS k == 3) = true := bv_eq hg
                  have r0 : (bv RS k == 0) = false := bv_ne (d := 0) (by rw [hg]; decide)
                  clear hx hg hdn
                  by_cases hd0 : d = 0
                  · subst hd0
                    have HR : Hid (k + 1 = V l 0 0 false false) := (V_in_close0 l k hlk h34).symm.trans hV.out
                    clear h92 h34
                    go_wp2
                    go_ret
                    exact ⟨ret_int (by rw [← HR.out]; omega), hbel⟩
                  · have hd0' : ((d : Int) == 0) = false := by rw [beq_eq_false_iff_ne]; omega
                    have HR : Hid (V l (k + 1) d false false = V l 0 0 false false) := (V_in_close l k d hlk h34 hd0).symm.trans hV.out
                    clear h92 h34 hd0
                    go_wp2
                    go_round
                    case rel => exact ⟨d, k + 1, false, false, by omega, by omega, by go_num, by go_num, HD, HR⟩
                    case measure => simp [intOf]; omega
                · have hx : RS.drop k = 2 :: roles (l.drop (k + 1)) true false := by rw [hR.out, drop_at l k hlk, roles, if_neg h92, if_neg h34]
                  obtain ⟨hg, hdn⟩ := rol_head hx
                  have HD : Hid (RS.drop (k + 1) = roles (l.drop (k + 1)) true false) := hdn
                  have r3 : (bv RS k == 3) = false := bv_ne (d := 3) (by rw [hg]; decide)
                  have r0 : (bv RS k == 0) = false := bv_ne (d := 0) (by rw [hg]; decide)
                  clear hx hg hdn
                  have HR : Hid (V l (k + 1) d true false = V l 0 0 false false) := (V_in_other l k d hlk h92 h34).symm.trans hV.out
                  clear h92 h34
                  go_wp2
                  go_round
                  case rel => exact ⟨d, k + 1, true, false, by omega, by omega, by go_num, by go_num, HD, HR⟩
                  case measure => simp [intOf]; omega
            · have hx : RS.drop k = 2 :: roles (l.drop (k + 1)) true false := by rw [hR.out, drop_at l k hlk, roles]
              obtain ⟨hg, hdn⟩ := rol_head hx
              have HD : Hid (RS.drop (k + 1) = roles (l.drop (k + 1)) true false) := hdn
              have r3 : (bv RS k == 3) = false := bv_ne (d := 3) (by rw [hg]; decide)
              have r0 : (bv RS k == 0) = false := bv_ne (d := 0) (by rw [hg]; decide)
              clear hx hg hdn
              have HR : Hid (V l (k + 1) d true false = V l 0 0 false false) := (V_in_esc l k d hlk).symm.trans hV.out
              go_wp2
              go_round
              case rel => exact ⟨d, k + 1, true, false, by omega, by omega, by go_num, by go_num, HD, HR⟩
              case measure => simp [intOf]; omega
        · have HR : Hid (n = V l 0 0 false false) := by
            have := V_end l k d sb eb (by rw [HLn.out]; omega)
            unfold Hid
            rw [← hV.out, this, HLn.out]
          go_wp2
          go_ret
          exact ⟨ret_int (by rw [← HR.out]), hbel⟩
end Go.Proofs.Qxb6600600aMods
