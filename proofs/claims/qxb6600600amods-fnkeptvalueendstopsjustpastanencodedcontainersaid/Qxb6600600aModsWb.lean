import Derived.Test.Qxb6600600aModsWa
namespace Go.Proofs.Qxb6600600aMods
open Go.RowKit

theorem bv_drop (l : List UInt8) (k j : Nat) : bv (l.drop k) j = bv l (k + j) := by
  unfold bv
  rw [List.getD_eq_getElem?_getD, List.getElem?_drop, List.getD_eq_getElem?_getD]

set_option maxHeartbeats 1000000 in
set_option maxRecDepth 100000 in
/-- keptStringEnd. -/
theorem keptString_any (g n cap : Nat) (l : List UInt8) (i : Nat) (w : World) (hl : l.length = n) (hn : n ≤ 100000000) (hcap : n ≤ cap) (hcap2 : cap ≤ maxLen) (hi : i < n) (hc : ∀ j, j < n → w.cell? ⟨g, j, none⟩ = some (.int .u8 (bv l j))) :
    Calls Trym.prog 23 #[.slice (some ⟨g, 0, none⟩) n cap, .int .i64 i] w fun e w' => e = .returned (.int .i64 (E l (i + 1) false)) ∧ w' = w := by
  have HC : Hid (∀ j, j < n → w.cell? ⟨g, j, none⟩ = some (.int .u8 (bv l j))) := hc
  have HLn : Hid (l.length = n) := hl
  unfold maxLen at hcap2
  clear hc hl
  go_enter Trym.func23, Trym.ntmps23
  go_wp2
  go_loop [1] (fun j => ∃ (k : Nat), k ≤ n ∧ j = .int .i64 k ∧ Hid (E l k false = E l (i + 1) false)) (fun j => n + 1 - (intOf j).toNat)
  case atStart => exact ⟨i + 1, by omega, by go_num, rfl⟩
  case round =>
    obtain ⟨k, hk, rfl, hE⟩ := hrel
    by_cases hck : cap = k
    · have hkn : n = k := by omega
      have HE : Hid (n = E l (i + 1) false) := by
        have := E_end l k false (by rw [HLn.out]; omega)
        unfold Hid
        rw [← hE.out, this, HLn.out]
      have hix : ixI (ix [] 34) = -1 := rfl
      subst hkn
      subst hck
      go_wp2_with (go_at_call 28; refine (bytesIndexByte g 0 _ _ [] _ (by simp) (by intro i hi; omega)).mono ?_; rintro e w' ⟨rfl, rfl⟩)
      go_ret
      exact ⟨ret_int (by rw [← HE.out]), rfl⟩
    · have hck' : ((cap : Int) == (k : Int)) = false := by rw [beq_eq_false_iff_ne]; omega
      have HD : Hid (∀ j, j < n - k → w.cell? ⟨g, k + j, none⟩ = some (.int .u8 (bv (l.drop k) j))) := by
        intro j hj
        rw [HC.out (k + j) (by omega), bv_drop]
      have HDl : Hid ((l.drop k).length = n - k) := by unfold Hid; rw [List.length_drop, HLn.out]
      cases hx : ix (l.drop k) 34 with
      | none =>
        have hix : ixI (ix (l.drop k) 34) = -1 := by rw [hx]; rfl
        have HE : Hid (n = E l (i + 1) false) := by
          have := E_none l k hx
          unfold Hid
          rw [← hE.out, this, HLn.out]
        clear hx
        go_wp2_with (go_at_call 28; refine (bytesIndexByte g k (n - k) _ (l.drop k) _ HDl.out HD.out).mono ?_; rintro e w' ⟨rfl, rfl⟩)
        go_ret
        exact ⟨ret_int (by rw [← HE.out]), rfl⟩
      | some m =>
        have hix : ixI (ix (l.drop k) 34) = (m : Int) := by rw [hx]; rfl
        obtain ⟨hm1, hA, hEm⟩ := E_some l k m hx
        have hm : k + m < n := by rw [← HLn.out]; exact hm1
        have hm0 : decide ((m : Int) < 0) = false := by simp
        obtain ⟨A, hAe⟩ : ∃ A, A = (l.drop k).take m := ⟨_, rfl⟩
        rw [← hAe] at hA hEm
        have HG : Hid (∀ j, j < m → A.getD j 0 = l.getD (k + j) 0) := by
          intro j hj
          rw [hAe]
          exact seg_getD l k m j hj
        have HS : Hid (E l k false = if st A false then E l (k + m + 1) false else k + m + 1) := hEm
        have HA : Hid (A.length = m) := hA
        clear hx hm1 hA hEm hAe
        go_wp2_with (go_at_call 28; refine (bytesIndexByte g k (n - k) _ (l.drop k) _ HDl.out HD.out).mono ?_; rintro e w' ⟨rfl, rfl⟩)
        go_loop [7] (fun b => ∃ t : Nat, t ≤ m ∧ b = .int .i64 t ∧ Hid (A = A.take (m - t) ++ List.replicate t 92)) (fun b => m - (intOf b).toNat)
        case atStart => exact ⟨0, by omega, rfl, by unfold Hid; rw [Nat.sub_zero, List.take_of_length_le (by rw [HA.out]; exact Nat.le_refl _)]; simp⟩
        case round =>
          obtain ⟨t, ht, rfl, hR⟩ := hrel
          by_cases htm : t < m
          · have hg := HG.out (m - t - 1) (by omega)
            have hp : k + (m - t - 1) = k + m - t - 1 := by omega
            rw [hp] at hg
            have hcell := HC.out (k + m - t - 1) (by omega)
            have hgt : (k : Int) < (k : Int) + (m : Int) - (t : Int) := by omega
            by_cases h92 : A.getD (m - t - 1) 0 = 92
            · have e92 : (bv l (k + m - t - 1) == 92) = true := bv_eq (d := 92) (by rw [← hg]; exact h92)
              have HR : Hid (A = A.take (m - (t + 1)) ++ List.replicate (t + 1) 92) := by
                have hA := HA.out
                have := count_more A t (by omega) (by rw [hA]; exact hR.out) (by rw [hA]; exact h92)
                rw [hA] at this
                exact this
              clear h92 hg hp
              go_wp2
              go_round
              case rel => exact ⟨t + 1, by omega, by go_num, HR⟩
              case measure => simp [intOf]; omega
            · have e92 : (bv l (k + m - t - 1) == 92) = false := bv_ne (d := 92) (by rw [← hg]; exact h92)
              have HT : Hid (st A false = (t % 2 == 1)) := by
                have hA := HA.out
                exact st_count A t (by omega) (by rw [hA]; exact hR.out) (.inr (by rw [hA]; exact h92))
              clear h92 hg hp
              by_cases hpar : t % 2 = 0
              · have hp0 : ((t : Int) % 2 == 0) = true := by rw [beq_iff_eq]; omega
                have HE : Hid (k + m + 1 = E l (i + 1) false) := by
                  unfold Hid
                  rw [← hE.out, HS.out, HT.out, if_neg (by simp; omega)]
                clear hpar
                go_wp2
                go_ret
                exact ⟨ret_int (by rw [← HE.out]; omega), rfl⟩
              · have hp0 : ((t : Int) % 2 == 0) = false := by rw [beq_eq_false_iff_ne]; omega
                have HE : Hid (E l (k + m + 1) false = E l (i + 1) false) := by
                  unfold Hid
                  rw [← hE.out, HS.out, HT.out, if_pos (by simp; omega)]
                clear hpar
                go_wp2
                go_round
                case rel => exact ⟨k + m + 1, by omega, by go_num, HE⟩
                case measure => simp [intOf]; omega
          · have htm' : t = m := by omega
            subst htm'
            have hgt : decide ((k : Int) < (k : Int) + (t : Int) - (t : Int)) = false := by simp
            have HT : Hid (st A false = (t % 2 == 1)) := by
              have hA := HA.out
              exact st_count A t (by omega) (by rw [hA]; exact hR.out) (.inl hA.symm)
            by_cases hpar : t % 2 = 0
            · have hp0 : ((t : Int) % 2 == 0) = true := by rw [beq_iff_eq]; omega
              have HE : Hid (k + t + 1 = E l (i + 1) false) := by
                unfold Hid
                rw [← hE.out, HS.out, HT.out, if_neg (by simp; omega)]
              clear hpar
              go_wp2
              go_ret
              exact ⟨ret_int (by rw [← HE.out]; omega), rfl⟩
            · have hp0 : ((t : Int) % 2 == 0) = false := by rw [beq_eq_false_iff_ne]; omega
              have HE : Hid (E l (k + t + 1) false = E l (i + 1) false) := by
                unfold Hid
                rw [← hE.out, HS.out, HT.out, if_pos (by simp; omega)]
              clear hpar
              go_wp2
              go_round
              case rel => exact ⟨k + t + 1, by omega, by go_num, HE⟩
              case measure => simp [intOf]; omega
end Go.Proofs.Qxb6600600aMods
