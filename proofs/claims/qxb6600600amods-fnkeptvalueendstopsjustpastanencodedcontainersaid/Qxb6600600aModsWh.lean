import Derived.Test.Qxb6600600aModsWg
namespace Go.Proofs.Qxb6600600aMods
open Go.RowKit

set_option maxHeartbeats 400000 in
theorem roles_zero (ao : Option Addr) (cap : Nat) (w : World) :
    Calls Trym.prog 18 #[.slice ao 0 cap] w fun e w' => e = .returned (.int .i64 0) ∧ Below w.heap.size w w' := by
  go_enter Trym.func18, Trym.ntmps18
  go_wp2_with (at_make; refine wpL_make rfl (.tmp 14) (.tmp 14) 22 5 rfl Trym.underlying22 Trym.brow w.heap.size .i64 .i64 _ _ 0 rfl rfl rfl rfl (by omega) (Nat.le_refl _) ?_; intro w1 hown1 hbel1 hsz1)
  refine wp_loop_rounds 1 ?_
  rw [rounds_succ]
  go_wp2
  refine wp_loop_rounds 1 ?_
  rw [rounds_succ]
  go_wp2
  go_ret
  exact ⟨rfl, hbel1⟩

set_option maxHeartbeats 400000 in
theorem bytes16_any (a : Option Addr) (len cap : Nat) (w : World) (hl : len ≤ maxLen) :
    Calls Trym.prog 16 #[.slice a len cap] w fun e w' => e = .returned (.bool (decide (len ≤ 1048576))) ∧ w' = w := by
  unfold maxLen at hl
  by_cases h : len ≤ 1048576
  · go_enter Trym.func16, Trym.ntmps16
    go_wp2
    go_ret
    exact ⟨ret_bool (by simp [h]), rfl⟩
  · go_enter Trym.func16, Trym.ntmps16
    go_wp2
    go_ret
    exact ⟨ret_bool (by simp [h]), rfl⟩

set_option maxHeartbeats 400000 in
theorem zzValue_any (g n cap : Nat) (l : List UInt8) (w : World) (hl : l.length = n) (hn : n ≤ 100000000) (hcap : n ≤ cap) (hcap2 : cap ≤ maxLen) (hc : ∀ j, j < n → w.cell? ⟨g, j, none⟩ = some (.int .u8 (bv l j))) :
    Calls Trym.prog 17 #[.slice (some ⟨g, 0, none⟩) n cap] w fun e w' => e = .returned (.int .i64 (V l 0 0 false false)) ∧ w' = w := by
  have HC : Hid (∀ j, j < n → w.cell? ⟨g, j, none⟩ = some (.int .u8 (bv l j))) := hc
  have HLn : Hid (l.length = n) := hl
  clear hc hl
  go_enter Trym.func17, Trym.ntmps17
  go_wp2_with (go_at_call 25; refine (keptValue_any g n cap l _ HLn.out hn hcap hcap2 HC.out).mono ?_; rintro e w' ⟨rfl, rfl⟩)
  go_ret
  exact ⟨rfl, rfl⟩

set_option maxHeartbeats 400000 in
theorem zzValue_zero (ao : Option Addr) (cap : Nat) (w : World) :
    Calls Trym.prog 17 #[.slice ao 0 cap] w fun e w' => e = .returned (.int .i64 0) ∧ w' = w := by
  go_enter Trym.func17, Trym.ntmps17
  go_wp2_with (go_at_call 25; refine (keptValue_zero ao cap _).mono ?_; rintro e w' ⟨rfl, rfl⟩)
  go_ret
  exact ⟨rfl, rfl⟩
end Go.Proofs.Qxb6600600aMods
