import Derived.Test.Qxb6600600aModsWl
namespace Go.Proofs.Qxb6600600aMods
open Go.RowKit
set_option linter.unusedVariables false

/-- Some bool is returned. -/
def AnyB (e : Ending) : Prop := ∃ b : Bool, e = .returned (.bool b)

theorem strAt_at {w : World} {a : Option Addr} {m : Nat} {ws : List ByteArray} (h : StrAt w a m ws) (k : Nat) (hk : k < m) : ∃ b o, a = some ⟨b, o, none⟩ ∧ ∀ j, j < m → w.cell? ⟨b, o + j, none⟩ = some (.string (ws.getD j ByteArray.empty)) := by
  rcases h.2 with ⟨_, h0⟩ | ⟨x, rfl, hc⟩
  · omega
  · obtain ⟨b, o, spot⟩ := x
    have hspot : spot = none := by simpa [Addr.add] using World.cell?_spot (hc 0 (by omega))
    subst hspot
    refine ⟨b, o, rfl, fun j hj => ?_⟩
    rw [← add_lit0]
    exact hc j hj

set_option maxHeartbeats 1000000 in
theorem bytes19_any (a : Option Addr) (n c : Nat) (aw : Option Addr) (m cw : Nat) (ws : List ByteArray) (ar : Option Addr) (r cr : Nat) (w : World) (h1 : n ≤ maxLen) (h2 : m ≤ maxLen) (h3 : r ≤ maxLen) (hs : StrAt w aw m ws) :
    Calls Trym.prog 19 #[.slice a n c, .slice aw m cw, .slice ar r cr] w fun e w' => AnyB e ∧ w' = w := by
  unfold maxLen at h1 h2 h3
  have HS : Hid (StrAt w aw m ws) := hs
  clear hs
  by_cases hn : n ≤ 1048576
  · by_cases hm : m ≤ 1048576
    · by_cases hnm : n + m ≤ 1048576
      · have d1 : decide ((1048576 : Int) < (n : Int)) = false := by simp; omega
        have d2 : decide ((1048576 : Int) < (m : Int)) = false := by simp; omega
        have d3 : decide ((1048576 : Int) < (n : Int) + (m : Int)) = false := by simp; omega
        go_enter Trym.func19, Trym.ntmps19
        go_wp2
        go_loop [7, 8] (fun zv iv => ∃ (z k : Nat), k ≤ m ∧ z ≤ 1048576 ∧ zv = .int .i64 z ∧ iv = .int .i64 k) (fun _ iv => m - (intOf iv).toNat)
        case atStart => exact ⟨n + m, 0, by omega, by omega, by go_num, rfl⟩
        case round =>
          obtain ⟨z, k, hk, hz, rfl, rfl⟩ := hrel
          by_cases hlt : k < m
          · obtain ⟨b, o, rfl, hcell⟩ := strAt_at HS.out k hlt
            have hread := hcell k hlt
            obtain ⟨s, hs⟩ : ∃ s, s = ws.getD k ByteArray.empty := ⟨_, rfl⟩
            rw [← hs] at hread
            clear hcell hs
            by_cases hs1 : s.size ≤ 1048576
            · by_cases hs2 : z + s.size ≤ 1048576
              · go_wp2
                go_round
                case rel => exact ⟨z + s.size, k + 1, by omega, by omega, by go_num, by go_num⟩
                case measure => simp [intOf]; omega
              · go_wp2
                go_ret
                exact ⟨⟨_, rfl⟩, rfl⟩
            · go_wp2
              go_ret
              exact ⟨⟨_, rfl⟩, rfl⟩
          · by_cases hr : r ≤ 1048576
            · by_cases hr2 : z + r ≤ 1048576
              · go_wp2
                go_ret
                exact ⟨⟨_, rfl⟩, rfl⟩
              · go_wp2
                go_ret
                exact ⟨⟨_, rfl⟩, rfl⟩
            · go_wp2
              go_ret
              exact ⟨⟨_, rfl⟩, rfl⟩
      · go_enter Trym.func19, Trym.ntmps19
        go_wp2
        go_ret
        exact ⟨⟨_, rfl⟩, rfl⟩
    · go_enter Trym.func19, Trym.ntmps19
      go_wp2
      go_ret
      exact ⟨⟨_, rfl⟩, rfl⟩
  · go_enter Trym.func19, Trym.ntmps19
    go_wp2
    go_ret
    exact ⟨⟨_, rfl⟩, rfl⟩

theorem zzValue_to (g n cap : Nat) (l : List UInt8) (m : Nat) (w : World) (hl : l.length = n) (hn : n ≤ 100000000) (hcap : n ≤ cap) (hcap2 : cap ≤ maxLen) (hc : ∀ j, j < n → w.cell? ⟨g, j, none⟩ = some (.int .u8 (bv l j))) (hm : V l 0 0 false false = m) :
    Calls Trym.prog 17 #[.slice (some ⟨g, 0, none⟩) n cap] w fun e w' => e = .returned (.int .i64 m) ∧ w' = w := by
  refine (zzValue_any g n cap l w hl hn hcap hcap2 hc).mono ?_
  rintro e w' ⟨rfl, rfl⟩
  exact ⟨ret_int (by rw [hm]), rfl⟩

/-- The ops, read below a later block. -/
theorem opsAt_of {B C : Nat} {w : World} {ao : Option Addr} {n cap : Nat} {l : List UInt8} (h : OwnB 5 B w (.slice ao n cap) l) (hC : w.heap.size ≤ C) : OpsAt C w ao n l := by
  have hl := h.len
  refine ⟨hl.symm, fun j hj => ?_⟩
  obtain ⟨g, rfl, _, _⟩ := h.big (by omega)
  exact ⟨g, rfl, Nat.lt_of_lt_of_le h.ge.2 hC, h.cell j (by omega)⟩
end Go.Proofs.Qxb6600600aMods
