import Derived.Test.Qxb6600600aModsWb
namespace Go.Proofs.Qxb6600600aMods
open Go.RowKit

theorem clone_step (l : List UInt8) (k : Nat) (h : k < l.length) : (l.take k ++ List.replicate (l.length - k) 0).set k (l.getD k 0) = l.take (k + 1) ++ List.replicate (l.length - (k + 1)) 0 := by
  have e : l.length - k = (l.length - (k + 1)) + 1 := by omega
  have hk : (l.take k).length = k := by simp; omega
  rw [e, List.replicate_succ, take_getD l k h, List.set_append_right _ _ (by omega), hk, Nat.sub_self]
  simp

theorem add_lit0 (b o j : Nat) : (⟨b, o, none⟩ : Addr).add j = ⟨b, o + j, none⟩ := by unfold Addr.add; split <;> simp_all

set_option maxHeartbeats 400000 in
theorem clone_nil (c : Nat) (w : World) :
    Calls Trym.prog 10 #[.slice none 0 c] w fun e w' => e = .returned (.slice none 0 0) ∧ w' = w := by
  have hnil := Lib.run_eql_slice_nil (P := Trym.prog) w 22 5 none 0 c 0 0 Trym.underlying22
  simp only [Option.isNone_none] at hnil
  go_enter Trym.func10, Trym.ntmps10
  go_wp2
  go_ret
  exact ⟨rfl, rfl⟩

set_option maxHeartbeats 1000000 in
theorem clone_some (x : Addr) (len c : Nat) (l : List UInt8) (w : World) (hl : l.length = len) (hn : len ≤ 100000000) (hc : ∀ i, i < len → w.cell? (x.add i) = some (.int .u8 (bv l i))) :
    Calls Trym.prog 10 #[.slice (some x) len c] w fun e w' => e = .returned (.slice (some ⟨w.heap.size, 0, none⟩) len len) ∧ OwnB 5 w.heap.size w' (.slice (some ⟨w.heap.size, 0, none⟩) len len) l ∧ Below w.heap.size w w' := by
  have hnil := Lib.run_eql_slice_nil (P := Trym.prog) w 22 5 (some x) len c 0 0 Trym.underlying22
  simp only [Option.isNone_some] at hnil
  have HC : Hid (∀ i, i < len → w.cell? (x.add i) = some (.int .u8 (bv l i)) ∧ x.block < w.heap.size) := by
    intro i hi
    refine ⟨hc i hi, ?_⟩
    have := hc i hi
    rcases Nat.lt_or_ge x.block w.heap.size with h | h
    · exact h
    · exfalso
      unfold World.cell? at this
      have e : (x.add i).block = x.block := by unfold Addr.add; split <;> rfl
      rw [e, Array.getElem?_eq_none h] at this
      simp at this
  have HLn : Hid (l.length = len) := hl
  have HX : Hid (0 < len → ∃ b o, x = ⟨b, o, none⟩) := by
    intro h0
    obtain ⟨b, o, spot⟩ := x
    have hspot : spot = none := by simpa [Addr.add] using World.cell?_spot (hc 0 h0)
    subst hspot
    exact ⟨b, o, rfl⟩
  clear hc hl
  go_enter Trym.func10, Trym.ntmps10
  go_wp2_with (at_make; refine wpL_make rfl (.tmp 8) (.tmp 8) 22 5 rfl Trym.underlying22 Trym.brow w.heap.size .i64 .i64 _ _ len rfl rfl rfl rfl hn (Nat.le_refl _) ?_; intro w1 hown1 hbel1 hsz1)
  go_loopw [4] (fun i wr => ∃ k : Nat, k ≤ len ∧ i = .int .i64 k ∧ OwnB 5 w.heap.size wr (.slice (some ⟨w.heap.size, 0, none⟩) len len) (l.take k ++ List.replicate (len - k) 0) ∧ Below w.heap.size w wr) (fun i _ => len - (intOf i).toNat)
  case atStart => exact ⟨0, by omega, rfl, by simpa using hown1, hbel1⟩
  case round =>
    clear hown1 hbel1 hsz1 hnil
    obtain ⟨k, hk, rfl, hown, hbel⟩ := hrel
    by_cases hlt : k < len
    · obtain ⟨b, o, rfl⟩ := HX.out (by omega)
      have hlk : k < l.length := by rw [HLn.out]; exact hlt
      have hread : wr.cell? ⟨b, o + k, none⟩ = some (.int .u8 (bv l k)) := by
        have h1 := HC.out k hlt
        rw [add_lit0] at h1
        rw [hbel.cell (p := ⟨b, o + k, none⟩) h1.2]
        exact h1.1
      have hth := hown.cell k (by simp; omega)
      have hfz := hown.frozen k
      have HS := hown.set k (l.getD k 0) (bv l k) rfl
      have hst : (l.take k ++ List.replicate (len - k) 0).set k (l.getD k 0) = l.take (k + 1) ++ List.replicate (len - (k + 1)) 0 := by
        rw [← HLn.out]; exact clone_step l k hlk
      rw [hst] at HS
      have HSB := hbel.setCell (p := ⟨w.heap.size, k, none⟩) (Nat.le_refl _) (.int .u8 (bv l k))
      clear hst hown hbel
      go_wp2
      go_roundw
      case rel => exact ⟨k + 1, by omega, by go_num, HS, HSB⟩
      case measure => simp [intOf]; omega
    · have hkl : k = len := by omega
      subst hkl
      have hown' : OwnB 5 w.heap.size wr (.slice (some ⟨w.heap.size, 0, none⟩) k k) l := by
        have := hown
        rw [List.take_of_length_le (by rw [HLn.out]; exact Nat.le_refl _), Nat.sub_self] at this
        simpa using this
      clear hown
      go_wp2
      go_ret
      exact ⟨rfl, hown', hbel⟩

set_option maxHeartbeats 400000 in
theorem bytes9_any (a : Option Addr) (len cap : Nat) (i : Int) (w : World) (hl : len ≤ maxLen) :
    Calls Trym.prog 9 #[.slice a len cap, .int .i64 i] w fun e w' => e = .returned (.bool (decide (len ≤ 1048576))) ∧ w' = w := by
  unfold maxLen at hl
  by_cases h : len ≤ 1048576
  · go_enter Trym.func9, Trym.ntmps9
    go_wp2
    go_ret
    exact ⟨ret_bool (by simp [h]), rfl⟩
  · go_enter Trym.func9, Trym.ntmps9
    go_wp2
    go_ret
    exact ⟨ret_bool (by simp [h]), rfl⟩

set_option maxHeartbeats 400000 in
theorem zzString_any (g n cap : Nat) (l : List UInt8) (i : Nat) (w : World) (hl : l.length = n) (hn : n ≤ 100000000) (hcap : n ≤ cap) (hcap2 : cap ≤ maxLen) (hi : i < n) (hc : ∀ j, j < n → w.cell? ⟨g, j, none⟩ = some (.int .u8 (bv l j))) :
    Calls Trym.prog 11 #[.slice (some ⟨g, 0, none⟩) n cap, .int .i64 i] w fun e w' => e = .returned (.int .i64 (E l (i + 1) false)) ∧ w' = w := by
  have HC : Hid (∀ j, j < n → w.cell? ⟨g, j, none⟩ = some (.int .u8 (bv l j))) := hc
  have HLn : Hid (l.length = n) := hl
  clear hc hl
  go_enter Trym.func11, Trym.ntmps11
  go_wp2_with (go_at_call 23; refine (keptString_any g n cap l i _ HLn.out hn hcap hcap2 hi HC.out).mono ?_; rintro e w' ⟨rfl, rfl⟩)
  go_ret
  exact ⟨rfl, rfl⟩
end Go.Proofs.Qxb6600600aMods
