import Derived.Test.Qxb6600600aModsWd
namespace Go.Proofs.Qxb6600600aMods
open Go.RowKit

theorem OwnB.none_cap {e : TypeId} {B : Nat} {w : World} {n cap : Nat} {l : List UInt8} (h : OwnB e B w (.slice none n cap) l) : n = 0 ∧ cap = 0 := by
  rcases h.2 with ⟨h1, _⟩ | ⟨g, cap', cur, h1, _⟩
  · injection h1 with _ h2 h3
    exact ⟨h2, h3⟩
  · injection h1 with h2
    cases h2
theorem OwnB.rowcells {e : TypeId} {B : Nat} {w : World} {ao : Option Addr} {n cap : Nat} {l : List UInt8} (h : OwnB e B w (.slice ao n cap) l) : ∀ x, ao = some x → ∀ j, j < n → w.cell? (x.add j) = some (.int .u8 (bv l j)) := by
  intro x hx j hj
  subst hx
  have hn := h.len
  rcases h.2 with ⟨h1, _⟩ | ⟨g, cap', cur, h1, _⟩
  · injection h1 with h2; cases h2
  · injection h1 with h2 h3 h4
    injection h2 with h2
    subst h2
    rw [add_lit0, Nat.zero_add]
    exact h.cell j (by omega)
theorem OwnB.big {e : TypeId} {B : Nat} {w : World} {ao : Option Addr} {n cap : Nat} {l : List UInt8} (h : OwnB e B w (.slice ao n cap) l) (h0 : 0 < n) : ∃ g, ao = some ⟨g, 0, none⟩ ∧ n ≤ cap ∧ cap ≤ maxLen := by
  have hn := h.len
  rcases h.2 with ⟨_, h2⟩ | ⟨g, cap', cur, h1, _, _, h2, h3, _⟩
  · omega
  · injection h1 with h4 h5 h6
    subst h6
    exact ⟨g, h4, by omega, h3⟩
theorem OwnB.row {e : TypeId} {B : Nat} {w w' : World} {v : Value} {l : List UInt8} (h : OwnB e B w v l) (hb : Below w.heap.size w w') : OwnB e B w' v l :=
  h.later hb (fun k hk => (World.ownsRow.lt h k hk).2)

theorem OwnB.nilcap {e : TypeId} {B : Nat} {w : World} {ao : Option Addr} {n cap : Nat} {l : List UInt8} (h : OwnB e B w (.slice ao n cap) l) (h0 : ao = none) : n = 0 ∧ cap = 0 := by
  subst h0
  exact h.none_cap
theorem cell_lt {w : World} {a : Addr} {v : Value} (h : w.cell? a = some v) : a.block < w.heap.size := by
  rcases Nat.lt_or_ge a.block w.heap.size with h1 | h1
  · exact h1
  · exfalso
    unfold World.cell? at h
    rw [Array.getElem?_eq_none h1] at h
    simp at h
theorem rowAt_later {w w' : World} {a : Option Addr} {len : Nat} {l : List UInt8} (h : RowAt w a len l) (hb : Below w.heap.size w w') : RowAt w' a len l := by
  obtain ⟨h1, h2⟩ := h
  refine ⟨h1, ?_⟩
  rcases h2 with h2 | ⟨x, hx, hc⟩
  · exact .inl h2
  · exact .inr ⟨x, hx, fun i hi => by rw [hb.cell (cell_lt (hc i hi))]; exact hc i hi⟩

/-- cloneBytes, whatever comes in. -/
theorem clone_any (a : Option Addr) (len cap : Nat) (l : List UInt8) (w : World) (hrow : RowAt w a len l) (hn : len ≤ 100000000) :
    Calls Trym.prog 10 #[.slice a len cap] w fun e w' => ∃ ao cap', e = .returned (.slice ao len cap') ∧ OwnB 5 w.heap.size w' (.slice ao len cap') l ∧ Below w.heap.size w w' := by
  obtain ⟨hl, hr⟩ := hrow
  rcases hr with ⟨rfl, rfl⟩ | ⟨x, rfl, hcell⟩
  · refine (clone_nil cap w).mono ?_
    rintro e w' ⟨rfl, rfl⟩
    have : l = [] := List.eq_nil_of_length_eq_zero hl
    subst this
    exact ⟨none, 0, rfl, OwnB.nil _ _ _, Below.refl _ _⟩
  · refine (clone_some x len cap l w hl hn hcell).mono ?_
    rintro e w' ⟨rfl, h1, h2⟩
    exact ⟨_, _, rfl, h1, h2⟩

/-- Do three lengths sum to at most 2^20? -/
def sum3 (a b c : Nat) : Bool := decide (a + b + c ≤ 1048576)

set_option maxHeartbeats 400000 in
theorem bytes13_any (a : Option Addr) (n c : Nat) (s : ByteArray) (a' : Option Addr) (n' c' : Nat) (w : World) (h1 : n ≤ maxLen) (h2 : s.size ≤ maxLen) (h3 : n' ≤ maxLen) :
    Calls Trym.prog 13 #[.slice a n c, .string s, .slice a' n' c'] w fun e w' => e = .returned (.bool (sum3 n s.size n')) ∧ w' = w := by
  unfold maxLen at h1 h2 h3
  go_enter Trym.func13, Trym.ntmps13
  go_wp2
  all_goals
    go_ret
    exact ⟨ret_bool (by unfold sum3; simp; omega), rfl⟩

theorem zzString_to (g n cap : Nat) (l : List UInt8) (i m : Nat) (w : World) (hl : l.length = n) (hn : n ≤ 100000000) (hcap : n ≤ cap) (hcap2 : cap ≤ maxLen) (hi : i < n) (hc : ∀ j, j < n → w.cell? ⟨g, j, none⟩ = some (.int .u8 (bv l j))) (hm : E l (i + 1) false = m) :
    Calls Trym.prog 11 #[.slice (some ⟨g, 0, none⟩) n cap, .int .i64 i] w fun e w' => e = .returned (.int .i64 m) ∧ w' = w := by
  refine (zzString_any g n cap l i w hl hn hcap hcap2 hi hc).mono ?_
  rintro e w' ⟨rfl, rfl⟩
  exact ⟨ret_int (by rw [hm]), rfl⟩
end Go.Proofs.Qxb6600600aMods
