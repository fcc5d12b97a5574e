import Derived.Test.Qxb6601660aModsWa
import Derived.Test.Qxb6601660aModsPlainB
namespace Go.Proofs.Qxb6601660aMods
open Go.RowKit
set_option linter.unusedVariables false

set_option maxHeartbeats 400000 in
theorem bytes17_any (c : Int) (x y : Bool) (a : Option Addr) (len cap : Nat) (w : World) (hl : len ≤ maxLen) :
    Calls Trym.prog 17 #[.int .u8 c, .bool x, .bool y, .slice a len cap] w fun e w' => e = .returned (.bool (decide (len ≤ 1048576))) ∧ w' = w := by
  unfold maxLen at hl
  by_cases h : len ≤ 1048576
  · go_enter Trym.func17, Trym.ntmps17
    go_wp2
    go_ret
    exact ⟨ret_bool (by simp [h]), rfl⟩
  · go_enter Trym.func17, Trym.ntmps17
    go_wp2
    go_ret
    exact ⟨ret_bool (by simp [h]), rfl⟩

/-- What shortLetter answers. -/
def slE (c : Nat) : Ending := match sl c with
  | some x => .returned (.tuple #[.int .u8 (x.toNat : Int), .bool true])
  | none => .returned (.tuple #[.int .u8 0, .bool false])

set_option maxHeartbeats 1000000 in
theorem short_any (c : Nat) (w : World) : Calls Trym.prog 18 #[.int .u8 (c : Int)] w fun e w' => e = slE c ∧ w' = w := by
  by_cases h34 : c = 34
  · have e34 : ((c : Int) == 34) = true := by rw [beq_iff_eq]; omega
    have HE : Hid (slE c = .returned (.tuple #[.int .u8 34, .bool true])) := by subst h34; rfl
    clear h34
    go_enter Trym.func18, Trym.ntmps18
    go_wp2
    go_ret2
    exact ⟨HE.out.symm, rfl⟩
  by_cases h92 : c = 92
  · have e92 : ((c : Int) == 92) = true := by rw [beq_iff_eq]; omega
    have e34 : ((c : Int) == 34) = false := by rw [beq_eq_false_iff_ne]; omega
    have HE : Hid (slE c = .returned (.tuple #[.int .u8 92, .bool true])) := by subst h92; rfl
    clear h34 h92
    go_enter Trym.func18, Trym.ntmps18
    go_wp2
    go_ret2
    exact ⟨HE.out.symm, rfl⟩
  by_cases h47 : c = 47
  · have e47 : ((c : Int) == 47) = true := by rw [beq_iff_eq]; omega
    have e34 : ((c : Int) == 34) = false := by rw [beq_eq_false_iff_ne]; omega
    have e92 : ((c : Int) == 92) = false := by rw [beq_eq_false_iff_ne]; omega
    have HE : Hid (slE c = .returned (.tuple #[.int .u8 47, .bool true])) := by subst h47; rfl
    clear h34 h92 h47
    go_enter Trym.func18, Trym.ntmps18
    go_wp2
    go_ret2
    exact ⟨HE.out.symm, rfl⟩
  by_cases h8 : c = 8
  · have e8 : ((c : Int) == 8) = true := by rw [beq_iff_eq]; omega
    have e34 : ((c : Int) == 34) = false := by rw [beq_eq_false_iff_ne]; omega
    have e92 : ((c : Int) == 92) = false := by rw [beq_eq_false_iff_ne]; omega
    have e47 : ((c : Int) == 47) = false := by rw [beq_eq_false_iff_ne]; omega
    have HE : Hid (slE c = .returned (.tuple #[.int .u8 98, .bool true])) := by subst h8; rfl
    clear h34 h92 h47 h8
    go_enter Trym.func18, Trym.ntmps18
    go_wp2
    go_ret2
    exact ⟨HE.out.symm, rfl⟩
  by_cases h12 : c = 12
  · have e12 : ((c : Int) == 12) = true := by rw [beq_iff_eq]; omega
    have e34 : ((c : Int) == 34) = false := by rw [beq_eq_false_iff_ne]; omega
    have e92 : ((c : Int) == 92) = false := by rw [beq_eq_false_iff_ne]; omega
    have e47 : ((c : Int) == 47) = false := by rw [beq_eq_false_iff_ne]; omega
    have e8 : ((c : Int) == 8) = false := by rw [beq_eq_false_iff_ne]; omega
    have HE : Hid (slE c = .returned (.tuple #[.int .u8 102, .bool true])) := by subst h12; rfl
    clear h34 h92 h47 h8 h12
    go_enter Trym.func18, Trym.ntmps18
    go_wp2
    go_ret2
    exact ⟨HE.out.symm, rfl⟩
  by_cases h10 : c = 10
  · have e10 : ((c : Int) == 10) = true := by rw [beq_iff_eq]; omega
    have e34 : ((c : Int) == 34) = false := by rw [beq_eq_false_iff_ne]; omega
    have e92 : ((c : Int) == 92) = false := by rw [beq_eq_false_iff_ne]; omega
    have e47 : ((c : Int) == 47) = false := by rw [beq_eq_false_iff_ne]; omega
    have e8 : ((c : Int) == 8) = false := by rw [beq_eq_false_iff_ne]; omega
    have e12 : ((c : Int) == 12) = false := by rw [beq_eq_false_iff_ne]; omega
    have HE : Hid (slE c = .returned (.tuple #[.int .u8 110, .bool true])) := by subst h10; rfl
    clear h34 h92 h47 h8 h12 h10
    go_enter Trym.func18, Trym.ntmps18
    go_wp2
    go_ret2
    exact ⟨HE.out.symm, rfl⟩
  by_cases h13 : c = 13
  · have e13 : ((c : Int) == 13) = true := by rw [beq_iff_eq]; omega
    have e34 : ((c : Int) == 34) = false := by rw [beq_eq_false_iff_ne]; omega
    have e92 : ((c : Int) == 92) = false := by rw [beq_eq_false_iff_ne]; omega
    have e47 : ((c : Int) == 47) = false := by rw [beq_eq_false_iff_ne]; omega
    have e8 : ((c : Int) == 8) = false := by rw [beq_eq_false_iff_ne]; omega
    have e12 : ((c : Int) == 12) = false := by rw [beq_eq_false_iff_ne]; omega
    have e10 : ((c : Int) == 10) = false := by rw [beq_eq_false_iff_ne]; omega
    have HE : Hid (slE c = .returned (.tuple #[.int .u8 114, .bool true])) := by subst h13; rfl
    clear h34 h92 h47 h8 h12 h10 h13
    go_enter Trym.func18, Trym.ntmps18
    go_wp2
    go_ret2
    exact ⟨HE.out.symm, rfl⟩
  by_cases h9 : c = 9
  · have e9 : ((c : Int) == 9) = true := by rw [beq_iff_eq]; omega
    have e34 : ((c : Int) == 34) = false := by rw [beq_eq_false_iff_ne]; omega
    have e92 : ((c : Int) == 92) = false := by rw [beq_eq_false_iff_ne]; omega
    have e47 : ((c : Int) == 47) = false := by rw [beq_eq_false_iff_ne]; omega
    have e8 : ((c : Int) == 8) = false := by rw [beq_eq_false_iff_ne]; omega
    have e12 : ((c : Int) == 12) = false := by rw [beq_eq_false_iff_ne]; omega
    have e10 : ((c : Int) == 10) = false := by rw [beq_eq_false_iff_ne]; omega
    have e13 : ((c : Int) == 13) = false := by rw [beq_eq_false_iff_ne]; omega
    have HE : Hid (slE c = .returned (.tuple #[.int .u8 116, .bool true])) := by subst h9; rfl
    clear h34 h92 h47 h8 h12 h10 h13 h9
    go_enter Trym.func18, Trym.ntmps18
    go_wp2
    go_ret2
    exact ⟨HE.out.symm, rfl⟩
  have e34 : ((c : Int) == 34) = false := by rw [beq_eq_false_iff_ne]; omega
  have e92 : ((c : Int) == 92) = false := by rw [beq_eq_false_iff_ne]; omega
  have e47 : ((c : Int) == 47) = false := by rw [beq_eq_false_iff_ne]; omega
  have e8 : ((c : Int) == 8) = false := by rw [beq_eq_false_iff_ne]; omega
  have e12 : ((c : Int) == 12) = false := by rw [beq_eq_false_iff_ne]; omega
  have e10 : ((c : Int) == 10) = false := by rw [beq_eq_false_iff_ne]; omega
  have e13 : ((c : Int) == 13) = false := by rw [beq_eq_false_iff_ne]; omega
  have e9 : ((c : Int) == 9) = false := by rw [beq_eq_false_iff_ne]; omega
  have HE : Hid (slE c = .returned (.tuple #[.int .u8 0, .bool false])) := by
    unfold Hid slE sl
    rw [if_neg h34, if_neg h92, if_neg h47, if_neg h8, if_neg h12, if_neg h10, if_neg h13, if_neg h9]
  clear h34 h92 h47 h8 h12 h10 h13 h9
  go_enter Trym.func18, Trym.ntmps18
  go_wp2
  go_ret2
  exact ⟨HE.out.symm, rfl⟩

theorem short_yes (c : Nat) (x : UInt8) (h : sl c = some x) (w : World) : Calls Trym.prog 18 #[.int .u8 (c : Int)] w fun e w' => e = .returned (.tuple #[.int .u8 (x.toNat : Int), .bool true]) ∧ w' = w := by
  refine (short_any c w).mono ?_
  rintro e w' ⟨rfl, rfl⟩
  exact ⟨by unfold slE; rw [h], rfl⟩
theorem short_no (c : Nat) (h : sl c = none) (w : World) : Calls Trym.prog 18 #[.int .u8 (c : Int)] w fun e w' => e = .returned (.tuple #[.int .u8 0, .bool false]) ∧ w' = w := by
  refine (short_any c w).mono ?_
  rintro e w' ⟨rfl, rfl⟩
  exact ⟨by unfold slE; rw [h], rfl⟩

/-- A digit's letter as a number. -/
def hcI (d : Int) (up : Bool) : Int := if d < 10 then 48 + d else if up then 55 + d else 87 + d
theorem hcI_eq (d : Nat) (up : Bool) (h : d < 16) : hcI (d : Int) up = ((hc d up).toNat : Int) := by
  unfold hcI
  rw [hc_toNat d up h]
  by_cases h1 : d < 10
  · rw [if_pos (by omega), if_pos h1]; omega
  · rw [if_neg (by omega), if_neg h1]
    cases up <;> simp
set_option maxHeartbeats 400000 in
theorem hex_any (d : Int) (up : Bool) (w : World) (h0 : 0 ≤ d) (h1 : d < 16) :
    Calls Trym.prog 19 #[.int .u8 d, .bool up] w fun e w' => e = .returned (.int .u8 (hcI d up)) ∧ w' = w := by
  by_cases h : d < 10
  · go_enter Trym.func19, Trym.ntmps19
    go_wp2
    go_ret
    exact ⟨ret_int (by unfold hcI; rw [if_pos h]), rfl⟩
  · have hd : decide (d < 10) = false := by simp; omega
    cases up
    · go_enter Trym.func19, Trym.ntmps19
      go_wp2
      go_ret
      exact ⟨ret_int (by unfold hcI; rw [if_neg (by omega)]; simp; omega), rfl⟩
    · go_enter Trym.func19, Trym.ntmps19
      go_wp2
      go_ret
      exact ⟨ret_int (by unfold hcI; rw [if_neg (by omega)]; simp; omega), rfl⟩

set_option maxHeartbeats 400000 in
/-- ZZunescapeASCII. -/
theorem zz_to (g n cap : Nat) (l : List UInt8) (a b : Int) (w : World) (hl : l.length = n) (hn : n ≤ 100000000) (h2 : 2 ≤ n) (hcap : n ≤ cap) (hcap2 : cap ≤ maxLen) (hc : ∀ j, j < n → w.cell? ⟨g, j, none⟩ = some (.int .u8 (bv l j))) (hu : une l = (a, b)) :
    Calls Trym.prog 15 #[.slice (some ⟨g, 0, none⟩) n cap] w fun e w' => e = .returned (.tuple #[.int .u8 a, .int .i64 b]) ∧ w' = w := by
  have HC : Hid (∀ j, j < n → w.cell? ⟨g, j, none⟩ = some (.int .u8 (bv l j))) := hc
  have HLn : Hid (l.length = n) := hl
  have HU : Hid (une l = (a, b)) := hu
  clear hc hl hu
  go_enter Trym.func15, Trym.ntmps15
  go_wp2_with (go_at_call 28; refine (une_any g n cap l _ HLn.out hn h2 hcap hcap2 HC.out).mono ?_; rw [HU.out]; rintro e w' ⟨rfl, rfl⟩; unfold pair)
  go_ret2
  exact ⟨rfl, rfl⟩
theorem and15 (n : Nat) (h : n < 256) : bits .and .u8 (n : Int) 15 = ((n % 16 : Nat) : Int) := by
  have := u8_and_nat n 15 h (by omega)
  have e : n &&& 15 = n % 16 := Nat.and_two_pow_sub_one_eq_mod n 4
  rw [e] at this
  exact this

theorem OwnB.big {e : TypeId} {B : Nat} {w : World} {ao : Option Addr} {n cap : Nat} {l : List UInt8} (h : OwnB e B w (.slice ao n cap) l) (h0 : 0 < n) : ∃ g, ao = some ⟨g, 0, none⟩ ∧ n ≤ cap ∧ cap ≤ maxLen := by
  have hn := h.len
  rcases h.2 with ⟨_, h2⟩ | ⟨g, cap', cur, h1, _, _, h2, h3, _⟩
  · omega
  · injection h1 with h4 h5 h6
    subst h6
    exact ⟨g, h4, by omega, h3⟩
theorem cell_lt {w : World} {a : Addr} {v : Value} (h : w.cell? a = some v) : a.block < w.heap.size := by
  rcases Nat.lt_or_ge a.block w.heap.size with h1 | h1
  · exact h1
  · exfalso
    unfold World.cell? at h
    rw [Array.getElem?_eq_none h1] at h
    simp at h
/-- A slice that came in, read in a later world. -/
theorem row_later {w w' : World} {a : Option Addr} {len : Nat} {l : List UInt8} (h : RowAt w a len l) (hb : Below w.heap.size w w') : ∀ x, a = some x → ∀ j, j < len → w'.cell? (x.add j) = some (.int .u8 (bv l j)) := by
  intro x hx j hj
  rcases h.2 with ⟨h1, _⟩ | ⟨y, hy, hc⟩
  · rw [h1] at hx; cases hx
  · rw [hy] at hx
    injection hx with hx
    subst hx
    rw [hb.cell (cell_lt (hc j hj))]
    exact hc j hj
end Go.Proofs.Qxb6601660aMods
