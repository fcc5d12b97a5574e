/-
  THE PLAIN LAWS: text that leaves D containers open ('Good'), and how each piece carries it on.
-/
import Derived.Test.Qxb6600600aModsPlainB
import Derived.Test.Qxb6600600aModsPlainC
namespace Go.Proofs.Qxb6600600aMods

/-- Read from its start, the text 'out' leaves D containers open, whatever follows. -/
def Good (out : List UInt8) (D : Nat) : Prop := ∀ r, val (out ++ r) 0 false false = (val r D false false).map (· + out.length)

/-- The piece x takes the depth from D to D'. -/
def Takes (x : List UInt8) (D D' : Nat) : Prop := ∀ r, val (x ++ r) D false false = (val r D' false false).map (· + x.length)

theorem Takes.nil (D : Nat) : Takes [] D D := by intro r; simp
theorem Takes.app {x y : List UInt8} {D D' D'' : Nat} (h : Takes x D D') (k : Takes y D' D'') : Takes (x ++ y) D D'' := by
  intro r
  rw [List.append_assoc, h, k]
  simp [Option.map_map, Function.comp_def]
  congr 1
  funext a
  omega
theorem Good.app {x y : List UInt8} {D D' : Nat} (h : Good x D) (k : Takes y D D') : Good (x ++ y) D' := Takes.app (x := x) (D := 0) h k

theorem Takes.open {c : UInt8} (h : c = 123 ∨ c = 91) (D : Nat) : Takes [c] D (D + 1) := by
  intro r
  have h1 : c ≠ 34 := by rcases h with rfl | rfl <;> decide
  have h2 : opn c = true := by rcases h with rfl | rfl <;> decide
  show val (c :: r) D false false = _
  rw [val, if_neg h1, if_pos h2]
  rfl
theorem Takes.close {c : UInt8} (h : c = 125 ∨ c = 93) (D : Nat) : Takes [c] (D + 2) (D + 1) := by
  intro r
  have h1 : c ≠ 34 := by rcases h with rfl | rfl <;> decide
  have h2 : opn c = false := by rcases h with rfl | rfl <;> decide
  have h3 : cls c = true := by rcases h with rfl | rfl <;> decide
  show val (c :: r) (D + 2) false false = _
  rw [val, if_neg h1, if_neg (by rw [h2]; decide), if_pos h3, if_neg (by omega), if_neg (by omega)]
  rfl
theorem Takes.sep {c : UInt8} (h : c = 44 ∨ c = 58) (D : Nat) : Takes [c] (D + 1) (D + 1) := by
  intro r
  have h1 : c ≠ 34 := by rcases h with rfl | rfl <;> decide
  have h2 : opn c = false := by rcases h with rfl | rfl <;> decide
  have h3 : cls c = false := by rcases h with rfl | rfl <;> decide
  have h4 : Go.Proofs.Qxb6600600aMods.sep c = true := by rcases h with rfl | rfl <;> decide
  show val (c :: r) (D + 1) false false = _
  rw [val, if_neg h1, if_neg (by rw [h2]; decide), if_neg (by rw [h3]; decide), if_pos h4, if_neg (by omega)]
  rfl
theorem Takes.plain {c : UInt8} (h1 : c ≠ 34) (h2 : opn c = false) (h3 : cls c = false) (h4 : Go.Proofs.Qxb6600600aMods.sep c = false) (D : Nat) : Takes [c] D D := by
  intro r
  show val (c :: r) D false false = _
  rw [val, if_neg h1, if_neg (by rw [h2]; decide), if_neg (by rw [h3]; decide), if_neg (by rw [h4]; decide)]
  rfl
theorem Takes.cons {c : UInt8} {x : List UInt8} {D D' D'' : Nat} (h : Takes [c] D D') (k : Takes x D' D'') : Takes (c :: x) D D'' := Takes.app (x := [c]) h k
theorem Takes.number (D : Nat) : Takes [45, 49, 50, 46, 53, 101, 43, 51] D D := by
  repeat (refine Takes.cons (Takes.plain (by decide) (by decide) (by decide) (by decide) D) ?_)
  exact Takes.nil D
theorem Takes.null (D : Nat) : Takes [110, 117, 108, 108] D D := by
  repeat (refine Takes.cons (Takes.plain (by decide) (by decide) (by decide) (by decide) D) ?_)
  exact Takes.nil D
/-- A string between its quotes. -/
theorem Takes.str (s : List UInt8) (D : Nat) : Takes ([34] ++ qS s ++ [34]) (D + 1) (D + 1) := by
  intro r
  have e : [34] ++ qS s ++ [34] ++ r = 34 :: (qS s ++ 34 :: r) := by simp
  rw [e, val, if_pos rfl, val_scan, scan_qS]
  have e3 : scan (34 :: r) false = some 1 := by rw [scan]; simp
  rw [e3]
  simp only [Option.map_some]
  rw [if_neg (by omega)]
  have e4 : (qS s ++ 34 :: r).drop (1 + (qS s).length) = r := by
    have : 1 + (qS s).length = (qS s ++ [34]).length := by simp; omega
    have e5 : qS s ++ 34 :: r = (qS s ++ [34]) ++ r := by simp
    rw [this, e5, List.drop_left]
  rw [e4]
  simp [Option.map_map, Function.comp_def]
  congr 1
  funext a
  omega

/-- THE PLAIN LAW: the last closer ends it. -/
theorem ends_here (out r : List UInt8) (c : UInt8) (h : Good out 1) (hc : c = 125 ∨ c = 93) : V ((out ++ [c]) ++ r) 0 0 false false = (out ++ [c]).length := by
  have h1 : c ≠ 34 := by rcases hc with rfl | rfl <;> decide
  have h2 : opn c = false := by rcases hc with rfl | rfl <;> decide
  have h3 : cls c = true := by rcases hc with rfl | rfl <;> decide
  unfold V
  rw [List.drop_zero]
  have e : (out ++ [c]) ++ r = out ++ (c :: r) := by simp
  have hv : val (c :: r) 1 false false = some 1 := by
    rw [val, if_neg h1, if_neg (by rw [h2]; decide), if_pos h3, if_neg (by omega), if_pos rfl]
  have hg := h (c :: r)
  rw [← e, hv] at hg
  rw [hg]
  simp [res]
  omega

end Go.Proofs.Qxb6600600aMods
