import Derived.Test.Qxb6001356aModsWb
namespace Go.Proofs.Qxb6001356aMods
open Go.RowKit

/-- Do the lengths sum to at most 2^20? -/
def sumB (a b c d e f : Nat) : Bool := decide (a + b + c + d + e + f ≤ 1048576)

set_option maxHeartbeats 1000000 in
theorem bytes_any (p l v t n z : ByteArray) (x y : Bool) (hp : p.size ≤ maxLen) (hl : l.size ≤ maxLen) (hv : v.size ≤ maxLen) (ht : t.size ≤ maxLen) (hn : n.size ≤ maxLen) (hz : z.size ≤ maxLen) (w : World) :
    Calls Trym.prog 17 #[.string p, .string l, .string v, .string t, .bool x, .bool y, .string n, .string z] w fun e w' => e = .returned (.bool (sumB p.size l.size v.size t.size n.size z.size)) ∧ w' = w := by
  unfold maxLen at hp hl hv ht hn hz
  go_enter Trym.func17, Trym.ntmps17
  go_wp2
  all_goals
    go_ret
    exact ⟨ret_bool (by unfold sumB; simp; omega), rfl⟩

set_option maxHeartbeats 400000 in
theorem zz_any (text : ByteArray) (i m : Nat) (value : ByteArray) (rest : List UInt8) (w : World) (hs : text.size ≤ 10000000) (hi : i ≤ text.size)
    (h : cfg (text.data.toList.drop i) [] false false 0 = some (value.data.toList, rest)) (hm : text.size + 1 = m + rest.length) :
    Calls Trym.prog 18 #[.string text, .int .i64 i] w fun e w' => e = .returned (.tuple #[.string value, .int .i64 m, .bool true]) ∧ Below w.heap.size w w' := by
  have H : Hid (cfg (text.data.toList.drop i) [] false false 0 = some (value.data.toList, rest)) := h
  have hm' : (text.size : Int) - rest.length + 1 = m := by omega
  have HM : Hid ((text.size : Int) - rest.length + 1 = m) := hm'
  clear h hm hm'
  go_enter Trym.func18, Trym.ntmps18
  go_wp2_with (go_at_call 34; refine (configValue_any text i value.data.toList rest _ hs hi H.out).mono ?_; rintro e w' ⟨rfl, hb⟩)
  go_ret3
  refine ⟨?_, by assumption⟩
  have e1 : (⟨value.data.toList.toArray⟩ : ByteArray) = value := by simp
  show Ending.returned (.tuple #[.string ⟨value.data.toList.toArray⟩, .int .i64 _, .bool true]) = _
  rw [HM.out, e1]
end Go.Proofs.Qxb6001356aMods
