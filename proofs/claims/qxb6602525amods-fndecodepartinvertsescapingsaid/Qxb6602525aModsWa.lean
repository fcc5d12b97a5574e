import Derived.Test.Qxb6602525aModsProg
import Derived.Test.Qxb6602525aModsKit
import Derived.Test.Qxb6602525aModsPlain
import Derived.Outline
import Derived.WalkLawsBesides
import Derived.Laws.BitsLemmas
import Derived.Laws.BitsAllLaws
import Derived.Deep.QuietTactic
import Derived.BigQuiet
import Derived.Deep.DeepCutAuto
namespace Go.Proofs.Qxb6602525aMods
open Go.RowKit
set_option linter.unusedVariables false

theorem Trym.brow : ByteRow Trym.prog 5 := by unfold ByteRow; kernel_rfl

set_option maxHeartbeats 1000000 in
theorem sliteIndexByte (s : ByteArray) (c : Int) (w : World) :
    Calls Trym.prog 41 #[.string s, .int .u8 c] w fun e w' => e = .returned (.int .i64 (Lib.indexByte s.data.toList c.toNat.toUInt8)) ∧ w' = w := by
  go_enter Trym.func41, Trym.ntmps41
  go_wp2
  rw [run_callFunc_extern Trym.func44 (by kernel_rfl) (by kernel_rfl) (by kernel_rfl) (e := Extern.BytealgIndexByte.indexByte) (by kernel_rfl), Lib.run_indexByteString]
  simp only [Result.andThen]
  rw [Oper.upon_value]
  go_wp2
  go_ret
  exact ⟨rfl, rfl⟩

set_option maxHeartbeats 1000000 in
theorem stringsIndexByte (s : ByteArray) (c : Int) (w : World) :
    Calls Trym.prog 33 #[.string s, .int .u8 c] w fun e w' => e = .returned (.int .i64 (Lib.indexByte s.data.toList c.toNat.toUInt8)) ∧ w' = w := by
  go_enter Trym.func33, Trym.ntmps33
  go_wp2_with (go_at_call 41; refine (sliteIndexByte _ _ _).mono ?_; rintro e w' ⟨rfl, rfl⟩)
  go_ret
  exact ⟨rfl, rfl⟩

/-- Where a byte stands among the digits. -/
def lx (e : UInt8) : Int := ixI (ix LO e)
theorem idx16 (e : UInt8) (w : World) : Calls Trym.prog 33 #[.string ⟨#[48, 49, 50, 51, 52, 53, 54, 55, 56, 57, 97, 98, 99, 100, 101, 102]⟩, .int .u8 (e.toNat : Int)] w fun r w' => r = .returned (.int .i64 (lx e)) ∧ w' = w := by
  refine (stringsIndexByte _ _ _).mono ?_
  rintro r w' ⟨rfl, rfl⟩
  have : ((e.toNat : Int).toNat).toUInt8 = e := by simp
  rw [this, indexByte_ix]
  exact ⟨rfl, rfl⟩

/-- A digit's letter as a number. -/
def hxI (d : Int) : Int := if d < 10 then 48 + d else 87 + d
theorem hxI_eq (d : Nat) (h : d < 16) : hxI (d : Int) = ((hx d).toNat : Int) := by
  unfold hxI
  rw [hx_toNat d h]
  by_cases h1 : d < 10
  · rw [if_pos (by omega), if_pos h1]; omega
  · rw [if_neg (by omega), if_neg h1]; omega
set_option maxHeartbeats 400000 in
theorem hex_any (d : Int) (w : World) (h0 : 0 ≤ d) (h1 : d < 16) :
    Calls Trym.prog 34 #[.int .u8 d] w fun e w' => e = .returned (.int .u8 (hxI d)) ∧ w' = w := by
  by_cases h : d < 10
  · go_enter Trym.func34, Trym.ntmps34
    go_wp2
    go_ret
    exact ⟨ret_int (by unfold hxI; rw [if_pos h]), rfl⟩
  · go_enter Trym.func34, Trym.ntmps34
    go_wp2
    go_ret
    exact ⟨ret_int (by unfold hxI; rw [if_neg (by omega)]; omega), rfl⟩
theorem and15 (n : Nat) (h : n < 256) : bits .and .u8 (n : Int) 15 = ((n % 16 : Nat) : Int) := by
  have := u8_and_nat n 15 h (by omega)
  have e : n &&& 15 = n % 16 := Nat.and_two_pow_sub_one_eq_mod n 4
  rw [e] at this
  exact this
theorem or_join (a v : Nat) (ha : a < 65536) (hv : v < 16) : bits .or .i64 ((a : Int) * 16) (v : Int) = (a : Int) * 16 + (v : Int) :=
  bits_join .i64 40 (by decide) (fun n h0 h1 => by rw [IntKind.wrap_i64]; omega) 4 ((a : Int) * 16) (v : Int) (by omega) (by omega) (by omega) (by omega) (by omega) (by omega)

theorem byte_ne {b d : UInt8} (h : b ≠ d) : ((b.toNat : Int) == (d.toNat : Int)) = false := by
  rw [beq_eq_false_iff_ne]
  intro e
  exact h (UInt8.toNat_inj.1 (by omega))
theorem byte_eq {b d : UInt8} (h : b = d) : ((b.toNat : Int) == (d.toNat : Int)) = true := by subst h; simp
theorem take_snoc (s : ByteArray) (k : Nat) (h : k < s.size) : s.data.toList.take (k + 1) = s.data.toList.take k ++ [s[k]] := by
  rw [List.take_succ_eq_append_getElem (by simpa using h)]; rfl
theorem drop_cons (s : ByteArray) (k : Nat) (h : k < s.size) : s.data.toList.drop k = s[k] :: s.data.toList.drop (k + 1) := by
  rw [List.drop_eq_getElem_cons (by simpa using h)]; rfl

set_option maxHeartbeats 1000000 in
/-- zzAppendHex. -/
theorem appendHex_any (B : Nat) (v : Value) (l : List UInt8) (c : UInt8) (w : World) (hown : OwnB 5 B w v l) (hB : B ≤ w.heap.size) (hlen : l.length ≤ 50000000) :
    Calls Trym.prog 28 #[v, .int .u8 (c.toNat : Int)] w fun e w' => ∃ ao n cap, e = .returned (.slice ao n cap) ∧ OwnB 5 B w' (.slice ao n cap) (l ++ [126, hx (c.toNat / 16), hx (c.toNat % 16)]) ∧ Below B w w' ∧ B ≤ w'.heap.size := by
  obtain ⟨ao, cap, hv⟩ := hown.form
  obtain ⟨n, hn⟩ : ∃ n, n = l.length := ⟨_, rfl⟩
  rw [← hn] at hv
  subst hv
  have HN : Hid (n = l.length) := hn
  clear hn
  have hc := c.toNat_lt
  have hc' : (c.toNat : Int) < 256 := by omega
  have hand : bits .and .u8 (c.toNat : Int) 15 = (c.toNat : Int) % 16 := and15 _ hc
  have h1 : hxI ((c.toNat : Int) / 16) = ((hx (c.toNat / 16)).toNat : Int) := hxI_eq (c.toNat / 16) (by omega)
  have h2 : hxI ((c.toNat : Int) % 16) = ((hx (c.toNat % 16)).toNat : Int) := hxI_eq (c.toNat % 16) (by omega)
  go_enter Trym.func28, Trym.ntmps28
  go_wp2_with (first | (go_at_call 34; refine (hex_any _ _ (by omega) (by omega)).mono ?_; rintro e w' ⟨rfl, hw'⟩; subst hw') | (at_builtin; refine wpL_lit rfl (.tmp 5) (.tmp 12) 25 5 rfl Trym.underlying25 Trym.brow B _ _ rfl hown 3 3 rfl [126, hx (c.toNat / 16), hx (c.toNat % 16)] rfl rfl (by simp; omega) hB ?_; intro ao1 n1 cap1 w1 hown1 hn1 hbel1 hsz1))
  go_ret
  exact ⟨ao1, n1, cap1, rfl, hown1, hbel1, hsz1⟩
end Go.Proofs.Qxb6602525aMods
