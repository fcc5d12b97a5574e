import Derived.Test.Qxb6600600aModsProg
import Derived.Test.Qxb6600600aModsKit
import Derived.Test.Qxb6600600aModsPlain
import Derived.Outline
import Derived.WalkLawsBesides
namespace Go.Proofs.Qxb6600600aMods
open Go.RowKit

theorem Trym.brow : ByteRow Trym.prog 5 := by unfold ByteRow; kernel_rfl

set_option maxHeartbeats 400000 in
theorem bytesIndexByte (b o n c : Nat) (l : List UInt8) (w : World) (hx : l.length = n) (hc : ∀ i, i < n → w.cell? ⟨b, o + i, none⟩ = some (.int .u8 (bv l i))) :
    Calls Trym.prog 28 #[.slice (some ⟨b, o, none⟩) n c, .int .u8 34] w fun e w' => e = .returned (.int .i64 (ixI (ix l 34))) ∧ w' = w := by
  have hrun := Lib.run_indexByteSlice (P := Trym.prog) w b o n c (l.map fun x => (x.toNat : Int)) (by simpa using hx) (fun i hi => by
    rw [hc i hi]
    unfold bv
    have hl : i < l.length := by omega
    simp [List.getD, List.getElem?_eq_getElem hl]) 34
  have e1 : Lib.bytesOf (l.map fun x => (x.toNat : Int)) = l := by
    unfold Lib.bytesOf
    rw [List.map_map]
    have : ((fun n : Int => UInt8.ofNat n.toNat) ∘ fun x : UInt8 => (x.toNat : Int)) = id := by
      funext x
      simp
    rw [this, List.map_id]
  rw [e1] at hrun
  have e2 : (34 : Int).toNat.toUInt8 = 34 := by decide
  rw [e2, indexByte_ix] at hrun
  have HR : Hid ((Extern.BytealgIndexByte.indexByte #[.slice (some ⟨b, o, none⟩) n c, .int .u8 34]).run Trym.prog w = .ok (.int .i64 (ixI (ix l 34))) w) := hrun
  clear hrun hc
  go_enter Trym.func28, Trym.ntmps28
  go_wp2
  rw [run_callFunc_extern Trym.func29 (by kernel_rfl) (by kernel_rfl) (by kernel_rfl) (e := Extern.BytealgIndexByte.indexByte) (by kernel_rfl), HR.out]
  simp only [Result.andThen]
  rw [Oper.upon_value]
  go_wp2
  go_ret
  exact ⟨rfl, rfl⟩

set_option maxHeartbeats 400000 in
/-- stringEndByEscapeScan. -/
theorem escapeScan_any (g n cap : Nat) (l : List UInt8) (i : Nat) (w : World) (hl : l.length = n) (hn : n ≤ 100000000) (hi : i < n) (hc : ∀ j, j < n → w.cell? ⟨g, j, none⟩ = some (.int .u8 (bv l j))) :
    Calls Trym.prog 12 #[.slice (some ⟨g, 0, none⟩) n cap, .int .i64 i] w fun e w' => e = .returned (.int .i64 (E l (i + 1) false)) ∧ w' = w := by
  have HC : Hid (∀ j, j < n → w.cell? ⟨g, j, none⟩ = some (.int .u8 (bv l j))) := hc
  have HLn : Hid (l.length = n) := hl
  clear hc hl
  go_enter Trym.func12, Trym.ntmps12
  go_wp2
  go_loop [5, 6] (fun s j => ∃ (k : Nat) (sb : Bool), k ≤ n ∧ j = .int .i64 k ∧ s = .bool sb ∧ Hid (E l k sb = E l (i + 1) false)) (fun _ j => n - (intOf j).toNat)
  case atStart => exact ⟨i + 1, false, by omega, by go_num, rfl, rfl⟩
  case round =>
    obtain ⟨k, sb, hk, rfl, rfl, hE⟩ := hrel
    by_cases hlt : k < n
    · have hcell := HC.out k hlt
      have hlk : k < l.length := by rw [HLn.out]; exact hlt
      cases sb
      · by_cases h92 : l.getD k 0 = 92
        · have e92 : (bv l k == 92) = true := bv_eq h92
          have HE : Hid (E l (k + 1) true = E l (i + 1) false) := (E_slash l k hlk h92).symm.trans hE.out
          clear h92
          go_wp2
          go_round
          case rel => exact ⟨k + 1, true, by omega, by go_num, rfl, HE⟩
          case measure => simp [intOf]; omega
        · have e92 : (bv l k == 92) = false := bv_ne h92
          by_cases h34 : l.getD k 0 = 34
          · have e34 : (bv l k == 34) = true := bv_eq h34
            have HE : Hid (k + 1 = E l (i + 1) false) := (E_quote l k hlk h34).symm.trans hE.out
            clear h34 h92
            go_wp2
            go_ret
            exact ⟨ret_int (by rw [← HE.out]; omega), rfl⟩
          · have e34 : (bv l k == 34) = false := bv_ne h34
            have HE : Hid (E l (k + 1) false = E l (i + 1) false) := (E_other l k hlk h92 h34).symm.trans hE.out
            clear h34 h92
            go_wp2
            go_round
            case rel => exact ⟨k + 1, false, by omega, by go_num, rfl, HE⟩
            case measure => simp [intOf]; omega
      · have HE : Hid (E l (k + 1) false = E l (i + 1) false) := (E_escaped l k hlk).symm.trans hE.out
        go_wp2
        go_round
        case rel => exact ⟨k + 1, false, by omega, by go_num, rfl, HE⟩
        case measure => simp [intOf]; omega
    · have HE : Hid (n = E l (i + 1) false) := by
        have := E_end l k sb (by rw [HLn.out]; omega)
        unfold Hid
        rw [← hE.out, this, HLn.out]
      go_wp2
      go_ret
      exact ⟨ret_int (by rw [← HE.out]), rfl⟩
end Go.Proofs.Qxb6600600aMods
