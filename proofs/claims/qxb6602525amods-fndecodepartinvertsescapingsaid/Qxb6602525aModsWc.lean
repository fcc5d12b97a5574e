import Derived.Test.Qxb6602525aModsWb
namespace Go.Proofs.Qxb6602525aMods
open Go.RowKit
set_option linter.unusedVariables false

/-- The loop's relation. -/
def ERel (s : ByteArray) (w : World) (nv iv : Value) (wr : World) : Prop :=
  ∃ (k : Nat) (ao : Option Addr) (n cap : Nat) (l : List UInt8), nv = .slice ao n cap ∧ iv = .int .i64 k ∧ k ≤ s.size ∧ OwnB 5 w.heap.size wr (.slice ao n cap) l ∧ Hid (Dec l (s.data.toList.take k)) ∧ Below w.heap.size w wr ∧ w.heap.size ≤ wr.heap.size ∧ l.length ≤ 3 * k
/-- What it answers. -/
def EPost (s : ByteArray) (w : World) (e : Ending) (w' : World) : Prop :=
  ∃ (ao : Option Addr) (n cap : Nat) (l : List UInt8), e = .returned (.slice ao n cap) ∧ OwnB 5 w.heap.size w' (.slice ao n cap) l ∧ Hid (Dec l s.data.toList) ∧ Below w.heap.size w w' ∧ w.heap.size ≤ w'.heap.size ∧ l.length ≤ 3 * s.size

theorem dec_step (s : ByteArray) (k : Nat) (h : k < s.size) {l x : List UInt8} (hd : Hid (Dec l (s.data.toList.take k))) (hx : Dec x [s[k]]) : Hid (Dec (l ++ x) (s.data.toList.take (k + 1))) := by
  show Dec (l ++ x) (s.data.toList.take (k + 1))
  rw [take_snoc s k h]
  exact Dec.app hd.out hx

set_option maxHeartbeats 4000000 in
set_option maxRecDepth 100000 in
/-- zzEscape. -/
theorem escape_any (s style : ByteArray) (w : World) (hs : s.size ≤ 262144) (ht : style.size ≤ 262144) :
    Calls Trym.prog 11 #[.string s, .string style] w fun e w' => EPost s w e w' := by
  go_enter Trym.func11, Trym.ntmps11
  go_wp2_with (at_make; refine wpL_make0 rfl (.const (.int .i64 0)) (.tmp 11) 25 5 rfl Trym.underlying25 Trym.brow w.heap.size .i64 .i64 _ (3 * s.size) rfl rfl (by go_num) (by omega) (Nat.le_refl _) ?_; intro wa hO0 hbela hsza)
  go_loopw [5, 6] (fun nv iv wr => ERel s w nv iv wr) (fun _ iv _ => s.size - (intOf iv).toNat)
  case atStart => exact ⟨0, _, _, _, [], rfl, rfl, by omega, hO0, Dec.nil, hbela, hsza, by simp⟩
  case round =>
    clear hO0 hbela hsza
    obtain ⟨k, ao, n, cap, l, rfl, rfl, hk, hown, hd, hbel, hsz, hll⟩ := hrel
    have HL : Hid (n = l.length) := hown.len
    by_cases hlt : k < s.size
    · have hcl := s[k].toNat_lt
      by_cases h0 : style.size = 0
      · have hz : (style.size : Int) = 0 := by omega
        have HD := dec_step s k hlt hd (Dec.hex s[k])
        clear hd
        go_wp2_with (go_at_call 28; refine (appendHex_any w.heap.size _ l s[k] _ hown hsz (by omega)).mono ?_; rintro e w1 ⟨ao1, n1, cap1, rfl, hown1, hbel1, hsz1⟩)
        go_roundw
        case measure => simp [intOf]; omega
        case rel => exact ⟨k + 1, ao1, n1, cap1, _, rfl, by go_num, by omega, hown1, HD, hbel.trans hbel1, hsz1, by simp; omega⟩
      · have hz : (0 : Int) < (style.size : Int) := by omega
        have hz0 : ((style.size : Int) == 0) = false := by rw [beq_eq_false_iff_ne]; omega
        have hm : k % style.size < style.size := Nat.mod_lt _ (by omega)
        have hq1 : ∀ wx : World, (Instr.index 9 (.string style) (.int .i64 ((k : Int) % (style.size : Int)))).run Trym.prog wx = .ok (.int .u8 (style[k % style.size].toNat : Int)) wx := idx_at style (k % style.size) _ (by simp) hm
        have htt := style[k % style.size].toNat_lt
        have hrr : style[k % style.size].toNat % 3 = 0 ∨ style[k % style.size].toNat % 3 = 1 ∨ style[k % style.size].toNat % 3 = 2 := by omega
        rcases hrr with hr | hr | hr
        · have hr' : (style[k % style.size].toNat : Int) % 3 = 0 := by omega
          clear hr
          have HD := dec_step s k hlt hd (Dec.hex s[k])
          clear hd
          go_wp2_with (go_at_call 28; refine (appendHex_any w.heap.size _ l s[k] _ hown hsz (by omega)).mono ?_; rintro e w1 ⟨ao1, n1, cap1, rfl, hown1, hbel1, hsz1⟩)
          go_roundw
          case measure => simp [intOf]; omega
          case rel => exact ⟨k + 1, ao1, n1, cap1, _, rfl, by go_num, by omega, hown1, HD, hbel.trans hbel1, hsz1, by simp; omega⟩
        · have hr' : (style[k % style.size].toNat : Int) % 3 = 1 := by omega
          clear hr
          by_cases hA : 65 ≤ s[k].toNat ∧ s[k].toNat ≤ 90
          · obtain ⟨hA1, hA2⟩ := hA
            have a1 : decide ((65 : Int) ≤ (s[k].toNat : Int)) = true := by simp; omega
            have a2 : decide ((s[k].toNat : Int) ≤ 90) = true := by simp; omega
            have HJ : Hid (((UInt8.ofNat (s[k].toNat + 32)).toNat : Int) = (s[k].toNat : Int) + 32) := by
              show ((UInt8.ofNat (s[k].toNat + 32)).toNat : Int) = (s[k].toNat : Int) + 32
              rw [UInt8.toNat_ofNat']; omega
            have HD := dec_step s k hlt hd (Dec.low hA1 hA2)
            clear hd
            go_wp2_with (at_builtin; refine wpL_lit rfl (.tmp 47) (.tmp 50) 25 5 rfl Trym.underlying25 Trym.brow w.heap.size _ _ rfl hown 2 2 rfl [95, UInt8.ofNat (s[k].toNat + 32)] (by show [Value.int .u8 _, Value.int .u8 _] = [Value.int .u8 95, Value.int .u8 _]; rw [HJ.out]) rfl (by simp; omega) hsz ?_; intro ao1 n1 cap1 w1 hown1 hn1 hbel1 hsz1)
            go_roundw
            case measure => simp [intOf]; omega
            case rel => exact ⟨k + 1, ao1, n1, cap1, _, rfl, by go_num, by omega, hown1, HD, hbel.trans hbel1, hsz1, by simp; omega⟩
          · by_cases h95 : s[k] = 95
            · have e95 : ((s[k].toNat : Int) == 95) = true := byte_eq h95
              have a1 : decide ((s[k].toNat : Int) ≤ 90) = false := by rw [h95]; decide
              have a0 : decide ((65 : Int) ≤ (s[k].toNat : Int)) = true := by rw [h95]; decide
              have hdu : Dec [95, 95] [s[k]] := by rw [h95]; exact Dec.und
              clear hA h95
              have HD := dec_step s k hlt hd (hdu)
              clear hd
              go_wp2_with (at_builtin; refine wpL_lit rfl (.tmp 58) (.tmp 59) 25 5 rfl Trym.underlying25 Trym.brow w.heap.size _ _ rfl hown 2 2 rfl [95, 95] (rfl) rfl (by simp; omega) hsz ?_; intro ao1 n1 cap1 w1 hown1 hn1 hbel1 hsz1)
              go_roundw
              case measure => simp [intOf]; omega
              case rel => exact ⟨k + 1, ao1, n1, cap1, _, rfl, by go_num, by omega, hown1, HD, hbel.trans hbel1, hsz1, by simp; omega⟩
            · have e95 : ((s[k].toNat : Int) == 95) = false := byte_ne h95
              by_cases hA1 : 65 ≤ s[k].toNat
              · have a1 : decide ((s[k].toNat : Int) ≤ 90) = false := by simp; omega
                have a0 : decide ((65 : Int) ≤ (s[k].toNat : Int)) = true := by simp; omega
                clear hA
                by_cases h126 : s[k] = 126
                · have e126 : ((s[k].toNat : Int) == 126) = true := byte_eq h126
                  clear h126
                  have HD := dec_step s k hlt hd (Dec.hex s[k])
                  clear hd
                  go_wp2_with (go_at_call 28; refine (appendHex_any w.heap.size _ l s[k] _ hown hsz (by omega)).mono ?_; rintro e w1 ⟨ao1, n1, cap1, rfl, hown1, hbel1, hsz1⟩)
                  go_roundw
                  case measure => simp [intOf]; omega
                  case rel => exact ⟨k + 1, ao1, n1, cap1, _, rfl, by go_num, by omega, hown1, HD, hbel.trans hbel1, hsz1, by simp; omega⟩
                · have e126 : ((s[k].toNat : Int) == 126) = false := byte_ne h126
                  have HD := dec_step s k hlt hd (Dec.raw h126 h95)
                  clear hd
                  go_wp2_with (at_builtin; refine wpL_lit rfl (.tmp 70) (.tmp 72) 25 5 rfl Trym.underlying25 Trym.brow w.heap.size _ _ rfl hown 1 1 rfl [s[k]] (rfl) rfl (by simp; omega) hsz ?_; intro ao1 n1 cap1 w1 hown1 hn1 hbel1 hsz1)
                  go_roundw
                  case measure => simp [intOf]; omega
                  case rel => exact ⟨k + 1, ao1, n1, cap1, _, rfl, by go_num, by omega, hown1, HD, hbel.trans hbel1, hsz1, by simp; omega⟩
              · have a0 : decide ((65 : Int) ≤ (s[k].toNat : Int)) = false := by simp; omega
                clear hA
                by_cases h126 : s[k] = 126
                · have e126 : ((s[k].toNat : Int) == 126) = true := byte_eq h126
                  clear h126
                  have HD := dec_step s k hlt hd (Dec.hex s[k])
                  clear hd
                  go_wp2_with (go_at_call 28; refine (appendHex_any w.heap.size _ l s[k] _ hown hsz (by omega)).mono ?_; rintro e w1 ⟨ao1, n1, cap1, rfl, hown1, hbel1, hsz1⟩)
                  go_roundw
                  case measure => simp [intOf]; omega
                  case rel => exact ⟨k + 1, ao1, n1, cap1, _, rfl, by go_num, by omega, hown1, HD, hbel.trans hbel1, hsz1, by simp; omega⟩
                · have e126 : ((s[k].toNat : Int) == 126) = false := byte_ne h126
                  have HD := dec_step s k hlt hd (Dec.raw h126 h95)
                  clear hd
                  go_wp2_with (at_builtin; refine wpL_lit rfl (.tmp 70) (.tmp 72) 25 5 rfl Trym.underlying25 Trym.brow w.heap.size _ _ rfl hown 1 1 rfl [s[k]] (rfl) rfl (by simp; omega) hsz ?_; intro ao1 n1 cap1 w1 hown1 hn1 hbel1 hsz1)
                  go_roundw
                  case measure => simp [intOf]; omega
                  case rel => exact ⟨k + 1, ao1, n1, cap1, _, rfl, by go_num, by omega, hown1, HD, hbel.trans hbel1, hsz1, by simp; omega⟩
        · have hr' : (style[k % style.size].toNat : Int) % 3 = 2 := by omega
          clear hr
          by_cases h95 : s[k] = 95
          · have e95 : ((s[k].toNat : Int) == 95) = true := byte_eq h95
            have e126 : ((s[k].toNat : Int) == 126) = false := by rw [h95]; decide
            clear h95
            have HD := dec_step s k hlt hd (Dec.hex s[k])
            clear hd
            go_wp2_with (go_at_call 28; refine (appendHex_any w.heap.size _ l s[k] _ hown hsz (by omega)).mono ?_; rintro e w1 ⟨ao1, n1, cap1, rfl, hown1, hbel1, hsz1⟩)
            go_roundw
            case measure => simp [intOf]; omega
            case rel => exact ⟨k + 1, ao1, n1, cap1, _, rfl, by go_num, by omega, hown1, HD, hbel.trans hbel1, hsz1, by simp; omega⟩
          · have e95 : ((s[k].toNat : Int) == 95) = false := byte_ne h95
            by_cases h126 : s[k] = 126
            · have e126 : ((s[k].toNat : Int) == 126) = true := byte_eq h126
              clear h126
              have HD := dec_step s k hlt hd (Dec.hex s[k])
              clear hd
              go_wp2_with (go_at_call 28; refine (appendHex_any w.heap.size _ l s[k] _ hown hsz (by omega)).mono ?_; rintro e w1 ⟨ao1, n1, cap1, rfl, hown1, hbel1, hsz1⟩)
              go_roundw
              case measure => simp [intOf]; omega
              case rel => exact ⟨k + 1, ao1, n1, cap1, _, rfl, by go_num, by omega, hown1, HD, hbel.trans hbel1, hsz1, by simp; omega⟩
            · have e126 : ((s[k].toNat : Int) == 126) = false := byte_ne h126
              have HD := dec_step s k hlt hd (Dec.raw h126 h95)
              clear hd
              go_wp2_with (at_builtin; refine wpL_lit rfl (.tmp 70) (.tmp 72) 25 5 rfl Trym.underlying25 Trym.brow w.heap.size _ _ rfl hown 1 1 rfl [s[k]] (rfl) rfl (by simp; omega) hsz ?_; intro ao1 n1 cap1 w1 hown1 hn1 hbel1 hsz1)
              go_roundw
              case measure => simp [intOf]; omega
              case rel => exact ⟨k + 1, ao1, n1, cap1, _, rfl, by go_num, by omega, hown1, HD, hbel.trans hbel1, hsz1, by simp; omega⟩
    · have hks : k = s.size := by omega
      subst hks
      have hte : s.data.toList.take s.size = s.data.toList := List.take_of_length_le (by simp)
      rw [hte] at hd
      clear hte
      go_wp2_with fail
      go_ret
      exact ⟨ao, n, cap, l, rfl, hown, hd, hbel, hsz, hll⟩
end Go.Proofs.Qxb6602525aMods
