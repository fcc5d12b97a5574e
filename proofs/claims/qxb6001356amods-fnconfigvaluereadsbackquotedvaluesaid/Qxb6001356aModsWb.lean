import Derived.Test.Qxb6001356aModsWa
namespace Go.Proofs.Qxb6001356aMods
open Go.RowKit

theorem Trym.brow : ByteRow Trym.prog 5 := by unfold ByteRow; kernel_rfl

/-- Where the escape's letter stands among the five. -/
def pos5 (e : UInt8) : Int := Lib.indexByte [92, 34, 110, 116, 98] e

set_option maxHeartbeats 400000 in
theorem idx5 (e : UInt8) (w : World) :
    Calls Trym.prog 39 #[.string ⟨#[92, 34, 110, 116, 98]⟩, .int .u8 (e.toNat : Int)] w fun r w' => r = .returned (.int .i64 (pos5 e)) ∧ w' = w := by
  refine (stringsIndexByte _ _ _).mono ?_
  rintro r w' ⟨rfl, rfl⟩
  refine ⟨?_, rfl⟩
  have : ((e.toNat : Int).toNat).toUInt8 = e := by simp
  rw [this]
  rfl

theorem unesc_cases {e x : UInt8} (h : unesc e = some x) : (e = 92 ∧ x = 92) ∨ (e = 34 ∧ x = 34) ∨ (e = 110 ∧ x = 10) ∨ (e = 116 ∧ x = 9) ∨ (e = 98 ∧ x = 8) := by
  unfold unesc at h
  split at h
  · next h1 => left; exact ⟨h1, by simpa using h.symm⟩
  split at h
  · next h1 => right; left; exact ⟨h1, by simpa using h.symm⟩
  split at h
  · next h1 => right; right; left; exact ⟨h1, by simpa using h.symm⟩
  split at h
  · next h1 => right; right; right; left; exact ⟨h1, by simpa using h.symm⟩
  split at h
  · next h1 => right; right; right; right; exact ⟨h1, by simpa using h.symm⟩
  · cases h

theorem ret_cfg {l val : List UInt8} {a b : Int} (h : l = val) (h2 : a = b) : Ending.returned (.tuple #[.string ⟨l.toArray⟩, .int .i64 a, .bool true]) = .returned (.tuple #[.string ⟨val.toArray⟩, .int .i64 b, .bool true]) := by rw [h, h2]

theorem com_yes {c : UInt8} (h : com c = true) : ((c.toNat : Int) == 35) = true ∨ (((c.toNat : Int) == 35) = false ∧ ((c.toNat : Int) == 59) = true) := by
  simp [com] at h
  rcases h with rfl | rfl <;> decide
theorem com_no {c : UInt8} (h : com c = false) : ((c.toNat : Int) == 35) = false ∧ ((c.toNat : Int) == 59) = false := by
  simp [com] at h
  exact ⟨byte_ne (by exact h.1), byte_ne (by exact h.2)⟩
theorem tests (c : UInt8) : (blI (c.toNat : Int) = true ∧ ((c.toNat : Int) == 35) = false ∧ ((c.toNat : Int) == 59) = false) ∨ (blI (c.toNat : Int) = false ∧ ((c.toNat : Int) == 35) = true) ∨
    (blI (c.toNat : Int) = false ∧ ((c.toNat : Int) == 35) = false ∧ ((c.toNat : Int) == 59) = true) ∨ (blI (c.toNat : Int) = false ∧ ((c.toNat : Int) == 35) = false ∧ ((c.toNat : Int) == 59) = false) := by
  rw [blI_toNat]
  by_cases h1 : c = 35
  · subst h1; decide
  · by_cases h2 : c = 59
    · subst h2; decide
    · have a := byte_ne h1
      have b := byte_ne h2
      simp only [UInt8.reduceToNat, Int.cast_ofNat_Int] at a b
      cases blk c
      · exact .inr (.inr (.inr ⟨rfl, a, b⟩))
      · exact .inl ⟨rfl, a, b⟩
theorem unesc_pos {e x : UInt8} (h : unesc e = some x) : (pos5 e = 0 ∧ x = 92) ∨ (pos5 e = 1 ∧ x = 34) ∨ (pos5 e = 2 ∧ x = 10) ∨ (pos5 e = 3 ∧ x = 9) ∨ (pos5 e = 4 ∧ x = 8) := by
  rcases unesc_cases h with ⟨rfl, rfl⟩ | ⟨rfl, rfl⟩ | ⟨rfl, rfl⟩ | ⟨rfl, rfl⟩ | ⟨rfl, rfl⟩ <;> decide
/-- The loop's relation. -/
def Rel (text : ByteArray) (val rest : List UInt8) (w : World) (i b q c n : Value) (wr : World) : Prop :=
  ∃ (k : Nat) (ao : Option Addr) (len cap : Nat) (l : List UInt8) (qb cb : Bool) (nb : Nat), k ≤ text.size ∧ i = .int .i64 k ∧ b = .slice ao len cap ∧ OwnB 5 w.heap.size wr (.slice ao len cap) l ∧
    q = .bool qb ∧ c = .bool cb ∧ n = .int .i64 nb ∧ cfg (text.data.toList.drop k) l qb cb nb = some (val, rest) ∧ Below w.heap.size w wr ∧ w.heap.size ≤ wr.heap.size ∧ l.length ≤ k ∧ nb ≤ k

set_option maxHeartbeats 1000000 in
set_option maxRecDepth 100000 in
theorem configValue_any (text : ByteArray) (i : Nat) (val rest : List UInt8) (w : World) (hs : text.size ≤ 10000000) (hi : i ≤ text.size)
    (h : cfg (text.data.toList.drop i) [] false false 0 = some (val, rest)) :
    Calls Trym.prog 34 #[.string text, .int .i64 i] w fun e w' => e = .returned (.tuple #[.string ⟨val.toArray⟩, .int .i64 (text.size - rest.length + 1), .bool true]) ∧ Below w.heap.size w w' := by
  have H0 : Hid (cfg (text.data.toList.drop i) [] false false 0 = some (val, rest)) := h
  clear h
  go_enter Trym.func34, Trym.ntmps34
  go_wp2
  go_loopw [1, 7, 8, 9, 10] (fun i b q c n wr => Rel text val rest w i b q c n wr) (fun i _ _ _ _ _ => text.size - (intOf i).toNat)
  case atStart => exact ⟨i, none, 0, 0, [], false, false, 0, hi, rfl, rfl, OwnB.nil _ _ _, rfl, rfl, rfl, H0, Below.refl _ _, Nat.le_refl _, by simp, by simp⟩
  case round =>
    obtain ⟨k, ao, len, cap, l, qb, cb, nb, hk, rfl, rfl, hown, rfl, rfl, rfl, hc, hbel, hsz, hll, hnb⟩ := hrel
    have HL : Hid (len = l.length) := hown.len
    have hlen : len ≤ k := by have := HL.out; omega
    have hconv : (convert 25 9 (.slice ao len cap)).run Trym.prog wr = .ok (.string ⟨l.toArray⟩) wr := conv_own Trym.underlying25 Trym.underlying5 Trym.underlying9 hown
    by_cases hlt : k < text.size
    · have hd := drop_cons text k hlt
      by_cases hnl : text[k] = 10
      · have hn' : ((text[k].toNat : Int) == 10) = true := byte_eq hnl
        rw [hd, hnl, cfg_nl] at hc
        cases qb
        · have HE : Hid (l = val ∧ rest.length = text.size - k) := by
            simp at hc
            refine ⟨hc.1, ?_⟩
            rw [← hc.2]; simp; omega
          clear hc hd hnl
          go_wp2
          go_ret3
          have he := HE.out
          exact ⟨ret_cfg he.1 (by omega), hbel⟩
        · simp at hc
      · have hn' : ((text[k].toNat : Int) == 10) = false := byte_ne hnl
        cases cb
        · rw [hd] at hc
          clear hd
          cases qb
          · cases hb : blk text[k]
            · have hb' : blI (text[k].toNat : Int) = false := by rw [blI_toNat]; exact hb
              rcases cfg_in_un hc hnl hb with ⟨hcm, hc'⟩ | ⟨hcm, h34, rfl, hc'⟩
              · have HC : Hid (cfg (text.data.toList.drop (k + 1)) l false true nb = some (val, rest)) := hc'
                clear hc hc' hb hnl
                rcases com_yes hcm with h35 | ⟨h35, h59⟩
                all_goals
                  clear hcm
                  go_wp2_with (go_at_call 38; refine (isConfigSpace_any _ _).mono ?_; rintro e w' ⟨rfl, rfl⟩)
                  go_roundw
                  case rel => exact ⟨k + 1, ao, len, cap, l, false, true, nb, by omega, by go_num, rfl, hown, rfl, rfl, rfl, HC, hbel, hsz, by omega, by omega⟩
                  case measure => simp [intOf]; omega
              · have HC : Hid (cfg (text.data.toList.drop (k + 1)) l true false 0 = some (val, rest)) := hc'
                obtain ⟨h35, h59⟩ := com_no hcm
                have e34 : ((text[k].toNat : Int) == 34) = true := byte_eq h34
                have e92 : ((text[k].toNat : Int) == 92) = false := byte_ne (d := 92) (by rw [h34]; decide)
                clear hc hc' hb hnl hcm h34
                go_wp2_with (go_at_call 38; refine (isConfigSpace_any _ _).mono ?_; rintro e w' ⟨rfl, rfl⟩)
                refine wp_loop_rounds 1 ?_
                rw [rounds_succ]
                go_wp2
                go_roundw
                case rel => exact ⟨k + 1, ao, len, cap, l, true, false, 0, by omega, by go_num, rfl, hown, rfl, rfl, rfl, HC, hbel, hsz, by omega, by omega⟩
                case measure => simp [intOf]; omega
            · have hb' : blI (text[k].toNat : Int) = true := by rw [blI_toNat]; exact hb
              rw [cfg_blank _ _ _ _ hb] at hc
              clear hb hnl
              by_cases hz : len = 0
              · have hz0 : l.length = 0 := by have := HL.out; omega
                rw [if_pos hz0] at hc
                have HC : Hid (cfg (text.data.toList.drop (k + 1)) l false false nb = some (val, rest)) := hc
                clear hc
                subst hz
                clear hz0
                go_wp2_with (go_at_call 38; refine (isConfigSpace_any _ _).mono ?_; rintro e w' ⟨rfl, rfl⟩)
                go_roundw
                case rel => exact ⟨k + 1, ao, 0, cap, l, false, false, nb, by omega, by go_num, rfl, hown, rfl, rfl, rfl, HC, hbel, hsz, by omega, by omega⟩
                case measure => simp [intOf]; omega
              · have hz0 : l.length ≠ 0 := by have := HL.out; omega
                rw [if_neg hz0] at hc
                have HC : Hid (cfg (text.data.toList.drop (k + 1)) l false false (nb + 1) = some (val, rest)) := hc
                have hz1 : 0 < len := by omega
                clear hc hz0 hz
                go_wp2_with (go_at_call 38; refine (isConfigSpace_any _ _).mono ?_; rintro e w' ⟨rfl, rfl⟩)
                go_roundw
                case rel => exact ⟨k + 1, ao, len, cap, l, false, false, nb + 1, by omega, by go_num, rfl, hown, rfl, rfl, by go_num, HC, hbel, hsz, by omega, by omega⟩
                case measure => simp [intOf]; omega
          · obtain ⟨rfl, hq⟩ := cfg_in_q hc hnl
            clear hc
            rcases hq with ⟨h34, hc⟩ | ⟨h92, e, r', x, hr, he10, hue, hc⟩ | ⟨h34, h92, hc⟩
            · have HC : Hid (cfg (text.data.toList.drop (k + 1)) l false false 0 = some (val, rest)) := hc
              have hb' : blI (text[k].toNat : Int) = false := by rw [blI_toNat, h34]; decide
              have e35 : ((text[k].toNat : Int) == 35) = false := byte_ne (d := 35) (by rw [h34]; decide)
              have e59 : ((text[k].toNat : Int) == 59) = false := byte_ne (d := 59) (by rw [h34]; decide)
              have e34 : ((text[k].toNat : Int) == 34) = true := byte_eq h34
              have e92 : ((text[k].toNat : Int) == 92) = false := byte_ne (d := 92) (by rw [h34]; decide)
              clear hc hnl h34
              go_wp2_with (go_at_call 38; refine (isConfigSpace_any _ _).mono ?_; rintro e w' ⟨rfl, rfl⟩)
              refine wp_loop_rounds 1 ?_
              rw [rounds_succ]
              go_wp2
              go_roundw
              case rel => exact ⟨k + 1, ao, len, cap, l, false, false, 0, by omega, by go_num, rfl, hown, rfl, rfl, rfl, HC, hbel, hsz, by omega, by omega⟩
              case measure => simp [intOf]; omega
            · have h1 : k + 1 < text.size := by
                rcases Nat.lt_or_ge (k + 1) text.size with h | h
                · exact h
                · rw [List.drop_eq_nil_of_le (by simp; omega)] at hr; cases hr
              rw [drop_cons text (k + 1) h1] at hr
              injection hr with hr1 hr2
              subst hr1
              have HC : Hid (cfg (text.data.toList.drop (k + 2)) (l ++ [x]) true false 0 = some (val, rest)) := by rw [← hr2] at hc; exact hc
              have hb' : blI (text[k].toNat : Int) = false := by rw [blI_toNat, h92]; decide
              have e35 : ((text[k].toNat : Int) == 35) = false := byte_ne (d := 35) (by rw [h92]; decide)
              have e59 : ((text[k].toNat : Int) == 59) = false := byte_ne (d := 59) (by rw [h92]; decide)
              have e92 : ((text[k].toNat : Int) == 92) = true := byte_eq h92
              have e10 : ((text[k + 1].toNat : Int) == 10) = false := byte_ne he10
              have hu := unesc_pos hue
              clear hc hnl h92 hr2 he10 hue hconv
              rcases hu with ⟨hp, rfl⟩ | ⟨hp, rfl⟩ | ⟨hp, rfl⟩ | ⟨hp, rfl⟩ | ⟨hp, rfl⟩
              · go_wp2_with (go_at_call 38; refine (isConfigSpace_any _ _).mono ?_; rintro e w' ⟨rfl, rfl⟩)
                refine wp_loop_rounds 1 ?_
                rw [rounds_succ]
                go_wp2_with (first | (go_at_call 39; refine (idx5 _ _).mono ?_; rintro e w' ⟨rfl, rfl⟩) | (at_builtin; refine wpL_lit rfl (.tmp 85) (.tmp 88) 25 5 rfl Trym.underlying25 Trym.brow w.heap.size _ l rfl hown 1 1 rfl [92] rfl rfl (by simp; omega) hsz ?_; intro ao' n' cap' w1 hown1 hn1 hbel1 hsz1))
                go_roundw
                case rel => exact ⟨k + 2, ao', n', cap', _, true, false, 0, by omega, by go_num, rfl, hown1, rfl, rfl, rfl, HC, hbel.trans hbel1, hsz1, by simp; omega, by omega⟩
                case measure => simp [intOf]; omega
              · go_wp2_with (go_at_call 38; refine (isConfigSpace_any _ _).mono ?_; rintro e w' ⟨rfl, rfl⟩)
                refine wp_loop_rounds 1 ?_
                rw [rounds_succ]
                go_wp2_with (first | (go_at_call 39; refine (idx5 _ _).mono ?_; rintro e w' ⟨rfl, rfl⟩) | (at_builtin; refine wpL_lit rfl (.tmp 85) (.tmp 88) 25 5 rfl Trym.underlying25 Trym.brow w.heap.size _ l rfl hown 1 1 rfl [34] rfl rfl (by simp; omega) hsz ?_; intro ao' n' cap' w1 hown1 hn1 hbel1 hsz1))
                go_roundw
                case rel => exact ⟨k + 2, ao', n', cap', _, true, false, 0, by omega, by go_num, rfl, hown1, rfl, rfl, rfl, HC, hbel.trans hbel1, hsz1, by simp; omega, by omega⟩
                case measure => simp [intOf]; omega
              · go_wp2_with (go_at_call 38; refine (isConfigSpace_any _ _).mono ?_; rintro e w' ⟨rfl, rfl⟩)
                refine wp_loop_rounds 1 ?_
                rw [rounds_succ]
                go_wp2_with (first | (go_at_call 39; refine (idx5 _ _).mono ?_; rintro e w' ⟨rfl, rfl⟩) | (at_builtin; refine wpL_lit rfl (.tmp 85) (.tmp 88) 25 5 rfl Trym.underlying25 Trym.brow w.heap.size _ l rfl hown 1 1 rfl [10] rfl rfl (by simp; omega) hsz ?_; intro ao' n' cap' w1 hown1 hn1 hbel1 hsz1))
                go_roundw
                case rel => exact ⟨k + 2, ao', n', cap', _, true, false, 0, by omega, by go_num, rfl, hown1, rfl, rfl, rfl, HC, hbel.trans hbel1, hsz1, by simp; omega, by omega⟩
                case measure => simp [intOf]; omega
              · go_wp2_with (go_at_call 38; refine (isConfigSpace_any _ _).mono ?_; rintro e w' ⟨rfl, rfl⟩)
                refine wp_loop_rounds 1 ?_
                rw [rounds_succ]
                go_wp2_with (first | (go_at_call 39; refine (idx5 _ _).mono ?_; rintro e w' ⟨rfl, rfl⟩) | (at_builtin; refine wpL_lit rfl (.tmp 85) (.tmp 88) 25 5 rfl Trym.underlying25 Trym.brow w.heap.size _ l rfl hown 1 1 rfl [9] rfl rfl (by simp; omega) hsz ?_; intro ao' n' cap' w1 hown1 hn1 hbel1 hsz1))
                go_roundw
                case rel => exact ⟨k + 2, ao', n', cap', _, true, false, 0, by omega, by go_num, rfl, hown1, rfl, rfl, rfl, HC, hbel.trans hbel1, hsz1, by simp; omega, by omega⟩
                case measure => simp [intOf]; omega
              · go_wp2_with (go_at_call 38; refine (isConfigSpace_any _ _).mono ?_; rintro e w' ⟨rfl, rfl⟩)
                refine wp_loop_rounds 1 ?_
                rw [rounds_succ]
                go_wp2_with (first | (go_at_call 39; refine (idx5 _ _).mono ?_; rintro e w' ⟨rfl, rfl⟩) | (at_builtin; refine wpL_lit rfl (.tmp 85) (.tmp 88) 25 5 rfl Trym.underlying25 Trym.brow w.heap.size _ l rfl hown 1 1 rfl [8] rfl rfl (by simp; omega) hsz ?_; intro ao' n' cap' w1 hown1 hn1 hbel1 hsz1))
                go_roundw
                case rel => exact ⟨k + 2, ao', n', cap', _, true, false, 0, by omega, by go_num, rfl, hown1, rfl, rfl, rfl, HC, hbel.trans hbel1, hsz1, by simp; omega, by omega⟩
                case measure => simp [intOf]; omega
            · have HC : Hid (cfg (text.data.toList.drop (k + 1)) (l ++ [text[k]]) true false 0 = some (val, rest)) := hc
              have e34 : ((text[k].toNat : Int) == 34) = false := byte_ne h34
              have e92 : ((text[k].toNat : Int) == 92) = false := byte_ne h92
              rcases tests text[k] with ⟨hb', e35, e59⟩ | ⟨hb', e35⟩ | ⟨hb', e35, e59⟩ | ⟨hb', e35, e59⟩
              all_goals
                clear hc hnl h34 h92
                go_wp2_with (go_at_call 38; refine (isConfigSpace_any _ _).mono ?_; rintro e w' ⟨rfl, rfl⟩)
                refine wp_loop_rounds 1 ?_
                rw [rounds_succ]
                go_wp2_with (at_builtin; refine wpL_lit rfl (.tmp 61) (.tmp 63) 25 5 rfl Trym.underlying25 Trym.brow w.heap.size _ l rfl hown 1 1 rfl [text[k]] rfl rfl (by simp; omega) hsz ?_; intro ao' n' cap' w1 hown1 hn1 hbel1 hsz1)
                go_roundw
                case rel => exact ⟨k + 1, ao', n', cap', _, true, false, 0, by omega, by go_num, rfl, hown1, rfl, rfl, rfl, HC, hbel.trans hbel1, hsz1, by simp; omega, by omega⟩
                case measure => simp [intOf]; omega
        · have HC : Hid (cfg (text.data.toList.drop (k + 1)) l qb true nb = some (val, rest)) := by
            rw [hd, cfg_comment _ _ _ _ _ hnl] at hc; exact hc
          clear hc hd hnl
          go_wp2
          go_roundw
          case rel => exact ⟨k + 1, ao, len, cap, l, qb, true, nb, by omega, by go_num, rfl, hown, rfl, rfl, rfl, HC, hbel, hsz, by omega, by omega⟩
          case measure => simp [intOf]; omega
    · rw [List.drop_eq_nil_of_le (by simp; omega), cfg_end] at hc
      cases qb
      · have HE : Hid (l = val ∧ rest.length = text.size - k) := by
          simp at hc
          refine ⟨hc.1, ?_⟩
          rw [hc.2]; simp; omega
        clear hc
        go_wp2
        go_ret3
        have he := HE.out
        exact ⟨ret_cfg he.1 (by omega), hbel⟩
      · simp at hc
end Go.Proofs.Qxb6001356aMods
