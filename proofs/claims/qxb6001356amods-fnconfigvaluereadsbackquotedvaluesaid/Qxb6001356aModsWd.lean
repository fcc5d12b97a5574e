import Derived.Test.Qxb6001356aModsWc
import Derived.Deep.RegionWith
namespace Go.Proofs.Qxb6001356aMods
open Go.RowKit

theorem noNL {n : ByteArray} (h : hasNL n = false) : ∀ c ∈ n.data.toList, c ≠ 10 := by
  intro c hc e
  unfold hasNL at h
  rw [List.any_eq_false] at h
  have := h c hc
  simp [e] at this
theorem full_no (p l v t z pre : List UInt8) (hpre : pre = [] ++ p ++ l ++ [34]) :
    (pre ++ esc v ++ [34] ++ t ++ [10] ++ z).drop p.length = l ++ (34 :: (esc v ++ (34 :: (t ++ (cmt false false [] ++ 10 :: z))))) := by
  rw [hpre]
  simp [cmt]
theorem full_com (s : UInt8) (p l v t n z pre : List UInt8) (hpre : pre = [] ++ p ++ l ++ [34]) :
    (pre ++ esc v ++ [34] ++ t ++ [s] ++ n ++ [10] ++ z).drop p.length = l ++ (34 :: (esc v ++ (34 :: (t ++ ((s :: n) ++ 10 :: z))))) := by
  rw [hpre]
  simp

theorem bsize (l : List UInt8) : (⟨l.toArray⟩ : ByteArray).size = l.length := by show l.toArray.size = _; simp
theorem drop_mk (l : List UInt8) (p : ByteArray) : (⟨l.toArray⟩ : ByteArray).data.toList.drop p.size = l.drop p.data.toList.length := by
  show l.toArray.toList.drop p.data.size = _
  simp
theorem OwnB.letter {e : TypeId} {B : Nat} {w : World} {v : Value} {l : List UInt8} (h : OwnB e B w v l) : ∃ r, Hid (r = l) ∧ OwnB e B w v r := ⟨l, rfl, h⟩

/-- What the tests ahead of the law's body ask. -/
def okB (p l v t n z : ByteArray) : Prop := p.size ≤ 262144 ∧ l.size ≤ 65536 ∧ v.size ≤ 131072 ∧ t.size ≤ 65536 ∧ n.size ≤ 131072 ∧ z.size ≤ 262144

set_option maxHeartbeats 1000000 in
set_option maxRecDepth 100000 in
/-- The ways on which the law has nothing to say. -/
theorem law_out (p l v t n z : ByteArray) (x y : Bool) (hp : p.size ≤ maxLen) (hl : l.size ≤ maxLen) (hv : v.size ≤ maxLen) (ht : t.size ≤ maxLen) (hn : n.size ≤ maxLen) (hz : z.size ≤ maxLen) (w : World)
    (h : sumB p.size l.size v.size t.size n.size z.size = false ∨ (sumB p.size l.size v.size t.size n.size z.size = true ∧ ¬ okB p l v t n z)) :
    Calls Trym.prog 6 #[.string p, .string l, .string v, .string t, .bool x, .bool y, .string n, .string z] w fun e w' => e = .returned (.bool true) ∧ Below w.heap.size w w' := by
  rcases h with h | ⟨h, hno⟩
  · go_enter Trym.func6, Trym.ntmps6
    go_wp2_with (go_at_call 17; refine (bytes_any p l v t n z x y hp hl hv ht hn hz _).mono ?_; rintro e w' ⟨rfl, rfl⟩)
    go_ret
    exact ⟨rfl, Below.refl _ _⟩
  · have hno' : ¬ (p.size ≤ 262144 ∧ l.size ≤ 65536 ∧ v.size ≤ 131072 ∧ t.size ≤ 65536 ∧ n.size ≤ 131072 ∧ z.size ≤ 262144) := hno
    clear hno
    have HN : Hid (¬ (p.size ≤ 262144 ∧ l.size ≤ 65536 ∧ v.size ≤ 131072 ∧ t.size ≤ 65536 ∧ n.size ≤ 131072 ∧ z.size ≤ 262144)) := hno'
    clear hno'
    by_cases h1 : p.size ≤ 262144
    · by_cases h2 : l.size ≤ 65536
      · by_cases h3 : v.size ≤ 131072
        · by_cases h4 : t.size ≤ 65536
          · by_cases h5 : n.size ≤ 131072
            · by_cases h6 : z.size ≤ 262144
              · exact absurd ⟨h1, h2, h3, h4, h5, h6⟩ HN.out
              · go_enter Trym.func6, Trym.ntmps6
                go_wp2_with (go_at_call 17; refine (bytes_any p l v t n z x y hp hl hv ht hn hz _).mono ?_; rintro e w' ⟨rfl, rfl⟩)
                go_ret
                exact ⟨rfl, Below.refl _ _⟩
            · go_enter Trym.func6, Trym.ntmps6
              go_wp2_with (go_at_call 17; refine (bytes_any p l v t n z x y hp hl hv ht hn hz _).mono ?_; rintro e w' ⟨rfl, rfl⟩)
              go_ret
              exact ⟨rfl, Below.refl _ _⟩
          · go_enter Trym.func6, Trym.ntmps6
            go_wp2_with (go_at_call 17; refine (bytes_any p l v t n z x y hp hl hv ht hn hz _).mono ?_; rintro e w' ⟨rfl, rfl⟩)
            go_ret
            exact ⟨rfl, Below.refl _ _⟩
        · go_enter Trym.func6, Trym.ntmps6
          go_wp2_with (go_at_call 17; refine (bytes_any p l v t n z x y hp hl hv ht hn hz _).mono ?_; rintro e w' ⟨rfl, rfl⟩)
          go_ret
          exact ⟨rfl, Below.refl _ _⟩
      · go_enter Trym.func6, Trym.ntmps6
        go_wp2_with (go_at_call 17; refine (bytes_any p l v t n z x y hp hl hv ht hn hz _).mono ?_; rintro e w' ⟨rfl, rfl⟩)
        go_ret
        exact ⟨rfl, Below.refl _ _⟩
    · go_enter Trym.func6, Trym.ntmps6
      go_wp2_with (go_at_call 17; refine (bytes_any p l v t n z x y hp hl hv ht hn hz _).mono ?_; rintro e w' ⟨rfl, rfl⟩)
      go_ret
      exact ⟨rfl, Below.refl _ _⟩

set_option maxHeartbeats 1000000 in
set_option maxRecDepth 100000 in
/-- .. and those on which a blank is none, or the note holds a newline. -/
theorem law_out2 (p l v t n z : ByteArray) (x y : Bool) (hp : p.size ≤ maxLen) (hl : l.size ≤ maxLen) (hv : v.size ≤ maxLen) (ht : t.size ≤ maxLen) (hn : n.size ≤ maxLen) (hz : z.size ≤ maxLen) (w : World)
    (h : sumB p.size l.size v.size t.size n.size z.size = true) (hok : okB p l v t n z)
    (hno : allBl l = false ∨ (allBl l = true ∧ allBl t = false) ∨ (allBl l = true ∧ allBl t = true ∧ hasNL n = true)) :
    Calls Trym.prog 6 #[.string p, .string l, .string v, .string t, .bool x, .bool y, .string n, .string z] w fun e w' => e = .returned (.bool true) ∧ Below w.heap.size w w' := by
  obtain ⟨h1, h2, h3, h4, h5, h6⟩ := hok
  rcases hno with hb | ⟨hb, hb2⟩ | ⟨hb, hb2, hb3⟩
  · go_enter Trym.func6, Trym.ntmps6
    go_wp2_with (go_at_call 17; refine (bytes_any p l v t n z x y hp hl hv ht hn hz _).mono ?_; rintro e w' ⟨rfl, rfl⟩)
    refine (allBlanks_any l _ hl).mono ?_
    rintro e w' ⟨rfl, rfl⟩
    go_wp2_with fail
    go_ret
    exact ⟨rfl, Below.refl _ _⟩
  · go_enter Trym.func6, Trym.ntmps6
    go_wp2_with (go_at_call 17; refine (bytes_any p l v t n z x y hp hl hv ht hn hz _).mono ?_; rintro e w' ⟨rfl, rfl⟩)
    refine (allBlanks_any l _ hl).mono ?_
    rintro e w' ⟨rfl, rfl⟩
    go_wp2_with fail
    refine (allBlanks_any t _ ht).mono ?_
    rintro e w' ⟨rfl, rfl⟩
    go_wp2_with fail
    go_ret
    exact ⟨rfl, Below.refl _ _⟩
  · go_enter Trym.func6, Trym.ntmps6
    go_wp2_with (go_at_call 17; refine (bytes_any p l v t n z x y hp hl hv ht hn hz _).mono ?_; rintro e w' ⟨rfl, rfl⟩)
    refine (allBlanks_any l _ hl).mono ?_
    rintro e w' ⟨rfl, rfl⟩
    go_wp2_with fail
    refine (allBlanks_any t _ ht).mono ?_
    rintro e w' ⟨rfl, rfl⟩
    go_wp2_with fail
    refine (hasNL_any n _ hn).mono ?_
    rintro e w' ⟨rfl, rfl⟩
    go_wp2_with fail
    go_ret
    exact ⟨rfl, Below.refl _ _⟩

set_option maxHeartbeats 2000000 in
set_option maxRecDepth 100000 in
/-- THE LAW's OWN WAY. -/
theorem law_in (p l v t n z : ByteArray) (x y : Bool) (w : World)
    (h : sumB p.size l.size v.size t.size n.size z.size = true) (hok : okB p l v t n z) (hb : allBl l = true) (hb2 : allBl t = true) (hb3 : hasNL n = false) :
    Calls Trym.prog 6 #[.string p, .string l, .string v, .string t, .bool x, .bool y, .string n, .string z] w fun e w' => e = .returned (.bool true) ∧ Below w.heap.size w w' := by
  obtain ⟨h1, h2, h3, h4, h5, h6⟩ := hok
  have hp : p.size ≤ maxLen := by unfold maxLen; omega
  have hl : l.size ≤ maxLen := by unfold maxLen; omega
  have hv : v.size ≤ maxLen := by unfold maxLen; omega
  have ht : t.size ≤ maxLen := by unfold maxLen; omega
  have hn : n.size ≤ maxLen := by unfold maxLen; omega
  have hz : z.size ≤ maxLen := by unfold maxLen; omega
  have d1 : decide ((262144 : Int) < (p.size : Int)) = false := by simp; omega
  have d2 : decide ((65536 : Int) < (l.size : Int)) = false := by simp; omega
  have d3 : decide ((131072 : Int) < (v.size : Int)) = false := by simp; omega
  have d4 : decide ((65536 : Int) < (t.size : Int)) = false := by simp; omega
  have d5 : decide ((131072 : Int) < (n.size : Int)) = false := by simp; omega
  have d6 : decide ((262144 : Int) < (z.size : Int)) = false := by simp; omega
  go_enter Trym.func6, Trym.ntmps6
  go_wp2_with (go_at_call 17; refine (bytes_any p l v t n z x y hp hl hv ht hn hz _).mono ?_; rintro e w' ⟨rfl, rfl⟩)
  refine (allBlanks_any l _ hl).mono ?_
  rintro e w' ⟨rfl, rfl⟩
  go_wp2_with fail
  refine (allBlanks_any t _ ht).mono ?_
  rintro e w' ⟨rfl, rfl⟩
  go_wp2_with fail
  refine (hasNL_any n _ hn).mono ?_
  rintro e W ⟨rfl, hW⟩
  subst hW
  clear hp hl hv ht hn hz
  go_wp2_with (first | (at_builtin; refine wpL_str rfl (.tmp 63) (.tmp 64) 25 9 5 rfl Trym.underlying25 Trym.underlying9 Trym.brow W.heap.size _ [] rfl (OwnB.nil _ _ _) p rfl (by simp; omega) (Nat.le_refl _) ?_; intro ao1 n1 cap1 w1 hown1 hn1 hbel1 hsz1) | (at_builtin; refine wpL_str rfl (.tmp 68) (.tmp 69) 25 9 5 rfl Trym.underlying25 Trym.underlying9 Trym.brow W.heap.size _ _ rfl hown1 l rfl (by simp; omega) hsz1 ?_; intro ao2 n2 cap2 w2 hown2 hn2 hbel2 hsz2) | (at_builtin; refine wpL_lit rfl (.tmp 71) (.tmp 72) 25 5 rfl Trym.underlying25 Trym.brow W.heap.size _ _ rfl hown2 1 1 rfl [34] rfl rfl (by simp; omega) hsz2 ?_; intro ao3 n3 cap3 w3 hown3 hn3 hbel3 hsz3))
  obtain ⟨pre, hpre⟩ : ∃ pre, pre = ([] ++ p.data.toList ++ l.data.toList ++ [34] : List UInt8) := ⟨_, rfl⟩
  rw [← hpre] at hown3
  have HP : Hid (pre = ([] ++ p.data.toList ++ l.data.toList ++ [34] : List UInt8)) := hpre
  have hprel : pre.length ≤ 400000 := by rw [hpre]; simp; omega
  have hprel2 : p.size ≤ pre.length := by rw [hpre]; simp
  have HN1 : Hid (n1 = p.size) := by have := hown1.len; show n1 = p.size; simpa using this
  have hbel : Below W.heap.size W w3 := (hbel1.trans hbel2).trans hbel3
  clear hpre hown1 hown2 hbel1 hbel2 hbel3 hsz1 hsz2 hn2
  go_loopw [17, 19] (fun s i wr => ∃ (k : Nat) (ao : Option Addr) (m cap : Nat), k ≤ v.size ∧ i = .int .i64 k ∧ s = .slice ao m cap ∧ OwnB 5 W.heap.size wr (.slice ao m cap) (pre ++ esc (v.data.toList.take k)) ∧ m ≤ 100000000 ∧ Below W.heap.size W wr ∧ W.heap.size ≤ wr.heap.size) (fun _ i _ => v.size - (intOf i).toNat)
  case atStart => exact ⟨0, ao3, n3, cap3, Nat.zero_le _, rfl, rfl, by simpa [esc] using hown3, hn3, hbel, hsz3⟩
  case round =>
    clear hown3 hbel hsz3 hn3
    obtain ⟨k, ao, m, cap, hk, rfl, rfl, hown, hm, hbel, hsz⟩ := hrel
    have hel : (esc (v.data.toList.take k)).length ≤ 2 * k := by
      have := esc_len (v.data.toList.take k)
      have := List.length_take_le k v.data.toList
      omega
    by_cases hlt : k < v.size
    · have HT : Hid (esc (v.data.toList.take (k + 1)) = esc (v.data.toList.take k) ++ escB v[k]) := by unfold Hid; rw [take_snoc v k hlt, esc_snoc]
      by_cases c92 : v[k] = 92
      · have e92 : ((v[k].toNat : Int) == 92) = true := byte_eq c92
        have HE : Hid (escB v[k] = [92, 92]) := by unfold Hid; rw [c92]; decide
        clear c92
        go_wp2_with (at_builtin; refine wpL_lit rfl (.tmp 90) (.tmp 91) 25 5 rfl Trym.underlying25 Trym.brow W.heap.size _ _ rfl hown 2 2 rfl [92, 92] rfl rfl (by simp; omega) hsz ?_; intro ao' m' cap' w' hown' hm' hbel' hsz')
        go_roundw
        case rel => exact ⟨k + 1, ao', m', cap', by omega, by go_num, rfl, by rw [HT.out, HE.out, ← List.append_assoc]; exact hown', hm', hbel.trans hbel', hsz'⟩
        case measure => simp [intOf]; omega
      · by_cases c34 : v[k] = 34
        · have e34 : ((v[k].toNat : Int) == 34) = true := byte_eq c34
          have e92 : ((v[k].toNat : Int) == 92) = false := byte_ne c92
          have HE : Hid (escB v[k] = [92, 34]) := by unfold Hid; rw [c34]; decide
          clear c92 c34
          go_wp2_with (at_builtin; refine wpL_lit rfl (.tmp 95) (.tmp 96) 25 5 rfl Trym.underlying25 Trym.brow W.heap.size _ _ rfl hown 2 2 rfl [92, 34] rfl rfl (by simp; omega) hsz ?_; intro ao' m' cap' w' hown' hm' hbel' hsz')
          go_roundw
          case rel => exact ⟨k + 1, ao', m', cap', by omega, by go_num, rfl, by rw [HT.out, HE.out, ← List.append_assoc]; exact hown', hm', hbel.trans hbel', hsz'⟩
          case measure => simp [intOf]; omega
        · by_cases c10 : v[k] = 10
          · have e10 : ((v[k].toNat : Int) == 10) = true := byte_eq c10
            have e92 : ((v[k].toNat : Int) == 92) = false := byte_ne c92
            have e34 : ((v[k].toNat : Int) == 34) = false := byte_ne c34
            have HE : Hid (escB v[k] = [92, 110]) := by unfold Hid; rw [c10]; decide
            clear c92 c34 c10
            go_wp2_with (at_builtin; refine wpL_lit rfl (.tmp 100) (.tmp 101) 25 5 rfl Trym.underlying25 Trym.brow W.heap.size _ _ rfl hown 2 2 rfl [92, 110] rfl rfl (by simp; omega) hsz ?_; intro ao' m' cap' w' hown' hm' hbel' hsz')
            go_roundw
            case rel => exact ⟨k + 1, ao', m', cap', by omega, by go_num, rfl, by rw [HT.out, HE.out, ← List.append_assoc]; exact hown', hm', hbel.trans hbel', hsz'⟩
            case measure => simp [intOf]; omega
          · by_cases c9 : v[k] = 9
            · have e9 : ((v[k].toNat : Int) == 9) = true := byte_eq c9
              have e92 : ((v[k].toNat : Int) == 92) = false := byte_ne c92
              have e34 : ((v[k].toNat : Int) == 34) = false := byte_ne c34
              have e10 : ((v[k].toNat : Int) == 10) = false := byte_ne c10
              have HE : Hid (escB v[k] = [92, 116]) := by unfold Hid; rw [c9]; decide
              clear c92 c34 c10 c9
              go_wp2_with (at_builtin; refine wpL_lit rfl (.tmp 105) (.tmp 106) 25 5 rfl Trym.underlying25 Trym.brow W.heap.size _ _ rfl hown 2 2 rfl [92, 116] rfl rfl (by simp; omega) hsz ?_; intro ao' m' cap' w' hown' hm' hbel' hsz')
              go_roundw
              case rel => exact ⟨k + 1, ao', m', cap', by omega, by go_num, rfl, by rw [HT.out, HE.out, ← List.append_assoc]; exact hown', hm', hbel.trans hbel', hsz'⟩
              case measure => simp [intOf]; omega
            · by_cases c8 : v[k] = 8
              · have e8 : ((v[k].toNat : Int) == 8) = true := byte_eq c8
                have e92 : ((v[k].toNat : Int) == 92) = false := byte_ne c92
                have e34 : ((v[k].toNat : Int) == 34) = false := byte_ne c34
                have e10 : ((v[k].toNat : Int) == 10) = false := byte_ne c10
                have e9 : ((v[k].toNat : Int) == 9) = false := byte_ne c9
                have HE : Hid (escB v[k] = [92, 98]) := by unfold Hid; rw [c8]; decide
                clear c92 c34 c10 c9 c8
                go_wp2_with (at_builtin; refine wpL_lit rfl (.tmp 110) (.tmp 111) 25 5 rfl Trym.underlying25 Trym.brow W.heap.size _ _ rfl hown 2 2 rfl [92, 98] rfl rfl (by simp; omega) hsz ?_; intro ao' m' cap' w' hown' hm' hbel' hsz')
                go_roundw
                case rel => exact ⟨k + 1, ao', m', cap', by omega, by go_num, rfl, by rw [HT.out, HE.out, ← List.append_assoc]; exact hown', hm', hbel.trans hbel', hsz'⟩
                case measure => simp [intOf]; omega
              · have e92 : ((v[k].toNat : Int) == 92) = false := byte_ne c92
                have e34 : ((v[k].toNat : Int) == 34) = false := byte_ne c34
                have e10 : ((v[k].toNat : Int) == 10) = false := byte_ne c10
                have e9 : ((v[k].toNat : Int) == 9) = false := byte_ne c9
                have e8 : ((v[k].toNat : Int) == 8) = false := byte_ne c8
                have HE : Hid (escB v[k] = [v[k]]) := by unfold Hid escB; rw [if_neg c92, if_neg c34, if_neg c10, if_neg c9, if_neg c8]
                clear c92 c34 c10 c9 c8
                go_wp2_with (at_builtin; refine wpL_lit rfl (.tmp 84) (.tmp 86) 25 5 rfl Trym.underlying25 Trym.brow W.heap.size _ _ rfl hown 1 1 rfl [v[k]] rfl rfl (by simp; omega) hsz ?_; intro ao' m' cap' w' hown' hm' hbel' hsz')
                go_roundw
                case rel => exact ⟨k + 1, ao', m', cap', by omega, by go_num, rfl, by rw [HT.out, HE.out, ← List.append_assoc]; exact hown', hm', hbel.trans hbel', hsz'⟩
                case measure => simp [intOf]; omega
    · have hkv : k = v.size := by omega
      subst hkv
      have hte : v.data.toList.take v.size = v.data.toList := List.take_of_length_le (by simp)
      rw [hte] at hown hel
      have HNL : Hid (∀ c ∈ n.data.toList, c ≠ 10) := noNL hb3
      clear hte hlt hk
      cases x
      · go_wp2_with (first | (at_builtin; refine wpL_lit rfl (.tmp 113) (.tmp 114) 25 5 rfl Trym.underlying25 Trym.brow W.heap.size _ _ rfl hown 1 1 rfl [34] rfl rfl (by simp; omega) hsz ?_; intro ao4 n4 cap4 w4 hown4 hn4 hbel4 hsz4) | (at_builtin; refine wpL_str rfl (.tmp 116) (.tmp 117) 25 9 5 rfl Trym.underlying25 Trym.underlying9 Trym.brow W.heap.size _ _ rfl hown4 t rfl (by simp; omega) hsz4 ?_; intro ao5 n5 cap5 w5 hown5 hn5 hbel5 hsz5) | (at_builtin; refine wpL_lit rfl (.tmp 130) (.tmp 131) 25 5 rfl Trym.underlying25 Trym.brow W.heap.size _ _ rfl hown5 1 1 rfl [10] rfl rfl (by simp; omega) hsz5 ?_; intro ao8 n8 cap8 w8 hown8 hn8 hbel8 hsz8) | (at_builtin; refine wpL_str rfl (.tmp 135) (.tmp 136) 25 9 5 rfl Trym.underlying25 Trym.underlying9 Trym.brow W.heap.size _ _ rfl hown8 z rfl (by simp; omega) hsz8 ?_; intro ao9 n9 cap9 w9 hown9 hn9 hbel9 hsz9; obtain ⟨full, HFull, hownf⟩ := hown9.letter; clear hown9; have hcv := conv_own (P := Trym.prog) Trym.underlying25 Trym.underlying5 Trym.underlying9 hownf))
        have hl8 := hown8.len
        have hbelz : Below W.heap.size W w9 := ((((hbel).trans hbel4).trans hbel5).trans hbel8).trans hbel9
        have hdrop := full_no p.data.toList l.data.toList v.data.toList t.data.toList z.data.toList pre HP.out
        rw [← HFull.out] at hdrop
        have hfl := congrArg List.length HFull.out
        simp at hfl hl8
        have hlaw := plain l.data.toList v.data.toList t.data.toList n.data.toList z.data.toList false false hb hb2 HNL.out
        refine (zz_any _ n1 n8 v (10 :: z.data.toList) _ ?_ ?_ ?_ ?_).mono ?_
        · rw [bsize]; omega
        · rw [bsize]; have := HN1.out; omega
        · rw [HN1.out]; exact (congrArg (fun q => cfg q [] false false 0) ((drop_mk full p).trans hdrop)).trans hlaw
        · rw [bsize]; simp; omega
        · rintro e w' ⟨rfl, hbz⟩
          clear hdrop hlaw hl8 hfl
          go_wp2
          go_ret
          exact ⟨rfl, hbelz.trans (hbz.mono (hbelz.size))⟩
      · cases y
        · go_wp2_with (first | (at_builtin; refine wpL_lit rfl (.tmp 113) (.tmp 114) 25 5 rfl Trym.underlying25 Trym.brow W.heap.size _ _ rfl hown 1 1 rfl [34] rfl rfl (by simp; omega) hsz ?_; intro ao4 n4 cap4 w4 hown4 hn4 hbel4 hsz4) | (at_builtin; refine wpL_str rfl (.tmp 116) (.tmp 117) 25 9 5 rfl Trym.underlying25 Trym.underlying9 Trym.brow W.heap.size _ _ rfl hown4 t rfl (by simp; omega) hsz4 ?_; intro ao5 n5 cap5 w5 hown5 hn5 hbel5 hsz5) | (at_builtin; refine wpL_lit rfl (.tmp 124) (.tmp 125) 25 5 rfl Trym.underlying25 Trym.brow W.heap.size _ _ rfl hown5 1 1 rfl [35] rfl rfl (by simp; omega) hsz5 ?_; intro ao6 n6 cap6 w6 hown6 hn6 hbel6 hsz6) | (at_builtin; refine wpL_str rfl (.tmp 127) (.tmp 128) 25 9 5 rfl Trym.underlying25 Trym.underlying9 Trym.brow W.heap.size _ _ rfl hown6 n rfl (by simp; omega) hsz6 ?_; intro ao7 n7 cap7 w7 hown7 hn7 hbel7 hsz7) | (at_builtin; refine wpL_lit rfl (.tmp 130) (.tmp 131) 25 5 rfl Trym.underlying25 Trym.brow W.heap.size _ _ rfl hown7 1 1 rfl [10] rfl rfl (by simp; omega) hsz7 ?_; intro ao8 n8 cap8 w8 hown8 hn8 hbel8 hsz8) | (at_builtin; refine wpL_str rfl (.tmp 135) (.tmp 136) 25 9 5 rfl Trym.underlying25 Trym.underlying9 Trym.brow W.heap.size _ _ rfl hown8 z rfl (by simp; omega) hsz8 ?_; intro ao9 n9 cap9 w9 hown9 hn9 hbel9 hsz9; obtain ⟨full, HFull, hownf⟩ := hown9.letter; clear hown9; have hcv := conv_own (P := Trym.prog) Trym.underlying25 Trym.underlying5 Trym.underlying9 hownf))
          have hl8 := hown8.len
          have hbelz : Below W.heap.size W w9 := ((((((hbel).trans hbel4).trans hbel5).trans hbel6).trans hbel7).trans hbel8).trans hbel9
          have hdrop := full_com 35 p.data.toList l.data.toList v.data.toList t.data.toList n.data.toList z.data.toList pre HP.out
          rw [← HFull.out] at hdrop
          have hfl := congrArg List.length HFull.out
          simp at hfl hl8
          have hlaw := plain l.data.toList v.data.toList t.data.toList n.data.toList z.data.toList true false hb hb2 HNL.out
          refine (zz_any _ n1 n8 v (10 :: z.data.toList) _ ?_ ?_ ?_ ?_).mono ?_
          · rw [bsize]; omega
          · rw [bsize]; have := HN1.out; omega
          · rw [HN1.out]; exact (congrArg (fun q => cfg q [] false false 0) ((drop_mk full p).trans hdrop)).trans hlaw
          · rw [bsize]; simp; omega
          · rintro e w' ⟨rfl, hbz⟩
            clear hdrop hlaw hl8 hfl
            go_wp2
            go_ret
            exact ⟨rfl, hbelz.trans (hbz.mono (hbelz.size))⟩
        · go_wp2_with (first | (at_builtin; refine wpL_lit rfl (.tmp 113) (.tmp 114) 25 5 rfl Trym.underlying25 Trym.brow W.heap.size _ _ rfl hown 1 1 rfl [34] rfl rfl (by simp; omega) hsz ?_; intro ao4 n4 cap4 w4 hown4 hn4 hbel4 hsz4) | (at_builtin; refine wpL_str rfl (.tmp 116) (.tmp 117) 25 9 5 rfl Trym.underlying25 Trym.underlying9 Trym.brow W.heap.size _ _ rfl hown4 t rfl (by simp; omega) hsz4 ?_; intro ao5 n5 cap5 w5 hown5 hn5 hbel5 hsz5) | (at_builtin; refine wpL_lit rfl (.tmp 121) (.tmp 122) 25 5 rfl Trym.underlying25 Trym.brow W.heap.size _ _ rfl hown5 1 1 rfl [59] rfl rfl (by simp; omega) hsz5 ?_; intro ao6 n6 cap6 w6 hown6 hn6 hbel6 hsz6) | (at_builtin; refine wpL_str rfl (.tmp 127) (.tmp 128) 25 9 5 rfl Trym.underlying25 Trym.underlying9 Trym.brow W.heap.size _ _ rfl hown6 n rfl (by simp; omega) hsz6 ?_; intro ao7 n7 cap7 w7 hown7 hn7 hbel7 hsz7) | (at_builtin; refine wpL_lit rfl (.tmp 130) (.tmp 131) 25 5 rfl Trym.underlying25 Trym.brow W.heap.size _ _ rfl hown7 1 1 rfl [10] rfl rfl (by simp; omega) hsz7 ?_; intro ao8 n8 cap8 w8 hown8 hn8 hbel8 hsz8) | (at_builtin; refine wpL_str rfl (.tmp 135) (.tmp 136) 25 9 5 rfl Trym.underlying25 Trym.underlying9 Trym.brow W.heap.size _ _ rfl hown8 z rfl (by simp; omega) hsz8 ?_; intro ao9 n9 cap9 w9 hown9 hn9 hbel9 hsz9; obtain ⟨full, HFull, hownf⟩ := hown9.letter; clear hown9; have hcv := conv_own (P := Trym.prog) Trym.underlying25 Trym.underlying5 Trym.underlying9 hownf))
          have hl8 := hown8.len
          have hbelz : Below W.heap.size W w9 := ((((((hbel).trans hbel4).trans hbel5).trans hbel6).trans hbel7).trans hbel8).trans hbel9
          have hdrop := full_com 59 p.data.toList l.data.toList v.data.toList t.data.toList n.data.toList z.data.toList pre HP.out
          rw [← HFull.out] at hdrop
          have hfl := congrArg List.length HFull.out
          simp at hfl hl8
          have hlaw := plain l.data.toList v.data.toList t.data.toList n.data.toList z.data.toList true true hb hb2 HNL.out
          refine (zz_any _ n1 n8 v (10 :: z.data.toList) _ ?_ ?_ ?_ ?_).mono ?_
          · rw [bsize]; omega
          · rw [bsize]; have := HN1.out; omega
          · rw [HN1.out]; exact (congrArg (fun q => cfg q [] false false 0) ((drop_mk full p).trans hdrop)).trans hlaw
          · rw [bsize]; simp; omega
          · rintro e w' ⟨rfl, hbz⟩
            clear hdrop hlaw hl8 hfl
            go_wp2
            go_ret
            exact ⟨rfl, hbelz.trans (hbz.mono (hbelz.size))⟩
end Go.Proofs.Qxb6001356aMods
