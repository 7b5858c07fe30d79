/-
  The walk of appendJSONString.
-/
import Derived.Test.Qxb6601173aModsClone
import Derived.Test.Qxb6601173aModsHex
import Derived.Lib.AppendStr
import Derived.Deep.AppendLies
import Derived.Deep.RegionHeld3
namespace Go.Proofs.Qxb6601173aMods.Js
open Go.RowKit

/-- v owns the numbers ks in w; below B nothing has turned since w0. -/
structure Own (w0 w : World) (B : Nat) (v : Value) (ks : List Int) : Prop where
  row : w.ownsRow B 5 1 v ks.length (ks.map (Value.int .u8))
  below : Below B w0 w
  size : B ≤ w.heap.size

theorem Own.grown {w0 w w' : World} {B : Nat} {v v' : Value} {ks ms : List Int} {m : Nat} {news : List Value} (h : Own w0 w B v ks) (hm : ms.length = m) (hn : news = ms.map (Value.int .u8))
    (hown : w'.ownsRow B 5 1 v' (ks.length + m) (ks.map (Value.int .u8) ++ news)) (hg : w.grownBy w' v.ownBlock) : Own w0 w' B v' (ks ++ ms) := by
  refine ⟨?_, h.below.grown hg h.size (fun k hk => (h.row.lt k hk).1), Nat.le_trans h.size hg.size⟩
  rw [List.length_append, hm, List.map_append, ← hn]
  exact hown

theorem Own.alloc {w0 w : World} {B : Nat} {v : Value} {ks : List Int} (h : Own w0 w B v ks) (o : Obj) : Own w0 (w.alloc o) B v ks :=
  ⟨h.row.alloc o, h.below.alloc h.size o, Nat.le_trans h.size (by simp)⟩

theorem Own.drew {w0 w : World} {B : Nat} {v : Value} {ks : List Int} (h : Own w0 w B v ks) : Own w0 w.drew B v ks := ⟨h.row.drew, h.below.drew, h.size⟩

theorem strCells_extract (s : ByteArray) (i j : Nat) : Lib.strCells (s.extract i j) = (((nums s).take j).drop i).map (Value.int .u8) := by
  rw [Lib.strCells, nums, ByteArray.data_extract, Array.toList_extract, List.extract_eq_take_drop]
  simp [List.drop_take, List.map_drop, List.map_take, List.map_map, Function.comp_def]

theorem index_at (s : ByteArray) (k : Nat) (h : k < s.size) (w : World) : (Instr.index 9 (.string s) (.int .i64 (k : Int))).run Trym.prog w = .ok (.int .u8 ((nums s).getD k 0)) w := by
  rw [run_index_string _ _ _ _ _ Trym.underlying9, dif_pos ⟨by omega, by omega⟩, nums_getD s k h]
  rfl

/-- What the loop of appendJSONString holds at its head. -/
def Writes (w0 wr : World) (B : Nat) (s : ByteArray) (pre : List Int) (v : Value) (st k : Nat) : Prop :=
  st ≤ k ∧ k ≤ s.size ∧ Own w0 wr B v (pre ++ 34 :: esc ((nums s).take st)) ∧ esc ((nums s).take k) = esc ((nums s).take st) ++ ((nums s).take k).drop st

theorem writes_plain {w0 wr : World} {B : Nat} {s : ByteArray} {pre : List Int} {v : Value} {st k : Nat} {c : Int} (h : Writes w0 wr B s pre v st k) (hk : k < s.size) (hc : (nums s).getD k 0 = c) (he : escB c = [c]) :
    Writes w0 wr B s pre v st (k + 1) := by
  obtain ⟨h1, h2, h3, h4⟩ := h
  exact ⟨by omega, by omega, h3, owed_plain h1 (by rw [nums_length]; exact hk) h4 (by rw [hc]; exact he)⟩

/-- What stands in the row once the bytes owed have been laid. -/
def paid (s : ByteArray) (pre : List Int) (st k : Nat) : List Int := (pre ++ 34 :: esc ((nums s).take st)) ++ ((nums s).take k).drop st

theorem paid_len (s : ByteArray) (pre : List Int) (st k : Nat) (hp : pre.length ≤ 1048576) (hs : s.size ≤ 1048576) (hst : st ≤ k) (hk : k ≤ s.size) :
    (pre ++ 34 :: esc ((nums s).take st)).length ≤ 7500000 ∧ (paid s pre st k).length ≤ 8600000 := by
  have h1 := esc_len ((nums s).take st)
  have h2 := nums_length s
  simp only [paid, List.length_append, List.length_cons, List.length_take, List.length_drop] at h1 ⊢
  omega

theorem writes_paid {w0 wr w3 : World} {B : Nat} {s : ByteArray} {pre : List Int} {v v3 : Value} {st k : Nat} {c : Int} (h : Writes w0 wr B s pre v st k) (hk : k < s.size) (hc : (nums s).getD k 0 = c)
    {ms : List Int} (he : escB c = ms) (h3 : Own w0 w3 B v3 (paid s pre st k ++ ms)) : Writes w0 w3 B s pre v3 (k + 1) (k + 1) := by
  obtain ⟨_, h2, _, h4⟩ := h
  refine ⟨Nat.le_refl _, by omega, ?_, owed_none _⟩
  rw [owed_paid (by rw [nums_length]; exact hk) h4, hc, he]
  have e : pre ++ 34 :: (esc ((nums s).take st) ++ ((nums s).take k).drop st ++ ms) = paid s pre st k ++ ms := by simp [paid]
  rw [e]
  exact h3

theorem paid_all {w0 wr : World} {B : Nat} {s : ByteArray} {pre : List Int} {v : Value} {st : Nat} (h : Writes w0 wr B s pre v st s.size) : paid s pre st s.size = pre ++ 34 :: esc (nums s) := by
  obtain ⟨_, _, _, h4⟩ := h
  have e : (nums s).take s.size = nums s := List.take_of_length_le (by rw [nums_length]; omega)
  rw [e] at h4
  rw [h4, paid, e]
  simp

/-- What the function hands back: a slice that owns the numbers ks. -/
def Wrote (w0 w' : World) (B : Nat) (ks : List Int) (e : Ending) : Prop := ∃ v', e = .returned v' ∧ Own w0 w' B v' ks

set_option maxHeartbeats 4000000 in
set_option maxRecDepth 10000 in
theorem append_any (v : Value) (pre : List Int) (s : ByteArray) (w : World) (B : Nat) (h : w.ownsRow B 5 1 v pre.length (pre.map (Value.int .u8))) (hB : B ≤ w.heap.size) (hp : pre.length ≤ 1048576) (hs : s.size ≤ 1048576) :
    Calls Trym.prog 28 #[v, .string s] w fun e w' => Wrote w w' B (pre ++ 34 :: esc (nums s) ++ [34]) e := by
  obtain ⟨i0, hi, hz0, hz1, hz2⟩ := info_parts info5
  have O0 := hid (show Own w w B v pre from ⟨h, Below.refl _ _, hB⟩)
  clear h
  go_enter Trym.func28, Trym.ntmps28
  go_wp2_with (first
    | (at_builtin; refine wpList_append_own _ rfl (.tmp 8) (.tmp 9) 22 rfl B 5 i0 (.int .u8 0) 1 1 Trym.underlying22 hi hz0 hz1 hz2 rfl (by decide) v pre.length (pre.map (Value.int .u8)) rfl (O0.out.row.alloc _) ⟨w.heap.size, 0, none⟩ 1 1 [.int .u8 34] rfl rfl (cell_one_new _ _ _) (ints_oneCell .u8 [34]) (by unfold maxLen; omega) (by omega) (Nat.le_trans hB (by simp)) ?_; intro v1 w1 hown1 hgrow1 hnil1; have O1 := hid ((O0.out.alloc _).grown (ms := [34]) rfl rfl hown1 hgrow1); clear hown1 hgrow1 hnil1)
    | fail)
  go_loopw [0, 5, 6] (fun v i j wr => ∃ st k : Nat, i = .int .i64 st ∧ j = .int .i64 k ∧ Writes w wr B s pre v st k) (fun _ _ j _ => s.size - (intOf j).toNat)
  case atStart => exact ⟨0, 0, rfl, rfl, Nat.le_refl _, Nat.zero_le _, by simpa [esc_nil] using O1.out, rfl⟩
  case round =>
    obtain ⟨st, k, rfl, rfl, hW⟩ := hrel
    have hst := hW.1
    have hk := hW.2.1
    have HW := hid hW
    have hlen := paid_len s pre st k hp hs hst hk
    obtain ⟨hlen1, hlen2⟩ := hlen
    have hsize : (s.extract st k).size ≤ 1048576 := by rw [ByteArray.size_extract]; omega
    clear hW
    by_cases hlt : k < s.size
    · obtain ⟨c, hc⟩ : ∃ c, (nums s).getD k 0 = c := ⟨_, rfl⟩
      have hix := index_at s k hlt
      rw [hc] at hix
      have HC := hid hc
      have hc0 : 0 ≤ c ∧ c < 256 := by rw [← hc]; exact nums_rng s _ (by rw [List.getD_eq_getElem?_getD, List.getElem?_eq_getElem (by rw [nums_length]; exact hlt)]; exact List.getElem_mem _)
      obtain ⟨hc1, hc2⟩ := hc0
      clear hc
      by_cases hplain : 32 ≤ c ∧ c ≠ 34 ∧ c ≠ 92
      · obtain ⟨h32, h34, h92⟩ := hplain
        have HE := hid (escB_plain h32 h34 h92)
        have e34 : (c != 34) = true := by rw [bne_iff_ne]; exact h34
        have e92 : (c != 92) = true := by rw [bne_iff_ne]; exact h92
        clear h34 h92
        go_wp2_with fail
        go_roundw
        case rel => exact ⟨st, k + 1, rfl, by go_num, writes_plain HW.out hlt HC.out HE.out⟩
        case measure => simp [intOf]; omega
      · by_cases hback : c = 34 ∨ c = 92
        · have HE := hid (escB_back hback)
          clear hplain hc1 hc2
          rcases hback with rfl | rfl
          · go_wp2_with (first
              | (at_builtin; refine Lib.wpList_append_own_string _ rfl (.tmp 30) (.tmp 34) 22 9 rfl B 5 i0 Trym.underlying22 Trym.underlying9 hi hz0 hz1 hz2 _ _ _ rfl HW.out.2.2.1.row (s.extract st k) rfl (by unfold maxLen; omega) (by omega) HW.out.2.2.1.size ?_; intro v2 w2 hown2 hgrow2 hnil2; have O2 : Hid (Own w w2 B v2 (paid s pre st k)) := hid (HW.out.2.2.1.grown (by rw [ByteArray.size_extract]; simp [nums_length]) (strCells_extract s st k) hown2 hgrow2); clear hown2 hgrow2 hnil2)
              | (at_builtin; refine wpList_append_own _ rfl (.tmp 49) (.tmp 51) 22 rfl B 5 i0 (.int .u8 0) 1 1 Trym.underlying22 hi hz0 hz1 hz2 rfl (by decide) _ _ _ rfl (O2.out.row.alloc _) ⟨w2.heap.size, 0, none⟩ 2 2 [.int .u8 92, .int .u8 34] rfl rfl (World.news_of_block (heap_alloc_new w2 _)) (ints_oneCell .u8 [92, 34]) (by unfold maxLen; omega) (by omega) (Nat.le_trans O2.out.size (by simp)) ?_; intro v3 w3 hown3 hgrow3 hnil3; have O3 := hid ((O2.out.alloc _).grown (ms := [92, 34]) rfl rfl hown3 hgrow3); clear hown3 hgrow3 hnil3)
              | fail)
            go_roundw
            case rel => exact ⟨k + 1, k + 1, by go_num, by go_num, writes_paid HW.out hlt HC.out HE.out O3.out⟩
            case measure => simp [intOf]; omega
          · go_wp2_with (first
              | (at_builtin; refine Lib.wpList_append_own_string _ rfl (.tmp 30) (.tmp 34) 22 9 rfl B 5 i0 Trym.underlying22 Trym.underlying9 hi hz0 hz1 hz2 _ _ _ rfl HW.out.2.2.1.row (s.extract st k) rfl (by unfold maxLen; omega) (by omega) HW.out.2.2.1.size ?_; intro v2 w2 hown2 hgrow2 hnil2; have O2 : Hid (Own w w2 B v2 (paid s pre st k)) := hid (HW.out.2.2.1.grown (by rw [ByteArray.size_extract]; simp [nums_length]) (strCells_extract s st k) hown2 hgrow2); clear hown2 hgrow2 hnil2)
              | (at_builtin; refine wpList_append_own _ rfl (.tmp 49) (.tmp 51) 22 rfl B 5 i0 (.int .u8 0) 1 1 Trym.underlying22 hi hz0 hz1 hz2 rfl (by decide) _ _ _ rfl (O2.out.row.alloc _) ⟨w2.heap.size, 0, none⟩ 2 2 [.int .u8 92, .int .u8 92] rfl rfl (World.news_of_block (heap_alloc_new w2 _)) (ints_oneCell .u8 [92, 92]) (by unfold maxLen; omega) (by omega) (Nat.le_trans O2.out.size (by simp)) ?_; intro v3 w3 hown3 hgrow3 hnil3; have O3 := hid ((O2.out.alloc _).grown (ms := [92, 92]) rfl rfl hown3 hgrow3); clear hown3 hgrow3 hnil3)
              | fail)
            go_roundw
            case rel => exact ⟨k + 1, k + 1, by go_num, by go_num, writes_paid HW.out hlt HC.out HE.out O3.out⟩
            case measure => simp [intOf]; omega
        · by_cases h8 : c = 8
          · subst h8
            clear hplain hback hc1 hc2
            go_wp2_with (first
              | (at_builtin; refine Lib.wpList_append_own_string _ rfl (.tmp 30) (.tmp 34) 22 9 rfl B 5 i0 Trym.underlying22 Trym.underlying9 hi hz0 hz1 hz2 _ _ _ rfl HW.out.2.2.1.row (s.extract st k) rfl (by unfold maxLen; omega) (by omega) HW.out.2.2.1.size ?_; intro v2 w2 hown2 hgrow2 hnil2; have O2 : Hid (Own w w2 B v2 (paid s pre st k)) := hid (HW.out.2.2.1.grown (by rw [ByteArray.size_extract]; simp [nums_length]) (strCells_extract s st k) hown2 hgrow2); clear hown2 hgrow2 hnil2)
              | (at_builtin; refine Lib.wpList_append_own_string _ rfl (.tmp 55) (.const (.string ⟨#[92, 98]⟩)) 22 9 rfl B 5 i0 Trym.underlying22 Trym.underlying9 hi hz0 hz1 hz2 _ _ _ rfl O2.out.row ⟨#[92, 98]⟩ rfl (by unfold maxLen; exact Nat.le_trans (Nat.add_le_add hlen2 (Nat.le_refl 2)) (by decide)) (Nat.le_trans (Nat.add_le_add hlen2 (Nat.le_refl 2)) (by decide)) O2.out.size ?_; intro v3 w3 hown3 hgrow3 hnil3; have O3 := hid (O2.out.grown (ms := [92, 98]) rfl rfl hown3 hgrow3); clear hown3 hgrow3 hnil3)
              | fail)
            go_roundw
            case rel => exact ⟨k + 1, k + 1, by go_num, by go_num, writes_paid HW.out hlt HC.out escB_8 O3.out⟩
            case measure => simp [intOf]; omega
          · by_cases h12 : c = 12
            · subst h12
              clear hplain hback hc1 hc2
              go_wp2_with (first
                | (at_builtin; refine Lib.wpList_append_own_string _ rfl (.tmp 30) (.tmp 34) 22 9 rfl B 5 i0 Trym.underlying22 Trym.underlying9 hi hz0 hz1 hz2 _ _ _ rfl HW.out.2.2.1.row (s.extract st k) rfl (by unfold maxLen; omega) (by omega) HW.out.2.2.1.size ?_; intro v2 w2 hown2 hgrow2 hnil2; have O2 : Hid (Own w w2 B v2 (paid s pre st k)) := hid (HW.out.2.2.1.grown (by rw [ByteArray.size_extract]; simp [nums_length]) (strCells_extract s st k) hown2 hgrow2); clear hown2 hgrow2 hnil2)
                | (at_builtin; refine Lib.wpList_append_own_string _ rfl (.tmp 59) (.const (.string ⟨#[92, 102]⟩)) 22 9 rfl B 5 i0 Trym.underlying22 Trym.underlying9 hi hz0 hz1 hz2 _ _ _ rfl O2.out.row ⟨#[92, 102]⟩ rfl (by unfold maxLen; exact Nat.le_trans (Nat.add_le_add hlen2 (Nat.le_refl 2)) (by decide)) (Nat.le_trans (Nat.add_le_add hlen2 (Nat.le_refl 2)) (by decide)) O2.out.size ?_; intro v3 w3 hown3 hgrow3 hnil3; have O3 := hid (O2.out.grown (ms := [92, 102]) rfl rfl hown3 hgrow3); clear hown3 hgrow3 hnil3)
                | fail)
              go_roundw
              case rel => exact ⟨k + 1, k + 1, by go_num, by go_num, writes_paid HW.out hlt HC.out escB_12 O3.out⟩
              case measure => simp [intOf]; omega
            · by_cases h10 : c = 10
              · subst h10
                clear hplain hback hc1 hc2
                go_wp2_with (first
                  | (at_builtin; refine Lib.wpList_append_own_string _ rfl (.tmp 30) (.tmp 34) 22 9 rfl B 5 i0 Trym.underlying22 Trym.underlying9 hi hz0 hz1 hz2 _ _ _ rfl HW.out.2.2.1.row (s.extract st k) rfl (by unfold maxLen; omega) (by omega) HW.out.2.2.1.size ?_; intro v2 w2 hown2 hgrow2 hnil2; have O2 : Hid (Own w w2 B v2 (paid s pre st k)) := hid (HW.out.2.2.1.grown (by rw [ByteArray.size_extract]; simp [nums_length]) (strCells_extract s st k) hown2 hgrow2); clear hown2 hgrow2 hnil2)
                  | (at_builtin; refine Lib.wpList_append_own_string _ rfl (.tmp 63) (.const (.string ⟨#[92, 110]⟩)) 22 9 rfl B 5 i0 Trym.underlying22 Trym.underlying9 hi hz0 hz1 hz2 _ _ _ rfl O2.out.row ⟨#[92, 110]⟩ rfl (by unfold maxLen; exact Nat.le_trans (Nat.add_le_add hlen2 (Nat.le_refl 2)) (by decide)) (Nat.le_trans (Nat.add_le_add hlen2 (Nat.le_refl 2)) (by decide)) O2.out.size ?_; intro v3 w3 hown3 hgrow3 hnil3; have O3 := hid (O2.out.grown (ms := [92, 110]) rfl rfl hown3 hgrow3); clear hown3 hgrow3 hnil3)
                  | fail)
                go_roundw
                case rel => exact ⟨k + 1, k + 1, by go_num, by go_num, writes_paid HW.out hlt HC.out escB_10 O3.out⟩
                case measure => simp [intOf]; omega
              · by_cases h13 : c = 13
                · subst h13
                  clear hplain hback hc1 hc2
                  go_wp2_with (first
                    | (at_builtin; refine Lib.wpList_append_own_string _ rfl (.tmp 30) (.tmp 34) 22 9 rfl B 5 i0 Trym.underlying22 Trym.underlying9 hi hz0 hz1 hz2 _ _ _ rfl HW.out.2.2.1.row (s.extract st k) rfl (by unfold maxLen; omega) (by omega) HW.out.2.2.1.size ?_; intro v2 w2 hown2 hgrow2 hnil2; have O2 : Hid (Own w w2 B v2 (paid s pre st k)) := hid (HW.out.2.2.1.grown (by rw [ByteArray.size_extract]; simp [nums_length]) (strCells_extract s st k) hown2 hgrow2); clear hown2 hgrow2 hnil2)
                    | (at_builtin; refine Lib.wpList_append_own_string _ rfl (.tmp 67) (.const (.string ⟨#[92, 114]⟩)) 22 9 rfl B 5 i0 Trym.underlying22 Trym.underlying9 hi hz0 hz1 hz2 _ _ _ rfl O2.out.row ⟨#[92, 114]⟩ rfl (by unfold maxLen; exact Nat.le_trans (Nat.add_le_add hlen2 (Nat.le_refl 2)) (by decide)) (Nat.le_trans (Nat.add_le_add hlen2 (Nat.le_refl 2)) (by decide)) O2.out.size ?_; intro v3 w3 hown3 hgrow3 hnil3; have O3 := hid (O2.out.grown (ms := [92, 114]) rfl rfl hown3 hgrow3); clear hown3 hgrow3 hnil3)
                    | fail)
                  go_roundw
                  case rel => exact ⟨k + 1, k + 1, by go_num, by go_num, writes_paid HW.out hlt HC.out escB_13 O3.out⟩
                  case measure => simp [intOf]; omega
                · by_cases h9 : c = 9
                  · subst h9
                    clear hplain hback hc1 hc2
                    go_wp2_with (first
                      | (at_builtin; refine Lib.wpList_append_own_string _ rfl (.tmp 30) (.tmp 34) 22 9 rfl B 5 i0 Trym.underlying22 Trym.underlying9 hi hz0 hz1 hz2 _ _ _ rfl HW.out.2.2.1.row (s.extract st k) rfl (by unfold maxLen; omega) (by omega) HW.out.2.2.1.size ?_; intro v2 w2 hown2 hgrow2 hnil2; have O2 : Hid (Own w w2 B v2 (paid s pre st k)) := hid (HW.out.2.2.1.grown (by rw [ByteArray.size_extract]; simp [nums_length]) (strCells_extract s st k) hown2 hgrow2); clear hown2 hgrow2 hnil2)
                      | (at_builtin; refine Lib.wpList_append_own_string _ rfl (.tmp 71) (.const (.string ⟨#[92, 116]⟩)) 22 9 rfl B 5 i0 Trym.underlying22 Trym.underlying9 hi hz0 hz1 hz2 _ _ _ rfl O2.out.row ⟨#[92, 116]⟩ rfl (by unfold maxLen; exact Nat.le_trans (Nat.add_le_add hlen2 (Nat.le_refl 2)) (by decide)) (Nat.le_trans (Nat.add_le_add hlen2 (Nat.le_refl 2)) (by decide)) O2.out.size ?_; intro v3 w3 hown3 hgrow3 hnil3; have O3 := hid (O2.out.grown (ms := [92, 116]) rfl rfl hown3 hgrow3); clear hown3 hgrow3 hnil3)
                      | fail)
                    go_roundw
                    case rel => exact ⟨k + 1, k + 1, by go_num, by go_num, writes_paid HW.out hlt HC.out escB_9 O3.out⟩
                    case measure => simp [intOf]; omega
                  · have HE := hid (escB_hex (by omega) h8 h12 h10 h13 h9)
                    have hc32 : c < 32 := by omega
                    have e34 : (c == 34) = false := by rw [beq_eq_false_iff_ne]; omega
                    have e92 : (c == 92) = false := by rw [beq_eq_false_iff_ne]; omega
                    have e8 : (c == 8) = false := by rw [beq_eq_false_iff_ne]; exact h8
                    have e12 : (c == 12) = false := by rw [beq_eq_false_iff_ne]; exact h12
                    have e10 : (c == 10) = false := by rw [beq_eq_false_iff_ne]; exact h10
                    have e13 : (c == 13) = false := by rw [beq_eq_false_iff_ne]; exact h13
                    have e9 : (c == 9) = false := by rw [beq_eq_false_iff_ne]; exact h9
                    have hand := and_at (c := c) ⟨hc1, hc32⟩
                    have hx1 := hex_at (d := c / 16) (by omega)
                    have hx2 := hex_at (d := c % 16) (by omega)
                    obtain ⟨d2, hd2⟩ : ∃ d2, c % 16 = d2 := ⟨_, rfl⟩
                    obtain ⟨x1, hxx1⟩ : ∃ x1, hexd (c / 16) = x1 := ⟨_, rfl⟩
                    obtain ⟨x2, hxx2⟩ : ∃ x2, hexd d2 = x2 := ⟨_, rfl⟩
                    have he := HE.out
                    rw [hd2, hxx1, hxx2] at he
                    rw [hd2] at hand hx2
                    rw [hxx1] at hx1
                    rw [hxx2] at hx2
                    have HE2 := hid he
                    clear he HE hd2 hxx1 hxx2 h8 h12 h10 h13 h9 hplain hback
                    go_wp2_with (first
                      | (at_builtin; refine Lib.wpList_append_own_string _ rfl (.tmp 30) (.tmp 34) 22 9 rfl B 5 i0 Trym.underlying22 Trym.underlying9 hi hz0 hz1 hz2 _ _ _ rfl HW.out.2.2.1.row (s.extract st k) rfl (by unfold maxLen; omega) (by omega) HW.out.2.2.1.size ?_; intro v2 w2 hown2 hgrow2 hnil2; have O2 : Hid (Own w w2 B v2 (paid s pre st k)) := hid (HW.out.2.2.1.grown (by rw [ByteArray.size_extract]; simp [nums_length]) (strCells_extract s st k) hown2 hgrow2); clear hown2 hgrow2 hnil2)
                      | fail)
                    go_region_held3 (fun _ => True) (trivial) ((refine step_append_lies _ (by rfl) (.tmp 37) (.tmp 44) 22 (by rfl) B 5 i0 (.int .u8 0) 1 1 Trym.underlying22 hi hz0 hz1 hz2 rfl (by omega) v2 (paid s pre st k).length ((paid s pre st k).map (Value.int .u8)) (by rfl) (O2.out.row.alloc _).drew ⟨w2.heap.size, 0, none⟩ 6 6 [.int .u8 92, .int .u8 117, .int .u8 48, .int .u8 48, .int .u8 x1, .int .u8 x2] (by rfl) (by rfl) (World.news_of_block (heap_alloc_new w2 _)) (ints_oneCell .u8 [92, 117, 48, 48, x1, x2]) (by omega) (by unfold maxLen; omega) (by omega) (Nat.le_trans O2.out.size (by simp)) (w2.heap.size + 1) (by simp) ?_; intro g3 cap3 w3 hown3 hgrow3 hat3 hlt3; have O3 := hid ((O2.out.alloc _).drew.grown (ms := [92, 117, 48, 48, x1, x2]) rfl rfl hown3 hgrow3); clear hown3 hgrow3 hat3 hlt3))
                    all_goals
                      go_wp2_with fail
                      go_roundw
                      case rel => exact ⟨k + 1, k + 1, by go_num, by go_num, writes_paid HW.out hlt HC.out HE2.out O3.out⟩
                      case measure => simp [intOf]; omega
    · have hke : k = s.size := by omega
      subst hke
      have HP := hid (paid_all HW.out)
      go_wp2_with (first
        | (at_builtin; refine Lib.wpList_append_own_string _ rfl (.tmp 75) (.tmp 78) 22 9 rfl B 5 i0 Trym.underlying22 Trym.underlying9 hi hz0 hz1 hz2 _ _ _ rfl HW.out.2.2.1.row (s.extract st s.size) rfl (by unfold maxLen; omega) (by omega) HW.out.2.2.1.size ?_; intro v2 w2 hown2 hgrow2 hnil2; have O2 : Hid (Own w w2 B v2 (paid s pre st s.size)) := hid (HW.out.2.2.1.grown (by rw [ByteArray.size_extract]; simp [nums_length]) (strCells_extract s st s.size) hown2 hgrow2); clear hown2 hgrow2 hnil2)
        | (at_builtin; refine wpList_append_own _ rfl (.tmp 80) (.tmp 81) 22 rfl B 5 i0 (.int .u8 0) 1 1 Trym.underlying22 hi hz0 hz1 hz2 rfl (by decide) _ _ _ rfl (O2.out.row.alloc _) ⟨w2.heap.size, 0, none⟩ 1 1 [.int .u8 34] rfl rfl (cell_one_new _ _ _) (ints_oneCell .u8 [34]) (by unfold maxLen; omega) (by omega) (Nat.le_trans O2.out.size (by simp)) ?_; intro v3 w3 hown3 hgrow3 hnil3; have O3 := hid ((O2.out.alloc _).grown (ms := [34]) rfl rfl hown3 hgrow3); clear hown3 hgrow3 hnil3)
        | fail)
      go_ret
      have O4 := O3.out
      rw [HP.out] at O4
      exact ⟨_, rfl, O4⟩

end Go.Proofs.Qxb6601173aMods.Js
