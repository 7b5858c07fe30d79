/-
  The walks of the small functions under this seat's law: the bound on lengths, bytes.IndexByte, zzCloneBytes.
-/
import Derived.Test.Qxb6601847aModsProg
import Derived.Test.Qxb6601847aModsBase
import Derived.Lib.Bytealg
import Derived.Deep.QuietTactic
import Derived.BigQuiet
namespace Go.Proofs.Qxb6601847aMods.Jp
open Go.RowKit

set_option maxHeartbeats 400000 in
theorem bytes_any (a : Option Addr) (n c : Nat) (w : World) (hn : n ≤ maxLen) :
    Calls Trym.prog 19 #[.slice a n c] w fun e w' => e = .returned (.bool (decide (n ≤ 1048576))) ∧ w' = w := by
  unfold maxLen at hn
  by_cases h : n ≤ 1048576
  all_goals
    go_enter Trym.func19, Trym.ntmps19
    go_wp2
    go_ret
    exact ⟨by simp [h], rfl⟩

set_option maxHeartbeats 400000 in
theorem index_some (b o n c : Nat) (xs : List Int) (cv : Int) (w : World) (hx : xs.length = n) (hc : ∀ i, i < n → w.cell? ⟨b, o + i, none⟩ = some (.int .u8 (xs.getD i 0))) :
    Calls Trym.prog 26 #[.slice (some ⟨b, o, none⟩) n c, .int .u8 cv] w fun e w' => e = .returned (.int .i64 (Lib.indexByte (Lib.bytesOf xs) cv.toNat.toUInt8)) ∧ w' = w := by
  go_enter Trym.func26, Trym.ntmps26
  go_wp2
  rw [run_callFunc_extern Trym.func30 (by kernel_rfl) (by kernel_rfl) (by kernel_rfl) (e := Extern.BytealgIndexByte.indexByte) (by kernel_rfl), Lib.run_indexByteSlice w b o n c xs hx hc cv]
  simp only [Result.andThen]
  rw [Oper.upon_value]
  go_wp2
  go_ret
  exact ⟨rfl, rfl⟩

set_option maxHeartbeats 400000 in
theorem index_nil (cv : Int) (w : World) :
    Calls Trym.prog 26 #[.slice none 0 0, .int .u8 cv] w fun e w' => e = .returned (.int .i64 (-1)) ∧ w' = w := by
  go_enter Trym.func26, Trym.ntmps26
  go_wp2
  rw [run_callFunc_extern Trym.func30 (by kernel_rfl) (by kernel_rfl) (by kernel_rfl) (e := Extern.BytealgIndexByte.indexByte) (by kernel_rfl), Lib.run_indexByteNil w 0 0 cv]
  simp only [Result.andThen]
  rw [Oper.upon_value]
  go_wp2
  go_ret
  exact ⟨rfl, rfl⟩

theorem info5 : (Trym.prog.info? 5).map (fun i => (i.zero, i.size, i.bytes)) = some (some (.int .u8 0), 1, 1) := by kernel_rfl

theorem eql_nil (w : World) (a : Option Addr) (n c n' c' : Nat) : (binOp .eql 22 (.slice a n c) (.slice none n' c')).run Trym.prog w = .ok (.bool a.isNone) w :=
  Lib.run_eql_slice_nil w _ _ a n c n' c' Trym.underlying22

set_option maxHeartbeats 400000 in
theorem clone_nil (w : World) : Calls Trym.prog 11 #[.slice none 0 0] w fun e w' => e = .returned (.slice none 0 0) ∧ w' = w := by
  have q22 := eql_nil
  go_enter Trym.func11, Trym.ntmps11
  go_wp2
  go_ret
  exact ⟨rfl, rfl⟩

/-- One round of the copying: the k-th cell is filled. -/
theorem fill_step {w wr : World} {B n k : Nat} {ys : List Value} {f : Nat → Value} (hl : ys.length = n) (hk : k < n) (hp : ∀ j, j < k → ys[j]? = some (f j))
    (hown : wr.ownsRow B 5 1 (.slice (some ⟨B, 0, none⟩) n n) n ys) (hb : Below B w wr) :
    (ys.set k (f k)).length = n ∧ (∀ j, j < k + 1 → (ys.set k (f k))[j]? = some (f j)) ∧ (wr.setCell ⟨B, k, none⟩ (f k)).ownsRow B 5 1 (.slice (some ⟨B, 0, none⟩) n n) n (ys.set k (f k)) ∧
      Below B w (wr.setCell ⟨B, k, none⟩ (f k)) := by
  refine ⟨by simpa using hl, fun j hj => ?_, (hown.stored k (f k)).1, hb.setCell (Nat.le_refl _) _⟩
  rw [List.getElem?_set]
  by_cases e : k = j
  · subst e
    rw [if_pos rfl, if_pos (by omega)]
  · rw [if_neg e]
    exact hp j (by omega)

theorem fill_end {n : Nat} {ys : List Value} {xs : List Int} (hl : ys.length = n) (hx : xs.length = n) (hp : ∀ j, j < n → ys[j]? = some (.int .u8 (xs.getD j 0))) : ys = xs.map (Value.int .u8) := by
  apply List.ext_getElem?
  intro j
  by_cases hj : j < n
  · rw [hp j hj, List.getElem?_map, List.getD_eq_getElem?_getD, List.getElem?_eq_getElem (by omega)]
    rfl
  · rw [List.getElem?_eq_none (by omega), List.getElem?_eq_none (by simp; omega)]

set_option maxHeartbeats 1000000 in
theorem clone_row (b o n c : Nat) (xs : List Int) (w : World) (hx : xs.length = n) (hn : n ≤ 1048576) (h0 : 0 < n) (hc : ∀ i, i < n → w.cell? ⟨b, o + i, none⟩ = some (.int .u8 (xs.getD i 0))) :
    Calls Trym.prog 11 #[.slice (some ⟨b, o, none⟩) n c] w fun e w' => e = .returned (.slice (some ⟨w.heap.size, 0, none⟩) n n) ∧
      w'.ownsRow w.heap.size 5 1 (.slice (some ⟨w.heap.size, 0, none⟩) n n) n (xs.map (Value.int .u8)) ∧ Below w.heap.size w w' := by
  have q22 := eql_nil
  obtain ⟨i0, hi, hz0, hz1, hz2⟩ := info_parts info5
  have HX : Hid (xs.length = n) := hx
  clear hx
  go_enter Trym.func11, Trym.ntmps11
  go_wp2_with (at_make; refine wpList_make_full _ rfl _ _ 22 rfl w.heap.size 5 i0 (.int .u8 0) 1 Trym.underlying22 hi hz0 hz1 .i64 .i64 _ _ n rfl rfl rfl rfl (by rw [hz2]; omega) (by unfold maxLen; omega) (Nat.le_refl _) ?_; intro w1 hown1 hgrow1)
  go_loopw [4] (fun i wr => ∃ k : Nat, ∃ ys : List Value, k ≤ n ∧ i = .int .i64 k ∧ ys.length = n ∧ (∀ j, j < k → ys[j]? = some (.int .u8 (xs.getD j 0))) ∧
      wr.ownsRow w.heap.size 5 1 (.slice (some ⟨w.heap.size, 0, none⟩) n n) n ys ∧ Below w.heap.size w wr) (fun i _ => n - (intOf i).toNat)
  case atStart => exact ⟨0, _, Nat.zero_le _, rfl, by simpa using hown1.1, fun j hj => absurd hj (Nat.not_lt_zero _), hown1, (Below.refl _ _).grown hgrow1 (Nat.le_refl _) (fun k hk => by cases hk)⟩
  case round =>
    obtain ⟨k, ys, hk, rfl, hl, hp, hown, hbel⟩ := hrel
    by_cases hlt : k < n
    · have hcell : wr.cell? ⟨b, o + k, none⟩ = some (.int .u8 (xs.getD k 0)) := cell_later hbel (hc k hlt)
      have hold : wr.cell? ⟨w.heap.size, k, none⟩ = ys[k]? := hown.cellAt k (by omega)
      have hfr : wr.frozen? ⟨w.heap.size, k, none⟩ = false := hown.frozenAt k
      have R := fill_step (f := fun j => .int .u8 (xs.getD j 0)) hl hlt hp hown hbel
      have HR : Hid _ := R
      rw [List.getElem?_eq_getElem (by omega)] at hold
      obtain ⟨u, hu⟩ : ∃ u, ys[k] = u := ⟨_, rfl⟩
      obtain ⟨x, hxe⟩ : ∃ x, xs.getD k 0 = x := ⟨_, rfl⟩
      rw [hu] at hold
      rw [hxe] at hcell
      have HE : Hid (xs.getD k 0 = x) := hxe
      clear hu hxe hc R hp hown hbel hown1 hgrow1
      go_wp2
      go_roundw
      case rel =>
        have e := HE.out
        subst e
        exact ⟨k + 1, _, by omega, by go_num, HR.out.1, HR.out.2.1, HR.out.2.2.1, HR.out.2.2.2⟩
      case measure => simp [intOf]; omega
    · have : k = n := by omega
      subst this
      have he := fill_end hl HX.out hp
      subst he
      have HO : Hid _ := hown
      clear hown hown1 hgrow1 hc hp hl
      go_wp2
      go_ret
      exact ⟨rfl, HO.out, hbel⟩

theorem own_empty {w : World} {B : Nat} {v : Value} {ys : List Value} (h : w.ownsRow B 5 1 v 0 ys) : w.ownsRow B 5 1 v 0 (([] : List Int).map (Value.int .u8)) := by
  have : ys = [] := List.eq_nil_of_length_eq_zero (by simpa using h.1)
  rw [this] at h
  exact h

set_option maxHeartbeats 1000000 in
theorem clone_bare (x : Addr) (c : Nat) (w : World) :
    Calls Trym.prog 11 #[.slice (some x) 0 c] w fun e w' => e = .returned (.slice (some ⟨w.heap.size, 0, none⟩) 0 0) ∧
      w'.ownsRow w.heap.size 5 1 (.slice (some ⟨w.heap.size, 0, none⟩) 0 0) 0 (([] : List Int).map (Value.int .u8)) ∧ Below w.heap.size w w' := by
  have q22 := eql_nil
  obtain ⟨i0, hi, hz0, hz1, hz2⟩ := info_parts info5
  go_enter Trym.func11, Trym.ntmps11
  go_wp2_with (at_make; refine wpList_make_full _ rfl _ _ 22 rfl w.heap.size 5 i0 (.int .u8 0) 1 Trym.underlying22 hi hz0 hz1 .i64 .i64 _ _ 0 rfl rfl rfl rfl (by omega) (by unfold maxLen; omega) (Nat.le_refl _) ?_; intro w1 hown1 hgrow1)
  refine wp_loop_rounds 1 ?_
  rw [rounds_succ]
  have HO : Hid (w1.ownsRow w.heap.size 5 1 (.slice (some ⟨w.heap.size, 0, none⟩) 0 0) 0 (([] : List Int).map (Value.int .u8))) := own_empty hown1
  clear hown1
  go_wp2
  go_ret
  exact ⟨rfl, HO.out, (Below.refl _ _).grown hgrow1 (Nat.le_refl _) (fun k hk => by cases hk)⟩

/-- zzClone of a slice that is not nil: a new row of the same bytes. -/
theorem clone_any (x : Addr) (n c : Nat) (xs : List Int) (w : World) (h : Reads w (some x) n xs) (hn : n ≤ 1048576) :
    Calls Trym.prog 11 #[.slice (some x) n c] w fun e w' => e = .returned (.slice (some ⟨w.heap.size, 0, none⟩) n n) ∧
      w'.ownsRow w.heap.size 5 1 (.slice (some ⟨w.heap.size, 0, none⟩) n n) n (xs.map (Value.int .u8)) ∧ Below w.heap.size w w' := by
  rcases Nat.eq_zero_or_pos n with h0 | h0
  · subst h0
    have : xs = [] := List.eq_nil_of_length_eq_zero h.len
    subst this
    exact clone_bare x c w
  · obtain ⟨b, o, he, hc⟩ := h.bytes h0
    cases he
    exact clone_row b o n c xs w h.len hn h0 hc

/-- What zzCloneBytes hands back: a slice that reads as xs. -/
def Cloned (w w1 : World) (n : Nat) (xs : List Int) (e : Ending) : Prop :=
  ∃ a1 c1, e = .returned (.slice a1 n c1) ∧ Reads w1 a1 n xs ∧ (a1 = none ∧ n = 0 ∧ c1 = 0 ∨ ∃ g, a1 = some ⟨g, 0, none⟩ ∧ n ≤ c1) ∧ Below w.heap.size w w1

theorem clone_all {a : Option Addr} {n c : Nat} {xs : List Int} {w : World} (h : Came w a n c xs) (hn : n ≤ 1048576) :
    Calls Trym.prog 11 #[.slice a n c] w fun e w' => Cloned w w' n xs e := by
  rcases h with ⟨rfl, rfl, rfl, rfl⟩ | ⟨x, rfl, h⟩
  · refine (clone_nil w).mono ?_
    rintro e w' ⟨rfl, rfl⟩
    exact ⟨none, 0, rfl, Reads.none _ _, .inl ⟨rfl, rfl, rfl⟩, Below.refl _ _⟩
  · refine (clone_any x n c xs w h hn).mono ?_
    rintro e w' ⟨rfl, hown, hb⟩
    exact ⟨_, _, rfl, Reads.own hown h.rng, .inr ⟨_, rfl, Nat.le_refl _⟩, hb⟩

end Go.Proofs.Qxb6601847aMods.Jp
