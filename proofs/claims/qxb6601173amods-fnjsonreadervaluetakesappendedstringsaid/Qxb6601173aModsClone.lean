/-
  The walk of zzCloneBytes: nil stays nil; any other slice comes back as a new row of the same bytes.
-/
import Derived.Test.Qxb6601173aModsWalks
namespace Go.Proofs.Qxb6601173aMods.Js
open Go.RowKit

theorem size5 : (Trym.prog.info? 5).map (·.size) = some 1 := by kernel_rfl

theorem own_block {w : World} {base g n cap : Nat} {xs : List Value} (h : w.ownsRow base 5 1 (.slice (some ⟨g, 0, none⟩) n cap) n xs) : ∃ cur, w.heap[g]? = some (.cells cur 5 (0, 0)) ∧ cur.size = cap ∧ n ≤ cap ∧ cap ≤ maxLen ∧ base ≤ g := by
  rcases h.2 with ⟨h', _⟩ | ⟨g', cap', cur, h', hb, hg, h1, h2, h3, _⟩
  · simp at h'
  · simp only [Value.slice.injEq, Option.some.injEq, Addr.mk.injEq, and_true, true_and] at h'
    obtain ⟨rfl, rfl⟩ := h'
    exact ⟨cur, hg, by omega, h1, h2, hb⟩

/-- A made row that has been copied over whole. -/
theorem own_copied {w : World} {base g n : Nat} {cur : Array Value} {cs : List Value} (hg : w.heap[g]? = some (.cells cur 5 (0, 0))) (hs : cur.size = n) (hm : n ≤ maxLen) (hb : base ≤ g) (hc : cs.length = n) :
    (w.setRow g (cur.toList.take 0 ++ (cs ++ cur.toList.drop (0 + cs.length))).toArray).ownsRow base 5 1 (.slice (some ⟨g, 0, none⟩) n n) n cs := by
  have e : (cur.toList.take 0 ++ (cs ++ cur.toList.drop (0 + cs.length))) = cs := by
    rw [List.drop_eq_nil_of_le (by rw [Array.length_toList]; omega)]
    simp
  rw [e]
  exact ⟨by omega, .inr ⟨g, n, _, rfl, hb, setRow_heap w g cur _ 5 _ hg, Nat.le_refl _, hm, by simp; omega, by rw [List.take_of_length_le (by simp; omega)]⟩⟩

theorem own_empty {w : World} {B : Nat} {v : Value} {ys : List Value} (h : w.ownsRow B 5 1 v 0 ys) : w.ownsRow B 5 1 v 0 (([] : List Int).map (Value.int .u8)) := by
  have : ys = [] := List.eq_nil_of_length_eq_zero (by simpa using h.1)
  rw [this] at h
  exact h

set_option maxHeartbeats 1000000 in
theorem clone_row (b o n c : Nat) (xs : List Int) (w : World) (h : Reads w (some ⟨b, o, none⟩) n xs) (hn : n ≤ 1048576) :
    Calls Trym.prog 10 #[.slice (some ⟨b, o, none⟩) n c] w fun e w' => e = .returned (.slice (some ⟨w.heap.size, 0, none⟩) n n) ∧
      w'.ownsRow w.heap.size 5 1 (.slice (some ⟨w.heap.size, 0, none⟩) n n) n (xs.map (Value.int .u8)) ∧ Below w.heap.size w w' := by
  have q22 := eql_nil
  obtain ⟨i0, hi, hz0, hz1, hz2⟩ := info_parts info5
  have HR := hid h
  clear h
  go_enter Trym.func10, Trym.ntmps10
  go_wp2_with (first
    | (at_make; refine wpList_make_full _ rfl _ _ 22 rfl w.heap.size 5 i0 (.int .u8 0) 1 Trym.underlying22 hi hz0 hz1 .i64 .i64 _ _ n rfl rfl rfl rfl (by rw [hz2]; omega) (by unfold maxLen; omega) (Nat.le_refl _) ?_; intro w1 hown1 hgrow1; obtain ⟨cur, hcur, hcs, -⟩ := own_block hown1; have HB := hid ((Below.refl w.heap.size w).grown hgrow1 (Nat.le_refl _) (fun k hk => by cases hk)); have HC := hid hcur; have HS := hid hcs; clear hown1 hgrow1 hcur hcs)
    | (refine wpList_copy_own rfl (.tmp 9) (.tmp 10) 22 22 rfl 5 Trym.underlying22 size5 w.heap.size 0 n n ⟨b, o, none⟩ n c rfl rfl cur 5 HC.out (xs.map (Value.int .u8)) (by rw [List.length_map, HR.out.len]; simp) ((HR.out.later HB.out).news _ rfl) (by rw [List.length_map, HR.out.len, HS.out]; omega) (ints_oneCell _ _) ?_))
  go_ret
  have O2 := own_copied (base := w.heap.size) (cs := xs.map (Value.int .u8)) HC.out HS.out (by unfold maxLen; omega) (Nat.le_refl _) (by rw [List.length_map, HR.out.len])
  have B2 := below_setRow HB.out (Nat.le_refl _) (cur.toList.take 0 ++ (xs.map (Value.int .u8) ++ cur.toList.drop (0 + (xs.map (Value.int .u8)).length))).toArray
  exact ⟨rfl, by simpa using O2, by simpa using B2⟩

set_option maxHeartbeats 1000000 in
theorem clone_bare (x : Addr) (c : Nat) (w : World) :
    Calls Trym.prog 10 #[.slice (some x) 0 c] w fun e w' => e = .returned (.slice (some ⟨w.heap.size, 0, none⟩) 0 0) ∧
      w'.ownsRow w.heap.size 5 1 (.slice (some ⟨w.heap.size, 0, none⟩) 0 0) 0 (([] : List Int).map (Value.int .u8)) ∧ Below w.heap.size w w' := by
  have q22 := eql_nil
  obtain ⟨i0, hi, hz0, hz1, hz2⟩ := info_parts info5
  go_enter Trym.func10, Trym.ntmps10
  go_wp2_with (first
    | (at_make; refine wpList_make_full _ rfl _ _ 22 rfl w.heap.size 5 i0 (.int .u8 0) 1 Trym.underlying22 hi hz0 hz1 .i64 .i64 _ _ 0 rfl rfl rfl rfl (by omega) (by unfold maxLen; omega) (Nat.le_refl _) ?_; intro w1 hown1 hgrow1; have HO := hid (own_empty hown1); have HB := hid ((Below.refl w.heap.size w).grown hgrow1 (Nat.le_refl _) (fun k hk => by cases hk)); clear hown1 hgrow1)
    | (refine wpList_copy_nothing rfl (.tmp 9) (.tmp 10) 22 22 rfl 5 Trym.underlying22 size5 (some ⟨w.heap.size, 0, none⟩) (some x) 0 0 0 c rfl rfl rfl ?_))
  go_ret
  exact ⟨rfl, HO.out, HB.out⟩

/-- What zzCloneBytes hands back: a slice of n bytes that owns the numbers xs. -/
def Cloned (w w1 : World) (n : Nat) (xs : List Int) (e : Ending) : Prop :=
  ∃ a1 c1, e = .returned (.slice a1 n c1) ∧ w1.ownsRow w.heap.size 5 1 (.slice a1 n c1) n (xs.map (Value.int .u8)) ∧ Below w.heap.size w w1

theorem clone_all {a : Option Addr} {n c : Nat} {xs : List Int} {w : World} (h : Came w a n c xs) (hn : n ≤ 1048576) :
    Calls Trym.prog 10 #[.slice a n c] w fun e w' => Cloned w w' n xs e := by
  rcases h with ⟨rfl, rfl, rfl, rfl⟩ | ⟨x, rfl, h⟩
  · refine (clone_nil w).mono ?_
    rintro e w' ⟨rfl, rfl⟩
    exact ⟨none, 0, rfl, World.ownsRow_nil _ _ _ _, Below.refl _ _⟩
  · rcases Nat.eq_zero_or_pos n with h0 | h0
    · subst h0
      have : xs = [] := List.eq_nil_of_length_eq_zero h.len
      subst this
      refine (clone_bare x c w).mono ?_
      rintro e w' ⟨rfl, h1, h2⟩
      exact ⟨_, _, rfl, h1, h2⟩
    · obtain ⟨b, o, he, hc⟩ := h.bytes h0
      cases he
      refine (clone_row b o n c xs w h hn).mono ?_
      rintro e w' ⟨rfl, h1, h2⟩
      exact ⟨_, _, rfl, h1, h2⟩

end Go.Proofs.Qxb6601173aMods.Js
