/-
  All ways of the law FnJudgePathFreshVerdictIsReadablePath together.
-/
import Derived.Test.Qxb6601847aModsWayA
import Derived.Test.Qxb6601847aModsWayB
import Derived.Test.Qxb6601847aModsWayC
import Derived.Test.Qxb6601847aModsWayD
namespace Go.Proofs.Qxb6601847aMods.Jp
open Go.RowKit

set_option maxHeartbeats 4000000 in
/-- The text is empty. -/
theorem law_empty (a : Option Addr) (c : Nat) (w : World) (h : Came w a 0 c []) :
    Calls Trym.prog 9 #[.slice a 0 c] w fun e w' => e = .returned (.bool true) ∧ Below w.heap.size w w' := by
  have HC := hid (clone_all h (by omega))
  clear h
  go_enter Trym.func9, Trym.ntmps9
  go_wp2_with (first | (go_at_call 19; refine (bytes_any _ _ _ _ (by unfold maxLen; omega)).mono ?_; rintro e w' ⟨rfl, hw⟩; replace hw := hw.symm; subst hw) | fail)
  refine HC.out.mono ?_
  rintro e w1 ⟨a1, c1, rfl, r1, hA, hb⟩
  have CZ := hid (zz_any 0 c1 0 a1 [] w1 r1 (by omega) hA (.inl ⟨rfl, rfl⟩))
  have HB := hid hb
  clear r1 hA hb
  go_wp2_with fail
  refine CZ.out.mono ?_
  rintro e w2 ⟨rfl, hb2⟩
  have B2 := hid (HB.out.trans (hb2.mono HB.out.size))
  clear hb2
  have hv1 : (verdict [] 0).1 = false := rfl
  have hv2 : (verdict [] 0).2 = 0 := rfl
  rw [hv1, hv2]
  go_wp2_with fail
  refine wp_loop_rounds 1 ?_
  rw [rounds_succ]
  go_wp2_with fail
  refine wp_loop_rounds 1 ?_
  rw [rounds_succ]
  go_wp2_with fail
  refine wp_loop_rounds 1 ?_
  rw [rounds_succ]
  go_wp2_with fail
  go_ret
  exact ⟨rfl, B2.out⟩

theorem mem_getD {ds : List Int} {k : Nat} (h : k < ds.length) : ds.getD k 0 ∈ ds := by
  rw [List.getD_eq_getElem?_getD, List.getElem?_eq_getElem h]
  exact List.getElem_mem h

/-- THE LAW, every slice. -/
theorem law_all (a : Option Addr) (n c : Nat) (ds : List Int) (w : World) (h : Came w a n c ds) (hn : n ≤ maxLen) :
    Calls Trym.prog 9 #[.slice a n c] w fun e w' => e = .returned (.bool true) ∧ Below w.heap.size w w' := by
  by_cases hl : n ≤ 1048576
  · have hd : decide (n ≤ 1048576) = true := decide_eq_true hl
    rcases Nat.eq_zero_or_pos n with h0 | h0
    · subst h0
      have he : ds = [] := List.eq_nil_of_length_eq_zero h.reads.len
      subst he
      exact law_empty a c w h
    · have hlen := h.reads.len
      rcases index_says (t := 63) (by decide) ds h.reads.rng with ⟨h1, h2⟩ | ⟨j, h1, h2, h3, h4⟩
      · have hq : IsQ ds n n := .inl ⟨h1, rfl⟩
        have hb : ∀ k, k < n → ds.getD k 0 ≠ 63 := fun k hk => h2 _ (mem_getD (by omega))
        by_cases h47 : ds.getD 0 0 = 47
        · exact law_path a n c ds w h hl hd h0 hq hb h47
        · exact law_path2 a n c ds w h hl hd h0 hq hb h47
      · rw [hlen] at h2
        have hq : IsQ ds n j := .inr ⟨h1, h2⟩
        have hb : ∀ k, k < j → ds.getD k 0 ≠ 63 := fun k hk => h4 _ (by rw [← getD_take _ hk]; exact mem_getD (by rw [List.length_take]; omega))
        by_cases h47 : ds.getD 0 0 = 47
        · exact law_query a n c j ds w h hl hd h0 hq h2 hb h3 h47
        · exact law_query2 a n c j ds w h hl hd h0 hq h2 hb h3 h47
  · exact law_long a n c w hn (decide_eq_false hl)

end Go.Proofs.Qxb6601847aMods.Jp
