/-
  All ways of judgePath on a fresh line, and ZZJudgePath.
-/
import Derived.Test.Qxb6601847aModsFaults
namespace Go.Proofs.Qxb6601847aMods.Jp
open Go.RowKit

/-- Where the query begins: the first '?', or the end. -/
def IsQ (ds : List Int) (n q : Nat) : Prop := Lib.indexByte (Lib.bytesOf ds) 63 = -1 ∧ q = n ∨ Lib.indexByte (Lib.bytesOf ds) 63 = q ∧ q < n

theorem judge_all (R n c q : Nat) (a : Option Addr) (ds : List Int) (w0 w : World) (hr : Reads w0 a n ds) (hR : w0.heap.size = R) (h : Line w0 w R 0 false 0 false) (hn : n ≤ 1048576)
    (ha : a = none ∧ n = 0 ∧ c = 0 ∨ ∃ g, a = some ⟨g, 0, none⟩ ∧ n ≤ c) (hq : IsQ ds n q) :
    Calls Trym.prog 24 #[.pointer (some ⟨R, 0, none⟩), .slice a n c, .bool true] w fun e w' => e = .returned (.tuple #[]) ∧ Line w0 w' R q (decide (q < n)) (verdict ds q).2 (verdict ds q).1 := by
  rcases Nat.eq_zero_or_pos n with h0 | h0
  · subst h0
    have hd : ds = [] := List.eq_nil_of_length_eq_zero hr.len
    subst hd
    have hq0 : q = 0 := by
      rcases hq with ⟨_, h⟩ | ⟨_, h⟩
      · exact h
      · omega
    subst hq0
    refine judge_empty R c a ?_ w0 w h
    rcases ha with ⟨h1, _, h2⟩ | ⟨g, h1, _⟩
    · exact .inl ⟨h1, h2⟩
    · exact .inr ⟨g, 0, h1⟩
  · rcases ha with ⟨_, h1, _⟩ | ⟨g, rfl, hnc⟩
    · omega
    · have hl : decide (0 < ds.length) = true := decide_eq_true (by rw [hr.len]; exact h0)
      by_cases h47 : ds.getD 0 0 = 47
      · have hb : badStart ds = false := by rw [badStart, hl, h47]; rfl
        cases hc : hasCtl ds with
        | false =>
          have hv : verdict ds q = run (ds.take q) 0 := by rw [verdict, hb, hc]; rfl
          rw [hv]
          exact judge_good R g 0 n c q ds w0 w hr hR h hn hnc h0 h47 hc hq
        | true =>
          have hv : verdict ds q = (true, 0) := by rw [verdict, hb, hc]; rfl
          rw [hv]
          exact judge_control R g 0 n c q ds w0 w hr hR h hn hnc h0 h47 hc hq
      · have hb : badStart ds = true := by rw [badStart, hl, bne_iff_ne.2 h47]; rfl
        have hv : verdict ds q = (true, 0) := by rw [verdict, hb]; rfl
        rw [hv]
        exact judge_start R g 0 n c q ds w0 w hr hR h hn hnc h0 h47 hq

theorem Line.fresh (w : World) : Line w (w.alloc (.cells #[.slice none 0 0, .int .i64 0, .slice none 0 0, .int .i64 0, .slice none 0 0, .int .i64 0, .int .i64 0, .bool false, .bool false, .int .i64 0, .bool false, .int .i64 0, .bool false] 43)) w.heap.size 0 false 0 false :=
  ⟨by rw [World.cell?_alloc_new]; rfl, by rw [World.cell?_alloc_new]; rfl, by rw [World.cell?_alloc_new]; rfl, by rw [World.cell?_alloc_new]; rfl, by rw [World.cell?_alloc_new]; rfl, by rw [World.cell?_alloc_new]; rfl, by rw [World.cell?_alloc_new]; rfl,
    fun o => by simp, (Below.refl _ _).alloc (Nat.le_refl _) _⟩

set_option maxHeartbeats 4000000 in
theorem zz_any (n c q : Nat) (a : Option Addr) (ds : List Int) (w : World) (hr : Reads w a n ds) (hn : n ≤ 1048576)
    (ha : a = none ∧ n = 0 ∧ c = 0 ∨ ∃ g, a = some ⟨g, 0, none⟩ ∧ n ≤ c) (hq : IsQ ds n q) :
    Calls Trym.prog 18 #[.int .i64 0, .bool false, .int .i64 0, .bool false, .int .i64 0, .bool false, .bool false, .slice a n c, .bool true] w fun e w' =>
      e = .returned (.tuple #[.int .i64 q, .bool (decide (q < n)), .int .i64 (verdict ds q).2, .bool (verdict ds q).1, .int .i64 0, .bool false, .bool false]) ∧ Below w.heap.size w w' := by
  have CJ := hid (fun w1 (h : Line w w1 w.heap.size 0 false 0 false) => judge_all w.heap.size n c q a ds w w1 hr rfl h hn ha hq)
  clear hr ha hq
  generalize verdict ds q = V at CJ ⊢
  go_enter Trym.func18, Trym.ntmps18
  go_wp2_with fail
  refine (CJ.out _ (Line.fresh w)).mono ?_
  rintro e w1 ⟨rfl, hl⟩
  have HL := hid hl
  have g6 := hl.part
  have g7 := hl.ended
  have g8 := hl.unreadable
  have g9 := hl.len
  have g10 := hl.inq
  have g11 := hl.esc
  have g12 := hl.fault
  clear hl
  go_wp2_with fail
  go_quiet (fail)
  go_wp2
  exact bodyPost_ret (v := .tuple #[.int .i64 q, .bool (decide (q < n)), .int .i64 V.2, .bool V.1, .int .i64 0, .bool false, .bool false]) (by simp [results, Trym.results18, go_sem]) rfl ⟨rfl, below_drewN HL.out.below _⟩

end Go.Proofs.Qxb6601847aMods.Jp
