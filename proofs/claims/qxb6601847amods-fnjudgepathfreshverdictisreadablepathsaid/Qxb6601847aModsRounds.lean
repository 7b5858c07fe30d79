/-
  The law FnJudgePathFreshVerdictIsReadablePath: the first test, and what one round of its last loop does.
-/
import Derived.Test.Qxb6601847aModsZz
namespace Go.Proofs.Qxb6601847aMods.Jp
open Go.RowKit

set_option maxHeartbeats 400000 in
theorem law_long (a : Option Addr) (n c : Nat) (w : World) (hn : n ≤ maxLen) (_hd : decide (n ≤ 1048576) = false) :
    Calls Trym.prog 9 #[.slice a n c] w fun e w' => e = .returned (.bool true) ∧ Below w.heap.size w w' := by
  go_enter Trym.func9, Trym.ntmps9
  go_wp2_with (go_at_call 19; refine (bytes_any _ _ _ _ hn).mono ?_; rintro e w' ⟨rfl, rfl⟩)
  go_ret
  exact ⟨rfl, Below.refl _ _⟩

theorem bad_other {ds : List Int} {q k : Nat} (h : (ds.getD k 0 == 37) = false) : badAt ds q k = false := by rw [badAt, h]; rfl
theorem bad_late {ds : List Int} {q k : Nat} (h : ds.getD k 0 = 37) (hq : q ≤ k + 2) : badAt ds q k = true := by rw [badAt, h, decide_eq_true hq]; rfl
theorem bad_first {ds : List Int} {q k : Nat} (h : ds.getD k 0 = 37) (h1 : hexB (ds.getD (k + 1) 0) = false) : badAt ds q k = true := by rw [badAt, h, h1]; simp
theorem bad_second {ds : List Int} {q k : Nat} (h : ds.getD k 0 = 37) (h1 : hexB (ds.getD (k + 2) 0) = false) : badAt ds q k = true := by rw [badAt, h, h1]; simp
theorem bad_none {ds : List Int} {q k : Nat} (hq : ¬ q ≤ k + 2) (h1 : hexB (ds.getD (k + 1) 0) = true) (h2 : hexB (ds.getD (k + 2) 0) = true) : badAt ds q k = false := by
  rw [badAt, h1, h2, decide_eq_false hq]
  simp

theorem still {r b x : Bool} (h : (r && !b) = x) : (r && !(b || false)) = x := by rw [Bool.or_false]; exact h
theorem gone (r b : Bool) : (r && !(b || true)) = false := by simp

end Go.Proofs.Qxb6601847aMods.Jp
