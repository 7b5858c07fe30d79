/-
  The walks of article, ZZArticle and the bound on lengths; the ways of the law that answer ahead of the two calls.
-/
import Derived.Test.Qxb6600718aModsWalks
import Derived.Deep.QuietTactic
import Derived.BigQuiet
namespace Go.Proofs.Qxb6600718aMods.Art
open Go.RowKit

/-- 'an ' before a vowel, 'a ' before any other byte. -/
def pre (c : UInt8) : ByteArray := if 0 ≤ Lib.indexByte [97, 101, 105, 111, 117] c then ⟨#[97, 110, 32]⟩ else ⟨#[97, 32]⟩

theorem pre_yes {c : UInt8} (h : 0 ≤ Lib.indexByte [97, 101, 105, 111, 117] c) : pre c = ⟨#[97, 110, 32]⟩ := by rw [pre, if_pos h]
theorem pre_no {c : UInt8} (h : Lib.indexByte [97, 101, 105, 111, 117] c < 0) : pre c = ⟨#[97, 32]⟩ := by rw [pre, if_neg (by omega)]

theorem pre_size (c : UInt8) : (pre c).size ≤ 3 := by
  unfold pre
  split <;> decide

set_option maxHeartbeats 400000 in
theorem article_any (t : ByteArray) (w : World) (h0 : 0 < t.size) (hs : t.size ≤ 1048576) (hn : (t.toList == [110, 117, 108, 108]) = false) :
    Calls Trym.prog 18 #[.string t] w fun e w' => e = .returned (.string (pre t[0] ++ t)) ∧ w' = w := by
  have hp : (0 : Int) < (t.size : Int) := by omega
  go_enter Trym.func18, Trym.ntmps18
  go_wp2_with (go_at_call 25; refine (index_any _ _ _).mono ?_; rintro e w' ⟨rfl, rfl⟩)
  · have h : (0 : Int) ≤ Lib.indexByte [97, 101, 105, 111, 117] t[0] := by assumption
    go_ret
    exact ⟨by rw [pre_yes h]; rfl, rfl⟩
  · have h : Lib.indexByte [97, 101, 105, 111, 117] t[0] < 0 := by assumption
    go_ret
    exact ⟨by rw [pre_no h]; rfl, rfl⟩

set_option maxHeartbeats 400000 in
theorem zzarticle_any (t : ByteArray) (w : World) (h0 : 0 < t.size) (hs : t.size ≤ 1048576) (hn : (t.toList == [110, 117, 108, 108]) = false) :
    Calls Trym.prog 16 #[.string t] w fun e w' => e = .returned (.string (pre t[0] ++ t)) ∧ w' = w := by
  go_enter Trym.func16, Trym.ntmps16
  go_wp2_with (go_at_call 18; refine (article_any _ _ h0 hs hn).mono ?_; rintro e w' ⟨rfl, rfl⟩)
  go_ret
  exact ⟨rfl, rfl⟩

set_option maxHeartbeats 400000 in
theorem bytes_any (t u : ByteArray) (w : World) (ht : t.size ≤ maxLen) (hu : u.size ≤ maxLen) :
    Calls Trym.prog 15 #[.string t, .string u] w fun e w' => e = .returned (.bool (decide (t.size + u.size ≤ 1048576))) ∧ w' = w := by
  unfold maxLen at ht hu
  by_cases h1 : t.size ≤ 1048576
  · by_cases h2 : u.size ≤ 1048576
    · by_cases h3 : t.size + u.size ≤ 1048576
      all_goals
        go_enter Trym.func15, Trym.ntmps15
        go_wp2
        go_ret
        exact ⟨by simp [h3], rfl⟩
    · go_enter Trym.func15, Trym.ntmps15
      go_wp2
      go_ret
      exact ⟨by simp; omega, rfl⟩
  · go_enter Trym.func15, Trym.ntmps15
    go_wp2
    go_ret
    exact ⟨by simp; omega, rfl⟩

set_option maxHeartbeats 400000 in
/-- The lengths sum to more than the bound: the law says nothing. -/
theorem law_long (t u : ByteArray) (w : World) (ht : t.size ≤ maxLen) (hu : u.size ≤ maxLen) (h : ¬ t.size + u.size ≤ 1048576) :
    Calls Trym.prog 6 #[.string t, .string u] w fun e w' => e = .returned (.bool true) ∧ ∃ q, w' = w.drewN q := by
  have hd : decide (t.size + u.size ≤ 1048576) = false := decide_eq_false h
  go_enter Trym.func6, Trym.ntmps6
  go_wp2_with (go_at_call 15; refine (bytes_any _ _ _ ht hu).mono ?_; rintro e w' ⟨rfl, rfl⟩)
  go_ret
  exact ⟨rfl, 0, rfl⟩

set_option maxHeartbeats 400000 in
theorem law_mid (t u : ByteArray) (w : World) (ht : t.size ≤ maxLen) (hu : u.size ≤ maxLen) (h : t.size + u.size ≤ 1048576) (h2 : 524288 < t.size ∨ 524288 < u.size) :
    Calls Trym.prog 6 #[.string t, .string u] w fun e w' => e = .returned (.bool true) ∧ ∃ q, w' = w.drewN q := by
  have hd : decide (t.size + u.size ≤ 1048576) = true := decide_eq_true h
  by_cases h3 : 524288 < t.size
  all_goals
    go_enter Trym.func6, Trym.ntmps6
    go_wp2_with (go_at_call 15; refine (bytes_any _ _ _ ht hu).mono ?_; rintro e w' ⟨rfl, rfl⟩)
    go_ret
    exact ⟨rfl, 0, rfl⟩

set_option maxHeartbeats 400000 in
theorem law_empty (t u : ByteArray) (w : World) (ht : t.size ≤ maxLen) (hu : u.size ≤ maxLen) (hd : decide (t.size + u.size ≤ 1048576) = true) (h2 : t.size ≤ 524288) (h3 : u.size ≤ 524288) (h4 : ((t.size : Int) == 0) = true) :
    Calls Trym.prog 6 #[.string t, .string u] w fun e w' => e = .returned (.bool true) ∧ ∃ q, w' = w.drewN q := by
  go_enter Trym.func6, Trym.ntmps6
  go_wp2_with (go_at_call 15; refine (bytes_any _ _ _ ht hu).mono ?_; rintro e w' ⟨rfl, rfl⟩)
  go_quiet (fail)
  go_wp2
  go_ret
  exact ⟨rfl, _, rfl⟩

set_option maxHeartbeats 400000 in
theorem law_empty2 (t u : ByteArray) (w : World) (ht : t.size ≤ maxLen) (hu : u.size ≤ maxLen) (hd : decide (t.size + u.size ≤ 1048576) = true) (h2 : t.size ≤ 524288) (h3 : u.size ≤ 524288) (h4 : ((t.size : Int) == 0) = false) (h5 : ((u.size : Int) == 0) = true) :
    Calls Trym.prog 6 #[.string t, .string u] w fun e w' => e = .returned (.bool true) ∧ ∃ q, w' = w.drewN q := by
  go_enter Trym.func6, Trym.ntmps6
  go_wp2_with (go_at_call 15; refine (bytes_any _ _ _ ht hu).mono ?_; rintro e w' ⟨rfl, rfl⟩)
  go_quiet (fail)
  go_wp2
  go_ret
  exact ⟨rfl, _, rfl⟩

set_option maxHeartbeats 400000 in
theorem law_apart (t u : ByteArray) (w : World) (ht : t.size ≤ maxLen) (hu : u.size ≤ maxLen) (hd : decide (t.size + u.size ≤ 1048576) = true) (h2 : t.size ≤ 524288) (h3 : u.size ≤ 524288) (h4 : 0 < t.size) (h5 : 0 < u.size) (h6 : ((t[0].toNat : Int) == (u[0].toNat : Int)) = false) :
    Calls Trym.prog 6 #[.string t, .string u] w fun e w' => e = .returned (.bool true) ∧ ∃ q, w' = w.drewN q := by
  have h4' : ((t.size : Int) == 0) = false := by rw [beq_eq_false_iff_ne]; omega
  have h5' : ((u.size : Int) == 0) = false := by rw [beq_eq_false_iff_ne]; omega
  have hp : (0 : Int) < (t.size : Int) := by omega
  have hq : (0 : Int) < (u.size : Int) := by omega
  go_enter Trym.func6, Trym.ntmps6
  go_wp2_with (go_at_call 15; refine (bytes_any _ _ _ ht hu).mono ?_; rintro e w' ⟨rfl, rfl⟩)
  go_quiet (fail)
  go_wp2
  go_ret
  exact ⟨rfl, _, rfl⟩

set_option maxHeartbeats 400000 in
theorem law_null (t u : ByteArray) (w : World) (ht : t.size ≤ maxLen) (hu : u.size ≤ maxLen) (hd : decide (t.size + u.size ≤ 1048576) = true) (h2 : t.size ≤ 524288) (h3 : u.size ≤ 524288) (h4 : 0 < t.size) (h5 : 0 < u.size) (h6 : ((t[0].toNat : Int) == (u[0].toNat : Int)) = true) 
    (h7 : (t.toList == [110, 117, 108, 108]) = true ∨ (t.toList == [110, 117, 108, 108]) = false ∧ (u.toList == [110, 117, 108, 108]) = true) :
    Calls Trym.prog 6 #[.string t, .string u] w fun e w' => e = .returned (.bool true) ∧ ∃ q, w' = w.drewN q := by
  have h4' : ((t.size : Int) == 0) = false := by rw [beq_eq_false_iff_ne]; omega
  have h5' : ((u.size : Int) == 0) = false := by rw [beq_eq_false_iff_ne]; omega
  have hp : (0 : Int) < (t.size : Int) := by omega
  have hq : (0 : Int) < (u.size : Int) := by omega
  rcases h7 with h7 | ⟨h7, h8⟩
  all_goals
    go_enter Trym.func6, Trym.ntmps6
    go_wp2_with (go_at_call 15; refine (bytes_any _ _ _ ht hu).mono ?_; rintro e w' ⟨rfl, rfl⟩)
    go_quiet (fail)
    go_wp2
    go_ret
    exact ⟨rfl, _, rfl⟩

end Go.Proofs.Qxb6600718aMods.Art
