/-
  The walks of the small functions under this seat's law: the bound on lengths, zzEqualBytes, zzCloneBytes.
-/
import Derived.Test.Qxb6601173aModsProg
import Derived.Test.Qxb6601173aModsBase
import Derived.Deep.QuietTactic
import Derived.BigQuiet
import Derived.Laws.CopyOwn
namespace Go.Proofs.Qxb6601173aMods.Js
open Go.RowKit

set_option maxHeartbeats 400000 in
theorem bytes_any (a : Option Addr) (n c : Nat) (s : ByteArray) (w : World) (hn : n ≤ maxLen) (hn' : s.size ≤ maxLen) :
    Calls Trym.prog 18 #[.slice a n c, .string s] w fun e w' => e = .returned (.bool (decide (n + s.size ≤ 1048576))) ∧ w' = w := by
  unfold maxLen at hn hn'
  by_cases h1 : n ≤ 1048576
  · by_cases h2 : s.size ≤ 1048576
    · by_cases h3 : n + s.size ≤ 1048576
      all_goals
        go_enter Trym.func18, Trym.ntmps18
        go_wp2
        go_ret
        exact ⟨by simp [h3], rfl⟩
    · go_enter Trym.func18, Trym.ntmps18
      go_wp2
      go_ret
      exact ⟨by simp; omega, rfl⟩
  · go_enter Trym.func18, Trym.ntmps18
    go_wp2
    go_ret
    exact ⟨by simp; omega, rfl⟩

theorem eq_step (xs ys : List Int) (k : Nat) (h : k < xs.length) (h' : k < ys.length) (hp : xs.take k = ys.take k) (hx : xs.getD k 0 = ys.getD k 0) : xs.take (k + 1) = ys.take (k + 1) := by
  rw [take_snoc xs k h, take_snoc ys k h', hp, hx]

theorem eq_miss (xs ys : List Int) (k : Nat) (hx : xs.getD k 0 ≠ ys.getD k 0) : (xs == ys) = false := by
  rw [beq_eq_false_iff_ne]
  rintro rfl
  exact hx rfl

set_option maxHeartbeats 400000 in
theorem equal_some (b o n c b' o' c' : Nat) (xs ys : List Int) (w : World) (hx : xs.length = n) (hy : ys.length = n) (hn : n ≤ maxLen)
    (hc : ∀ i, i < n → w.cell? ⟨b, o + i, none⟩ = some (.int .u8 (xs.getD i 0))) (hd : ∀ i, i < n → w.cell? ⟨b', o' + i, none⟩ = some (.int .u8 (ys.getD i 0))) :
    Calls Trym.prog 12 #[.slice (some ⟨b, o, none⟩) n c, .slice (some ⟨b', o', none⟩) n c'] w fun e w' => e = .returned (.bool (xs == ys)) ∧ ∃ q, w' = w.drewN q := by
  unfold maxLen at hn
  have HX : Hid (xs.length = n) := hx
  have HY : Hid (ys.length = n) := hy
  clear hx hy
  go_enter Trym.func12, Trym.ntmps12
  go_wp2
  go_loopw [5] (fun i wr => ∃ k : Nat, k ≤ n ∧ i = .int .i64 k ∧ xs.take k = ys.take k ∧ ∃ q, wr = w.drewN q) (fun i _ => n - (intOf i).toNat)
  case atStart => exact ⟨0, Nat.zero_le _, rfl, rfl, 0, rfl⟩
  case round =>
    obtain ⟨k, hk, rfl, hp, q, rfl⟩ := hrel
    have HP : Hid (xs.take k = ys.take k) := hp
    clear hp
    by_cases hlt : k < n
    · have hcell := hc k hlt
      have hdell := hd k hlt
      obtain ⟨x, hxe⟩ : ∃ x, xs.getD k 0 = x := ⟨_, rfl⟩
      obtain ⟨y, hye⟩ : ∃ y, ys.getD k 0 = y := ⟨_, rfl⟩
      rw [hxe] at hcell
      rw [hye] at hdell
      have HE : Hid (xs.getD k 0 = x) := hxe
      have HF : Hid (ys.getD k 0 = y) := hye
      have hl : (k : Int) < (n : Int) := by omega
      clear hxe hye hc hd
      by_cases hxy : x = y
      · subst hxy
        go_wp2
        go_quiet (fail)
        go_wp2
        go_roundw
        case rel => exact ⟨k + 1, by omega, by go_num, eq_step xs ys k (by rw [HX.out]; exact hlt) (by rw [HY.out]; exact hlt) HP.out (by rw [HE.out, HF.out]), _, rfl⟩
        case measure => simp [intOf]; omega
      · have hne : (x == y) = false := by rw [beq_eq_false_iff_ne]; exact hxy
        go_wp2
        go_quiet (fail)
        go_wp2
        go_ret
        exact ⟨by rw [eq_miss xs ys k (by rw [HE.out, HF.out]; exact hxy)]; rfl, _, World.drewN_drewN ..⟩
    · go_wp2
      go_ret
      have he : xs = ys := by
        have := HP.out
        rwa [List.take_of_length_le (by rw [HX.out]; omega), List.take_of_length_le (by rw [HY.out]; omega)] at this
      exact ⟨by rw [he]; simp, _, rfl⟩

set_option maxHeartbeats 400000 in
theorem equal_apart (a : Option Addr) (n c : Nat) (a' : Option Addr) (n' c' : Nat) (w : World) (hne : ((n : Int) == (n' : Int)) = false) :
    Calls Trym.prog 12 #[.slice a n c, .slice a' n' c'] w fun e w' => e = .returned (.bool false) ∧ w' = w := by
  go_enter Trym.func12, Trym.ntmps12
  go_wp2
  go_ret
  exact ⟨rfl, rfl⟩

set_option maxHeartbeats 400000 in
theorem equal_none (a : Option Addr) (c : Nat) (a' : Option Addr) (c' : Nat) (w : World) :
    Calls Trym.prog 12 #[.slice a 0 c, .slice a' 0 c'] w fun e w' => e = .returned (.bool true) ∧ w' = w := by
  go_enter Trym.func12, Trym.ntmps12
  go_wp2
  refine wp_loop_rounds 1 ?_
  rw [rounds_succ]
  go_wp2
  go_ret
  exact ⟨rfl, rfl⟩

/-- zzEqualBytes: are the two slices' bytes the same? -/
theorem equal_any (a : Option Addr) (n c : Nat) (a' : Option Addr) (n' c' : Nat) (xs ys : List Int) (w : World) (h : Reads w a n xs) (h' : Reads w a' n' ys) (hn : n ≤ maxLen) :
    Calls Trym.prog 12 #[.slice a n c, .slice a' n' c'] w fun e w' => e = .returned (.bool (xs == ys)) ∧ ∃ q, w' = w.drewN q := by
  by_cases he : n = n'
  · subst he
    rcases Nat.eq_zero_or_pos n with h0 | h0
    · subst h0
      have e1 : xs = [] := List.eq_nil_of_length_eq_zero h.len
      have e2 : ys = [] := List.eq_nil_of_length_eq_zero h'.len
      subst e1 e2
      refine (equal_none a c a' c' w).mono ?_
      rintro e w' ⟨rfl, rfl⟩
      exact ⟨rfl, 0, rfl⟩
    · obtain ⟨b, o, rfl, hc⟩ := h.bytes h0
      obtain ⟨b', o', rfl, hc'⟩ := h'.bytes h0
      exact equal_some b o n c b' o' c' xs ys w h.len h'.len hn hc hc'
  · refine (equal_apart a n c a' n' c' w (by rw [beq_eq_false_iff_ne]; omega)).mono ?_
    rintro e w' ⟨rfl, rfl⟩
    have : (xs == ys) = false := by
      rw [beq_eq_false_iff_ne]
      rintro rfl
      exact he (h.len.symm.trans h'.len)
    exact ⟨by rw [this], 0, rfl⟩

theorem info5 : (Trym.prog.info? 5).map (fun i => (i.zero, i.size, i.bytes)) = some (some (.int .u8 0), 1, 1) := by kernel_rfl

theorem eql_nil (w : World) (a : Option Addr) (n c n' c' : Nat) : (binOp .eql 22 (.slice a n c) (.slice none n' c')).run Trym.prog w = .ok (.bool a.isNone) w :=
  Lib.run_eql_slice_nil w _ _ a n c n' c' Trym.underlying22

set_option maxHeartbeats 400000 in
theorem clone_nil (w : World) : Calls Trym.prog 10 #[.slice none 0 0] w fun e w' => e = .returned (.slice none 0 0) ∧ w' = w := by
  have q22 := eql_nil
  go_enter Trym.func10, Trym.ntmps10
  go_wp2
  go_ret
  exact ⟨rfl, rfl⟩

end Go.Proofs.Qxb6601173aMods.Js
