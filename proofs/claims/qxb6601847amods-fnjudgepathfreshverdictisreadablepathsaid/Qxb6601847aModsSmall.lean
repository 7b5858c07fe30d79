/-
  The walks of isHexDigit, jpHex, jpControl and hasControl.
-/
import Derived.Test.Qxb6601847aModsWalks
import Derived.Test.Qxb6601847aModsPlain
namespace Go.Proofs.Qxb6601847aMods.Jp
open Go.RowKit

theorem seven (x : Int) : x < 48 ∨ (48 ≤ x ∧ x ≤ 57) ∨ (57 < x ∧ x < 65) ∨ (65 ≤ x ∧ x ≤ 70) ∨ (70 < x ∧ x < 97) ∨ (97 ≤ x ∧ x ≤ 102) ∨ 102 < x := by omega

theorem hex_yes {x : Int} (h : (48 ≤ x ∧ x ≤ 57) ∨ (97 ≤ x ∧ x ≤ 102) ∨ (65 ≤ x ∧ x ≤ 70)) : Ending.returned (.bool true) = .returned (.bool (hexB x)) := by rw [hexB, decide_eq_true h]
theorem hex_no {x : Int} (h : ¬ ((48 ≤ x ∧ x ≤ 57) ∨ (97 ≤ x ∧ x ≤ 102) ∨ (65 ≤ x ∧ x ≤ 70))) : Ending.returned (.bool false) = .returned (.bool (hexB x)) := by rw [hexB, decide_eq_false h]
theorem ctl_yes {x : Int} (h : x < 32 ∨ x = 127) : Ending.returned (.bool true) = .returned (.bool (ctlB x)) := by rw [ctlB, decide_eq_true h]
theorem ctl_no {x : Int} (h : ¬ (x < 32 ∨ x = 127)) : Ending.returned (.bool false) = .returned (.bool (ctlB x)) := by rw [ctlB, decide_eq_false h]

set_option maxHeartbeats 1000000 in
theorem ishex_any (x : Int) (w : World) : Calls Trym.prog 28 #[.int .u8 x] w fun e w' => e = .returned (.bool (hexB x)) ∧ w' = w := by
  rcases seven x with h | ⟨h, h'⟩ | ⟨h, h'⟩ | ⟨h, h'⟩ | ⟨h, h'⟩ | ⟨h, h'⟩ | h
  all_goals
    go_enter Trym.func28, Trym.ntmps28
    go_wp2
    go_ret
    exact ⟨by first | exact hex_yes (x := x) (by omega) | exact hex_no (x := x) (by omega) | (rw [show hexB x = false from decide_eq_false (by omega)]; simp; omega), rfl⟩

set_option maxHeartbeats 1000000 in
theorem jphex_any (x : Int) (w : World) : Calls Trym.prog 21 #[.int .u8 x] w fun e w' => e = .returned (.bool (hexB x)) ∧ w' = w := by
  rcases seven x with h | ⟨h, h'⟩ | ⟨h, h'⟩ | ⟨h, h'⟩ | ⟨h, h'⟩ | ⟨h, h'⟩ | h
  all_goals
    go_enter Trym.func21, Trym.ntmps21
    go_wp2
    go_ret
    exact ⟨by first | exact hex_yes (x := x) (by omega) | exact hex_no (x := x) (by omega) | (rw [show hexB x = false from decide_eq_false (by omega)]; simp; omega), rfl⟩

set_option maxHeartbeats 1000000 in
theorem jpctl_any (x : Int) (w : World) : Calls Trym.prog 20 #[.int .u8 x] w fun e w' => e = .returned (.bool (ctlB x)) ∧ w' = w := by
  by_cases h : x < 32
  · go_enter Trym.func20, Trym.ntmps20
    go_wp2
    go_ret
    exact ⟨ctl_yes (by omega), rfl⟩
  · by_cases h' : x = 127
    · subst h'
      go_enter Trym.func20, Trym.ntmps20
      go_wp2
      go_ret
      exact ⟨ctl_yes (by omega), rfl⟩
    · have e : (x == 127) = false := by rw [beq_eq_false_iff_ne]; exact h'
      have HN := hid h'
      clear h'
      go_enter Trym.func20, Trym.ntmps20
      go_wp2
      go_ret
      have := HN.out
      exact ⟨ctl_no (by omega), rfl⟩

theorem hasCtl_snoc (xs : List Int) (x : Int) : hasCtl (xs ++ [x]) = (hasCtl xs || ctlB x) := by simp [hasCtl]

theorem hasCtl_hit (xs : List Int) (k : Nat) (h : k < xs.length) (hx : ctlB (xs.getD k 0) = true) : hasCtl xs = true := by
  unfold hasCtl
  rw [List.any_eq_true]
  refine ⟨xs[k], List.getElem_mem h, ?_⟩
  rw [List.getD_eq_getElem?_getD, List.getElem?_eq_getElem h] at hx
  exact hx

theorem hasCtl_step (xs : List Int) (k : Nat) (h : k < xs.length) : hasCtl (xs.take (k + 1)) = (hasCtl (xs.take k) || ctlB (xs.getD k 0)) := by
  rw [take_snoc xs k h, hasCtl_snoc]

set_option maxHeartbeats 1000000 in
theorem ctl_some (b o n c : Nat) (xs : List Int) (w : World) (hx : xs.length = n) (hn : n ≤ 1048576) (hc : ∀ i, i < n → w.cell? ⟨b, o + i, none⟩ = some (.int .u8 (xs.getD i 0))) :
    Calls Trym.prog 27 #[.slice (some ⟨b, o, none⟩) n c] w fun e w' => e = .returned (.bool (hasCtl xs)) ∧ w' = w := by
  have HX := hid hx
  clear hx
  go_enter Trym.func27, Trym.ntmps27
  go_wp2
  go_loop [7] (fun i => ∃ k : Nat, k ≤ n ∧ i = .int .i64 k ∧ hasCtl (xs.take k) = false) (fun i => n - (intOf i).toNat)
  case atStart => exact ⟨0, Nat.zero_le _, rfl, rfl⟩
  case round =>
    obtain ⟨k, hk, rfl, hp⟩ := hrel
    have HP := hid hp
    clear hp
    by_cases hlt : k < n
    · have hcell := hc k hlt
      obtain ⟨x, hxe⟩ : ∃ x, xs.getD k 0 = x := ⟨_, rfl⟩
      rw [hxe] at hcell
      have HE := hid hxe
      clear hxe hc
      by_cases h32 : x < 32
      · go_wp2
        go_ret
        exact ⟨by rw [hasCtl_hit xs k (by rw [HX.out]; exact hlt) (by rw [HE.out]; exact decide_eq_true (.inl h32))]; rfl, rfl⟩
      · by_cases h127 : x = 127
        · subst h127
          go_wp2
          go_ret
          exact ⟨by rw [hasCtl_hit xs k (by rw [HX.out]; exact hlt) (by rw [HE.out]; rfl)]; rfl, rfl⟩
        · have e127 : (x == 127) = false := by rw [beq_eq_false_iff_ne]; exact h127
          have HN := hid (show ctlB x = false from decide_eq_false (by omega))
          clear h127
          go_wp2
          go_round
          case rel => exact ⟨k + 1, by omega, by go_num, by rw [hasCtl_step xs k (by rw [HX.out]; exact hlt), HP.out, HE.out, HN.out]; rfl⟩
          case measure => simp [intOf]; omega
    · go_wp2
      go_ret
      exact ⟨by rw [← HP.out, List.take_of_length_le (by rw [HX.out]; omega)]; rfl, rfl⟩

set_option maxHeartbeats 400000 in
theorem ctl_none (a : Option Addr) (c : Nat) (w : World) :
    Calls Trym.prog 27 #[.slice a 0 c] w fun e w' => e = .returned (.bool false) ∧ w' = w := by
  go_enter Trym.func27, Trym.ntmps27
  go_wp2
  refine wp_loop_rounds 1 ?_
  rw [rounds_succ]
  go_wp2
  go_ret
  exact ⟨rfl, rfl⟩

/-- hasControl: is there a control byte? -/
theorem ctl_any (a : Option Addr) (n c : Nat) (xs : List Int) (w : World) (h : Reads w a n xs) (hn : n ≤ 1048576) :
    Calls Trym.prog 27 #[.slice a n c] w fun e w' => e = .returned (.bool (hasCtl xs)) ∧ w' = w := by
  rcases Nat.eq_zero_or_pos n with h0 | h0
  · subst h0
    have : xs = [] := List.eq_nil_of_length_eq_zero h.len
    subst this
    exact ctl_none a c w
  · obtain ⟨b, o, rfl, hc⟩ := h.bytes h0
    exact ctl_some b o n c xs w h.len hn hc

end Go.Proofs.Qxb6601847aMods.Jp
