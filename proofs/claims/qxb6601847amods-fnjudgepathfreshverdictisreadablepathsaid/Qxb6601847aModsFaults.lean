/-
  The other ways of judgePath on a fresh line: a text that does not open with '/', one that holds a control byte, an empty one.
-/
import Derived.Test.Qxb6601847aModsJudge
namespace Go.Proofs.Qxb6601847aMods.Jp
open Go.RowKit

set_option maxHeartbeats 4000000 in
theorem judge_start (R b o n c q : Nat) (ds : List Int) (w0 w : World) (hr : Reads w0 (some ⟨b, o, none⟩) n ds) (hR : w0.heap.size = R) (h : Line w0 w R 0 false 0 false) (hn : n ≤ 1048576) (hnc : n ≤ c)
    (h0 : 0 < n) (h47 : ds.getD 0 0 ≠ 47)
    (hq : Lib.indexByte (Lib.bytesOf ds) 63 = -1 ∧ q = n ∨ Lib.indexByte (Lib.bytesOf ds) 63 = q ∧ q < n) :
    Calls Trym.prog 24 #[.pointer (some ⟨R, 0, none⟩), .slice (some ⟨b, o, none⟩) n c, .bool true] w fun e w' => e = .returned (.tuple #[]) ∧ Line w0 w' R q (decide (q < n)) 0 true := by
  have HL := hid h
  have HR := hid hr
  have HRe := hid hR
  have hI0 : (0 : Int) < (n : Int) := by omega
  obtain ⟨x, hx⟩ : ∃ x, ds.getD 0 0 = x := ⟨_, rfl⟩
  have hcell : w.cell? ⟨b, o, none⟩ = some (.int .u8 x) := by rw [← hx]; exact cell_later (by rw [hR]; exact h.below) (hr.cellsOf 0 h0)
  have e47 : (x != 47) = true := by rw [bne_iff_ne, ← hx]; exact h47
  have g5 := h.inq
  have g9 := h.len
  have g12 := h.fault
  have gF := h.free
  have CI := hid (fun w' (hw : Line w0 w' R 0 false 0 true) => index_some b o n c ds 63 w' hr.len (hr.later (by rw [hR]; exact hw.below)).cellsOf)
  rw [show ((63 : Int).toNat.toUInt8) = 63 from rfl] at CI
  clear h hr hR h47 hx
  rcases hq with ⟨hq, hqn⟩ | ⟨hq, hqn⟩
  · rw [hq] at CI
    subst hqn
    have hd : decide (q < q) = false := by simp
    rw [hd]
    clear hq
    go_enter Trym.func24, Trym.ntmps24
    go_wp2_with (first
      | (go_at_call 26; refine (CI.out _ (by exact HL.out.setFault true)).mono ?_; rintro e w' ⟨rfl, hw⟩; replace hw := hw.symm; subst hw)
      | fail)
    refine bodyPost_ret (results_none rfl _ _ _) rfl ?_
    exact ⟨rfl, ((HL.out.setFault true).setLen q rfl).setFault true⟩
  · rw [hq] at CI
    have hd : decide (q < n) = true := decide_eq_true hqn
    rw [hd]
    clear hq
    go_enter Trym.func24, Trym.ntmps24
    go_wp2_with (first
      | (go_at_call 26; refine (CI.out _ (by exact HL.out.setFault true)).mono ?_; rintro e w' ⟨rfl, hw⟩; replace hw := hw.symm; subst hw)
      | fail)
    refine bodyPost_ret (results_none rfl _ _ _) rfl ?_
    exact ⟨rfl, (((HL.out.setFault true).setInq true).setLen q rfl).setFault true⟩

set_option maxHeartbeats 4000000 in
theorem judge_control (R b o n c q : Nat) (ds : List Int) (w0 w : World) (hr : Reads w0 (some ⟨b, o, none⟩) n ds) (hR : w0.heap.size = R) (h : Line w0 w R 0 false 0 false) (hn : n ≤ 1048576) (hnc : n ≤ c)
    (h0 : 0 < n) (h47 : ds.getD 0 0 = 47) (hctl : hasCtl ds = true)
    (hq : Lib.indexByte (Lib.bytesOf ds) 63 = -1 ∧ q = n ∨ Lib.indexByte (Lib.bytesOf ds) 63 = q ∧ q < n) :
    Calls Trym.prog 24 #[.pointer (some ⟨R, 0, none⟩), .slice (some ⟨b, o, none⟩) n c, .bool true] w fun e w' => e = .returned (.tuple #[]) ∧ Line w0 w' R q (decide (q < n)) 0 true := by
  have HL := hid h
  have HR := hid hr
  have HRe := hid hR
  have hI0 : (0 : Int) < (n : Int) := by omega
  have hcell : w.cell? ⟨b, o, none⟩ = some (.int .u8 47) := by rw [← h47]; exact cell_later (by rw [hR]; exact h.below) (hr.cellsOf 0 h0)
  have g5 := h.inq
  have g9 := h.len
  have g12 := h.fault
  have gF := h.free
  have CI := hid (index_some b o n c ds 63 w hr.len (hr.later (by rw [hR]; exact h.below)).cellsOf)
  rw [show ((63 : Int).toNat.toUInt8) = 63 from rfl] at CI
  clear h hr hR h47
  rcases hq with ⟨hq, hqn⟩ | ⟨hq, hqn⟩
  · rw [hq] at CI
    subst hqn
    have hd : decide (q < q) = false := by simp
    rw [hd]
    clear hq
    go_enter Trym.func24, Trym.ntmps24
    go_wp2_with (first
      | (go_at_call 26; refine CI.out.mono ?_; rintro e w' ⟨rfl, hw⟩; replace hw := hw.symm; subst hw)
      | (go_at_call 27; refine (ctl_any _ _ _ ds _ (by exact HR.out.later (by rw [HRe.out]; exact (HL.out.setLen q (by omega)).below)) hn).mono ?_; rintro e w' ⟨rfl, hw⟩; replace hw := hw.symm; subst hw)
      | fail)
    refine bodyPost_ret (results_none rfl _ _ _) rfl ?_
    exact ⟨rfl, (HL.out.setLen q rfl).setFault true⟩
  · rw [hq] at CI
    have hd : decide (q < n) = true := decide_eq_true hqn
    rw [hd]
    clear hq
    go_enter Trym.func24, Trym.ntmps24
    go_wp2_with (first
      | (go_at_call 26; refine CI.out.mono ?_; rintro e w' ⟨rfl, hw⟩; replace hw := hw.symm; subst hw)
      | (go_at_call 27; refine (ctl_any _ _ _ ds _ (by exact HR.out.later (by rw [HRe.out]; exact ((HL.out.setInq true).setLen q (by omega)).below)) hn).mono ?_; rintro e w' ⟨rfl, hw⟩; replace hw := hw.symm; subst hw)
      | fail)
    refine bodyPost_ret (results_none rfl _ _ _) rfl ?_
    exact ⟨rfl, ((HL.out.setInq true).setLen q rfl).setFault true⟩

set_option maxHeartbeats 4000000 in
theorem judge_empty (R c : Nat) (a : Option Addr) (ha : a = none ∧ c = 0 ∨ ∃ b o, a = some ⟨b, o, none⟩) (w0 w : World) (h : Line w0 w R 0 false 0 false) :
    Calls Trym.prog 24 #[.pointer (some ⟨R, 0, none⟩), .slice a 0 c, .bool true] w fun e w' => e = .returned (.tuple #[]) ∧ Line w0 w' R 0 false 0 false := by
  have HL := hid h
  have g5 := h.inq
  have g9 := h.len
  have g12 := h.fault
  have gF := h.free
  have CI : Hid (Calls Trym.prog 26 #[.slice a 0 c, .int .u8 63] w fun e w' => e = .returned (.int .i64 (-1)) ∧ w' = w) := by
    rcases ha with ⟨rfl, rfl⟩ | ⟨b, o, rfl⟩
    · exact index_nil 63 w
    · exact index_some b o 0 c [] 63 w rfl (fun i hi => absurd hi (Nat.not_lt_zero _))
  clear h
  go_enter Trym.func24, Trym.ntmps24
  go_wp2_with (first
    | (go_at_call 26; refine CI.out.mono ?_; rintro e w' ⟨rfl, hw⟩; replace hw := hw.symm; subst hw)
    | (go_at_call 27; refine (ctl_none _ _ _).mono ?_; rintro e w' ⟨rfl, hw⟩; replace hw := hw.symm; subst hw)
    | fail)
  refine wp_loop_rounds 1 ?_
  rw [rounds_succ]
  go_wp2
  go_end0
  exact ⟨rfl, HL.out.setLen 0 rfl⟩

end Go.Proofs.Qxb6601847aMods.Jp
