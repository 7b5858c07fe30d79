/-
  One way of the law FnJudgePathFreshVerdictIsReadablePath.
-/
import Derived.Test.Qxb6601847aModsRounds
namespace Go.Proofs.Qxb6601847aMods.Jp
open Go.RowKit

set_option maxHeartbeats 4000000 in
/-- The text does not open with '/' and holds no '?'. -/
theorem law_path2 (a : Option Addr) (n c : Nat) (ds : List Int) (w : World) (h : Came w a n c ds) (hn : n ≤ 1048576) (_hd : decide (n ≤ 1048576) = true) (h0 : 0 < n)
    (hq : IsQ ds n n) (hbefore : ∀ k, k < n → ds.getD k 0 ≠ 63) (h47 : ds.getD 0 0 ≠ 47) :
    Calls Trym.prog 9 #[.slice a n c] w fun e w' => e = .returned (.bool true) ∧ Below w.heap.size w w' := by
  have hm : n ≤ maxLen := by unfold maxLen; omega
  have HC := hid (clone_all h hn)
  have HX := hid h.reads.len
  have HQ := hid hq
  have HBef := hid hbefore
  have hI0 : (0 : Int) < (n : Int) := by omega
  obtain ⟨x0, hx0⟩ : ∃ x0, ds.getD 0 0 = x0 := ⟨_, rfl⟩
  rw [hx0] at h47
  have HX0 := hid hx0
  have HR0 : Hid ((!badStart ds) = false) := by
    have hl : decide (0 < ds.length) = true := decide_eq_true (by rw [h.reads.len]; exact h0)
    show (!badStart ds) = false
    rw [badStart, hl, hx0]
    simp [h47]
  have e47 : (x0 != 47) = true := bne_iff_ne.2 h47
  clear h47
  clear h hq hbefore hx0
  go_enter Trym.func9, Trym.ntmps9
  go_wp2_with (first | (go_at_call 19; refine (bytes_any _ _ _ _ hm).mono ?_; rintro e w' ⟨rfl, hw⟩; replace hw := hw.symm; subst hw) | fail)
  refine HC.out.mono ?_
  rintro e w1 ⟨a1, c1, rfl, r1, hA, hb⟩
  have CZ := hid (zz_any n c1 n a1 ds w1 r1 hn hA HQ.out)
  have HB := hid hb
  obtain ⟨g, rfl⟩ : ∃ g, a1 = some ⟨g, 0, none⟩ := by
    rcases hA with ⟨_, h1, _⟩ | ⟨g, h1, _⟩
    · omega
    · exact ⟨g, h1⟩
  have R1 := hid r1
  have HVS := hid (verdict_says (ds := ds) (q := n) (by rw [HX.out]; omega))
  generalize verdict ds n = V at CZ HVS
  clear r1 hA hb
  go_wp2_with fail
  refine CZ.out.mono ?_
  rintro e w2 ⟨rfl, hb2⟩
  have B2 := hid (HB.out.trans (hb2.mono HB.out.size))
  have hcells : ∀ i, i < n → w2.cell? ⟨g, i, none⟩ = some (.int .u8 (ds.getD i 0)) := fun i hi => by have := (R1.out.later hb2).cellsOf i hi; rwa [Nat.zero_add] at this
  have HCs := hid hcells
  clear hb2 hcells
  go_wp2_with fail
  go_loop [10, 11] (fun t i => ∃ k : Nat, k ≤ n ∧ i = .int .i64 k ∧ t = .int .i64 n) (fun _ i => n - (intOf i).toNat)
  case atStart => exact ⟨0, Nat.zero_le _, rfl, rfl⟩
  case round =>
    obtain ⟨k, hk, rfl, rfl⟩ := hrel
    by_cases hkq : k < n
    · obtain ⟨x, hx⟩ : ∃ x, ds.getD k 0 = x := ⟨_, rfl⟩
      have hcell := HCs.out k (by omega)
      have hne := HBef.out k hkq
      rw [hx] at hcell hne
      have e63 : (x == 63) = false := by rw [beq_eq_false_iff_ne]; exact hne
      have hkn : k < n := by omega
      clear hx hne
      go_wp2
      go_round
      case rel => exact ⟨k + 1, by omega, by go_num, rfl⟩
      case measure => simp [intOf]; omega
    · have hke : n = k := by omega
      subst hke
      have hc0 := HCs.out 0 h0
      rw [HX0.out] at hc0
      go_wp2_with fail
      go_loop [12, 13] (fun r i => ∃ (k2 : Nat) (rr : Bool), k2 ≤ n ∧ i = .int .i64 k2 ∧ (false && !hasCtl (ds.take k2)) = rr ∧ r = .bool rr) (fun _ i => n - (intOf i).toNat)
      case atStart => exact ⟨0, false, Nat.zero_le _, rfl, rfl, rfl⟩
      case round =>
        obtain ⟨k2, rr, hk2, rfl, hrr, rfl⟩ := hrel
        have HRR := hid hrr
        clear hrr hc0
        by_cases hlt2 : k2 < n
        · obtain ⟨x, hx⟩ : ∃ x, ds.getD k2 0 = x := ⟨_, rfl⟩
          have hcell := HCs.out k2 hlt2
          rw [hx] at hcell
          have HS := hid (hasCtl_step ds k2 (by rw [HX.out]; exact hlt2))
          rw [hx] at HS
          clear hx
          cases hcx : ctlB x with
          | true =>
            go_wp2_with (go_at_call 20; refine (jpctl_any _ _).mono ?_; rintro e w' ⟨rfl, hw⟩; replace hw := hw.symm; subst hw)
            go_round
            case rel => exact ⟨k2 + 1, false, by omega, by go_num, by rw [HS.out, hcx]; exact gone _ _, rfl⟩
            case measure => simp [intOf]; omega
          | false =>
            go_wp2_with (go_at_call 20; refine (jpctl_any _ _).mono ?_; rintro e w' ⟨rfl, hw⟩; replace hw := hw.symm; subst hw)
            go_round
            case rel => exact ⟨k2 + 1, rr, by omega, by go_num, by rw [HS.out, hcx]; exact still HRR.out, rfl⟩
            case measure => simp [intOf]; omega
        · have HR2 := hid (show (false && !hasCtl ds) = rr from by rw [← HRR.out, List.take_of_length_le (by rw [HX.out]; omega)])
          clear HRR
          go_wp2_with fail
          go_loop [12, 14] (fun r i => ∃ (k3 : Nat) (r3 : Bool), k3 ≤ n ∧ i = .int .i64 k3 ∧ (rr && !anyBad ds n k3) = r3 ∧ r = .bool r3) (fun _ i => n - (intOf i).toNat)
          case atStart => exact ⟨0, rr, Nat.zero_le _, rfl, Bool.and_true rr, rfl⟩
          case round =>
            obtain ⟨k3, r3, hk3, rfl, hr3, rfl⟩ := hrel
            have HRR := hid hr3
            clear hr3
            by_cases hlt3 : k3 < n
            · have hk3n : k3 < n := by omega
              have HS := hid (anyBad_succ ds n k3)
              obtain ⟨x, hx⟩ : ∃ x, ds.getD k3 0 = x := ⟨_, rfl⟩
              have hcell := HCs.out k3 hk3n
              rw [hx] at hcell
              by_cases h37 : x = 37
              · subst h37
                have HX37 := hid hx
                clear hx
                by_cases hlate : n ≤ k3 + 2
                · go_wp2_with fail
                  go_round
                  case rel => exact ⟨k3 + 1, false, by omega, by go_num, by rw [HS.out, bad_late HX37.out hlate]; exact gone _ _, rfl⟩
                  case measure => simp [intOf]; omega
                · obtain ⟨x1, hx1⟩ : ∃ x1, ds.getD (k3 + 1) 0 = x1 := ⟨_, rfl⟩
                  obtain ⟨x2, hx2⟩ : ∃ x2, ds.getD (k3 + 2) 0 = x2 := ⟨_, rfl⟩
                  have hcell1 := HCs.out (k3 + 1) (by omega)
                  have hcell2 := HCs.out (k3 + 2) (by omega)
                  rw [hx1] at hcell1
                  rw [hx2] at hcell2
                  have HX1 := hid hx1
                  have HX2 := hid hx2
                  clear hx1 hx2
                  cases hh1 : hexB x1 with
                  | false =>
                    go_wp2_with (go_at_call 21; refine (jphex_any _ _).mono ?_; rintro e w' ⟨rfl, hw⟩; replace hw := hw.symm; subst hw)
                    go_round
                    case rel => exact ⟨k3 + 1, false, by omega, by go_num, by rw [HS.out, bad_first HX37.out (by rw [HX1.out]; exact hh1)]; exact gone _ _, rfl⟩
                    case measure => simp [intOf]; omega
                  | true =>
                    cases hh2 : hexB x2 with
                    | false =>
                      go_wp2_with (go_at_call 21; refine (jphex_any _ _).mono ?_; rintro e w' ⟨rfl, hw⟩; replace hw := hw.symm; subst hw)
                      go_round
                      case rel => exact ⟨k3 + 1, false, by omega, by go_num, by rw [HS.out, bad_second HX37.out (by rw [HX2.out]; exact hh2)]; exact gone _ _, rfl⟩
                      case measure => simp [intOf]; omega
                    | true =>
                      go_wp2_with (go_at_call 21; refine (jphex_any _ _).mono ?_; rintro e w' ⟨rfl, hw⟩; replace hw := hw.symm; subst hw)
                      go_round
                      case rel => exact ⟨k3 + 1, r3, by omega, by go_num, by rw [HS.out, bad_none hlate (by rw [HX1.out]; exact hh1) (by rw [HX2.out]; exact hh2)]; exact still HRR.out, rfl⟩
                      case measure => simp [intOf]; omega
              · have e37 : (x == 37) = false := by rw [beq_eq_false_iff_ne]; exact h37
                have HB := hid (bad_other (ds := ds) (q := n) (k := k3) (by rw [hx]; exact e37))
                clear hx h37
                go_wp2_with fail
                go_round
                case rel => exact ⟨k3 + 1, r3, by omega, by go_num, by rw [HS.out, HB.out]; exact still HRR.out, rfl⟩
                case measure => simp [intOf]; omega
            · have hke3 : n = k3 := by omega
              subst hke3
              have hfin : (!V.1 && (V.2 == 0)) = r3 := by rw [HVS.out, readable, HR0.out, HR2.out]; exact HRR.out
              obtain ⟨f, ee⟩ := V
              cases f with
              | true =>
                have hr3 : r3 = false := hfin.symm
                subst hr3
                clear hfin HVS
                go_wp2_with fail
                go_ret
                exact ⟨rfl, B2.out⟩
              | false =>
                cases ee with
                | zero =>
                  have hr3 : r3 = true := hfin.symm
                  subst hr3
                  clear hfin HVS
                  go_wp2_with fail
                  go_ret
                  exact ⟨rfl, B2.out⟩
                | succ ee =>
                  have hr3 : r3 = false := hfin.symm
                  subst hr3
                  have hee : (((ee + 1 : Nat) : Int) == 0) = false := by rw [beq_eq_false_iff_ne]; omega
                  clear hfin HVS
                  go_wp2_with fail
                  go_ret
                  exact ⟨rfl, B2.out⟩

end Go.Proofs.Qxb6601847aMods.Jp
