/-
  The walk of judgePath on a fresh line.
-/
import Derived.Test.Qxb6601847aModsLine
namespace Go.Proofs.Qxb6601847aMods.Jp
open Go.RowKit

/-- What the loop of judgePath holds at its head: what is left of the path reads as p, and judging it from here comes to V. -/
def Judges (w0 wr : World) (R q : Nat) (inq : Bool) (V : Bool × Nat) (v : Value) : Prop :=
  ∃ (a : Option Addr) (m c : Nat) (p : List Int) (e : Nat) (f : Bool), v = .slice a m c ∧ Reads w0 a m p ∧ m ≤ c ∧ m ≤ 1048576 ∧ e ≤ 2 ∧ Line w0 wr R q inq e f ∧ (f = false ∧ run p e = V ∨ f = true ∧ V = (true, e))

set_option maxHeartbeats 4000000 in
/-- The text is not empty, opens with '/' and holds no control byte. -/
theorem judge_good (R b o n c q : Nat) (ds : List Int) (w0 w : World) (hr : Reads w0 (some ⟨b, o, none⟩) n ds) (hR : w0.heap.size = R) (h : Line w0 w R 0 false 0 false) (hn : n ≤ 1048576) (hnc : n ≤ c)
    (h0 : 0 < n) (h47 : ds.getD 0 0 = 47) (hctl : hasCtl ds = false)
    (hq : Lib.indexByte (Lib.bytesOf ds) 63 = -1 ∧ q = n ∨ Lib.indexByte (Lib.bytesOf ds) 63 = q ∧ q < n) :
    Calls Trym.prog 24 #[.pointer (some ⟨R, 0, none⟩), .slice (some ⟨b, o, none⟩) n c, .bool true] w fun e w' => e = .returned (.tuple #[]) ∧ Line w0 w' R q (decide (q < n)) (run (ds.take q) 0).2 (run (ds.take q) 0).1 := by
  have HL := hid h
  have HR := hid hr
  have HRe := hid hR
  have hI0 : (0 : Int) < (n : Int) := by omega
  have hcell : w.cell? ⟨b, o, none⟩ = some (.int .u8 47) := by rw [← h47]; exact cell_later (by rw [hR]; exact h.below) (hr.cellsOf 0 h0)
  have g5 := h.inq
  have g9 := h.len
  have g12 := h.fault
  have gF := h.free
  have CI := hid (index_some b o n c ds 63 w hr.len (hr.later (by rw [hR]; exact h.below)).cellsOf)
  rw [show ((63 : Int).toNat.toUInt8) = 63 from rfl] at CI
  obtain ⟨V, hV⟩ : ∃ V, run (ds.take q) 0 = V := ⟨_, rfl⟩
  rw [hV]
  have HV := hid hV
  clear h hr hR h47 hV
  rcases hq with ⟨hq, hqn⟩ | ⟨hq, hqn⟩
  · rw [hq] at CI
    subst hqn
    have hd : decide (q < q) = false := by simp
    rw [hd]
    clear hq
    go_enter Trym.func24, Trym.ntmps24
    go_wp2_with (first
      | (go_at_call 26; refine CI.out.mono ?_; rintro e w' ⟨rfl, hw⟩; replace hw := hw.symm; subst hw)
      | (go_at_call 27; refine (ctl_any _ _ _ ds _ (by exact HR.out.later (by rw [HRe.out]; exact (HL.out.setLen q (by omega)).below)) hn).mono ?_; rintro e w' ⟨rfl, hw⟩; replace hw := hw.symm; subst hw)
      | fail)
    have L1 := hid (HL.out.setLen q (show ((q : Nat) : Int) = q from rfl))
    go_loopw [6] (fun v wr => Judges w0 wr R q false V v) (fun v _ => lenOf v)
    case atStart => exact ⟨_, _, _, ds.take q, 0, false, rfl, HR.out.take q (by omega), by omega, by omega, by omega, L1.out, .inl ⟨rfl, HV.out⟩⟩
    case round =>
      obtain ⟨a, m, c', p, e, f, rfl, hrd, hmc, hmn, he2, hL, hVr⟩ := hrel
      have HP := hid hrd
      have HLr := hid hL
      have HVr := hid hVr
      have f11 := hL.esc
      have f12 := hL.fault
      have fF := hL.free
      clear hrd hL hVr hcell g5 g9 g12 gF
      rcases Nat.eq_zero_or_pos m with hm0 | hm0
      · have hmI : ¬ (0 : Int) < (m : Int) := by omega
        have hp0 : p = [] := List.eq_nil_of_length_eq_zero (by rw [HP.out.len]; exact hm0)
        have HF := hid (show V = (f, e) from by
          rcases HVr.out with ⟨rfl, hv⟩ | ⟨rfl, hv⟩
          · rw [hp0] at hv; exact hv.symm
          · exact hv)
        clear hp0 hm0
        go_wp2
        go_end0
        rw [HF.out]
        exact ⟨rfl, HLr.out⟩
      · have hmI : (0 : Int) < (m : Int) := by omega
        cases f with
        | true =>
          have HF := hid (show V = (true, e) from by
            rcases HVr.out with ⟨hf, hv⟩ | ⟨_, hv⟩
            · cases hf
            · exact hv)
          go_wp2
          go_end0
          rw [HF.out]
          exact ⟨rfl, HLr.out⟩
        | false =>
          have HF := hid (show run p e = V from by
            rcases HVr.out with ⟨_, hv⟩ | ⟨hf, hv⟩
            · exact hv
            · cases hf)
          obtain ⟨b', o', ha, hcs⟩ := HP.out.bytes hm0
          subst ha
          have hpl : 0 < p.length := by rw [HP.out.len]; exact hm0
          cases e with
          | succ e =>
            obtain ⟨x, hx⟩ : ∃ x, p.getD 0 0 = x := ⟨_, rfl⟩
            have hx0 : wr.cell? ⟨b', o', none⟩ = some (.int .u8 x) := by rw [← hx]; exact cell_later (by rw [HRe.out]; exact HLr.out.below) (hcs 0 hm0)
            have hr2 := HP.out.drop 1 c' hm0 hmc
            simp only [Option.map_some, Addr.add_lit] at hr2
            have HX := hid hx
            have HR2 := hid hr2
            have heI : (0 : Int) < ((e + 1 : Nat) : Int) := by omega
            clear hx hcs hr2
            go_wp2_with (first
              | (go_at_call 28; refine (ishex_any _ _).mono ?_; rintro e w' ⟨rfl, hw⟩; replace hw := hw.symm; subst hw)
              | fail)
            go_region
            go_wp2
            go_roundw
            case rel =>
              refine ⟨_, _, _, p.drop 1, e, !hexB x, rfl, HR2.out, by omega, by omega, by omega, ((HLr.out.setFault (!hexB x)).setEsc e rfl).drew, ?_⟩
              have hv := HF.out
              cases hh : hexB x with
              | true => exact .inl ⟨rfl, by rw [← hv, run_digit hpl (by rw [HX.out]; exact hh)]⟩
              | false => exact .inr ⟨rfl, by rw [← hv, run_fault hpl (by rw [HX.out]; exact hh)]⟩
            case measure => simp [lenOf]; omega
          | zero =>
            have CJ := hid (index_some b' o' m c' p 37 wr HP.out.len (HP.out.later (by rw [HRe.out]; exact HLr.out.below)).cellsOf)
            rw [show ((37 : Int).toNat.toUInt8) = 37 from rfl] at CJ
            rcases index_says (t := 37) (by decide) p HP.out.rng with ⟨hj, hno⟩ | ⟨j, hj, hjl, h37, hno⟩
            · rw [show ((37 : Int).toNat.toUInt8) = 37 from rfl] at hj
              rw [hj] at CJ
              have hv := HF.out
              rw [run_none p hno] at hv
              have HF2 := hid hv
              clear hv hj hno hcs
              go_wp2_with (first
                | (go_at_call 26; refine CJ.out.mono ?_; rintro e w' ⟨rfl, hw⟩; replace hw := hw.symm; subst hw)
                | fail)
              go_end0
              rw [← HF2.out]
              exact ⟨rfl, HLr.out⟩
            · rw [show ((37 : Int).toNat.toUInt8) = 37 from rfl] at hj
              rw [hj] at CJ
              rw [HP.out.len] at hjl
              have hr2 := HP.out.drop (j + 1) c' (by omega) hmc
              simp only [Option.map_some, Addr.add_lit] at hr2
              have HR2 := hid hr2
              have HF2 := hid (run_to (by rw [HP.out.len]; exact hjl) h37 hno)
              clear hj h37 hno hcs hr2
              go_wp2_with (first
                | (go_at_call 26; refine CJ.out.mono ?_; rintro e w' ⟨rfl, hw⟩; replace hw := hw.symm; subst hw)
                | fail)
              go_region
              go_wp2
              go_roundw
              case rel => exact ⟨_, _, _, p.drop (j + 1), 2, false, rfl, HR2.out, by omega, by omega, by omega, (HLr.out.setEsc 2 rfl).drew, .inl ⟨rfl, by rw [← HF2.out]; exact HF.out⟩⟩
              case measure => simp [lenOf]; omega
  · rw [hq] at CI
    have hd : decide (q < n) = true := decide_eq_true hqn
    rw [hd]
    clear hq
    go_enter Trym.func24, Trym.ntmps24
    go_wp2_with (first
      | (go_at_call 26; refine CI.out.mono ?_; rintro e w' ⟨rfl, hw⟩; replace hw := hw.symm; subst hw)
      | (go_at_call 27; refine (ctl_any _ _ _ ds _ (by exact HR.out.later (by rw [HRe.out]; exact ((HL.out.setInq true).setLen q (by omega)).below)) hn).mono ?_; rintro e w' ⟨rfl, hw⟩; replace hw := hw.symm; subst hw)
      | fail)
    have L1 := hid ((HL.out.setInq true).setLen q (show ((q : Nat) : Int) = q from rfl))
    go_loopw [6] (fun v wr => Judges w0 wr R q true V v) (fun v _ => lenOf v)
    case atStart => exact ⟨_, _, _, ds.take q, 0, false, rfl, HR.out.take q (by omega), by omega, by omega, by omega, L1.out, .inl ⟨rfl, HV.out⟩⟩
    case round =>
      obtain ⟨a, m, c', p, e, f, rfl, hrd, hmc, hmn, he2, hL, hVr⟩ := hrel
      have HP := hid hrd
      have HLr := hid hL
      have HVr := hid hVr
      have f11 := hL.esc
      have f12 := hL.fault
      have fF := hL.free
      clear hrd hL hVr hcell g5 g9 g12 gF
      rcases Nat.eq_zero_or_pos m with hm0 | hm0
      · have hmI : ¬ (0 : Int) < (m : Int) := by omega
        have hp0 : p = [] := List.eq_nil_of_length_eq_zero (by rw [HP.out.len]; exact hm0)
        have HF := hid (show V = (f, e) from by
          rcases HVr.out with ⟨rfl, hv⟩ | ⟨rfl, hv⟩
          · rw [hp0] at hv; exact hv.symm
          · exact hv)
        clear hp0 hm0
        go_wp2
        go_end0
        rw [HF.out]
        exact ⟨rfl, HLr.out⟩
      · have hmI : (0 : Int) < (m : Int) := by omega
        cases f with
        | true =>
          have HF := hid (show V = (true, e) from by
            rcases HVr.out with ⟨hf, hv⟩ | ⟨_, hv⟩
            · cases hf
            · exact hv)
          go_wp2
          go_end0
          rw [HF.out]
          exact ⟨rfl, HLr.out⟩
        | false =>
          have HF := hid (show run p e = V from by
            rcases HVr.out with ⟨_, hv⟩ | ⟨hf, hv⟩
            · exact hv
            · cases hf)
          obtain ⟨b', o', ha, hcs⟩ := HP.out.bytes hm0
          subst ha
          have hpl : 0 < p.length := by rw [HP.out.len]; exact hm0
          cases e with
          | succ e =>
            obtain ⟨x, hx⟩ : ∃ x, p.getD 0 0 = x := ⟨_, rfl⟩
            have hx0 : wr.cell? ⟨b', o', none⟩ = some (.int .u8 x) := by rw [← hx]; exact cell_later (by rw [HRe.out]; exact HLr.out.below) (hcs 0 hm0)
            have hr2 := HP.out.drop 1 c' hm0 hmc
            simp only [Option.map_some, Addr.add_lit] at hr2
            have HX := hid hx
            have HR2 := hid hr2
            have heI : (0 : Int) < ((e + 1 : Nat) : Int) := by omega
            clear hx hcs hr2
            go_wp2_with (first
              | (go_at_call 28; refine (ishex_any _ _).mono ?_; rintro e w' ⟨rfl, hw⟩; replace hw := hw.symm; subst hw)
              | fail)
            go_region
            go_wp2
            go_roundw
            case rel =>
              refine ⟨_, _, _, p.drop 1, e, !hexB x, rfl, HR2.out, by omega, by omega, by omega, ((HLr.out.setFault (!hexB x)).setEsc e rfl).drew, ?_⟩
              have hv := HF.out
              cases hh : hexB x with
              | true => exact .inl ⟨rfl, by rw [← hv, run_digit hpl (by rw [HX.out]; exact hh)]⟩
              | false => exact .inr ⟨rfl, by rw [← hv, run_fault hpl (by rw [HX.out]; exact hh)]⟩
            case measure => simp [lenOf]; omega
          | zero =>
            have CJ := hid (index_some b' o' m c' p 37 wr HP.out.len (HP.out.later (by rw [HRe.out]; exact HLr.out.below)).cellsOf)
            rw [show ((37 : Int).toNat.toUInt8) = 37 from rfl] at CJ
            rcases index_says (t := 37) (by decide) p HP.out.rng with ⟨hj, hno⟩ | ⟨j, hj, hjl, h37, hno⟩
            · rw [show ((37 : Int).toNat.toUInt8) = 37 from rfl] at hj
              rw [hj] at CJ
              have hv := HF.out
              rw [run_none p hno] at hv
              have HF2 := hid hv
              clear hv hj hno hcs
              go_wp2_with (first
                | (go_at_call 26; refine CJ.out.mono ?_; rintro e w' ⟨rfl, hw⟩; replace hw := hw.symm; subst hw)
                | fail)
              go_end0
              rw [← HF2.out]
              exact ⟨rfl, HLr.out⟩
            · rw [show ((37 : Int).toNat.toUInt8) = 37 from rfl] at hj
              rw [hj] at CJ
              rw [HP.out.len] at hjl
              have hr2 := HP.out.drop (j + 1) c' (by omega) hmc
              simp only [Option.map_some, Addr.add_lit] at hr2
              have HR2 := hid hr2
              have HF2 := hid (run_to (by rw [HP.out.len]; exact hjl) h37 hno)
              clear hj h37 hno hcs hr2
              go_wp2_with (first
                | (go_at_call 26; refine CJ.out.mono ?_; rintro e w' ⟨rfl, hw⟩; replace hw := hw.symm; subst hw)
                | fail)
              go_region
              go_wp2
              go_roundw
              case rel => exact ⟨_, _, _, p.drop (j + 1), 2, false, rfl, HR2.out, by omega, by omega, by omega, (HLr.out.setEsc 2 rfl).drew, .inl ⟨rfl, by rw [← HF2.out]; exact HF.out⟩⟩
              case measure => simp [lenOf]; omega

end Go.Proofs.Qxb6601847aMods.Jp
