/-
  The main way of the law, and all ways together.
-/
import Derived.Test.Qxb6600718aModsArt2
namespace Go.Proofs.Qxb6600718aMods.Art
open Go.RowKit

theorem tail_of (p t : ByteArray) : (p ++ t).extract p.size (p.size + t.size) = t := by
  rw [ByteArray.extract_append_eq_right rfl (by simp)]

theorem head_of (p t : ByteArray) : (p ++ t).extract 0 p.size = p := by
  rw [ByteArray.extract_append_eq_left rfl]

set_option maxHeartbeats 400000 in
theorem law_main (t u p : ByteArray) (w : World) (ht : t.size ≤ maxLen) (hu : u.size ≤ maxLen) (hd : decide (t.size + u.size ≤ 1048576) = true) (h2 : t.size ≤ 524288) (h3 : u.size ≤ 524288) (h4 : 0 < t.size) (h5 : 0 < u.size) (h6 : ((t[0].toNat : Int) == (u[0].toNat : Int)) = true)
    (h7 : (t.toList == [110, 117, 108, 108]) = false) (h8 : (u.toList == [110, 117, 108, 108]) = false) (hp3 : p.size ≤ 3)
    (ct : ∀ w, Calls Trym.prog 16 #[.string t] w fun e w' => e = .returned (.string (p ++ t)) ∧ w' = w) (cu : ∀ w, Calls Trym.prog 16 #[.string u] w fun e w' => e = .returned (.string (p ++ u)) ∧ w' = w) :
    Calls Trym.prog 6 #[.string t, .string u] w fun e w' => e = .returned (.bool true) ∧ ∃ q, w' = w.drewN q := by
  have h4' : ((t.size : Int) == 0) = false := by rw [beq_eq_false_iff_ne]; omega
  have h5' : ((u.size : Int) == 0) = false := by rw [beq_eq_false_iff_ne]; omega
  have hp : (0 : Int) < (t.size : Int) := by omega
  have hq : (0 : Int) < (u.size : Int) := by omega
  have CT : Hid (∀ w, Calls Trym.prog 16 #[.string t] w fun e w' => e = .returned (.string (p ++ t)) ∧ w' = w) := ct
  have CU : Hid (∀ w, Calls Trym.prog 16 #[.string u] w fun e w' => e = .returned (.string (p ++ u)) ∧ w' = w) := cu
  clear ct cu
  have e1 := tail_of p t
  have e2 := tail_of p u
  have e3 := head_of p t
  have e4 := head_of p u
  go_enter Trym.func6, Trym.ntmps6
  go_wp2_with (go_at_call 15; refine (bytes_any _ _ _ ht hu).mono ?_; rintro e w' ⟨rfl, rfl⟩)
  go_quiet (fail)
  go_wp2_with fail
  refine (CT.out _).mono ?_
  rintro e w' ⟨rfl, rfl⟩
  go_wp2_with fail
  refine (CU.out _).mono ?_
  rintro e w' ⟨rfl, rfl⟩
  go_wp2_with fail
  go_quiet (fail)
  go_wp2
  go_ret
  exact ⟨rfl, _, World.drewN_drewN ..⟩

theorem law_all (t u : ByteArray) (w : World) (ht : t.size ≤ maxLen) (hu : u.size ≤ maxLen) :
    Calls Trym.prog 6 #[.string t, .string u] w fun e w' => e = .returned (.bool true) ∧ ∃ q, w' = w.drewN q := by
  by_cases h1 : t.size + u.size ≤ 1048576
  · by_cases h2 : 524288 < t.size ∨ 524288 < u.size
    · exact law_mid t u w ht hu h1 h2
    · have hd : decide (t.size + u.size ≤ 1048576) = true := decide_eq_true h1
      have h3 : t.size ≤ 524288 := by omega
      have h4 : u.size ≤ 524288 := by omega
      by_cases h5 : 0 < t.size
      · by_cases h6 : 0 < u.size
        · by_cases h7 : t[0] = u[0]
          · have h7' : ((t[0].toNat : Int) == (u[0].toNat : Int)) = true := by rw [h7]; simp
            cases h8 : (t.toList == [110, 117, 108, 108]) with
            | true => exact law_null t u w ht hu hd h3 h4 h5 h6 h7' (.inl h8)
            | false =>
              cases h9 : (u.toList == [110, 117, 108, 108]) with
              | true => exact law_null t u w ht hu hd h3 h4 h5 h6 h7' (.inr ⟨h8, h9⟩)
              | false =>
                exact law_main t u (pre t[0]) w ht hu hd h3 h4 h5 h6 h7' h8 h9 (pre_size _) (fun w => zzarticle_any t w h5 (by omega) h8)
                  (fun w => by rw [h7]; exact zzarticle_any u w h6 (by omega) h9)
          · exact law_apart t u w ht hu hd h3 h4 h5 h6 (by
              rw [beq_eq_false_iff_ne]
              intro h
              exact h7 (UInt8.toNat_inj.1 (by omega)))
        · exact law_empty2 t u w ht hu hd h3 h4 (by rw [beq_eq_false_iff_ne]; omega) (by rw [beq_iff_eq]; omega)
      · exact law_empty t u w ht hu hd h3 h4 (by rw [beq_iff_eq]; omega)
  · exact law_long t u w ht hu h1

end Go.Proofs.Qxb6600718aMods.Art
