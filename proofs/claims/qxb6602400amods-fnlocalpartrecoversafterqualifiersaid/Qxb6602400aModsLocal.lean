/-
  The walks of localPart and ZZLocalPart, and the plain facts on where the first colon stands.
-/
import Derived.Test.Qxb6602400aModsClone
namespace Go.Proofs.Qxb6602400aMods.Lp
open Go.RowKit

/-- The answer is a slice of m bytes that reads as ys. -/
def Gives (w : World) (m : Nat) (ys : List Int) (e : Ending) : Prop := ∃ a' c', e = .returned (.slice a' m c') ∧ Reads w a' m ys

theorem byte_colon {x : Int} (h : 0 ≤ x ∧ x < 256) : (x.toNat.toUInt8 == 58) = (x == 58) := by
  rw [Bool.eq_iff_iff, beq_iff_eq, beq_iff_eq]
  constructor
  · intro e
    have := congrArg UInt8.toNat e
    simp at this
    omega
  · rintro rfl
    rfl

theorem hasColon_cons (x : Int) (xs : List Int) : hasColon (x :: xs) = (x == 58 || hasColon xs) := rfl

/-- WHERE THE FIRST COLON STANDS. -/
theorem index_says : ∀ (xs : List Int), (∀ x ∈ xs, 0 ≤ x ∧ x < 256) →
    (Lib.indexByte (Lib.bytesOf xs) 58 = -1 ∧ hasColon xs = false) ∨
      ∃ j : Nat, Lib.indexByte (Lib.bytesOf xs) 58 = j ∧ j < xs.length ∧ xs.getD j 0 = 58 ∧ hasColon (xs.take j) = false
  | [], _ => .inl ⟨rfl, rfl⟩
  | x :: xs, h => by
    have hx := h x (List.mem_cons_self ..)
    have ih := index_says xs (fun y hy => h y (List.mem_cons_of_mem _ hy))
    have e : Lib.indexByte (Lib.bytesOf (x :: xs)) 58 = if x == 58 then 0 else if Lib.indexByte (Lib.bytesOf xs) 58 == -1 then -1 else Lib.indexByte (Lib.bytesOf xs) 58 + 1 := by
      show Lib.indexByte (x.toNat.toUInt8 :: Lib.bytesOf xs) 58 = _
      rw [Lib.indexByte, byte_colon hx]
    cases h58 : (x == 58) with
    | true =>
      refine .inr ⟨0, by rw [e, h58]; rfl, by simp, ?_, rfl⟩
      simpa using h58
    | false =>
      rw [h58] at e
      rcases ih with ⟨h1, h2⟩ | ⟨j, h1, h2, h3, h4⟩
      · exact .inl ⟨by rw [e, h1]; rfl, by rw [hasColon_cons, h58, h2]; rfl⟩
      · refine .inr ⟨j + 1, ?_, by simp; omega, by simpa using h3, ?_⟩
        · rw [e, h1]
          have : ((j : Int) == -1) = false := by rw [beq_eq_false_iff_ne]; omega
          rw [this]
          simp
        · rw [List.take_succ_cons, hasColon_cons, h58, h4]
          rfl

set_option maxHeartbeats 400000 in
theorem local_keep (b o n c : Nat) (xs : List Int) (w : World) (hx : xs.length = n) (hc : ∀ i, i < n → w.cell? ⟨b, o + i, none⟩ = some (.int .u8 (xs.getD i 0))) (hk : Lib.indexByte (Lib.bytesOf xs) 58 ≤ 0) :
    Calls Trym.prog 28 #[.slice (some ⟨b, o, none⟩) n c] w fun e w' => e = .returned (.slice (some ⟨b, o, none⟩) n c) ∧ w' = w := by
  have HI := hid (index_some b o n c xs 58 w hx hc)
  clear hc
  go_enter Trym.func28, Trym.ntmps28
  go_wp2_with (go_at_call 29; refine HI.out.mono ?_; rintro e w' ⟨rfl, rfl⟩)
  go_ret
  exact ⟨rfl, rfl⟩

set_option maxHeartbeats 400000 in
theorem local_nil (w : World) :
    Calls Trym.prog 28 #[.slice none 0 0] w fun e w' => e = .returned (.slice none 0 0) ∧ w' = w := by
  go_enter Trym.func28, Trym.ntmps28
  go_wp2_with (go_at_call 29; refine (index_nil 58 _).mono ?_; rintro e w' ⟨rfl, rfl⟩)
  go_ret
  exact ⟨rfl, rfl⟩

set_option maxHeartbeats 400000 in
theorem local_cut (b o n c j : Nat) (xs : List Int) (w : World) (h : Reads w (some ⟨b, o, none⟩) n xs) (hc : ∀ i, i < n → w.cell? ⟨b, o + i, none⟩ = some (.int .u8 (xs.getD i 0))) (hk : Lib.indexByte (Lib.bytesOf xs) 58 = j) (h0 : 0 < j) (hj : j < n) (hn : n ≤ 1048577) (hcap : n ≤ c) :
    Calls Trym.prog 28 #[.slice (some ⟨b, o, none⟩) n c] w fun e w' => Gives w (n - (j + 1)) (xs.drop (j + 1)) e ∧ w' = w := by
  have hi := index_some b o n c xs 58 w h.len hc
  rw [show ((58 : Int).toNat.toUInt8) = 58 from rfl, hk] at hi
  have HI := hid hi
  have HD := hid (h.drop (j + 1) c (by omega) hcap)
  clear hi hc hk h
  go_enter Trym.func28, Trym.ntmps28
  go_wp2_with (go_at_call 29; refine HI.out.mono ?_; rintro e w' ⟨rfl, rfl⟩)
  · have hcj : c = j + 1 := by assumption
    have D := HD.out
    rw [if_pos hcj] at D
    go_ret
    exact ⟨⟨_, _, rfl, D⟩, rfl⟩
  · have hcj : ¬ c = j + 1 := by assumption
    have D := HD.out
    rw [if_neg hcj] at D
    go_ret
    exact ⟨⟨_, _, rfl, by simpa [Addr.add] using D⟩, rfl⟩

set_option maxHeartbeats 400000 in
theorem zz_keep (b o n c : Nat) (xs : List Int) (w : World) (hx : xs.length = n) (hc : ∀ i, i < n → w.cell? ⟨b, o + i, none⟩ = some (.int .u8 (xs.getD i 0))) (hk : Lib.indexByte (Lib.bytesOf xs) 58 ≤ 0) :
    Calls Trym.prog 21 #[.slice (some ⟨b, o, none⟩) n c] w fun e w' => e = .returned (.slice (some ⟨b, o, none⟩) n c) ∧ w' = w := by
  have HI := hid (local_keep b o n c xs w hx hc hk)
  clear hc hk
  go_enter Trym.func21, Trym.ntmps21
  go_wp2_with (go_at_call 28; refine HI.out.mono ?_; rintro e w' ⟨rfl, rfl⟩)
  go_ret
  exact ⟨rfl, rfl⟩

set_option maxHeartbeats 400000 in
theorem zz_nil (w : World) :
    Calls Trym.prog 21 #[.slice none 0 0] w fun e w' => e = .returned (.slice none 0 0) ∧ w' = w := by
  go_enter Trym.func21, Trym.ntmps21
  go_wp2_with (go_at_call 28; refine (local_nil _).mono ?_; rintro e w' ⟨rfl, rfl⟩)
  go_ret
  exact ⟨rfl, rfl⟩

set_option maxHeartbeats 400000 in
theorem zz_cut (b o n c j : Nat) (xs : List Int) (w : World) (h : Reads w (some ⟨b, o, none⟩) n xs) (hc : ∀ i, i < n → w.cell? ⟨b, o + i, none⟩ = some (.int .u8 (xs.getD i 0))) (hk : Lib.indexByte (Lib.bytesOf xs) 58 = j) (h0 : 0 < j) (hj : j < n) (hn : n ≤ 1048577) (hcap : n ≤ c) :
    Calls Trym.prog 21 #[.slice (some ⟨b, o, none⟩) n c] w fun e w' => Gives w (n - (j + 1)) (xs.drop (j + 1)) e ∧ w' = w := by
  have HI := hid (local_cut b o n c j xs w h hc hk h0 hj hn hcap)
  clear hc hk h
  go_enter Trym.func21, Trym.ntmps21
  go_wp2_with (go_at_call 28; refine HI.out.mono ?_; rintro e w' ⟨⟨a', c', rfl, hr⟩, rfl⟩)
  go_ret
  exact ⟨⟨_, _, rfl, by assumption⟩, rfl⟩

end Go.Proofs.Qxb6602400aMods.Lp
