/-
  The walks of value (at a string) and ZZjsonReaderValue.
-/
import Derived.Test.Qxb6601173aModsPeek
namespace Go.Proofs.Qxb6601173aMods.Js
open Go.RowKit

set_option maxHeartbeats 1000000 in
theorem value_any (R b o n c p m E : Nat) (ds : List Int) (w0 w : World) (hr : Reads w0 (some ⟨b, o, none⟩) n ds) (hR : w0.heap.size = R) (h : At w0 w R (.slice (some ⟨b, o, none⟩) n c) p) (hn : n ≤ 16777216) (hnc : n ≤ c)
    (hp : p < n) (h34 : ds.getD p 0 = 34) (hs : scan (ds.drop (p + 1)) = some m) (hE : p + 1 + m + 1 = E) (hEn : E ≤ n) :
    Calls Trym.prog 33 #[.pointer (some ⟨R, 0, none⟩)] w fun e w' => e = .returned (.slice (some ⟨b, o + p, none⟩) (E - p) (c - p)) ∧ At w0 w' R (.slice (some ⟨b, o, none⟩) n c) E := by
  have hc : w.cell? ⟨b, o + p, none⟩ = some (.int .u8 34) := by rw [← h34]; exact cell_later (by rw [hR]; exact h.below) (hr.cellsOf p hp)
  have CP := hid (peek_quote R b o n c p w h.data h.pos hp hn hc)
  have HA := hid h
  have HS := hid hs
  have HR := hid hr
  have HRe := hid hR
  have HE := hid hE
  have gP := h.pos
  have e1 : (p : Int) ≤ (E : Int) := by omega
  have e2 : (E : Int) ≤ (c : Int) := by omega
  have e3 : ¬ c = p := by omega
  clear h hs hr hR hE hc h34
  go_enter Trym.func33, Trym.ntmps33
  go_wp2_with fail
  refine CP.out.mono ?_
  rintro e w1 ⟨rfl, k1, rfl⟩
  go_wp2_with fail
  refine (skip_any R b o n c p m ds w0 _ HR.out HRe.out (HA.out.drewN _) hn HS.out).mono ?_
  rintro e w2 ⟨⟨bb, rfl⟩, hat⟩
  rw [HE.out] at hat
  have gD2 := hat.data
  have gP2 := hat.pos
  have HA2 := hid hat
  clear hat gP
  go_wp2_with fail
  go_quiet (fail)
  go_wp2
  go_ret
  exact ⟨rfl, HA2.out.drewN _⟩

theorem At.boxed (w : World) (data : Value) (p : Nat) : At w (w.alloc (.cells #[data, .int .i64 p] 51)) w.heap.size data p :=
  ⟨by rw [World.cell?_alloc_new]; rfl, by rw [World.cell?_alloc_new]; rfl, by simp, (Below.refl _ _).alloc (Nat.le_refl _) _⟩

set_option maxHeartbeats 1000000 in
theorem zzvalue_any (b o n c p m E : Nat) (ds : List Int) (w : World) (hr : Reads w (some ⟨b, o, none⟩) n ds) (hn : n ≤ 16777216) (hnc : n ≤ c)
    (hp : p < n) (h34 : ds.getD p 0 = 34) (hs : scan (ds.drop (p + 1)) = some m) (hE : p + 1 + m + 1 = E) (hEn : E ≤ n) :
    Calls Trym.prog 17 #[.slice (some ⟨b, o, none⟩) n c, .int .i64 p] w fun e w' => e = .returned (.tuple #[.slice (some ⟨b, o + p, none⟩) (E - p) (c - p), .int .i64 E]) ∧ Below w.heap.size w w' := by
  have CV := hid (value_any w.heap.size b o n c p m E ds w _ hr rfl (At.boxed w _ p) hn hnc hp h34 hs hE hEn)
  clear hr hs h34 hE
  go_enter Trym.func17, Trym.ntmps17
  go_wp2_with fail
  refine CV.out.mono ?_
  rintro e w1 ⟨rfl, hat⟩
  have gP := hat.pos
  have HA := hid hat
  clear hat
  go_wp2_with fail
  go_quiet (fail)
  go_wp2
  go_ret2
  exact ⟨rfl, below_drewN HA.out.below _⟩

end Go.Proofs.Qxb6601173aMods.Js
