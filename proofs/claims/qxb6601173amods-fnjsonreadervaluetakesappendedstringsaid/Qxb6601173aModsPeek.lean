/-
  The walks of the reader's methods: peek at a quote, skipString over a string.
-/
import Derived.Test.Qxb6601173aModsApp
namespace Go.Proofs.Qxb6601173aMods.Js
open Go.RowKit

set_option maxHeartbeats 1000000 in
theorem peek_quote (R b o n c q : Nat) (w : World) (hD : w.cell? ⟨R, 0, none⟩ = some (.slice (some ⟨b, o, none⟩) n c)) (hP : w.cell? ⟨R, 1, none⟩ = some (.int .i64 q)) (hq : q < n) (_hn : n ≤ 16777216)
    (hc : w.cell? ⟨b, o + q, none⟩ = some (.int .u8 34)) :
    Calls Trym.prog 48 #[.pointer (some ⟨R, 0, none⟩)] w fun e w' => e = .returned (.int .u8 34) ∧ ∃ k, w' = w.drewN k := by
  have h1 : (q : Int) < (n : Int) := by omega
  go_enter Trym.func48, Trym.ntmps48
  go_wp2
  refine wp_loop_rounds 1 ?_
  rw [rounds_succ]
  go_wp2
  go_quiet (fail)
  go_wp2
  go_quiet (fail)
  go_wp2
  go_ret
  exact ⟨rfl, _, rfl⟩

/-- THE READER in the world wr: its block is R, it reads 'data', it stands at q; below R nothing has turned since w0. -/
structure At (w0 wr : World) (R : Nat) (data : Value) (q : Nat) : Prop where
  data : wr.cell? ⟨R, 0, none⟩ = some data
  pos : wr.cell? ⟨R, 1, none⟩ = some (.int .i64 q)
  free : wr.frozen? ⟨R, 1, none⟩ = false
  below : Below R w0 wr

theorem At.drewN {w0 wr : World} {R : Nat} {data : Value} {q : Nat} (h : At w0 wr R data q) (k : Nat) : At w0 (wr.drewN k) R data q :=
  ⟨h.data, h.pos, h.free, below_drewN h.below k⟩

theorem At.set {w0 wr : World} {R : Nat} {data : Value} {q : Nat} (h : At w0 wr R data q) (q' : Nat) {v : Int} (hv : v = q') : At w0 (wr.setCell ⟨R, 1, none⟩ (.int .i64 v)) R data q' := by
  subst hv
  exact ⟨by rw [World.cell?_setCell_other _ _ _ _ (by simp)]; exact h.data, World.cell?_setCell_same _ _ _ h.pos, by rw [World.frozen?_setCell]; exact h.free, h.below.setCell (Nat.le_refl _) _⟩

/-- Where the reader stands: the loop's measure. -/
def posOf (R : Nat) (w : World) : Nat := match w.cell? ⟨R, 1, none⟩ with
  | some (.int _ q) => q.toNat
  | _ => 0

theorem At.posOf {w0 wr : World} {R : Nat} {data : Value} {q : Nat} (h : At w0 wr R data q) : posOf R wr = q := by
  unfold Js.posOf
  rw [h.pos]
  simp

set_option maxHeartbeats 1000000 in
theorem skip_any (R b o n c p m : Nat) (ds : List Int) (w0 w : World) (hr : Reads w0 (some ⟨b, o, none⟩) n ds) (hR : w0.heap.size = R) (h : At w0 w R (.slice (some ⟨b, o, none⟩) n c) p) (hn : n ≤ 16777216)
    (hs : scan (ds.drop (p + 1)) = some m) :
    Calls Trym.prog 49 #[.pointer (some ⟨R, 0, none⟩)] w fun e w' => (∃ bb, e = .returned (.bool bb)) ∧ At w0 w' R (.slice (some ⟨b, o, none⟩) n c) (p + 1 + m + 1) := by
  have hpn : p + 1 < n := by have := (scan_step hs).1; rw [hr.len] at this; exact this
  have HH := hid h
  have HS := hid hs
  have HR := hid hr
  have HRe := hid hR
  have hD := h.data
  have hP := h.pos
  have hF := h.free
  clear h hs hr hR
  go_enter Trym.func49, Trym.ntmps49
  go_wp2
  go_loopw [3] (fun x wr => (∃ bb, x = .bool bb) ∧ ∃ q, q ≤ p + 1 + m ∧ scan (ds.drop q) = some (p + 1 + m - q) ∧ At w0 wr R (.slice (some ⟨b, o, none⟩) n c) q) (fun _ wr => p + 1 + m - posOf R wr)
  case atStart => exact ⟨⟨false, rfl⟩, p + 1, by omega, by rw [HS.out]; congr 1; omega, HH.out.set (p + 1) (by omega)⟩
  case round =>
    obtain ⟨⟨bb, rfl⟩, q, hq, hsc, hat⟩ := hrel
    have hst := scan_step hsc
    rw [HR.out.len] at hst
    obtain ⟨hqn, hcase⟩ := hst
    have hcell : wr.cell? ⟨b, o + q, none⟩ = some (.int .u8 (ds.getD q 0)) := cell_later (by rw [HRe.out]; exact hat.below) (HR.out.cellsOf q hqn)
    have gD := hat.data
    have gP := hat.pos
    have gF := hat.free
    have hl : (q : Int) < (n : Int) := by omega
    have HA := hid hat
    have HQ := hid hsc
    clear hsc hat hD hP hF
    rcases hcase with ⟨h34, hm0⟩ | ⟨h92, hq1, hm2, hs2⟩ | ⟨h34, h92, hm1, hs1⟩
    · rw [h34] at hcell
      have HM := hid hm0
      clear h34 hm0
      go_wp2
      go_quiet (fail)
      go_wp2
      have e : p + 1 + m = q := by have := HM.out; omega
      go_ret
      rw [e]
      exact ⟨⟨bb, rfl⟩, (HA.out.set (q + 1) (by omega)).drewN _⟩
    · rw [h92] at hcell
      have HS2 := hid hs2
      clear h92 hs2
      go_wp2
      go_quiet (fail)
      go_wp2
      go_quiet (fail)
      go_wp2
      go_roundw
      case rel => exact ⟨⟨true, rfl⟩, q + 2, by omega, by rw [HS2.out]; congr 1, ((HA.out.drewN _).set (q + 1) (by omega)).set (q + 2) (by omega)⟩
      case measure => rw [(((HA.out.drewN _).set (q + 1) (by omega)).set (q + 2) (by omega)).posOf, HA.out.posOf]; omega
    · obtain ⟨x, hx⟩ : ∃ x, ds.getD q 0 = x := ⟨_, rfl⟩
      rw [hx] at hcell h34 h92
      have e34 : (x != 34) = true := by rw [bne_iff_ne]; exact h34
      have e92 : (x == 92) = false := by rw [beq_eq_false_iff_ne]; exact h92
      have HS1 := hid hs1
      clear h34 h92 hs1 hx
      go_wp2
      go_quiet (fail)
      go_wp2
      go_quiet (fail)
      go_wp2
      go_roundw
      case rel => exact ⟨⟨bb, rfl⟩, q + 1, by omega, by rw [HS1.out]; congr 1, (HA.out.drewN _).set (q + 1) (by omega)⟩
      case measure => rw [((HA.out.drewN _).set (q + 1) (by omega)).posOf, HA.out.posOf]; omega

end Go.Proofs.Qxb6601173aMods.Js
