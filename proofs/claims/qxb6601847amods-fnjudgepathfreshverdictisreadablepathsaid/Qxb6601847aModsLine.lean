/-
  The line under judgement in memory, and one slice of a slice.
-/
import Derived.Test.Qxb6601847aModsSmall
import Derived.Deep.RegionHeld3
namespace Go.Proofs.Qxb6601847aMods.Jp
open Go.RowKit

/-- THE LINE in the world wr: its block is R; the path's length, whether the query began, the digits owed, whether a fault came; below R nothing has turned since w0. -/
structure Line (w0 wr : World) (R : Nat) (len : Nat) (inq : Bool) (esc : Nat) (fault : Bool) : Prop where
  part : wr.cell? ⟨R, 6, none⟩ = some (.int .i64 0)
  ended : wr.cell? ⟨R, 7, none⟩ = some (.bool false)
  unreadable : wr.cell? ⟨R, 8, none⟩ = some (.bool false)
  len : wr.cell? ⟨R, 9, none⟩ = some (.int .i64 len)
  inq : wr.cell? ⟨R, 10, none⟩ = some (.bool inq)
  esc : wr.cell? ⟨R, 11, none⟩ = some (.int .i64 esc)
  fault : wr.cell? ⟨R, 12, none⟩ = some (.bool fault)
  free : ∀ o, wr.frozen? ⟨R, o, none⟩ = false
  below : Below R w0 wr

section
variable {w0 wr : World} {R len esc : Nat} {inq fault : Bool}

theorem Line.drewN (h : Line w0 wr R len inq esc fault) (k : Nat) : Line w0 (wr.drewN k) R len inq esc fault :=
  ⟨h.part, h.ended, h.unreadable, h.len, h.inq, h.esc, h.fault, h.free, below_drewN h.below k⟩

theorem Line.drew (h : Line w0 wr R len inq esc fault) : Line w0 wr.drew R len inq esc fault :=
  ⟨h.part, h.ended, h.unreadable, h.len, h.inq, h.esc, h.fault, h.free, h.below.drew⟩

theorem cell_off (w : World) (R i j : Nat) (v : Value) (h : i ≠ j) : (w.setCell ⟨R, i, none⟩ v).cell? ⟨R, j, none⟩ = w.cell? ⟨R, j, none⟩ :=
  World.cell?_setCell_other _ _ _ _ (fun e => h (congrArg Addr.off e))

theorem Line.setLen (h : Line w0 wr R len inq esc fault) (n : Nat) {v : Int} (hv : v = n) : Line w0 (wr.setCell ⟨R, 9, none⟩ (.int .i64 v)) R n inq esc fault := by
  subst hv
  exact ⟨by rw [cell_off _ _ _ _ _ (by decide)]; exact h.part, by rw [cell_off _ _ _ _ _ (by decide)]; exact h.ended, by rw [cell_off _ _ _ _ _ (by decide)]; exact h.unreadable, World.cell?_setCell_same _ _ _ h.len,
    by rw [cell_off _ _ _ _ _ (by decide)]; exact h.inq, by rw [cell_off _ _ _ _ _ (by decide)]; exact h.esc, by rw [cell_off _ _ _ _ _ (by decide)]; exact h.fault, fun o => by rw [World.frozen?_setCell]; exact h.free o, h.below.setCell (Nat.le_refl _) _⟩

theorem Line.setInq (h : Line w0 wr R len inq esc fault) (b : Bool) : Line w0 (wr.setCell ⟨R, 10, none⟩ (.bool b)) R len b esc fault :=
  ⟨by rw [cell_off _ _ _ _ _ (by decide)]; exact h.part, by rw [cell_off _ _ _ _ _ (by decide)]; exact h.ended, by rw [cell_off _ _ _ _ _ (by decide)]; exact h.unreadable, by rw [cell_off _ _ _ _ _ (by decide)]; exact h.len,
    World.cell?_setCell_same _ _ _ h.inq, by rw [cell_off _ _ _ _ _ (by decide)]; exact h.esc, by rw [cell_off _ _ _ _ _ (by decide)]; exact h.fault, fun o => by rw [World.frozen?_setCell]; exact h.free o, h.below.setCell (Nat.le_refl _) _⟩

theorem Line.setEsc (h : Line w0 wr R len inq esc fault) (n : Nat) {v : Int} (hv : v = n) : Line w0 (wr.setCell ⟨R, 11, none⟩ (.int .i64 v)) R len inq n fault := by
  subst hv
  exact ⟨by rw [cell_off _ _ _ _ _ (by decide)]; exact h.part, by rw [cell_off _ _ _ _ _ (by decide)]; exact h.ended, by rw [cell_off _ _ _ _ _ (by decide)]; exact h.unreadable, by rw [cell_off _ _ _ _ _ (by decide)]; exact h.len,
    by rw [cell_off _ _ _ _ _ (by decide)]; exact h.inq, World.cell?_setCell_same _ _ _ h.esc, by rw [cell_off _ _ _ _ _ (by decide)]; exact h.fault, fun o => by rw [World.frozen?_setCell]; exact h.free o, h.below.setCell (Nat.le_refl _) _⟩

theorem Line.setFault (h : Line w0 wr R len inq esc fault) (b : Bool) : Line w0 (wr.setCell ⟨R, 12, none⟩ (.bool b)) R len inq esc b :=
  ⟨by rw [cell_off _ _ _ _ _ (by decide)]; exact h.part, by rw [cell_off _ _ _ _ _ (by decide)]; exact h.ended, by rw [cell_off _ _ _ _ _ (by decide)]; exact h.unreadable, by rw [cell_off _ _ _ _ _ (by decide)]; exact h.len,
    by rw [cell_off _ _ _ _ _ (by decide)]; exact h.inq, by rw [cell_off _ _ _ _ _ (by decide)]; exact h.esc, World.cell?_setCell_same _ _ _ h.fault, fun o => by rw [World.frozen?_setCell]; exact h.free o, h.below.setCell (Nat.le_refl _) _⟩

end

/-- The length of a slice value: the loop's measure. -/
def lenOf : Value → Nat
  | .slice _ n _ => n
  | _ => 0

theorem elem22 : Trym.prog.elem 22 = 5 := by kernel_rfl
theorem sizeOf5 (w : World) : (sizeOf 5).run Trym.prog w = .ok 1 w := by kernel_rfl

/-- s[k:]: some slice that reads as what is left. -/
theorem slice_from {w0 : World} {a : Option Addr} {n c k : Nat} {xs : List Int} (h : Reads w0 a n xs) (hk : k ≤ n) (hc : n ≤ c) :
    ∃ a', (∀ w, (Instr.slice 22 (.slice a n c) (some (.int .i64 (k : Int))) none none).run Trym.prog w = .ok (.slice a' (n - k) (c - k)) w) ∧ Reads w0 a' (n - k) (xs.drop k) := by
  refine ⟨_, fun w => ?_, h.drop k c hk hc⟩
  rw [run_slice_l (P := Trym.prog) w 22 a n c (by rw [elem22]; exact Trym.underlying22) .i64 k (by omega) (by omega), elem22, sizeOf5]
  simp [Result.andThen, sliced]

end Go.Proofs.Qxb6601847aMods.Jp
