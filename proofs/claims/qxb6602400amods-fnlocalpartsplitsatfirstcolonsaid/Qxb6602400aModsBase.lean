/-
  Plain facts under this seat's two laws: what a slice of bytes reads as in a world, and how such a reading is carried on. No Go function is named here.
-/
import Derived.WalkKit
import Derived.WalkSpells
import Derived.WalkLawsBesides
import Derived.Lib.BytesEntry
import Derived.Deep.Draws
namespace Go.Proofs.Qxb6602400aMods.Lp
open Go.RowKit

theorem hid {p : Prop} (h : p) : Hid p := h

/-- THE SLICE OF n BYTES THAT BEGINS AT a READS AS THE NUMBERS xs IN w (where there is no byte nothing is asked of the address). -/
structure Reads (w : World) (a : Option Addr) (n : Nat) (xs : List Int) : Prop where
  len : xs.length = n
  rng : ∀ x ∈ xs, 0 ≤ x ∧ x < 256
  bytes : 0 < n → ∃ b o, a = some ⟨b, o, none⟩ ∧ ∀ i, i < n → w.cell? ⟨b, o + i, none⟩ = some (.int .u8 (xs.getD i 0))

theorem Reads.none (w : World) (a : Option Addr) : Reads w a 0 [] := ⟨rfl, (fun _ h => by cases h), fun h => absurd h (Nat.lt_irrefl _)⟩

/-- What was read is read in whatever world lies behind. -/
theorem Reads.later {w w' : World} {a : Option Addr} {n : Nat} {xs : List Int} (h : Reads w a n xs) (hb : Below w.heap.size w w') : Reads w' a n xs :=
  ⟨h.len, h.rng, fun hn => by
    obtain ⟨b, o, ha, hc⟩ := h.bytes hn
    exact ⟨b, o, ha, fun i hi => cell_later hb (hc i hi)⟩⟩

theorem getD_drop (xs : List Int) (k i : Nat) : (xs.drop k).getD i 0 = xs.getD (k + i) 0 := by
  simp [List.getD_eq_getElem?_getD, List.getElem?_drop]

theorem getD_take (xs : List Int) {k i : Nat} (h : i < k) : (xs.take k).getD i 0 = xs.getD i 0 := by
  simp [List.getD_eq_getElem?_getD, h]

/-- s[k:], the address as the model has it. -/
theorem Reads.drop {w : World} {a : Option Addr} {n : Nat} {xs : List Int} (h : Reads w a n xs) (k c : Nat) (hk : k ≤ n) (hc : n ≤ c) :
    Reads w (if c = k then a else a.map (·.add k)) (n - k) (xs.drop k) := by
  refine ⟨by rw [List.length_drop, h.len], fun x hx => h.rng x (List.mem_of_mem_drop hx), fun hn => ?_⟩
  obtain ⟨b, o, ha, hcell⟩ := h.bytes (by omega)
  subst ha
  rw [if_neg (by omega)]
  by_cases h0 : k = 0
  · subst h0
    exact ⟨b, o, rfl, fun i hi => by rw [getD_drop, Nat.zero_add]; exact hcell i (by omega)⟩
  · exact ⟨b, o + k, by simp [Addr.add, h0], fun i hi => by rw [getD_drop, Nat.add_assoc]; exact hcell (k + i) (by omega)⟩

/-- s[:k]. -/
theorem Reads.take {w : World} {a : Option Addr} {n : Nat} {xs : List Int} (h : Reads w a n xs) (k : Nat) (hk : k ≤ n) : Reads w a k (xs.take k) := by
  refine ⟨by rw [List.length_take, h.len]; omega, fun x hx => h.rng x (List.mem_of_mem_take hx), fun hn => ?_⟩
  obtain ⟨b, o, ha, hcell⟩ := h.bytes (by omega)
  exact ⟨b, o, ha, fun i hi => by rw [getD_take _ hi]; exact hcell i (by omega)⟩

/-- A row that the call owns reads as its numbers. -/
theorem Reads.own {w : World} {base g n cap : Nat} {xs : List Int} (h : w.ownsRow base 5 1 (.slice (some ⟨g, 0, Option.none⟩) n cap) n (xs.map (Value.int .u8))) (hr : ∀ x ∈ xs, 0 ≤ x ∧ x < 256) :
    Reads w (some ⟨g, 0, Option.none⟩) n xs := by
  have hl : xs.length = n := by simpa using h.1
  refine ⟨hl, hr, fun _ => ⟨g, 0, rfl, fun i hi => ?_⟩⟩
  rw [Nat.zero_add, h.cellAt i (by omega), List.getElem?_map, List.getD_eq_getElem?_getD, List.getElem?_eq_getElem (by omega)]
  rfl

theorem Reads.cellsOf {w : World} {b o n : Nat} {xs : List Int} (h : Reads w (some ⟨b, o, Option.none⟩) n xs) : ∀ i, i < n → w.cell? ⟨b, o + i, Option.none⟩ = some (.int .u8 (xs.getD i 0)) := by
  intro i hi
  obtain ⟨b', o', e, hc⟩ := h.bytes (by omega)
  cases e
  exact hc i hi

theorem Reads.drewN {w : World} {a : Option Addr} {n : Nat} {xs : List Int} (h : Reads w a n xs) (q : Nat) : Reads (w.drewN q) a n xs := ⟨h.len, h.rng, h.bytes⟩

theorem below_drewN {B : Nat} {w w' : World} (h : Below B w w') (q : Nat) : Below B w (w'.drewN q) := ⟨h.os, h.tape, h.output, h.size, h.block⟩

theorem rng_of_wf {x : Int} (h : (Lit.int .u8 x).wf = true) : 0 ≤ x ∧ x < 256 := by
  simp [Lit.wf] at h
  have e1 : IntKind.u8.min = 0 := rfl
  have e2 : IntKind.u8.max = 255 := rfl
  omega

end Go.Proofs.Qxb6602400aMods.Lp
