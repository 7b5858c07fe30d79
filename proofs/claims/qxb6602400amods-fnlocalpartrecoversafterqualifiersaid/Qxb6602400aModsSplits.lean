/-
  The ways of the law FnLocalPartSplitsAtFirstColon.
-/
import Derived.Test.Qxb6602400aModsLocal
namespace Go.Proofs.Qxb6602400aMods.Lp
open Go.RowKit

set_option maxHeartbeats 400000 in
theorem splits_long (a : Option Addr) (n c : Nat) (w : World) (hn : n ≤ maxLen) (_hd : decide (n ≤ 1048576) = false) :
    Calls Trym.prog 8 #[.slice a n c] w fun e w' => e = .returned (.bool true) ∧ Below w.heap.size w w' := by
  go_enter Trym.func8, Trym.ntmps8
  go_wp2_with (go_at_call 20; refine (bytes_any _ _ _ _ hn).mono ?_; rintro e w' ⟨rfl, rfl⟩)
  go_ret
  exact ⟨rfl, Below.refl _ _⟩

set_option maxHeartbeats 400000 in
theorem splits_nil (w : World) :
    Calls Trym.prog 8 #[.slice none 0 0] w fun e w' => e = .returned (.bool true) ∧ Below w.heap.size w w' := by
  go_enter Trym.func8, Trym.ntmps8
  go_wp2_with (first
    | (go_at_call 20; refine (bytes_any _ _ _ _ (by unfold maxLen; omega)).mono ?_; rintro e w' ⟨rfl, rfl⟩)
    | (go_at_call 11; refine (clone_nil _).mono ?_; rintro e w' ⟨rfl, rfl⟩)
    | (go_at_call 21; refine (zz_nil _).mono ?_; rintro e w' ⟨rfl, rfl⟩)
    | (go_at_call 22; refine (equal_none _ _ _ _ _).mono ?_; rintro e w' ⟨rfl, rfl⟩))
  go_ret
  exact ⟨rfl, Below.refl _ _⟩

set_option maxHeartbeats 400000 in
/-- The answer is the whole name. -/
theorem splits_keep (x : Addr) (n c : Nat) (xs : List Int) (w : World) (h : Reads w (some x) n xs) (hn : n ≤ 1048576) (_hd : decide (n ≤ 1048576) = true) (hk : Lib.indexByte (Lib.bytesOf xs) 58 ≤ 0)
    (hcase : n = 0 ∨ 0 < n ∧ xs.getD 0 0 = 58 ∨ 0 < n ∧ xs.getD 0 0 ≠ 58 ∧ hasColon xs = false) :
    Calls Trym.prog 8 #[.slice (some x) n c] w fun e w' => e = .returned (.bool true) ∧ Below w.heap.size w w' := by
  have HC := hid (clone_any x n c xs w h hn)
  have HK := hid hk
  have hm : n ≤ maxLen := by unfold maxLen; omega
  have HR := hid h
  clear hk h
  go_enter Trym.func8, Trym.ntmps8
  go_wp2_with (first | (go_at_call 20; refine (bytes_any _ _ _ _ hm).mono ?_; rintro e w' ⟨rfl, hw⟩; replace hw := hw.symm; subst hw) | fail)
  refine HC.out.mono ?_
  rintro e w1 ⟨rfl, hown, hb⟩
  have r1 := Reads.own hown HR.out.rng
  have HB := hid hb
  have HR1 := hid r1
  have HZ := hid (zz_keep w.heap.size 0 n n xs w1 r1.len r1.cellsOf HK.out)
  clear hown hb r1
  go_wp2_with fail
  refine HZ.out.mono ?_
  rintro e w2 ⟨rfl, hw⟩
  replace hw := hw.symm
  subst hw
  have he : (xs == xs) = true := by simp
  rcases hcase with hz | ⟨h0, h58⟩ | ⟨h0, h58, hnc⟩
  · have hn0 : ((n : Int) == 0) = true := by rw [beq_iff_eq]; omega
    have HZ0 := hid hz
    clear hz
    go_wp2_with (go_at_call 22; refine (equal_any _ _ _ _ _ _ xs xs _ HR1.out HR1.out hm).mono ?_; rintro e w2 ⟨rfl, q, rfl⟩)
    go_ret
    exact ⟨rfl, below_drewN HB.out _⟩
  · have hn0 : ((n : Int) == 0) = false := by rw [beq_eq_false_iff_ne]; omega
    have hn1 : (0 : Int) < (n : Int) := by omega
    have hcell : w1.cell? ⟨w.heap.size, 0, none⟩ = some (.int .u8 58) := by rw [← h58]; exact HR1.out.cellsOf 0 h0
    clear h58
    go_wp2_with (go_at_call 22; refine (equal_any _ _ _ _ _ _ xs xs _ HR1.out HR1.out hm).mono ?_; rintro e w2 ⟨rfl, q, rfl⟩)
    go_ret
    exact ⟨rfl, below_drewN HB.out _⟩
  · have hn0 : ((n : Int) == 0) = false := by rw [beq_eq_false_iff_ne]; omega
    have hn1 : (0 : Int) < (n : Int) := by omega
    obtain ⟨x0, hx0⟩ : ∃ x0, xs.getD 0 0 = x0 := ⟨_, rfl⟩
    rw [hx0] at h58
    have hx58 : (x0 == 58) = false := by rw [beq_eq_false_iff_ne]; exact h58
    have hcell : w1.cell? ⟨w.heap.size, 0, none⟩ = some (.int .u8 x0) := by rw [← hx0]; exact HR1.out.cellsOf 0 h0
    clear h58 hx0
    go_wp2_with (first
      | (go_at_call 22; refine (equal_any _ _ _ _ _ _ xs xs _ HR1.out HR1.out hm).mono ?_; rintro e w2 ⟨rfl, q, rfl⟩)
      | (go_at_call 23; refine (colon_any _ _ _ xs _ (HR1.out.drewN _) hm).mono ?_; rintro e w2 ⟨rfl, rfl⟩))
    go_ret
    exact ⟨rfl, below_drewN HB.out _⟩

set_option maxHeartbeats 400000 in
/-- The answer is what stands after the first colon. -/
theorem splits_cut (x : Addr) (m c j : Nat) (xs : List Int) (w : World) (h : Reads w (some x) (j + 1 + m) xs) (hn : j + 1 + m ≤ 1048576) (_hd : decide (j + 1 + m ≤ 1048576) = true) (hk : Lib.indexByte (Lib.bytesOf xs) 58 = j)
    (h0 : 0 < j) (hm0 : 0 < m) (h58 : xs.getD j 0 = 58) (hnc : hasColon (xs.take j) = false) :
    Calls Trym.prog 8 #[.slice (some x) (j + 1 + m) c] w fun e w' => e = .returned (.bool true) ∧ Below w.heap.size w w' := by
  have HC := hid (clone_any x (j + 1 + m) c xs w h hn)
  have HK := hid hk
  have hm : j + 1 + m ≤ maxLen := by unfold maxLen; omega
  have hmj : m ≤ maxLen := by unfold maxLen; omega
  have hjm : j ≤ maxLen := by unfold maxLen; omega
  have HR := hid h
  clear hk h
  go_enter Trym.func8, Trym.ntmps8
  go_wp2_with (first | (go_at_call 20; refine (bytes_any _ _ _ _ hm).mono ?_; rintro e w' ⟨rfl, hw⟩; replace hw := hw.symm; subst hw) | fail)
  refine HC.out.mono ?_
  rintro e w1 ⟨rfl, hown, hb⟩
  have r1 := Reads.own hown HR.out.rng
  have HB := hid hb
  have HR1 := hid r1
  have hz := zz_cut w.heap.size 0 (j + 1 + m) (j + 1 + m) j xs w1 r1 r1.cellsOf HK.out h0 (by omega) (by omega) (Nat.le_refl _)
  rw [show j + 1 + m - (j + 1) = m from by omega] at hz
  have HZ := hid hz
  clear hown hb r1 hz
  go_wp2_with fail
  refine HZ.out.mono ?_
  rintro e w2 ⟨⟨a', c', rfl, hr'⟩, hw⟩
  replace hw := hw.symm
  subst hw
  have HR2 := hid hr'
  clear hr'
  have he : (xs.drop (j + 1) == xs.drop (j + 1)) = true := by simp
  have hcell : w1.cell? ⟨w.heap.size, j, none⟩ = some (.int .u8 58) := by have := HR1.out.cellsOf j (by omega); rwa [h58, Nat.zero_add] at this
  have hr3 := HR1.out.drop (j + 1) (j + 1 + m) (by omega) (Nat.le_refl _)
  rw [if_neg (by omega), show j + 1 + m - (j + 1) = m from by omega] at hr3
  have HR3 : Hid (Reads w1 (some ⟨w.heap.size, j + 1, none⟩) m (xs.drop (j + 1))) := hid (by simpa [Addr.add] using hr3)
  clear h58 hr3
  go_wp2_with (first
    | (go_at_call 22; refine (equal_any _ _ _ _ _ _ (xs.drop (j + 1)) (xs.drop (j + 1)) _ HR2.out HR3.out hmj).mono ?_; rintro e w2 ⟨rfl, q, rfl⟩)
    | (go_at_call 23; refine (colon_any _ _ _ (xs.take j) _ ((HR1.out.take j (by omega)).drewN _) hjm).mono ?_; rintro e w2 ⟨rfl, rfl⟩))
  go_ret
  exact ⟨rfl, below_drewN HB.out _⟩

set_option maxHeartbeats 400000 in
/-- Nothing stands after the first colon. -/
theorem splits_last (x : Addr) (c j : Nat) (xs : List Int) (w : World) (h : Reads w (some x) (1 + j) xs) (hn : 1 + j ≤ 1048576) (_hd : decide (1 + j ≤ 1048576) = true) (hk : Lib.indexByte (Lib.bytesOf xs) 58 = j)
    (h0 : 0 < j) (h58 : xs.getD j 0 = 58) (hnc : hasColon (xs.take j) = false) :
    Calls Trym.prog 8 #[.slice (some x) (1 + j) c] w fun e w' => e = .returned (.bool true) ∧ Below w.heap.size w w' := by
  have HC := hid (clone_any x (1 + j) c xs w h hn)
  have HK := hid hk
  have hm : 1 + j ≤ maxLen := by unfold maxLen; omega
  have hjm : j ≤ maxLen := by unfold maxLen; omega
  have HR := hid h
  clear hk h
  go_enter Trym.func8, Trym.ntmps8
  go_wp2_with (first | (go_at_call 20; refine (bytes_any _ _ _ _ hm).mono ?_; rintro e w' ⟨rfl, hw⟩; replace hw := hw.symm; subst hw) | fail)
  refine HC.out.mono ?_
  rintro e w1 ⟨rfl, hown, hb⟩
  have r1 := Reads.own hown HR.out.rng
  have HB := hid hb
  have HR1 := hid r1
  have hz := zz_cut w.heap.size 0 (1 + j) (1 + j) j xs w1 r1 r1.cellsOf HK.out h0 (by omega) (by omega) (Nat.le_refl _)
  rw [show 1 + j - (j + 1) = 0 from by omega] at hz
  have HZ := hid hz
  clear hown hb r1 hz
  go_wp2_with fail
  refine HZ.out.mono ?_
  rintro e w2 ⟨⟨a', c', rfl, hr'⟩, hw⟩
  replace hw := hw.symm
  subst hw
  clear hr'
  have hcell : w1.cell? ⟨w.heap.size, j, none⟩ = some (.int .u8 58) := by have := HR1.out.cellsOf j (by omega); rwa [h58, Nat.zero_add] at this
  clear h58
  go_wp2_with (first
    | (go_at_call 22; refine (equal_none _ _ _ _ _).mono ?_; rintro e w2 ⟨rfl, hw⟩; replace hw := hw.symm; subst hw)
    | (go_at_call 23; refine (colon_any _ _ _ (xs.take j) _ (HR1.out.take j (by omega)) hjm).mono ?_; rintro e w2 ⟨rfl, rfl⟩))
  go_ret
  exact ⟨rfl, HB.out⟩

/-- What came in reads as its elements. -/
theorem Reads.ofRow {w : World} {x : Addr} {len cap : Nat} {zs : List Int} (hl : len ≤ cap) (hz : zs.length = cap) (hcell : ∀ i, i < zs.length → w.cell? (x.add i) = some (.int .u8 (zs.getD i 0)))
    (hwz : ∀ n ∈ zs, (Lit.int .u8 n).wf = true) : Reads w (some x) len (zs.take len) := by
  refine ⟨by rw [List.length_take]; omega, fun y hy => rng_of_wf (hwz y (List.mem_of_mem_take hy)), fun h0 => ?_⟩
  obtain ⟨b, o, spot⟩ := x
  have hspot : spot = Option.none := by simpa [Addr.add] using World.cell?_spot (hcell 0 (by omega))
  subst hspot
  refine ⟨b, o, rfl, fun i hi => ?_⟩
  rw [getD_take _ hi, ← hcell i (by omega)]
  by_cases e : i = 0
  · subst e; rfl
  · simp [Addr.add, e]

/-- THE LAW, every slice. -/
theorem splits_all (x : Addr) (n c : Nat) (xs : List Int) (w : World) (h : Reads w (some x) n xs) (hn : n ≤ maxLen) :
    Calls Trym.prog 8 #[.slice (some x) n c] w fun e w' => e = .returned (.bool true) ∧ Below w.heap.size w w' := by
  by_cases hl : n ≤ 1048576
  · have hd : decide (n ≤ 1048576) = true := decide_eq_true hl
    rcases index_says xs h.rng with ⟨h1, h2⟩ | ⟨j, h1, h2, h3, h4⟩
    · refine splits_keep x n c xs w h hl hd (by omega) ?_
      rcases Nat.eq_zero_or_pos n with h0 | h0
      · exact .inl h0
      · by_cases h58 : xs.getD 0 0 = 58
        · exact .inr (.inl ⟨h0, h58⟩)
        · exact .inr (.inr ⟨h0, h58, h2⟩)
    · rw [h.len] at h2
      rcases Nat.eq_zero_or_pos j with h0 | h0
      · subst h0
        exact splits_keep x n c xs w h hl hd (by omega) (.inr (.inl ⟨h2, h3⟩))
      · by_cases hm0 : j + 1 < n
        · obtain ⟨m, rfl⟩ : ∃ m, n = j + 1 + m := ⟨n - (j + 1), by omega⟩
          exact splits_cut x m c j xs w h hl hd h1 h0 (by omega) h3 h4
        · obtain rfl : n = 1 + j := by omega
          exact splits_last x c j xs w h hl hd h1 h0 h3 h4
  · exact splits_long (some x) n c w hn (decide_eq_false hl)

end Go.Proofs.Qxb6602400aMods.Lp
