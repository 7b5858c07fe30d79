/-
  The ways of the law FnLocalPartRecoversAfterQualifier.
-/
import Derived.Test.Qxb6602400aModsSplits
import Derived.Laws.AppendOwnNone
namespace Go.Proofs.Qxb6602400aMods.Lp
open Go.RowKit

set_option maxHeartbeats 400000 in
theorem recovers_long (a : Option Addr) (n c : Nat) (a' : Option Addr) (n' c' : Nat) (w : World) (hn : n ≤ maxLen) (hn' : n' ≤ maxLen) (_hd : decide (n + n' ≤ 1048576) = false) :
    Calls Trym.prog 9 #[.slice a n c, .slice a' n' c'] w fun e w' => e = .returned (.bool true) ∧ Below w.heap.size w w' := by
  go_enter Trym.func9, Trym.ntmps9
  go_wp2_with (go_at_call 24; refine (bytes2_any _ _ _ _ _ _ _ hn hn').mono ?_; rintro e w' ⟨rfl, rfl⟩)
  go_ret
  exact ⟨rfl, Below.refl _ _⟩

set_option maxHeartbeats 400000 in
theorem recovers_colon (a : Option Addr) (n c : Nat) (a' : Option Addr) (n' c' : Nat) (xs : List Int) (w : World) (h : Reads w a n xs) (hn : n ≤ maxLen) (hn' : n' ≤ maxLen) (hs : n + n' ≤ 1048576) (_hd : decide (n + n' ≤ 1048576) = true) (_hc : hasColon xs = true) :
    Calls Trym.prog 9 #[.slice a n c, .slice a' n' c'] w fun e w' => e = .returned (.bool true) ∧ Below w.heap.size w w' := by
  have HR := hid h
  clear h
  go_enter Trym.func9, Trym.ntmps9
  go_wp2_with (first
    | (go_at_call 24; refine (bytes2_any _ _ _ _ _ _ _ hn hn').mono ?_; rintro e w' ⟨rfl, hw⟩; replace hw := hw.symm; subst hw)
    | (go_at_call 23; refine (colon_any _ _ _ xs _ HR.out hn).mono ?_; rintro e w' ⟨rfl, rfl⟩))
  go_ret
  exact ⟨rfl, Below.refl _ _⟩

/-- WHAT CAME IN: nil, or a slice that reads as xs. -/
def Came (w : World) (a : Option Addr) (n c : Nat) (xs : List Int) : Prop := (a = none ∧ n = 0 ∧ c = 0 ∧ xs = []) ∨ ∃ x, a = some x ∧ Reads w (some x) n xs

theorem Came.reads {w : World} {a : Option Addr} {n c : Nat} {xs : List Int} (h : Came w a n c xs) : Reads w a n xs := by
  rcases h with ⟨rfl, rfl, rfl, rfl⟩ | ⟨x, rfl, h⟩
  · exact Reads.none w none
  · exact h

theorem Came.later {w w' : World} {a : Option Addr} {n c : Nat} {xs : List Int} (h : Came w a n c xs) (hb : Below w.heap.size w w') : Came w' a n c xs := by
  rcases h with h | ⟨x, rfl, h⟩
  · exact .inl h
  · exact .inr ⟨x, rfl, h.later hb⟩

/-- What zzClone hands back: a slice that reads as xs. -/
def Cloned (w w1 : World) (n : Nat) (xs : List Int) (e : Ending) : Prop :=
  ∃ a1 c1, e = .returned (.slice a1 n c1) ∧ Reads w1 a1 n xs ∧ (a1 = none → n = 0 ∧ c1 = 0) ∧ Below w.heap.size w w1

theorem clone_all {a : Option Addr} {n c : Nat} {xs : List Int} {w : World} (h : Came w a n c xs) (hn : n ≤ 1048576) :
    Calls Trym.prog 11 #[.slice a n c] w fun e w' => Cloned w w' n xs e := by
  rcases h with ⟨rfl, rfl, rfl, rfl⟩ | ⟨x, rfl, h⟩
  · refine (clone_nil w).mono ?_
    rintro e w' ⟨rfl, rfl⟩
    exact ⟨none, 0, rfl, Reads.none _ _, fun _ => ⟨rfl, rfl⟩, Below.refl _ _⟩
  · refine (clone_any x n c xs w h hn).mono ?_
    rintro e w' ⟨rfl, hown, hb⟩
    exact ⟨_, _, rfl, Reads.own hown h.rng, (fun h => by cases h), hb⟩

/-- The cells that an append reads. -/
theorem Reads.news {w : World} {a : Option Addr} {n : Nat} {xs : List Int} (h : Reads w a n xs) : ∀ ad, a = some ad → ∀ j u, (xs.map (Value.int .u8))[j]? = some u → w.cell? (ad.add j) = some u := by
  intro ad had j u hu
  have hj : j < n := by
    have := (List.getElem?_eq_some_iff.1 hu).1
    simpa [h.len] using this
  obtain ⟨b, o, e, hc⟩ := h.bytes (by omega)
  rw [e] at had
  obtain rfl := Option.some.inj had
  rw [Addr.add_lit, hc j hj]
  rw [List.getElem?_map, List.getElem?_eq_getElem (by rw [h.len]; exact hj)] at hu
  rw [List.getD_eq_getElem?_getD, List.getElem?_eq_getElem (by rw [h.len]; exact hj)]
  exact hu

theorem index_behind : ∀ (xs ys : List Int), (∀ x ∈ xs, 0 ≤ x ∧ x < 256) → hasColon xs = false → Lib.indexByte (Lib.bytesOf (xs ++ 58 :: ys)) 58 = xs.length
  | [], ys, _, _ => rfl
  | x :: xs, ys, h, hc => by
    rw [hasColon_cons, Bool.or_eq_false_iff] at hc
    have ih := index_behind xs ys (fun y hy => h y (List.mem_cons_of_mem _ hy)) hc.2
    show Lib.indexByte (x.toNat.toUInt8 :: Lib.bytesOf (xs ++ 58 :: ys)) 58 = _
    rw [Lib.indexByte, byte_colon (h x (List.mem_cons_self ..)), hc.1, ih]
    have : ((xs.length : Int) == -1) = false := by rw [beq_eq_false_iff_ne]; omega
    rw [this]
    simp

theorem rng_behind {xs ys : List Int} (h : ∀ x ∈ xs, 0 ≤ x ∧ x < 256) (h' : ∀ x ∈ ys, 0 ≤ x ∧ x < 256) : ∀ x ∈ xs ++ 58 :: ys, 0 ≤ x ∧ x < 256 := by
  intro x hx
  rcases List.mem_append.1 hx with hx | hx
  · exact h x hx
  · rcases List.mem_cons.1 hx with rfl | hx
    · decide
    · exact h' x hx

set_option maxHeartbeats 1000000 in
theorem recovers_main (a : Option Addr) (n c : Nat) (a' : Option Addr) (n' c' : Nat) (xs ys : List Int) (w : World) (h : Came w a n c xs) (h' : Came w a' n' c' ys) (hs : n + n' ≤ 1048576) (_hd : decide (n + n' ≤ 1048576) = true) (_hc : hasColon xs = false) :
    Calls Trym.prog 9 #[.slice a n c, .slice a' n' c'] w fun e w' => e = .returned (.bool true) ∧ Below w.heap.size w w' := by
  have hn : n ≤ maxLen := by unfold maxLen; omega
  have hn' : n' ≤ maxLen := by unfold maxLen; omega
  have hb1 : n ≤ 1048576 := by omega
  have hb2 : n' ≤ 1048576 := by omega
  have HH := hid h
  have HH' := hid h'
  clear h h'
  obtain ⟨i0, hi, hz0, hz1, hz2⟩ := info_parts info5
  go_enter Trym.func9, Trym.ntmps9
  go_wp2_with (first
    | (go_at_call 24; refine (bytes2_any _ _ _ _ _ _ _ hn hn').mono ?_; rintro e w' ⟨rfl, hw⟩; replace hw := hw.symm; subst hw)
    | (go_at_call 23; refine (colon_any _ _ _ xs _ HH.out.reads hn).mono ?_; rintro e w' ⟨rfl, hw⟩; replace hw := hw.symm; subst hw)
    | fail)
  refine (clone_all HH.out hb1).mono ?_
  rintro e w1 ⟨a1, c1, rfl, r1, hnil1, below1⟩
  have R1 := hid r1
  have N1 := hid hnil1
  have B1 := hid below1
  clear r1 hnil1 below1
  go_wp2_with fail
  refine (clone_all (HH'.out.later B1.out) hb2).mono ?_
  rintro e w2 ⟨a2, c2, rfl, r2, hnil2, below2⟩
  have R2 := hid r2
  have N2 := hid hnil2
  have B2 := hid (B1.out.trans (below2.mono B1.out.size))
  have R1' := hid (R1.out.later below2)
  have L1 := hid (show (xs.map (Value.int .u8)).length = n * 1 by rw [List.length_map, R1.out.len, Nat.mul_one])
  have L2 := hid (show (ys.map (Value.int .u8)).length = n' * 1 by rw [List.length_map, R2.out.len, Nat.mul_one])
  clear r2 hnil2 below2
  go_wp2_with (first
    | (at_make; refine wpList_make_own _ rfl _ _ 22 rfl w2.heap.size 5 i0 (.int .u8 0) 1 Trym.underlying22 hi hz0 hz1 .i64 .i64 _ (n + 1 + n') rfl rfl (by omega) (by rw [hz2]; omega) (by unfold maxLen; omega) (Nat.le_refl _) ?_; intro w3 hown3 hgrow3; have O3 := hid hown3; have B3 := hid ((Below.refl w2.heap.size w2).grown hgrow3 (Nat.le_refl _) (fun k hk => by cases hk)); clear hown3 hgrow3)
    | (at_builtin; refine wpList_append_fits_any _ rfl (.tmp 40) (.tmp 41) 22 rfl w2.heap.size 5 i0 1 Trym.underlying22 hi hz1 w2.heap.size 0 (n + 1 + n') [] rfl O3.out a1 n c1 (xs.map (Value.int .u8)) rfl L1.out N1.out (R1'.out.later B3.out).news (ints_oneCell _ _) (by omega) ?_; intro w4 hown4 hgrow4; simp only [Nat.zero_add, List.nil_append] at hown4; have O4 := hid hown4; have B4 := hid (B3.out.grown hgrow4 B3.out.size (fun k hk => by cases hk; exact Nat.le_refl _)); clear hown4 hgrow4)
    | (at_builtin; refine wpList_append_fits _ rfl (.tmp 43) (.tmp 44) 22 rfl w2.heap.size 5 i0 1 Trym.underlying22 hi hz1 w2.heap.size n (n + 1 + n') (xs.map (Value.int .u8)) rfl (O4.out.alloc _) ⟨w4.heap.size, 0, none⟩ 1 1 [.int .u8 58] rfl rfl (cell_one_new _ _ _) (ints_oneCell .u8 [58]) (by omega) ?_; intro w5 hown5 hgrow5; have O5 := hid hown5; have B5 := hid ((B4.out.alloc B4.out.size _).grown hgrow5 (Nat.le_trans B4.out.size (by simp)) (fun k hk => by cases hk; exact Nat.le_refl _)); clear hown5 hgrow5)
    | (at_builtin; refine wpList_append_fits_any _ rfl (.tmp 46) (.tmp 47) 22 rfl w2.heap.size 5 i0 1 Trym.underlying22 hi hz1 w2.heap.size (n + 1) (n + 1 + n') (xs.map (Value.int .u8) ++ [.int .u8 58]) rfl O5.out a2 n' c2 (ys.map (Value.int .u8)) rfl L2.out N2.out (R2.out.later B5.out).news (ints_oneCell _ _) (by omega) ?_; intro w6 hown6 hgrow6; have O6 := hid hown6; have B6 := hid (B5.out.grown hgrow6 B5.out.size (fun k hk => by cases hk; exact Nat.le_refl _)); clear hown6 hgrow6)
    | fail)
  have hown : w6.ownsRow w2.heap.size 5 1 (.slice (some ⟨w2.heap.size, 0, none⟩) (n + 1 + n') (n + 1 + n')) (n + 1 + n') ((xs ++ 58 :: ys).map (Value.int .u8)) := by
    have := O6.out
    simpa using this
  have r6 := Reads.own hown (rng_behind R1.out.rng R2.out.rng)
  have hix := index_behind xs ys R1.out.rng _hc
  have R6 := hid r6
  have BW := hid (B2.out.trans (B6.out.mono B2.out.size))
  rcases Nat.eq_zero_or_pos n with h0 | h0
  · have hz := zz_keep w2.heap.size 0 (n + 1 + n') (n + 1 + n') (xs ++ 58 :: ys) w6 r6.len r6.cellsOf (by rw [hix, R1.out.len]; omega)
    have HZ := hid hz
    have hn0 : ((n : Int) == 0) = true := by rw [beq_iff_eq]; omega
    have he : (xs ++ 58 :: ys == xs ++ 58 :: ys) = true := by simp
    have hm : n + 1 + n' ≤ maxLen := by unfold maxLen; omega
    clear hown r6 hix hz h0
    refine HZ.out.mono ?_
    rintro e w7 ⟨rfl, hw⟩
    replace hw := hw.symm
    subst hw
    go_wp2_with (go_at_call 22; refine (equal_any _ _ _ _ _ _ (xs ++ 58 :: ys) (xs ++ 58 :: ys) _ R6.out R6.out hm).mono ?_; rintro e w7 ⟨rfl, q, rfl⟩)
    go_ret
    exact ⟨he ▸ rfl, below_drewN BW.out _⟩
  · have hz := zz_cut w2.heap.size 0 (n + 1 + n') (n + 1 + n') n (xs ++ 58 :: ys) w6 r6 r6.cellsOf (by rw [hix, R1.out.len]) h0 (by omega) (by omega) (Nat.le_refl _)
    rw [show n + 1 + n' - (n + 1) = n' from by omega, show (xs ++ 58 :: ys).drop (n + 1) = ys from by rw [List.drop_append, List.drop_eq_nil_of_le (by rw [R1.out.len]; omega), R1.out.len]; simp] at hz
    have HZ := hid hz
    have hn0 : ((n : Int) == 0) = false := by rw [beq_eq_false_iff_ne]; omega
    have he : (ys == ys) = true := by simp
    clear hown r6 hix hz
    refine HZ.out.mono ?_
    rintro e w7 ⟨⟨a7, c7, rfl, r7⟩, hw⟩
    replace hw := hw.symm
    subst hw
    have R7 := hid r7
    clear r7
    go_wp2_with (go_at_call 22; refine (equal_any _ _ _ _ _ _ ys ys _ R7.out (R2.out.later B6.out) hn').mono ?_; rintro e w7 ⟨rfl, q, rfl⟩)
    go_ret
    exact ⟨he ▸ rfl, below_drewN BW.out _⟩

/-- THE LAW, every two slices. -/
theorem recovers_all (a : Option Addr) (n c : Nat) (a' : Option Addr) (n' c' : Nat) (xs ys : List Int) (w : World) (h : Came w a n c xs) (h' : Came w a' n' c' ys) (hn : n ≤ maxLen) (hn' : n' ≤ maxLen) :
    Calls Trym.prog 9 #[.slice a n c, .slice a' n' c'] w fun e w' => e = .returned (.bool true) ∧ Below w.heap.size w w' := by
  by_cases hs : n + n' ≤ 1048576
  · cases hc : hasColon xs with
    | true => exact recovers_colon a n c a' n' c' xs w h.reads hn hn' hs (decide_eq_true hs) hc
    | false => exact recovers_main a n c a' n' c' xs ys w h h' hs (decide_eq_true hs) hc
  · exact recovers_long a n c a' n' c' w hn hn' (decide_eq_false hs)

end Go.Proofs.Qxb6602400aMods.Lp
