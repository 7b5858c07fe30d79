/-
  The ways of the law FnJSONReaderValueTakesAppendedString.
-/
import Derived.Test.Qxb6601173aModsValue
namespace Go.Proofs.Qxb6601173aMods.Js
open Go.RowKit

theorem hexd_rng (n : Int) (h : 0 ≤ n ∧ n < 16) : 0 ≤ hexd n ∧ hexd n < 256 := by
  unfold hexd
  split <;> omega

theorem escB_rng {c : Int} (hc : 0 ≤ c ∧ c < 256) : ∀ x ∈ escB c, 0 ≤ x ∧ x < 256 := by
  have e1 := hexd_rng (c / 16) (by omega)
  have e2 := hexd_rng (c % 16) (by omega)
  unfold escB
  repeat (first | (split; · simp; try omega) | (simp; try omega))

theorem esc_rng {l : List Int} (h : ∀ c ∈ l, 0 ≤ c ∧ c < 256) : ∀ x ∈ esc l, 0 ≤ x ∧ x < 256 := by
  intro x hx
  obtain ⟨c, hc, hx'⟩ := List.mem_flatMap.1 hx
  exact escB_rng (h c hc) x hx'

/-- The row that is written: what lay there, and one string. -/
def whole (xs : List Int) (s : ByteArray) : List Int := xs ++ 34 :: esc (nums s) ++ [34]

theorem whole_rng {xs : List Int} {s : ByteArray} (h : ∀ c ∈ xs, 0 ≤ c ∧ c < 256) : ∀ x ∈ whole xs s, 0 ≤ x ∧ x < 256 := by
  intro x hx
  simp only [whole, List.mem_append, List.mem_cons, List.not_mem_nil, or_false] at hx
  rcases hx with (hx | hx | hx) | hx
  · exact h x hx
  · omega
  · exact esc_rng (nums_rng s) x hx
  · omega

theorem whole_len (xs : List Int) (s : ByteArray) : (whole xs s).length = xs.length + (esc (nums s)).length + 2 := by
  simp [whole]
  omega

theorem whole_at (xs : List Int) (s : ByteArray) : (whole xs s).getD xs.length 0 = 34 := by
  rw [whole, List.append_assoc, List.getD_eq_getElem?_getD, List.getElem?_append_right (Nat.le_refl _)]
  simp

theorem whole_scan (xs : List Int) (s : ByteArray) : scan ((whole xs s).drop (xs.length + 1)) = some (esc (nums s)).length := by
  have e : (whole xs s).drop (xs.length + 1) = esc (nums s) ++ 34 :: [] := by
    rw [whole, List.append_assoc, ← List.drop_drop, List.drop_left]
    rfl
  rw [e]
  exact scan_esc _ _ (nums_rng s)

set_option maxHeartbeats 400000 in
theorem zzappend_any (v : Value) (pre : List Int) (s : ByteArray) (w : World) (B : Nat) (h : w.ownsRow B 5 1 v pre.length (pre.map (Value.int .u8))) (hB : B ≤ w.heap.size) (hp : pre.length ≤ 1048576) (hs : s.size ≤ 1048576) :
    Calls Trym.prog 11 #[v, .string s] w fun e w' => Wrote w w' B (whole pre s) e := by
  have CA := hid (append_any v pre s w B h hB hp hs)
  clear h
  go_enter Trym.func11, Trym.ntmps11
  go_wp2_with fail
  refine CA.out.mono ?_
  rintro e w1 ⟨v1, rfl, hO⟩
  have HO := hid hO
  clear hO
  go_wp2_with fail
  go_ret
  exact ⟨_, rfl, HO.out⟩

set_option maxHeartbeats 400000 in
theorem law_long (a : Option Addr) (n c : Nat) (s : ByteArray) (w : World) (hn : n ≤ maxLen) (hs : s.size ≤ maxLen) (_hd : decide (n + s.size ≤ 1048576) = false) :
    Calls Trym.prog 6 #[.slice a n c, .string s] w fun e w' => e = .returned (.bool true) ∧ Below w.heap.size w w' := by
  go_enter Trym.func6, Trym.ntmps6
  go_wp2_with (go_at_call 18; refine (bytes_any _ _ _ _ _ hn hs).mono ?_; rintro e w' ⟨rfl, rfl⟩)
  go_ret
  exact ⟨rfl, Below.refl _ _⟩

set_option maxHeartbeats 400000 in
theorem law_mid (a : Option Addr) (n c : Nat) (s : ByteArray) (w : World) (hn : n ≤ maxLen) (hs : s.size ≤ maxLen) (_hd : decide (n + s.size ≤ 1048576) = true) (h : 524288 < n ∨ n ≤ 524288 ∧ 524288 < s.size) :
    Calls Trym.prog 6 #[.slice a n c, .string s] w fun e w' => e = .returned (.bool true) ∧ Below w.heap.size w w' := by
  rcases h with h | ⟨h, h'⟩
  all_goals
    go_enter Trym.func6, Trym.ntmps6
    go_wp2_with (go_at_call 18; refine (bytes_any _ _ _ _ _ hn hs).mono ?_; rintro e w' ⟨rfl, rfl⟩)
    go_ret
    exact ⟨rfl, Below.refl _ _⟩

set_option maxHeartbeats 1000000 in
theorem law_main (a : Option Addr) (n c : Nat) (xs : List Int) (s : ByteArray) (w : World) (h : Came w a n c xs) (_hd : decide (n + s.size ≤ 1048576) = true) (hn : n ≤ 524288) (hs : s.size ≤ 524288) :
    Calls Trym.prog 6 #[.slice a n c, .string s] w fun e w' => e = .returned (.bool true) ∧ Below w.heap.size w w' := by
  have hn1 : n ≤ maxLen := by unfold maxLen; omega
  have hs1 : s.size ≤ maxLen := by unfold maxLen; omega
  have HC := hid (clone_all h (by omega))
  have HX := hid h.reads.len
  have HG := hid h.reads.rng
  clear h
  go_enter Trym.func6, Trym.ntmps6
  go_wp2_with (first | (go_at_call 18; refine (bytes_any _ _ _ _ _ hn1 hs1).mono ?_; rintro e w' ⟨rfl, hw⟩; replace hw := hw.symm; subst hw) | fail)
  refine HC.out.mono ?_
  rintro e w1 ⟨a1, c1, rfl, hown, hb⟩
  rw [← HX.out] at hown
  have HO := hid hown
  have HB := hid hb
  clear hown hb
  have CA := hid (zzappend_any (.slice a1 xs.length c1) xs s w1 w.heap.size HO.out HB.out.size (by rw [HX.out]; omega) (by omega))
  rw [HX.out] at CA
  go_wp2_with fail
  refine CA.out.mono ?_
  rintro e w2 ⟨v2, rfl, hO2⟩
  have hB2 := HB.out.trans hO2.below
  obtain ⟨L, hL⟩ : ∃ L, (whole xs s).length = L := ⟨_, rfl⟩
  have hlen := whole_len xs s
  have hesc := esc_len (nums s)
  rw [nums_length] at hesc
  have hrow := hO2.row
  rw [hL] at hrow
  have hL1 : n + 2 ≤ L := by have := HX.out; omega
  have hL2 : L ≤ 16777216 := by have := HX.out; omega
  obtain ⟨g, cap, rfl, -, -⟩ := hrow.form (by omega)
  have hcap : L ≤ cap := (own_block hrow).elim fun cur hh => hh.2.2.1
  have r2 := Reads.own hrow (whole_rng HG.out)
  have CV := zzvalue_any g 0 L cap n (esc (nums s)).length L (whole xs s) w2 r2 hL2 hcap (by omega) (by have := whole_at xs s; rwa [HX.out] at this) (by have := whole_scan xs s; rwa [HX.out] at this) (by have := HX.out; omega) (Nat.le_refl _)
  rw [Nat.zero_add] at CV
  have CV2 := hid CV
  have R2 := hid r2
  have B2 := hid hB2
  clear CV r2 hB2 hlen hesc hrow hO2 hL
  go_wp2_with fail
  refine CV2.out.mono ?_
  rintro e w3 ⟨rfl, hb3⟩
  have B3 := hid hb3
  clear hb3
  have hne : ¬ cap = n := by omega
  have r3 := R2.out.drop n cap (by omega) hcap
  rw [if_neg hne] at r3
  have R3 : Hid (Reads w2 (some ⟨g, n, none⟩) (L - n) ((whole xs s).drop n)) := hid (by simpa [Addr.add_lit] using r3)
  clear r3
  have he : ((whole xs s).drop n == (whole xs s).drop n) = true := by simp
  have hm : L - n ≤ maxLen := by unfold maxLen; omega
  go_wp2_with (go_at_call 12; refine (equal_any _ _ _ _ _ _ ((whole xs s).drop n) ((whole xs s).drop n) _ (R3.out.later B3.out) (R3.out.later B3.out) hm).mono ?_; rintro e w4 ⟨rfl, q, rfl⟩)
  go_ret
  exact ⟨he ▸ rfl, below_drewN (B2.out.trans (B3.out.mono B2.out.size)) _⟩

/-- THE LAW, every slice and every string. -/
theorem law_all (a : Option Addr) (n c : Nat) (xs : List Int) (s : ByteArray) (w : World) (h : Came w a n c xs) (hn : n ≤ maxLen) (hs : s.size ≤ maxLen) :
    Calls Trym.prog 6 #[.slice a n c, .string s] w fun e w' => e = .returned (.bool true) ∧ Below w.heap.size w w' := by
  by_cases hd : n + s.size ≤ 1048576
  · by_cases h1 : n ≤ 524288
    · by_cases h2 : s.size ≤ 524288
      · exact law_main a n c xs s w h (decide_eq_true hd) h1 h2
      · exact law_mid a n c s w hn hs (decide_eq_true hd) (.inr ⟨h1, by omega⟩)
    · exact law_mid a n c s w hn hs (decide_eq_true hd) (.inl (by omega))
  · exact law_long a n c s w hn hs (decide_eq_false hd)

end Go.Proofs.Qxb6601173aMods.Js
