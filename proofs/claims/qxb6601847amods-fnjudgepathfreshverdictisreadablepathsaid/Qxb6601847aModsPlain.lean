/-
  The plain mathematics of this seat's law: where a byte first stands, the judge as a walk byte by byte ('run'), and that it finds no fault and owes no digit exactly where every '%' has its two digits. No Go function is named here.
-/
import Derived.Test.Qxb6601847aModsBase
import Derived.Lib.Bytealg
namespace Go.Proofs.Qxb6601847aMods.Jp

def hexB (x : Int) : Bool := decide ((48 ≤ x ∧ x ≤ 57) ∨ (97 ≤ x ∧ x ≤ 102) ∨ (65 ≤ x ∧ x ≤ 70))
def ctlB (x : Int) : Bool := decide (x < 32 ∨ x = 127)
def hasCtl (l : List Int) : Bool := l.any ctlB

theorem hex_ne {x : Int} (h : hexB x = true) : x ≠ 37 := by
  have := of_decide_eq_true h
  omega

theorem byte_eq {x t : Int} (h : 0 ≤ x ∧ x < 256) (ht : 0 ≤ t ∧ t < 256) : (x.toNat.toUInt8 == t.toNat.toUInt8) = (x == t) := by
  rw [Bool.eq_iff_iff, beq_iff_eq, beq_iff_eq]
  constructor
  · intro e
    have := congrArg UInt8.toNat e
    simp at this
    omega
  · rintro rfl
    rfl

/-- WHERE THE BYTE t FIRST STANDS. -/
theorem index_says {t : Int} (ht : 0 ≤ t ∧ t < 256) : ∀ (xs : List Int), (∀ x ∈ xs, 0 ≤ x ∧ x < 256) →
    (Lib.indexByte (Lib.bytesOf xs) t.toNat.toUInt8 = -1 ∧ ∀ x ∈ xs, x ≠ t) ∨
      ∃ j : Nat, Lib.indexByte (Lib.bytesOf xs) t.toNat.toUInt8 = j ∧ j < xs.length ∧ xs.getD j 0 = t ∧ ∀ x ∈ xs.take j, x ≠ t
  | [], _ => .inl ⟨rfl, (fun _ h => by cases h)⟩
  | x :: xs, h => by
    have hx := h x (List.mem_cons_self ..)
    have ih := index_says ht xs (fun y hy => h y (List.mem_cons_of_mem _ hy))
    have e : Lib.indexByte (Lib.bytesOf (x :: xs)) t.toNat.toUInt8 = if x == t then 0 else if Lib.indexByte (Lib.bytesOf xs) t.toNat.toUInt8 == -1 then -1 else Lib.indexByte (Lib.bytesOf xs) t.toNat.toUInt8 + 1 := by
      show Lib.indexByte (x.toNat.toUInt8 :: Lib.bytesOf xs) t.toNat.toUInt8 = _
      rw [Lib.indexByte, byte_eq hx ht]
    cases hxt : (x == t) with
    | true =>
      refine .inr ⟨0, by rw [e, hxt]; rfl, by simp, ?_, (fun _ h => by cases h)⟩
      simpa using hxt
    | false =>
      rw [hxt] at e
      have hne : x ≠ t := by simpa using hxt
      rcases ih with ⟨h1, h2⟩ | ⟨j, h1, h2, h3, h4⟩
      · refine .inl ⟨by rw [e, h1]; rfl, fun y hy => ?_⟩
        rcases List.mem_cons.1 hy with rfl | hy
        · exact hne
        · exact h2 y hy
      · refine .inr ⟨j + 1, ?_, by simp; omega, by simpa using h3, fun y hy => ?_⟩
        · rw [e, h1]
          have : ((j : Int) == -1) = false := by rw [beq_eq_false_iff_ne]; omega
          rw [this]
          simp
        · rw [List.take_succ_cons] at hy
          rcases List.mem_cons.1 hy with rfl | hy
          · exact hne
          · exact h4 y hy

/-- The judge, byte by byte: has a fault come, and how many digits are owed? -/
def run : List Int → Nat → Bool × Nat
  | [], e => (false, e)
  | x :: r, 0 => if x = 37 then run r 2 else run r 0
  | x :: r, e + 1 => if hexB x = true then run r e else (true, e)

theorem run_skip : ∀ (l r : List Int), (∀ x ∈ l, x ≠ 37) → run (l ++ r) 0 = run r 0
  | [], _, _ => rfl
  | x :: l, r, h => by
    show (if x = 37 then run (l ++ r) 2 else run (l ++ r) 0) = _
    rw [if_neg (h x (List.mem_cons_self ..))]
    exact run_skip l r (fun y hy => h y (List.mem_cons_of_mem _ hy))

theorem run_none (l : List Int) (h : ∀ x ∈ l, x ≠ 37) : run l 0 = (false, 0) := by
  have := run_skip l [] h
  rw [List.append_nil] at this
  exact this

/-- One step at a '%' that is j bytes away. -/
theorem run_to {l : List Int} {j : Nat} (hj : j < l.length) (h37 : l.getD j 0 = 37) (h : ∀ x ∈ l.take j, x ≠ 37) : run l 0 = run (l.drop (j + 1)) 2 := by
  have e : l = l.take j ++ 37 :: l.drop (j + 1) := by
    rw [← h37, List.getD_eq_getElem?_getD, List.getElem?_eq_getElem hj]
    simp
  have := run_skip (l.take j) (37 :: l.drop (j + 1)) h
  rw [← e] at this
  rw [this]
  rfl

theorem run_digit {l : List Int} {e : Nat} (hl : 0 < l.length) (h : hexB (l.getD 0 0) = true) : run l (e + 1) = run (l.drop 1) e := by
  match l, hl with
  | x :: r, _ =>
    show (if hexB x = true then run r e else (true, e)) = _
    rw [if_pos (by simpa using h)]
    rfl

theorem run_fault {l : List Int} {e : Nat} (hl : 0 < l.length) (h : hexB (l.getD 0 0) = false) : run l (e + 1) = (true, e) := by
  match l, hl with
  | x :: r, _ =>
    have hx : hexB x = false := by simpa using h
    show (if hexB x = true then run r e else (true, e)) = _
    rw [if_neg (by rw [hx]; exact Bool.false_ne_true)]

/-- Every '%' has its two digits. -/
def good (p : List Int) : Prop := ∀ i : Nat, p[i]? = some 37 → ∃ x y : Int, p[i + 1]? = some x ∧ p[i + 2]? = some y ∧ hexB x = true ∧ hexB y = true

theorem good_cons {x : Int} {r : List Int} (hx : x ≠ 37) : good (x :: r) ↔ good r := by
  constructor
  · intro h i hi
    simpa using h (i + 1) (by simpa using hi)
  · intro h i hi
    cases i with
    | zero => simp at hi; exact absurd hi hx
    | succ i => simpa using h i (by simpa using hi)

theorem good_esc {a b : Int} {r : List Int} : good (37 :: a :: b :: r) ↔ hexB a = true ∧ hexB b = true ∧ good r := by
  constructor
  · intro h
    obtain ⟨x, y, h1, h2, h3, h4⟩ := h 0 rfl
    simp at h1 h2
    subst h1 h2
    refine ⟨h3, h4, fun i hi => ?_⟩
    simpa using h (i + 3) (by simpa using hi)
  · rintro ⟨h1, h2, h3⟩ i hi
    match i, hi with
    | 0, _ => exact ⟨a, b, rfl, rfl, h1, h2⟩
    | 1, hi => simp at hi; exact absurd hi (hex_ne h1)
    | 2, hi => simp at hi; exact absurd hi (hex_ne h2)
    | i + 3, hi => simpa using h3 i (by simpa using hi)

/-- THE PLAIN LAW. -/
theorem run_good : ∀ (n : Nat) (p : List Int), p.length ≤ n → (run p 0 = (false, 0) ↔ good p)
  | _, [], _ => ⟨fun _ i hi => by simp at hi, fun _ => rfl⟩
  | 0, _ :: _, h => by simp at h
  | n + 1, x :: r, h => by
    by_cases hx : x = 37
    · subst hx
      show (if (37 : Int) = 37 then run r 2 else run r 0) = _ ↔ _
      rw [if_pos rfl]
      match r with
      | [] =>
        refine ⟨(fun h => by cases h), fun h => ?_⟩
        obtain ⟨x, y, h1, _⟩ := h 0 rfl
        simp at h1
      | [a] =>
        constructor
        · intro h
          change (if hexB a = true then (false, 1) else (true, 1)) = (false, 0) at h
          split at h <;> cases h
        · intro h
          obtain ⟨x, y, _, h2, _⟩ := h 0 rfl
          simp at h2
      | a :: b :: r =>
        rw [good_esc]
        show (if hexB a = true then (if hexB b = true then run r 0 else (true, 0)) else (true, 1)) = _ ↔ _
        cases ha : hexB a with
        | false => simp
        | true =>
          cases hb : hexB b with
          | false => simp
          | true =>
            simp only [if_true, true_and]
            exact run_good n r (by simp at h; omega)
    · show (if x = 37 then run r 2 else run r 0) = _ ↔ _
      rw [if_neg hx, good_cons hx]
      exact run_good n r (by simp at h; omega)

/-- Is the '%' at i, if one is there, without its two digits before q? -/
def badAt (ds : List Int) (q i : Nat) : Bool := ds.getD i 0 == 37 && (decide (q ≤ i + 2) || !hexB (ds.getD (i + 1) 0) || !hexB (ds.getD (i + 2) 0))
def anyBad (ds : List Int) (q k : Nat) : Bool := (List.range k).any (badAt ds q)

theorem anyBad_succ (ds : List Int) (q k : Nat) : anyBad ds q (k + 1) = (anyBad ds q k || badAt ds q k) := by
  simp [anyBad, List.range_succ]

theorem good_bad {ds : List Int} {q : Nat} (hq : q ≤ ds.length) : good (ds.take q) ↔ anyBad ds q q = false := by
  have hg : ∀ i, i < q → (ds.take q)[i]? = some (ds.getD i 0) := by
    intro i hi
    rw [List.getElem?_take, if_pos hi, List.getD_eq_getElem?_getD, List.getElem?_eq_getElem (by omega)]
    rfl
  have hn : ∀ i, q ≤ i → (ds.take q)[i]? = none := fun i hi => List.getElem?_eq_none (by rw [List.length_take]; omega)
  constructor
  · intro h
    rw [anyBad, List.any_eq_false]
    intro i hi
    have hi' : i < q := List.mem_range.1 hi
    intro hb
    simp only [badAt, Bool.and_eq_true, beq_iff_eq, Bool.or_eq_true, decide_eq_true_eq, Bool.not_eq_true'] at hb
    obtain ⟨h37, hb⟩ := hb
    obtain ⟨x, y, h1, h2, h3, h4⟩ := h i (by rw [hg i hi', h37])
    have hlt : i + 2 < q := by
      rcases Nat.lt_or_ge (i + 2) q with h | h
      · exact h
      · rw [hn _ h] at h2; cases h2
    rw [hg _ hlt] at h2
    rw [hg _ (by omega)] at h1
    cases h1
    cases h2
    rcases hb with (hb | hb) | hb
    · omega
    · rw [h3] at hb; cases hb
    · rw [h4] at hb; cases hb
  · intro h i hi
    have hi' : i < q := by
      rcases Nat.lt_or_ge i q with h | h
      · exact h
      · rw [hn _ h] at hi; cases hi
    rw [hg i hi'] at hi
    have h37 := Option.some.inj hi
    rw [anyBad, List.any_eq_false] at h
    have hb := h i (List.mem_range.2 hi')
    simp only [badAt, h37, beq_self_eq_true, Bool.true_and, Bool.or_eq_true, decide_eq_true_eq, Bool.not_eq_true', not_or, Bool.not_eq_false] at hb
    obtain ⟨⟨hb1, hb2⟩, hb3⟩ := hb
    exact ⟨_, _, hg _ (by omega), hg _ (by omega), hb2, hb3⟩

/-- A text that does not open with '/'. -/
def badStart (ds : List Int) : Bool := decide (0 < ds.length) && (ds.getD 0 0 != 47)

/-- What the judge leaves: a fault or none, and the digits owed. -/
def verdict (ds : List Int) (q : Nat) : Bool × Nat := if (badStart ds || hasCtl ds) = true then (true, 0) else run (ds.take q) 0

/-- What the law calls readable. -/
def readable (ds : List Int) (q : Nat) : Bool := !badStart ds && !hasCtl ds && !anyBad ds q q

theorem verdict_says {ds : List Int} {q : Nat} (hq : q ≤ ds.length) : (!(verdict ds q).1 && ((verdict ds q).2 == 0)) = readable ds q := by
  unfold verdict readable
  cases h1 : badStart ds with
  | true => rfl
  | false =>
    cases h2 : hasCtl ds with
    | true => rfl
    | false =>
      rw [if_neg (by simp)]
      have hr := run_good _ (ds.take q) (Nat.le_refl _)
      rw [good_bad hq] at hr
      cases h3 : anyBad ds q q with
      | false =>
        rw [hr.2 h3]
        rfl
      | true =>
        have hne : run (ds.take q) 0 ≠ (false, 0) := by
          intro h
          rw [hr.1 h] at h3
          cases h3
        cases hp : run (ds.take q) 0 with
        | mk f e =>
          rw [hp] at hne
          cases f with
          | true => rfl
          | false =>
            have : e ≠ 0 := by rintro rfl; exact hne rfl
            simp [this]

end Go.Proofs.Qxb6601847aMods.Jp
