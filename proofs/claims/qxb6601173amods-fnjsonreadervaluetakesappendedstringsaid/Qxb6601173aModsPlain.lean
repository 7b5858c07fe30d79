/-
  The plain mathematics of this seat's law: what appendJSONString writes ('esc'), how a reader passes over a string ('scan'), and that the reader stops where the writer stopped. No Go function is named here.
-/
import Derived.Test.Qxb6601173aModsBase
namespace Go.Proofs.Qxb6601173aMods.Js

def hexd (n : Int) : Int := if n < 10 then 48 + n else 87 + n

/-- How one byte is written. -/
def escB (c : Int) : List Int :=
  if 32 ≤ c ∧ c ≠ 34 ∧ c ≠ 92 then [c]
  else if c = 34 ∨ c = 92 then [92, c]
  else if c = 8 then [92, 98]
  else if c = 12 then [92, 102]
  else if c = 10 then [92, 110]
  else if c = 13 then [92, 114]
  else if c = 9 then [92, 116]
  else [92, 117, 48, 48, hexd (c / 16), hexd (c % 16)]

/-- How a text is written, its quotes left out. -/
def esc (l : List Int) : List Int := l.flatMap escB

theorem esc_nil : esc [] = [] := rfl
theorem esc_cons (c : Int) (l : List Int) : esc (c :: l) = escB c ++ esc l := rfl
theorem esc_append (l m : List Int) : esc (l ++ m) = esc l ++ esc m := by simp [esc]
theorem esc_one (c : Int) : esc [c] = escB c := by simp [esc]

theorem escB_plain {c : Int} (h : 32 ≤ c) (h1 : c ≠ 34) (h2 : c ≠ 92) : escB c = [c] := by rw [escB, if_pos ⟨h, h1, h2⟩]
theorem escB_back {c : Int} (h : c = 34 ∨ c = 92) : escB c = [92, c] := by rw [escB, if_neg (by omega), if_pos h]
theorem escB_8 : escB 8 = [92, 98] := by decide
theorem escB_12 : escB 12 = [92, 102] := by decide
theorem escB_10 : escB 10 = [92, 110] := by decide
theorem escB_13 : escB 13 = [92, 114] := by decide
theorem escB_9 : escB 9 = [92, 116] := by decide
theorem escB_hex {c : Int} (h : c < 32) (h1 : c ≠ 8) (h2 : c ≠ 12) (h3 : c ≠ 10) (h4 : c ≠ 13) (h5 : c ≠ 9) : escB c = [92, 117, 48, 48, hexd (c / 16), hexd (c % 16)] := by
  rw [escB, if_neg (by omega), if_neg (by omega), if_neg h1, if_neg h2, if_neg h3, if_neg h4, if_neg h5]

theorem escB_len (c : Int) : (escB c).length ≤ 6 := by
  unfold escB
  repeat (first | (split; · simp) | simp)

theorem esc_len : ∀ l : List Int, (esc l).length ≤ 6 * l.length
  | [] => Nat.le_refl _
  | c :: l => by
    have h1 := escB_len c
    have h2 := esc_len l
    rw [esc_cons, List.length_append, List.length_cons]
    omega

/-- How far it is to the quote that ends a string: a backslash takes the next byte along. -/
def scan : List Int → Option Nat
  | [] => none
  | [c] => if c = 34 then some 0 else none
  | c :: d :: r => if c = 34 then some 0 else if c = 92 then (scan r).map (· + 2) else (scan (d :: r)).map (· + 1)

theorem scan_quote (r : List Int) : scan (34 :: r) = some 0 := by
  cases r with
  | nil => rfl
  | cons d r => rfl

theorem scan_back (d : Int) (r : List Int) : scan (92 :: d :: r) = (scan r).map (· + 2) := rfl

theorem scan_plain {c : Int} (r : List Int) (h1 : c ≠ 34) (h2 : c ≠ 92) : scan (c :: r) = (scan r).map (· + 1) := by
  cases r with
  | nil => simp [scan, h1]
  | cons d r => rw [scan, if_neg h1, if_neg h2]

theorem hexd_ne (n : Int) (h : 0 ≤ n ∧ n < 16) : hexd n ≠ 34 ∧ hexd n ≠ 92 := by
  unfold hexd
  split <;> omega

theorem scan_escB {c : Int} (hc : 0 ≤ c ∧ c < 256) (r : List Int) : scan (escB c ++ r) = (scan r).map (· + (escB c).length) := by
  unfold escB
  split
  · next h => exact scan_plain r h.2.1 h.2.2
  · split
    · exact scan_back c r
    · split
      · exact scan_back 98 r
      · split
        · exact scan_back 102 r
        · split
          · exact scan_back 110 r
          · split
            · exact scan_back 114 r
            · split
              · exact scan_back 116 r
              · next h1 h2 h3 h4 h5 h6 h7 =>
                have e1 := hexd_ne (c / 16) (by omega)
                have e2 := hexd_ne (c % 16) (by omega)
                show scan (92 :: 117 :: 48 :: 48 :: hexd (c / 16) :: hexd (c % 16) :: r) = _
                rw [scan_back, scan_plain _ (by decide) (by decide), scan_plain _ (by decide) (by decide), scan_plain _ e1.1 e1.2, scan_plain _ e2.1 e2.2]
                cases scan r <;> simp

/-- THE PLAIN LAW: the reader comes to the very end of what was written. -/
theorem scan_esc : ∀ (l r : List Int), (∀ c ∈ l, 0 ≤ c ∧ c < 256) → scan (esc l ++ 34 :: r) = some (esc l).length
  | [], r, _ => scan_quote r
  | c :: l, r, h => by
    rw [esc_cons, List.append_assoc, scan_escB (h c (List.mem_cons_self ..)), scan_esc l r (fun d hd => h d (List.mem_cons_of_mem _ hd)), List.length_append]
    simp
    omega

/-- One step of the reader, at the place q of ds. -/
theorem scan_step {ds : List Int} {q m : Nat} (h : scan (ds.drop q) = some m) : q < ds.length ∧
    ((ds.getD q 0 = 34 ∧ m = 0) ∨ (ds.getD q 0 = 92 ∧ q + 1 < ds.length ∧ 2 ≤ m ∧ scan (ds.drop (q + 2)) = some (m - 2)) ∨
      (ds.getD q 0 ≠ 34 ∧ ds.getD q 0 ≠ 92 ∧ 1 ≤ m ∧ scan (ds.drop (q + 1)) = some (m - 1))) := by
  have hq : q < ds.length := by
    rcases Nat.lt_or_ge q ds.length with h' | h'
    · exact h'
    · rw [List.drop_eq_nil_of_le h'] at h
      cases h
  refine ⟨hq, ?_⟩
  have e1 : ds.drop q = ds.getD q 0 :: ds.drop (q + 1) := by
    rw [List.drop_eq_getElem_cons hq, List.getD_eq_getElem?_getD, List.getElem?_eq_getElem hq]
    rfl
  rw [e1] at h
  by_cases h34 : ds.getD q 0 = 34
  · rw [h34, scan_quote] at h
    exact .inl ⟨h34, (Option.some.inj h).symm⟩
  · by_cases h92 : ds.getD q 0 = 92
    · rw [h92] at h
      rcases Nat.lt_or_ge (q + 1) ds.length with h' | h'
      · rw [List.drop_eq_getElem_cons h', scan_back] at h
        obtain ⟨k, hk, hm⟩ := Option.map_eq_some_iff.1 h
        exact .inr (.inl ⟨h92, h', by omega, by rw [hk]; congr 1; omega⟩)
      · rw [List.drop_eq_nil_of_le h'] at h
        cases h
    · rw [scan_plain _ h34 h92] at h
      obtain ⟨k, hk, hm⟩ := Option.map_eq_some_iff.1 h
      exact .inr (.inr ⟨h34, h92, by omega, by rw [hk]; congr 1; omega⟩)

/-- The bytes of a string as numbers. -/
def nums (s : ByteArray) : List Int := s.data.toList.map fun b => (b.toNat : Int)

theorem nums_length (s : ByteArray) : (nums s).length = s.size := by
  rw [nums, List.length_map, Array.length_toList]
  rfl

theorem nums_rng (s : ByteArray) : ∀ x ∈ nums s, 0 ≤ x ∧ x < 256 := by
  intro x hx
  obtain ⟨b, _, rfl⟩ := List.mem_map.1 hx
  have := b.toNat_lt
  omega

theorem nums_getD (s : ByteArray) (k : Nat) (h : k < s.size) : (nums s).getD k 0 = (s[k].toNat : Int) := by
  have h' : k < s.data.toList.length := by rw [Array.length_toList]; exact h
  rw [nums, List.getD_eq_getElem?_getD, List.getElem?_map, List.getElem?_eq_getElem h']
  rfl

/-- What has been written when the loop stands at k, the bytes from st on still owed. -/
theorem owed_plain {l : List Int} {st k : Nat} (hst : st ≤ k) (hk : k < l.length) (h : esc (l.take k) = esc (l.take st) ++ (l.take k).drop st) (hc : escB (l.getD k 0) = [l.getD k 0]) :
    esc (l.take (k + 1)) = esc (l.take st) ++ (l.take (k + 1)).drop st := by
  rw [take_snoc l k hk, esc_append, esc_one, hc, h, List.drop_append_of_le_length (by rw [List.length_take]; omega), List.append_assoc]

theorem owed_paid {l : List Int} {st k : Nat} (hk : k < l.length) (h : esc (l.take k) = esc (l.take st) ++ (l.take k).drop st) :
    esc (l.take (k + 1)) = (esc (l.take st) ++ (l.take k).drop st) ++ escB (l.getD k 0) := by
  rw [take_snoc l k hk, esc_append, esc_one, h]

theorem owed_none {l : List Int} (k : Nat) : esc (l.take k) = esc (l.take k) ++ (l.take k).drop k := by
  rw [List.drop_eq_nil_of_le (by rw [List.length_take]; omega), List.append_nil]

end Go.Proofs.Qxb6601173aMods.Js
