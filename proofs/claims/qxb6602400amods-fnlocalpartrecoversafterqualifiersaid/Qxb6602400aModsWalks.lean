/-
  The walks of the small functions under this seat's two laws: bytes.IndexByte, localPart, ZZLocalPart, zzHasColon, zzEqual, zzClone, the bounds on lengths.
-/
import Derived.Test.Qxb6602400aModsProg
import Derived.Test.Qxb6602400aModsBase
import Derived.Lib.Bytealg
import Derived.Deep.QuietTactic
import Derived.BigQuiet
namespace Go.Proofs.Qxb6602400aMods.Lp
open Go.RowKit

set_option maxHeartbeats 400000 in
theorem bytes_any (a : Option Addr) (n c : Nat) (w : World) (hn : n ≤ maxLen) :
    Calls Trym.prog 20 #[.slice a n c] w fun e w' => e = .returned (.bool (decide (n ≤ 1048576))) ∧ w' = w := by
  unfold maxLen at hn
  by_cases h : n ≤ 1048576
  all_goals
    go_enter Trym.func20, Trym.ntmps20
    go_wp2
    go_ret
    exact ⟨by simp [h], rfl⟩

set_option maxHeartbeats 400000 in
theorem bytes2_any (a : Option Addr) (n c : Nat) (a' : Option Addr) (n' c' : Nat) (w : World) (hn : n ≤ maxLen) (hn' : n' ≤ maxLen) :
    Calls Trym.prog 24 #[.slice a n c, .slice a' n' c'] w fun e w' => e = .returned (.bool (decide (n + n' ≤ 1048576))) ∧ w' = w := by
  unfold maxLen at hn hn'
  by_cases h1 : n ≤ 1048576
  · by_cases h2 : n' ≤ 1048576
    · by_cases h3 : n + n' ≤ 1048576
      all_goals
        go_enter Trym.func24, Trym.ntmps24
        go_wp2
        go_ret
        exact ⟨by simp [h3], rfl⟩
    · go_enter Trym.func24, Trym.ntmps24
      go_wp2
      go_ret
      exact ⟨by simp; omega, rfl⟩
  · go_enter Trym.func24, Trym.ntmps24
    go_wp2
    go_ret
    exact ⟨by simp; omega, rfl⟩

set_option maxHeartbeats 400000 in
theorem index_some (b o n c : Nat) (xs : List Int) (cv : Int) (w : World) (hx : xs.length = n) (hc : ∀ i, i < n → w.cell? ⟨b, o + i, none⟩ = some (.int .u8 (xs.getD i 0))) :
    Calls Trym.prog 29 #[.slice (some ⟨b, o, none⟩) n c, .int .u8 cv] w fun e w' => e = .returned (.int .i64 (Lib.indexByte (Lib.bytesOf xs) cv.toNat.toUInt8)) ∧ w' = w := by
  go_enter Trym.func29, Trym.ntmps29
  go_wp2
  rw [run_callFunc_extern Trym.func30 (by kernel_rfl) (by kernel_rfl) (by kernel_rfl) (e := Extern.BytealgIndexByte.indexByte) (by kernel_rfl), Lib.run_indexByteSlice w b o n c xs hx hc cv]
  simp only [Result.andThen]
  rw [Oper.upon_value]
  go_wp2
  go_ret
  exact ⟨rfl, rfl⟩

set_option maxHeartbeats 400000 in
theorem index_nil (cv : Int) (w : World) :
    Calls Trym.prog 29 #[.slice none 0 0, .int .u8 cv] w fun e w' => e = .returned (.int .i64 (-1)) ∧ w' = w := by
  go_enter Trym.func29, Trym.ntmps29
  go_wp2
  rw [run_callFunc_extern Trym.func30 (by kernel_rfl) (by kernel_rfl) (by kernel_rfl) (e := Extern.BytealgIndexByte.indexByte) (by kernel_rfl), Lib.run_indexByteNil w 0 0 cv]
  simp only [Result.andThen]
  rw [Oper.upon_value]
  go_wp2
  go_ret
  exact ⟨rfl, rfl⟩

/-- Is there a colon among xs? -/
def hasColon (xs : List Int) : Bool := xs.any (fun x => x == 58)

theorem hasColon_snoc (xs : List Int) (x : Int) : hasColon (xs ++ [x]) = (hasColon xs || x == 58) := by simp [hasColon]

theorem take_snoc (xs : List Int) (k : Nat) (h : k < xs.length) : xs.take (k + 1) = xs.take k ++ [xs.getD k 0] := by
  rw [List.take_succ_eq_append_getElem h, List.getD_eq_getElem?_getD, List.getElem?_eq_getElem h]
  rfl

theorem hasColon_hit (xs : List Int) (k : Nat) (h : k < xs.length) (hx : (xs.getD k 0 == 58) = true) : hasColon xs = true := by
  unfold hasColon
  rw [List.any_eq_true]
  refine ⟨xs[k], List.getElem_mem h, ?_⟩
  rw [List.getD_eq_getElem?_getD, List.getElem?_eq_getElem h] at hx
  exact hx

theorem hasColon_step (xs : List Int) (k : Nat) (h : k < xs.length) (hp : hasColon (xs.take k) = false) (hx : (xs.getD k 0 == 58) = false) : hasColon (xs.take (k + 1)) = false := by
  rw [take_snoc xs k h, hasColon_snoc, hp, hx]
  rfl

set_option maxHeartbeats 400000 in
theorem colon_some (b o n c : Nat) (xs : List Int) (w : World) (hx : xs.length = n) (hn : n ≤ maxLen) (hc : ∀ i, i < n → w.cell? ⟨b, o + i, none⟩ = some (.int .u8 (xs.getD i 0))) :
    Calls Trym.prog 23 #[.slice (some ⟨b, o, none⟩) n c] w fun e w' => e = .returned (.bool (hasColon xs)) ∧ w' = w := by
  unfold maxLen at hn
  have HX : Hid (xs.length = n) := hx
  clear hx
  go_enter Trym.func23, Trym.ntmps23
  go_wp2
  go_loop [3] (fun i => ∃ k : Nat, k ≤ n ∧ i = .int .i64 k ∧ hasColon (xs.take k) = false) (fun i => n - (intOf i).toNat)
  case atStart => exact ⟨0, Nat.zero_le _, rfl, rfl⟩
  case round =>
    obtain ⟨k, hk, rfl, hp⟩ := hrel
    have HP : Hid (hasColon (xs.take k) = false) := hp
    clear hp
    by_cases hlt : k < n
    · have hcell := hc k hlt
      obtain ⟨x, hxe⟩ : ∃ x, xs.getD k 0 = x := ⟨_, rfl⟩
      rw [hxe] at hcell
      have HE : Hid (xs.getD k 0 = x) := hxe
      clear hxe hc
      cases h58 : (x == 58) with
      | true =>
        go_wp2
        go_ret
        exact ⟨by rw [hasColon_hit xs k (by rw [HX.out]; exact hlt) (by rw [HE.out]; exact h58)]; rfl, rfl⟩
      | false =>
        go_wp2
        go_round
        case rel => exact ⟨k + 1, by omega, by go_num, hasColon_step xs k (by rw [HX.out]; exact hlt) HP.out (by rw [HE.out]; exact h58)⟩
        case measure => simp [intOf]; omega
    · go_wp2
      go_ret
      exact ⟨by rw [← HP.out, List.take_of_length_le (by rw [HX.out]; omega)]; rfl, rfl⟩

set_option maxHeartbeats 400000 in
theorem colon_none (a : Option Addr) (c : Nat) (w : World) :
    Calls Trym.prog 23 #[.slice a 0 c] w fun e w' => e = .returned (.bool false) ∧ w' = w := by
  go_enter Trym.func23, Trym.ntmps23
  go_wp2
  refine wp_loop_rounds 1 ?_
  rw [rounds_succ]
  go_wp2
  go_ret
  exact ⟨rfl, rfl⟩

/-- zzHasColon: is there a colon among the bytes? -/
theorem colon_any (a : Option Addr) (n c : Nat) (xs : List Int) (w : World) (h : Reads w a n xs) (hn : n ≤ maxLen) :
    Calls Trym.prog 23 #[.slice a n c] w fun e w' => e = .returned (.bool (hasColon xs)) ∧ w' = w := by
  rcases Nat.eq_zero_or_pos n with h0 | h0
  · subst h0
    have : xs = [] := List.eq_nil_of_length_eq_zero h.len
    subst this
    exact colon_none a c w
  · obtain ⟨b, o, rfl, hc⟩ := h.bytes h0
    exact colon_some b o n c xs w h.len hn hc

theorem eq_step (xs ys : List Int) (k : Nat) (h : k < xs.length) (h' : k < ys.length) (hp : xs.take k = ys.take k) (hx : xs.getD k 0 = ys.getD k 0) : xs.take (k + 1) = ys.take (k + 1) := by
  rw [take_snoc xs k h, take_snoc ys k h', hp, hx]

theorem eq_miss (xs ys : List Int) (k : Nat) (hx : xs.getD k 0 ≠ ys.getD k 0) : (xs == ys) = false := by
  rw [beq_eq_false_iff_ne]
  rintro rfl
  exact hx rfl

set_option maxHeartbeats 400000 in
theorem equal_some (b o n c b' o' c' : Nat) (xs ys : List Int) (w : World) (hx : xs.length = n) (hy : ys.length = n) (hn : n ≤ maxLen)
    (hc : ∀ i, i < n → w.cell? ⟨b, o + i, none⟩ = some (.int .u8 (xs.getD i 0))) (hd : ∀ i, i < n → w.cell? ⟨b', o' + i, none⟩ = some (.int .u8 (ys.getD i 0))) :
    Calls Trym.prog 22 #[.slice (some ⟨b, o, none⟩) n c, .slice (some ⟨b', o', none⟩) n c'] w fun e w' => e = .returned (.bool (xs == ys)) ∧ ∃ q, w' = w.drewN q := by
  unfold maxLen at hn
  have HX : Hid (xs.length = n) := hx
  have HY : Hid (ys.length = n) := hy
  clear hx hy
  go_enter Trym.func22, Trym.ntmps22
  go_wp2
  go_loopw [5] (fun i wr => ∃ k : Nat, k ≤ n ∧ i = .int .i64 k ∧ xs.take k = ys.take k ∧ ∃ q, wr = w.drewN q) (fun i _ => n - (intOf i).toNat)
  case atStart => exact ⟨0, Nat.zero_le _, rfl, rfl, 0, rfl⟩
  case round =>
    obtain ⟨k, hk, rfl, hp, q, rfl⟩ := hrel
    have HP : Hid (xs.take k = ys.take k) := hp
    clear hp
    by_cases hlt : k < n
    · have hcell := hc k hlt
      have hdell := hd k hlt
      obtain ⟨x, hxe⟩ : ∃ x, xs.getD k 0 = x := ⟨_, rfl⟩
      obtain ⟨y, hye⟩ : ∃ y, ys.getD k 0 = y := ⟨_, rfl⟩
      rw [hxe] at hcell
      rw [hye] at hdell
      have HE : Hid (xs.getD k 0 = x) := hxe
      have HF : Hid (ys.getD k 0 = y) := hye
      have hl : (k : Int) < (n : Int) := by omega
      clear hxe hye hc hd
      by_cases hxy : x = y
      · subst hxy
        go_wp2
        go_quiet (fail)
        go_wp2
        go_roundw
        case rel => exact ⟨k + 1, by omega, by go_num, eq_step xs ys k (by rw [HX.out]; exact hlt) (by rw [HY.out]; exact hlt) HP.out (by rw [HE.out, HF.out]), _, rfl⟩
        case measure => simp [intOf]; omega
      · have hne : (x == y) = false := by rw [beq_eq_false_iff_ne]; exact hxy
        go_wp2
        go_quiet (fail)
        go_wp2
        go_ret
        exact ⟨by rw [eq_miss xs ys k (by rw [HE.out, HF.out]; exact hxy)]; rfl, _, World.drewN_drewN ..⟩
    · go_wp2
      go_ret
      have he : xs = ys := by
        have := HP.out
        rwa [List.take_of_length_le (by rw [HX.out]; omega), List.take_of_length_le (by rw [HY.out]; omega)] at this
      exact ⟨by rw [he]; simp, _, rfl⟩

set_option maxHeartbeats 400000 in
theorem equal_apart (a : Option Addr) (n c : Nat) (a' : Option Addr) (n' c' : Nat) (w : World) (hne : ((n : Int) == (n' : Int)) = false) :
    Calls Trym.prog 22 #[.slice a n c, .slice a' n' c'] w fun e w' => e = .returned (.bool false) ∧ w' = w := by
  go_enter Trym.func22, Trym.ntmps22
  go_wp2
  go_ret
  exact ⟨rfl, rfl⟩

set_option maxHeartbeats 400000 in
theorem equal_none (a : Option Addr) (c : Nat) (a' : Option Addr) (c' : Nat) (w : World) :
    Calls Trym.prog 22 #[.slice a 0 c, .slice a' 0 c'] w fun e w' => e = .returned (.bool true) ∧ w' = w := by
  go_enter Trym.func22, Trym.ntmps22
  go_wp2
  refine wp_loop_rounds 1 ?_
  rw [rounds_succ]
  go_wp2
  go_ret
  exact ⟨rfl, rfl⟩

/-- zzEqual: are the two slices' bytes the same? -/
theorem equal_any (a : Option Addr) (n c : Nat) (a' : Option Addr) (n' c' : Nat) (xs ys : List Int) (w : World) (h : Reads w a n xs) (h' : Reads w a' n' ys) (hn : n ≤ maxLen) :
    Calls Trym.prog 22 #[.slice a n c, .slice a' n' c'] w fun e w' => e = .returned (.bool (xs == ys)) ∧ ∃ q, w' = w.drewN q := by
  by_cases he : n = n'
  · subst he
    rcases Nat.eq_zero_or_pos n with h0 | h0
    · subst h0
      have e1 : xs = [] := List.eq_nil_of_length_eq_zero h.len
      have e2 : ys = [] := List.eq_nil_of_length_eq_zero h'.len
      subst e1 e2
      refine (equal_none a c a' c' w).mono ?_
      rintro e w' ⟨rfl, rfl⟩
      exact ⟨rfl, 0, rfl⟩
    · obtain ⟨b, o, rfl, hc⟩ := h.bytes h0
      obtain ⟨b', o', rfl, hc'⟩ := h'.bytes h0
      exact equal_some b o n c b' o' c' xs ys w h.len h'.len hn hc hc'
  · refine (equal_apart a n c a' n' c' w (by rw [beq_eq_false_iff_ne]; omega)).mono ?_
    rintro e w' ⟨rfl, rfl⟩
    have : (xs == ys) = false := by
      rw [beq_eq_false_iff_ne]
      rintro rfl
      exact he (h.len.symm.trans h'.len)
    exact ⟨by rw [this], 0, rfl⟩

end Go.Proofs.Qxb6602400aMods.Lp
