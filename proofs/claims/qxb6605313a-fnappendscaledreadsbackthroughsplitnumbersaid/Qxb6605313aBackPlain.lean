/-
  THE PLAIN LAW: what 'appendScaled' writes, 'splitNumber' reads back.
-/
import Derived.Test.Qxb6605313aDecPlain
import Derived.Test.Qxb6605313aNumPlain
namespace Go.Proofs.Qxb6605313a
set_option linter.unusedVariables false
set_option linter.unusedSimpArgs false

theorem dg_isD (d : Nat) (h : d < 10) : isD (dg d) = true := by
  simp only [isD, dg_toNat d h, decide_eq_true_eq]; omega
theorem digL_isD (n m : Nat) : ∀ c ∈ digL n m, isD c = true := by
  induction n generalizing m with
  | zero => simp [digL]
  | succ n ih =>
    intro c hc
    rw [digL, List.mem_append] at hc
    rcases hc with hc | hc
    · exact ih _ c hc
    · simp at hc; rw [hc]; exact dg_isD _ (by omega)
theorem dg_zero : dg 0 = 48 := rfl
theorem dg_ne48 {d : Nat} (h : d < 10) (h0 : d ≠ 0) : dg d ≠ 48 := by
  intro e
  have := congrArg UInt8.toNat e
  rw [dg_toNat d h] at this
  have e2 : (48 : UInt8).toNat = 48 := rfl
  omega
/-- A number that is not zero begins with a digit that is not zero. -/
theorem digL_head {q n : Nat} (h : IsNd q n) (hq : q ≠ 0) : ∃ d r, d < 10 ∧ d ≠ 0 ∧ digL n q = dg d :: r := by
  obtain ⟨h1, h2, h3⟩ := h
  have hp : 0 < 10 ^ (n - 1) := Nat.pow_pos (by omega)
  have e : n = 1 + (n - 1) := by omega
  refine ⟨q / 10 ^ (n - 1), digL (n - 1) q, ?_, ?_, ?_⟩
  · rw [Nat.div_lt_iff_lt_mul hp]
    have : 10 ^ n = 10 * 10 ^ (n - 1) := by
      conv => lhs; rw [e, Nat.pow_add]
    omega
  · have : 1 ≤ q / 10 ^ (n - 1) := by
      rw [Nat.le_div_iff_mul_le hp, Nat.one_mul]
      rcases h3 with rfl | h3
      · simp; omega
      · exact h3
    omega
  · conv => lhs; rw [e]
    rw [digL_add]
    have hlt : q / 10 ^ (n - 1) < 10 := by
      rw [Nat.div_lt_iff_lt_mul hp]
      have : 10 ^ n = 10 * 10 ^ (n - 1) := by
        conv => lhs; rw [e, Nat.pow_add]
      omega
    simp [digL, Nat.mod_eq_of_lt hlt]
theorem span_digits (ds r : List UInt8) (hds : ∀ c ∈ ds, isD c = true) (hr : r = [] ∨ ∃ c r', r = c :: r' ∧ isD c = false) : dW (ds ++ r) = ds ∧ dR (ds ++ r) = r := by
  unfold dW dR
  rw [tw_app isD ds r hds, dw_app isD ds r hds]
  rcases hr with rfl | ⟨c, r', rfl, hc⟩
  · simp
  · simp [List.takeWhile_cons, List.dropWhile_cons, hc]

/-- The whole of the text's tail. -/
def tl (d m : Nat) : List UInt8 := if 0 < d then 46 :: digL d m else []
theorem tl_head (d m : Nat) : tl d m = [] ∨ ∃ c r', tl d m = c :: r' ∧ isD c = false := by
  unfold tl
  split
  · right; exact ⟨46, _, rfl, by decide⟩
  · left; rfl
theorem back_frac (bd : Int) (neg : Bool) (ip : List UInt8) (d m : Nat) : sFrac bd neg ip (tl d m) = fin neg ip (digL d m) 0 := by
  unfold tl
  by_cases h : 0 < d
  · rw [if_pos h, sFrac, if_pos rfl]
    have := span_digits (digL d m) [] (digL_isD d m) (.inl rfl)
    rw [List.append_nil] at this
    rw [this.1, this.2, if_neg]
    · rfl
    · intro e; have := congrArg List.length e; rw [digL_length] at this; simp at this; omega
  · obtain rfl : d = 0 := by omega
    rfl
theorem back_int (bd : Int) (neg : Bool) {m d n : Nat} (h : IsNd (m / 10 ^ d) n) : sInt bd neg (body n d m) = fin neg (digL n (m / 10 ^ d)) (digL d m) 0 := by
  have hb : body n d m = digL n (m / 10 ^ d) ++ tl d m := rfl
  rw [hb, ← back_frac bd]
  by_cases hq : m / 10 ^ d = 0
  · rw [hq] at h ⊢
    obtain rfl : n = 1 := h.unique IsNd.zero
    have e : digL 1 0 = [48] := rfl
    rw [e, List.singleton_append, sInt, if_pos rfl]
  · obtain ⟨c, r, hc, hc0, he⟩ := digL_head h hq
    have hs := span_digits (digL n (m / 10 ^ d)) (tl d m) (digL_isD _ _) (tl_head d m)
    rw [he, List.cons_append] at hs ⊢
    have h1 : 49 ≤ (dg c).toNat ∧ (dg c).toNat ≤ 57 := by rw [dg_toNat c hc]; omega
    rw [sInt, if_neg (dg_ne48 hc hc0), if_pos h1, hs.1, hs.2]
theorem back_all (bd : Int) (neg : Bool) {m d n : Nat} (h : IsNd (m / 10 ^ d) n) : sAll bd (fixedL neg n d m) = fin neg (digL n (m / 10 ^ d)) (digL d m) 0 := by
  unfold fixedL
  cases neg
  · have hn : ∃ c r, body n d m = c :: r ∧ isD c = true := by
      have hl : (digL n (m / 10 ^ d)).length = n := digL_length _ _
      cases hd : digL n (m / 10 ^ d) with
      | nil => rw [hd] at hl; have := h.1; simp at hl; omega
      | cons c r => exact ⟨c, r ++ tl d m, by show digL n (m / 10 ^ d) ++ tl d m = _; rw [hd]; rfl, digL_isD _ _ c (by rw [hd]; simp)⟩
    obtain ⟨c, r, hb, hc⟩ := hn
    have hc45 : c ≠ 45 := by rintro rfl; revert hc; decide
    have e : (if false = true then [(45 : UInt8)] else []) ++ body n d m = body n d m := rfl
    rw [e, ← back_int bd false h, hb, sAll, if_neg hc45]
  · have e : (if true = true then [(45 : UInt8)] else []) ++ body n d m = 45 :: body n d m := rfl
    rw [e, sAll, if_pos rfl]
    exact back_int bd true h

theorem lz_rep (k : Nat) (l : List UInt8) : lz (List.replicate k 48 ++ l) = lz l := by
  induction k with
  | zero => rfl
  | succ k ih =>
    rw [List.replicate_succ, List.cons_append]
    have : ∀ x : List UInt8, lz (48 :: x) = lz x := fun x => by simp [lz, List.dropWhile_cons]
    rw [this]; exact ih
theorem lz_keep {c : UInt8} {r : List UInt8} (h : c ≠ 48) : lz (c :: r) = c :: r := by simp [lz, List.dropWhile_cons, h]

/-- Zero: no digits; the exponent is -d. -/
theorem back_zero (neg : Bool) {d n : Nat} (h : IsNd (0 / 10 ^ d) n) : fin neg (digL n (0 / 10 ^ d)) (digL d 0) 0 = some (neg, [], -(d : Int)) := by
  unfold fin
  have e1 : digL n (0 / 10 ^ d) ++ digL d 0 = List.replicate (n + d) 48 ++ [] := by
    rw [← digL_add, digL_zero, List.append_nil]; rfl
  have e2 : lz (digL n (0 / 10 ^ d) ++ digL d 0) = [] := by rw [e1, lz_rep]; rfl
  rw [e2, digL_length]
  simp [rz]

theorem rz_pad (l : List UInt8) : ∃ k, l = rz l ++ List.replicate k 48 ∧ k + (rz l).length = l.length := by
  have key : ∀ r : List UInt8, ∃ k, r = List.replicate k 48 ++ r.dropWhile (· == 48) ∧ k + (r.dropWhile (· == 48)).length = r.length := by
    intro r
    induction r with
    | nil => exact ⟨0, rfl, rfl⟩
    | cons c r ih =>
      rw [List.dropWhile_cons]
      by_cases h : (c == 48) = true
      · rw [if_pos h]
        obtain ⟨k, h1, h2⟩ := ih
        obtain rfl : c = 48 := by simpa using h
        exact ⟨k + 1, by rw [List.replicate_succ, List.cons_append, ← h1], by rw [List.length_cons]; omega⟩
      · rw [if_neg h]; exact ⟨0, rfl, by omega⟩
  obtain ⟨k, h1, h2⟩ := key l.reverse
  refine ⟨k, ?_, ?_⟩
  · have := congrArg List.reverse h1
    rw [List.reverse_reverse, List.reverse_append, List.reverse_replicate] at this
    exact this
  · unfold rz; rw [List.length_reverse]; rw [List.length_reverse] at h2; exact h2
theorem rz_last (l : List UInt8) : rz l = [] ∨ ∃ l' c, rz l = l' ++ [c] ∧ c ≠ 48 := by
  unfold rz
  have key : ∀ r : List UInt8, r.dropWhile (· == 48) = [] ∨ ∃ c r', r.dropWhile (· == 48) = c :: r' ∧ c ≠ 48 := by
    intro r
    induction r with
    | nil => left; rfl
    | cons c r ih =>
      rw [List.dropWhile_cons]
      by_cases h : (c == 48) = true
      · rw [if_pos h]; exact ih
      · rw [if_neg h]; right; exact ⟨c, r, rfl, by simpa using h⟩
  rcases key l.reverse with h | ⟨c, r', h, hc⟩
  · left; rw [h]; rfl
  · right; exact ⟨r'.reverse, c, by rw [h]; simp, hc⟩
theorem rz_ne {l : List UInt8} {c : UInt8} {r : List UInt8} (hl : l = c :: r) (h : c ≠ 48) : rz l ≠ [] := by
  intro e
  obtain ⟨k, h1, h2⟩ := rz_pad l
  rw [e, List.nil_append] at h1
  rw [hl] at h1
  cases k with
  | zero => simp at h1
  | succ k => rw [List.replicate_succ] at h1; exact h (List.cons.inj h1).1

/-- Not zero: the digits of m without the zeros behind, and how many were there. -/
theorem back_some (neg : Bool) {m d n N : Nat} (hm : m ≠ 0) (h : IsNd (m / 10 ^ d) n) (hN : IsNd m N) : ∃ (C : List UInt8) (z : Nat), fin neg (digL n (m / 10 ^ d)) (digL d m) 0 = some (neg, C, (z : Int) - (d : Int)) ∧
    C ++ List.replicate z 48 = digL N m ∧ z < N ∧ ∃ C' c, C = C' ++ [c] ∧ c ≠ 48 := by
  have hle : N ≤ n + d := by
    by_cases hd : d < N
    · have := h.unique (hN.cut d hd); omega
    · omega
  have hA : digL n (m / 10 ^ d) ++ digL d m = List.replicate (n + d - N) 48 ++ digL N m := by
    rw [← digL_add]
    have e : n + d = (n + d - N) + N := by omega
    conv => lhs; rw [e]
    exact digL_pad hN _
  obtain ⟨c, r, hc, hc0, he⟩ := digL_head hN hm
  have hlz : lz (digL n (m / 10 ^ d) ++ digL d m) = digL N m := by
    rw [hA, lz_rep, he, lz_keep (dg_ne48 hc hc0)]
  obtain ⟨z, hz1, hz2⟩ := rz_pad (digL N m)
  have hne := rz_ne he (dg_ne48 hc hc0)
  refine ⟨rz (digL N m), z, ?_, hz1.symm, ?_, ?_⟩
  · unfold fin
    rw [hlz, digL_length, digL_length]
    rw [digL_length] at hz2
    congr 3
    omega
  · rw [digL_length] at hz2
    have : 0 < (rz (digL N m)).length := List.length_pos_iff.2 hne
    omega
  · rcases rz_last (digL N m) with h0 | h0
    · exact absurd h0 hne
    · exact h0

end Go.Proofs.Qxb6605313a
