/-
  THE PLAIN LAWS OF DECIMAL TEXTS (seat b6605313a): no Go in sight.
-/
import Derived.RowKit
namespace Go.Proofs.Qxb6605313a
set_option linter.unusedVariables false

/-- The byte of a digit. -/
def dg (d : Nat) : UInt8 := UInt8.ofNat (48 + d)
theorem dg_toNat (d : Nat) (h : d < 10) : (dg d).toNat = 48 + d := by
  unfold dg; rw [UInt8.toNat_ofNat']; omega

/-- The n lowest decimal digits of m, the highest first. -/
def digL : Nat → Nat → List UInt8
  | 0, _ => []
  | n + 1, m => digL n (m / 10) ++ [dg (m % 10)]

theorem digL_length (n m : Nat) : (digL n m).length = n := by
  induction n generalizing m with
  | zero => rfl
  | succ n ih => simp [digL, ih]

theorem digL_add (a d m : Nat) : digL (a + d) m = digL a (m / 10 ^ d) ++ digL d m := by
  induction d generalizing m with
  | zero => simp [digL]
  | succ d ih =>
    have e : a + (d + 1) = (a + d) + 1 := by omega
    rw [e, digL, ih, digL, Nat.div_div_eq_div_mul, Nat.pow_succ, Nat.mul_comm 10 (10 ^ d), List.append_assoc]

theorem digL_zero (n : Nat) : digL n 0 = List.replicate n (dg 0) := by
  induction n with
  | zero => rfl
  | succ n ih => simp [digL, ih, List.replicate_succ']

/-- n is the number of m's decimal digits (one for zero). -/
def IsNd (m n : Nat) : Prop := 1 ≤ n ∧ m < 10 ^ n ∧ (n = 1 ∨ 10 ^ (n - 1) ≤ m)

theorem IsNd.unique {m a b : Nat} (ha : IsNd m a) (hb : IsNd m b) : a = b := by
  obtain ⟨a1, a2, a3⟩ := ha
  obtain ⟨b1, b2, b3⟩ := hb
  rcases Nat.lt_trichotomy a b with h | h | h
  · rcases b3 with b3 | b3
    · omega
    · have : 10 ^ a ≤ 10 ^ (b - 1) := Nat.pow_le_pow_right (by omega) (by omega)
      omega
  · exact h
  · rcases a3 with a3 | a3
    · omega
    · have : 10 ^ b ≤ 10 ^ (a - 1) := Nat.pow_le_pow_right (by omega) (by omega)
      omega

theorem IsNd.zero : IsNd 0 1 := ⟨by omega, by omega, .inl rfl⟩
theorem IsNd.small {m : Nat} (h : m < 10) : IsNd m 1 := ⟨by omega, by omega, .inl rfl⟩
/-- One more digit behind a number that is not zero. -/
theorem IsNd.more {q d n : Nat} (hq : q ≠ 0) (hd : d < 10) (h : IsNd q n) : IsNd (10 * q + d) (n + 1) := by
  obtain ⟨h1, h2, h3⟩ := h
  refine ⟨by omega, ?_, .inr ?_⟩
  · rw [Nat.pow_succ]; omega
  · rcases h3 with rfl | h3
    · simp; omega
    · have e : n + 1 - 1 = (n - 1) + 1 := by omega
      rw [e, Nat.pow_succ]; omega
/-- Cut off d digits where more than d stand. -/
theorem IsNd.cut {m n : Nat} (d : Nat) (h : IsNd m n) (hd : d < n) : IsNd (m / 10 ^ d) (n - d) := by
  obtain ⟨h1, h2, h3⟩ := h
  have hp : 0 < 10 ^ d := Nat.pow_pos (by omega)
  refine ⟨by omega, ?_, ?_⟩
  · rw [Nat.div_lt_iff_lt_mul hp, ← Nat.pow_add]
    have e : n - d + d = n := by omega
    rw [e]; exact h2
  · by_cases e : n - d = 1
    · exact .inl e
    · right
      rcases h3 with h3 | h3
      · omega
      · rw [Nat.le_div_iff_mul_le hp, ← Nat.pow_add]
        have e2 : n - d - 1 + d = n - 1 := by omega
        rw [e2]; exact h3
/-- No more than d digits: nothing is left. -/
theorem IsNd.gone {m n : Nat} (d : Nat) (h : IsNd m n) (hd : n ≤ d) : m / 10 ^ d = 0 := by
  obtain ⟨h1, h2, h3⟩ := h
  have : 10 ^ n ≤ 10 ^ d := Nat.pow_le_pow_right (by omega) hd
  exact Nat.div_eq_of_lt (by omega)

theorem digL_more (n q d : Nat) (hd : d < 10) : digL (n + 1) (10 * q + d) = digL n q ++ [dg d] := by
  have e1 : (10 * q + d) / 10 = q := by omega
  have e2 : (10 * q + d) % 10 = d := by omega
  rw [digL, e1, e2]

/-- Zeros ahead. -/
theorem digL_pad {m n : Nat} (h : IsNd m n) (k : Nat) : digL (k + n) m = List.replicate k (dg 0) ++ digL n m := by
  rw [digL_add, h.gone n (Nat.le_refl _), digL_zero]

/-- The fixed-point text: the digits ahead of the point, the point, d digits behind it. -/
def body (n d m : Nat) : List UInt8 := digL n (m / 10 ^ d) ++ (if 0 < d then 46 :: digL d m else [])
def fixedL (neg : Bool) (n d m : Nat) : List UInt8 := (if neg then [45] else []) ++ body n d m

/-- 'zzFixedPoint' on plain lists: pad, cut, put the point. -/
theorem fixed_cut {m n : Nat} (d : Nat) (h : IsNd m n) : ∃ a, IsNd (m / 10 ^ d) a ∧
    (List.replicate (d + 1 - n) (dg 0) ++ digL n m) = digL a (m / 10 ^ d) ++ digL d m ∧ (d + 1 - n) + n = a + d := by
  by_cases hd : d < n
  · refine ⟨n - d, h.cut d hd, ?_, by omega⟩
    have e : d + 1 - n = 0 := by omega
    rw [e, List.replicate_zero, List.nil_append, ← digL_add]
    have e2 : n - d + d = n := by omega
    rw [e2]
  · have g := h.gone d (by omega)
    refine ⟨1, by rw [g]; exact IsNd.zero, ?_, by omega⟩
    rw [← digL_pad h, ← digL_add]
    have e2 : d + 1 - n + n = 1 + d := by omega
    rw [e2]

/-- A digit written in the fraction's loop. -/
theorem digL_step (k m : Nat) : dg (m / 10 ^ k % 10) :: digL k m = digL (k + 1) m := by
  have e : k + 1 = 1 + k := by omega
  rw [e, digL_add]
  simp [digL]

theorem IsNd.le19 {m n : Nat} (h : IsNd m n) (hm : m ≤ 9223372036854775808) : n ≤ 19 := by
  obtain ⟨h1, h2, h3⟩ := h
  by_cases e : n ≤ 19
  · exact e
  · rcases h3 with h3 | h3
    · omega
    · have : 10 ^ 19 ≤ 10 ^ (n - 1) := Nat.pow_le_pow_right (by omega) (by omega)
      omega

theorem IsNd.exists (m : Nat) : ∃ n, IsNd m n := by
  induction m using Nat.strongRecOn with
  | ind m ih =>
    by_cases h : m < 10
    · exact ⟨1, IsNd.small h⟩
    · obtain ⟨n, hn⟩ := ih (m / 10) (by omega)
      have := IsNd.more (q := m / 10) (d := m % 10) (by omega) (by omega) hn
      have e : 10 * (m / 10) + m % 10 = m := by omega
      rw [e] at this
      exact ⟨_, this⟩
theorem IsNd.below {q n k : Nat} (h : IsNd q n) (hk : q / 10 ^ k ≠ 0) : k < n := by
  by_cases e : k < n
  · exact e
  · exact absurd (h.gone k (by omega)) hk
/-- How 'appendScaled' knows that the last digit is written. -/
theorem nd_stop {q k : Nat} (h : k = 0 ∨ q / 10 ^ k ≠ 0) (hz : q / 10 ^ k / 10 = 0) : IsNd q (k + 1) := by
  have hp : 0 < 10 ^ k := Nat.pow_pos (by omega)
  refine ⟨by omega, ?_, ?_⟩
  · have h1 : q / 10 ^ k < 10 := by omega
    rw [Nat.div_lt_iff_lt_mul hp] at h1
    rw [Nat.pow_succ]; omega
  · rcases h with rfl | h
    · exact .inl rfl
    · right
      have h1 : 1 ≤ q / 10 ^ k := by omega
      rw [Nat.le_div_iff_mul_le hp] at h1
      simpa using h1
/-- There is room for all the digits, the point and a sign. -/
theorem room {m d q : Nat} (hm : m ≤ 9223372036854775808) (hd : d ≤ 18) (hq : q = m / 10 ^ d) : ∃ n, IsNd q n ∧ n + d ≤ 19 := by
  obtain ⟨N, hN⟩ := IsNd.exists m
  have h19 := hN.le19 hm
  by_cases h : d < N
  · exact ⟨N - d, by rw [hq]; exact hN.cut d h, by omega⟩
  · exact ⟨1, by rw [hq, hN.gone d (by omega)]; exact IsNd.zero, by omega⟩

/-! ### 'zzDecimal''s loop: what is gathered once the digits above place j have been written -/
def DecSt (q : Nat) (L : List UInt8) : Prop := (L = [] ∧ q = 0) ∨ (q ≠ 0 ∧ ∃ n, IsNd q n ∧ L = digL n q)

theorem DecSt.start {m : Nat} (h : m < 10 ^ 20) : DecSt (m / 10 ^ 20) [] := .inl ⟨rfl, Nat.div_eq_of_lt h⟩
theorem DecSt.put {q d : Nat} {L : List UInt8} (h : DecSt q L) (hd : d < 10) (hne : d ≠ 0 ∨ L ≠ []) : 10 * q + d ≠ 0 ∧ ∃ n, IsNd (10 * q + d) n ∧ L ++ [dg d] = digL n (10 * q + d) := by
  rcases h with ⟨rfl, rfl⟩ | ⟨hq, n, hn, rfl⟩
  · rcases hne with hne | hne
    · refine ⟨by omega, 1, IsNd.small (by omega), ?_⟩
      have := digL_more 0 0 d hd
      simpa [digL] using this.symm
    · exact absurd rfl hne
  · exact ⟨by omega, n + 1, IsNd.more hq hd hn, (digL_more n q d hd).symm⟩
theorem DecSt.skip {q : Nat} (h : DecSt q []) : 10 * q + 0 = 0 := by
  rcases h with ⟨_, rfl⟩ | ⟨hq, n, hn, hl⟩
  · rfl
  · have := congrArg List.length hl
    rw [digL_length] at this
    have := hn.1
    simp at *; omega
theorem DecSt.len {q : Nat} {L : List UInt8} (h : DecSt q L) (hq : q < 10 ^ 20) : L.length ≤ 20 := by
  rcases h with ⟨rfl, rfl⟩ | ⟨hq', n, hn, rfl⟩
  · simp
  · rw [digL_length]
    obtain ⟨h1, h2, h3⟩ := hn
    by_cases e : n ≤ 20
    · exact e
    · have : 10 ^ 20 ≤ 10 ^ (n - 1) := Nat.pow_le_pow_right (by omega) (by omega)
      omega

/-- The step from place j + 1 down to place j. -/
theorem place_step (m j : Nat) : m / 10 ^ j = 10 * (m / 10 ^ (j + 1)) + m % 10 ^ (j + 1) / 10 ^ j := by
  have hp : 0 < 10 ^ j := Nat.pow_pos (by omega)
  have e : m % 10 ^ (j + 1) / 10 ^ j = m / 10 ^ j % 10 := by
    rw [Nat.pow_succ, Nat.mod_mul_right_div_self]
  rw [e, Nat.pow_succ, ← Nat.div_div_eq_div_mul]
  omega
theorem place_rest (m j : Nat) : m % 10 ^ (j + 1) - m % 10 ^ (j + 1) / 10 ^ j * 10 ^ j = m % 10 ^ j := by
  have h1 := Nat.div_add_mod (m % 10 ^ (j + 1)) (10 ^ j)
  have h2 : m % 10 ^ (j + 1) % 10 ^ j = m % 10 ^ j := by
    rw [Nat.pow_succ, Nat.mod_mul_right_mod]
  rw [h2, Nat.mul_comm] at h1
  omega
theorem place_dig (m j : Nat) : m % 10 ^ (j + 1) / 10 ^ j < 10 := by
  have hp : 0 < 10 ^ j := Nat.pow_pos (by omega)
  rw [Nat.div_lt_iff_lt_mul hp, Nat.mul_comm, ← Nat.pow_succ]
  exact Nat.mod_lt _ (Nat.pow_pos (by omega))

/-- One round of 'zzDecimal', all its numbers. -/
theorem dec_round (m j P mc : Nat) (hj : j ≤ 19) (hP : P = 10 ^ j) (hmc : mc = m % 10 ^ (j + 1)) : ∃ d mc' : Nat, d < 10 ∧ 1 ≤ P ∧ P ≤ 10000000000000000000 ∧ mc ≤ m ∧ mc' = m % 10 ^ j ∧
    (mc : Int) / (P : Int) = (d : Int) ∧ (d : Int) * (P : Int) ≤ (mc : Int) ∧ 0 ≤ (d : Int) * (P : Int) ∧ (mc : Int) - (d : Int) * (P : Int) = (mc' : Int) ∧ m / 10 ^ j = 10 * (m / 10 ^ (j + 1)) + d ∧ (P = 1 → j = 0) := by
  have hrest := place_rest m j
  have hstep := place_step m j
  have hdig := place_dig m j
  rw [← hmc] at hrest hstep hdig
  rw [← hP] at hrest hdig
  have hP1 : 1 ≤ P := by rw [hP]; exact Nat.pow_pos (by omega)
  have hPm : P ≤ 10000000000000000000 := by rw [hP]; exact Nat.pow_le_pow_right (n := 10) (by omega) hj
  have hle : mc / P * P ≤ mc := Nat.div_mul_le_self mc P
  have e : ((mc / P * P : Nat) : Int) = ((mc / P : Nat) : Int) * (P : Int) := Int.natCast_mul _ _
  refine ⟨mc / P, m % P, hdig, hP1, hPm, by rw [hmc]; exact Nat.mod_le _ _, by rw [hP], (Int.natCast_ediv mc P).symm, by omega, by omega, by omega, by rw [hstep, hP], ?_⟩
  intro h1
  rw [hP] at h1
  rcases Nat.eq_zero_or_pos j with h | h
  · exact h
  · have : 10 ^ 1 ≤ 10 ^ j := Nat.pow_le_pow_right (n := 10) (by omega) h
    omega

end Go.Proofs.Qxb6605313a
