/-
  THE PLAIN LAWS OF 'serialOrder' (seat b6003656a): no Go in sight.
-/
import Derived.RowKit
namespace Go.Proofs.Qxb6003656a
set_option linter.unusedVariables false
set_option linter.unusedSimpArgs false

/-- The group of a slot's byte; -1 for none. -/
def rk (c : Int) : Int := if c = 2 then 0 else if c = 3 then 1 else if c = 0 then 2 else if c = 4 then 3 else -1
def ky (r i : Int) : Int := if r = 1 then -i else i

/-- Does position i bear c? -/
def at? (ss : List Int) (c : Int) (i : Nat) : Bool := ss.getD i 0 == c
/-- The positions below k that bear c, upwards. -/
def up (ss : List Int) (c : Int) (k : Nat) : List Nat := (List.range k).filter (at? ss c)
/-- The positions from j to n - 1 that bear c, downwards. -/
def dn (ss : List Int) (c : Int) (n j : Nat) : List Nat := ((List.range' j (n - j)).filter (at? ss c)).reverse
def ord (ss : List Int) : List Nat := up ss 2 ss.length ++ (dn ss 3 ss.length 0 ++ (up ss 0 ss.length ++ up ss 4 ss.length))
/-- How many of the first k finish. -/
def cnt (ss : List Int) (k : Nat) : Nat := ((List.range k).filter fun i => decide (0 ≤ rk (ss.getD i 0))).length

theorem up_succ (ss : List Int) (c : Int) (k : Nat) : up ss c (k + 1) = up ss c k ++ (if ss.getD k 0 = c then [k] else []) := by
  unfold up
  rw [List.range_succ, List.filter_append]
  congr 1
  by_cases h : ss.getD k 0 = c
  · have : at? ss c k = true := by simp only [at?, beq_iff_eq]; exact h
    rw [if_pos h, List.filter_cons, if_pos this]; rfl
  · have : at? ss c k = false := by simp only [at?, beq_eq_false_iff_ne]; exact h
    rw [if_neg h, List.filter_cons, this]; rfl
theorem dn_end (ss : List Int) (c : Int) (n : Nat) : dn ss c n n = [] := by simp [dn]
theorem dn_step (ss : List Int) (c : Int) (n j : Nat) (h : j < n) : dn ss c n j = dn ss c n (j + 1) ++ (if ss.getD j 0 = c then [j] else []) := by
  unfold dn
  have e : n - j = (n - (j + 1)) + 1 := by omega
  rw [e, List.range'_succ, List.filter_cons]
  by_cases hc : ss.getD j 0 = c
  · have : at? ss c j = true := by simp only [at?, beq_iff_eq]; exact hc
    rw [if_pos hc, if_pos this, List.reverse_cons]
  · have : at? ss c j = false := by simp only [at?, beq_eq_false_iff_ne]; exact hc
    rw [if_neg hc, this]; simp
theorem cnt_succ (ss : List Int) (k : Nat) : cnt ss (k + 1) = cnt ss k + (if 0 ≤ rk (ss.getD k 0) then 1 else 0) := by
  unfold cnt
  rw [List.range_succ, List.filter_append, List.length_append]
  congr 1
  by_cases h : 0 ≤ rk (ss.getD k 0)
  · rw [if_pos h, List.filter_cons, if_pos (by simpa using h)]; rfl
  · rw [if_neg h, List.filter_cons, if_neg (by simpa using h)]; rfl
theorem cnt_le (ss : List Int) (k : Nat) : cnt ss k ≤ k := by
  induction k with
  | zero => simp [cnt]
  | succ k ih => rw [cnt_succ]; split <;> omega
theorem up_len_le (ss : List Int) (c : Int) (k : Nat) : (up ss c k).length ≤ k := by
  have := List.length_filter_le (at? ss c) (List.range k)
  rw [List.length_range] at this
  exact this
theorem dn_len (ss : List Int) (c : Int) (n : Nat) : (dn ss c n 0).length = (up ss c n).length := by
  unfold dn up
  rw [List.length_reverse, Nat.sub_zero, List.range_eq_range']
theorem dn_len_le (ss : List Int) (c : Int) (n j : Nat) : (dn ss c n j).length ≤ n := by
  unfold dn
  rw [List.length_reverse]
  have := List.length_filter_le (at? ss c) (List.range' j (n - j))
  rw [List.length_range'] at this
  omega
/-- Each finisher stands in one group. -/
theorem cnt_groups (ss : List Int) (k : Nat) : (up ss 2 k).length + ((up ss 3 k).length + ((up ss 0 k).length + (up ss 4 k).length)) = cnt ss k := by
  induction k with
  | zero => rfl
  | succ k ih =>
    simp only [up_succ, cnt_succ, List.length_append]
    have key : ∀ c : Int, (if c = 2 then [k] else []).length + ((if c = 3 then [k] else []).length + ((if c = 0 then [k] else []).length + (if c = 4 then [k] else []).length)) = (if 0 ≤ rk c then 1 else 0) := by
      intro c
      unfold rk
      by_cases h2 : c = 2
      · subst h2; simp
      · by_cases h3 : c = 3
        · subst h3; simp
        · by_cases h0 : c = 0
          · subst h0; simp
          · by_cases h4 : c = 4
            · subst h4; simp
            · simp [h2, h3, h0, h4]
    have := key (ss.getD k 0)
    omega
theorem ord_len (ss : List Int) : (ord ss).length = cnt ss ss.length := by
  unfold ord
  rw [List.length_append, List.length_append, List.length_append, dn_len, cnt_groups]

/-! ### The order -/
def lt2 (ss : List Int) (a b : Nat) : Prop := rk (ss.getD a 0) < rk (ss.getD b 0) ∨ (rk (ss.getD a 0) = rk (ss.getD b 0) ∧ ky (rk (ss.getD a 0)) (a : Int) < ky (rk (ss.getD b 0)) (b : Int))
theorem mem_up {ss : List Int} {c : Int} {k i : Nat} (h : i ∈ up ss c k) : i < k ∧ ss.getD i 0 = c := by
  unfold up at h
  rw [List.mem_filter, List.mem_range] at h
  exact ⟨h.1, by simpa [at?] using h.2⟩
theorem mem_dn {ss : List Int} {c : Int} {n i : Nat} (h : i ∈ dn ss c n 0) : i < n ∧ ss.getD i 0 = c := by
  unfold dn at h
  rw [List.mem_reverse, List.mem_filter, List.mem_range'_1] at h
  exact ⟨by omega, by simpa [at?] using h.2⟩
theorem up_sorted (ss : List Int) (c : Int) (k : Nat) (hc : c ≠ 3) : (up ss c k).Pairwise (lt2 ss) := by
  have h1 : (up ss c k).Pairwise (· < ·) := List.Pairwise.filter _ List.pairwise_lt_range
  refine List.Pairwise.imp_of_mem ?_ h1
  intro a b ha hb hab
  have ea := (mem_up ha).2
  have eb := (mem_up hb).2
  right
  rw [ea, eb]
  refine ⟨rfl, ?_⟩
  have hr : rk c ≠ 1 := by
    unfold rk
    by_cases h2 : c = 2 <;> by_cases h0 : c = 0 <;> by_cases h4 : c = 4 <;> simp [h2, h0, h4, hc]
  unfold ky
  rw [if_neg hr, if_neg hr]
  omega
theorem dn_sorted (ss : List Int) (n : Nat) : (dn ss 3 n 0).Pairwise (lt2 ss) := by
  unfold dn
  rw [List.pairwise_reverse]
  have h1 : ((List.range' 0 (n - 0)).filter (at? ss 3)).Pairwise (· < ·) := List.Pairwise.filter _ (List.pairwise_lt_range')
  refine List.Pairwise.imp_of_mem ?_ h1
  intro a b ha hb hab
  have ea : ss.getD a 0 = 3 := (mem_dn (n := n) (by unfold dn; rw [List.mem_reverse]; exact ha)).2
  have eb : ss.getD b 0 = 3 := (mem_dn (n := n) (by unfold dn; rw [List.mem_reverse]; exact hb)).2
  right
  rw [ea, eb]
  have hr : rk 3 = 1 := by decide
  refine ⟨rfl, ?_⟩
  rw [hr]
  unfold ky
  rw [if_pos rfl, if_pos rfl]
  omega
theorem ord_mem {ss : List Int} {i : Nat} (h : i ∈ ord ss) : i < ss.length ∧ 0 ≤ rk (ss.getD i 0) := by
  unfold ord at h
  rw [List.mem_append, List.mem_append, List.mem_append] at h
  rcases h with h | h | h | h
  · have := mem_up h; exact ⟨this.1, by rw [this.2]; decide⟩
  · have := mem_dn h; exact ⟨this.1, by rw [this.2]; decide⟩
  · have := mem_up h; exact ⟨this.1, by rw [this.2]; decide⟩
  · have := mem_up h; exact ⟨this.1, by rw [this.2]; decide⟩
theorem ord_sorted (ss : List Int) : (ord ss).Pairwise (lt2 ss) := by
  have r2 : rk 2 = 0 := by decide
  have r3 : rk 3 = 1 := by decide
  have r0 : rk 0 = 2 := by decide
  have r4 : rk 4 = 3 := by decide
  unfold ord
  rw [List.pairwise_append, List.pairwise_append, List.pairwise_append]
  refine ⟨up_sorted ss 2 _ (by decide), ⟨dn_sorted ss _, ⟨up_sorted ss 0 _ (by decide), up_sorted ss 4 _ (by decide), ?_⟩, ?_⟩, ?_⟩
  · intro a ha b hb
    left; rw [(mem_up ha).2, (mem_up hb).2, r0, r4]; decide
  · intro a ha b hb
    left
    rw [(mem_dn ha).2, r3]
    rcases List.mem_append.1 hb with hb | hb
    · rw [(mem_up hb).2, r0]; decide
    · rw [(mem_up hb).2, r4]; decide
  · intro a ha b hb
    left
    rw [(mem_up ha).2, r2]
    rcases List.mem_append.1 hb with hb | hb
    · rw [(mem_dn hb).2, r3]; decide
    · rcases List.mem_append.1 hb with hb | hb
      · rw [(mem_up hb).2, r0]; decide
      · rw [(mem_up hb).2, r4]; decide
/-- Neighbours. -/
theorem ord_next (ss : List Int) (t : Nat) (h : t + 1 < (ord ss).length) : lt2 ss ((ord ss).getD t 0) ((ord ss).getD (t + 1) 0) := by
  have := List.pairwise_iff_getElem.1 (ord_sorted ss) t (t + 1) (by omega) h (by omega)
  have e1 : (ord ss).getD t 0 = (ord ss)[t]'(by omega) := by simp [List.getD, show t < (ord ss).length by omega]
  have e2 : (ord ss).getD (t + 1) 0 = (ord ss)[t + 1] := by simp [List.getD, h]
  rw [e1, e2]; exact this
theorem ord_at (ss : List Int) (t : Nat) (h : t < (ord ss).length) : (ord ss).getD t 0 < ss.length ∧ 0 ≤ rk (ss.getD ((ord ss).getD t 0) 0) := by
  have e1 : (ord ss).getD t 0 = (ord ss)[t] := by simp [List.getD, h]
  rw [e1]
  exact ord_mem (List.getElem_mem h)

end Go.Proofs.Qxb6003656a
