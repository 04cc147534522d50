/-
  THE PLAIN LAWS OF 'fits' (seat b6605401a): no Go in sight.
-/
import Derived.RowKit
namespace Go.Proofs.Qxb6605401a
set_option linter.unusedVariables false

/-- May the text's byte c stand where the layout has l? -/
def admB (c l : Int) : Bool := decide ((l = 48 ∧ 48 ≤ c ∧ c ≤ 57) ∨ (l = 84 ∧ (c = 84 ∨ c = 116)) ∨ (l ≠ 48 ∧ l ≠ 84 ∧ c = l))

/-- The bytes of a string as integers. -/
def bts (s : ByteArray) : List Int := s.data.toList.map fun c => (c.toNat : Int)

/-- Do the texts fit, byte by byte? -/
def fitL : List Int → List Int → Bool
  | [], [] => true
  | c :: cs, l :: ls => admB c l && fitL cs ls
  | _, _ => false

theorem fitL_len {a b : List Int} (h : fitL a b = true) : a.length = b.length := by
  induction a generalizing b with
  | nil => cases b <;> simp_all [fitL]
  | cons c cs ih =>
    cases b with
    | nil => simp [fitL] at h
    | cons l ls => simp [fitL] at h; simp [ih h.2]

theorem fitL_ne {a b : List Int} (h : a.length ≠ b.length) : fitL a b = false := by
  cases hf : fitL a b
  · rfl
  · exact absurd (fitL_len hf) h

theorem fitL_iff (a b : List Int) : fitL a b = true ↔ a.length = b.length ∧ ∀ i, i < b.length → admB (a.getD i 0) (b.getD i 0) = true := by
  induction a generalizing b with
  | nil => cases b <;> simp [fitL]
  | cons c cs ih =>
    cases b with
    | nil => simp [fitL]
    | cons l ls =>
      simp only [fitL, Bool.and_eq_true, ih ls, List.length_cons, Nat.add_right_cancel_iff]
      constructor
      · rintro ⟨h1, h2, h3⟩
        refine ⟨h2, fun i hi => ?_⟩
        cases i with
        | zero => simpa using h1
        | succ j => simpa using h3 j (by omega)
      · rintro ⟨h2, h3⟩
        exact ⟨by simpa using h3 0 (by omega), h2, fun i hi => by simpa using h3 (i + 1) (by omega)⟩

/-- A byte that is not admitted: it does not fit. -/
theorem fitL_miss {a b : List Int} {i : Nat} (hi : i < b.length) (h : admB (a.getD i 0) (b.getD i 0) = false) : fitL a b = false := by
  cases hf : fitL a b
  · rfl
  · have := ((fitL_iff a b).1 hf).2 i hi
    rw [h] at this; simp at this

end Go.Proofs.Qxb6605401a
