/-
  THE PLAIN LAWS OF THE SCANNER (seat b6605313a): no Go in sight. 'scanL': one byte at a time.
-/
import Derived.RowKit
namespace Go.Proofs.Qxb6605313a
open Go.RowKit (wrap64)
set_option linter.unusedVariables false

/-- The byte automaton: what is left of the text, the place, depth, inString, escaped; out: (n, end, depth, inString, escaped). -/
def scanL : List Int → Nat → Int → Bool → Bool → Nat × Bool × Int × Bool × Bool
  | [], i, d, s, e => (i, false, d, s, e)
  | c :: cs, i, d, s, e =>
    if s = true then
      if e = true then scanL cs (i + 1) d true false
      else if c = 92 then scanL cs (i + 1) d true true
      else if c = 34 then scanL cs (i + 1) d false false
      else scanL cs (i + 1) d true false
    else if c = 34 then scanL cs (i + 1) d true e
    else if c = 123 ∨ c = 91 then scanL cs (i + 1) (wrap64 (d + 1)) false e
    else if c = 125 ∨ c = 93 then
      if wrap64 (d - 1) ≤ 0 then (i + 1, true, wrap64 (d - 1), false, e) else scanL cs (i + 1) (wrap64 (d - 1)) false e
    else if (c = 32 ∨ c = 9 ∨ c = 13 ∨ c = 10) ∧ d = 0 then (i, true, d, false, e)
    else scanL cs (i + 1) d false e

theorem scanL_shift (l : List Int) : ∀ (i j : Nat) (d : Int) (s e : Bool),
    scanL l (i + j) d s e = (i + (scanL l j d s e).1, (scanL l j d s e).2) := by
  induction l with
  | nil => intro i j d s e; simp [scanL]
  | cons c cs ih =>
    intro i j d s e
    simp only [scanL]
    split
    · split
      · rw [Nat.add_assoc, ih]
      · split
        · rw [Nat.add_assoc, ih]
        · split
          · rw [Nat.add_assoc, ih]
          · rw [Nat.add_assoc, ih]
    · split
      · rw [Nat.add_assoc, ih]
      · split
        · rw [Nat.add_assoc, ih]
        · split
          · split
            · simp [Nat.add_assoc]
            · rw [Nat.add_assoc, ih]
          · split
            · simp
            · rw [Nat.add_assoc, ih]

/-- Two pieces: the first does not end the value. -/
theorem scanL_append (b : List Int) (a : List Int) : ∀ (i : Nat) (d : Int) (s e : Bool),
    scanL (a ++ b) i d s e = if (scanL a i d s e).2.1 = true then scanL a i d s e
      else scanL b (scanL a i d s e).1 (scanL a i d s e).2.2.1 (scanL a i d s e).2.2.2.1 (scanL a i d s e).2.2.2.2 := by
  induction a with
  | nil => intro i d s e; simp [scanL]
  | cons c cs ih =>
    intro i d s e
    simp only [List.cons_append, scanL]
    split
    · split
      · exact ih ..
      · split
        · exact ih ..
        · split
          · exact ih ..
          · exact ih ..
    · split
      · exact ih ..
      · split
        · exact ih ..
        · split
          · split
            · simp
            · exact ih ..
          · split
            · simp
            · exact ih ..

theorem scanL_le (l : List Int) : ∀ (i : Nat) (d : Int) (s e : Bool),
    (scanL l i d s e).1 ≤ i + l.length ∧ ((scanL l i d s e).2.1 = false → (scanL l i d s e).1 = i + l.length) := by
  induction l with
  | nil => intro i d s e; simp [scanL]
  | cons c cs ih =>
    intro i d s e
    have key : ∀ d s e, (scanL cs (i + 1) d s e).1 ≤ i + (c :: cs).length ∧ ((scanL cs (i + 1) d s e).2.1 = false → (scanL cs (i + 1) d s e).1 = i + (c :: cs).length) := by
      intro d s e
      have := ih (i + 1) d s e
      simp only [List.length_cons]
      exact ⟨by omega, fun h => by have := this.2 h; omega⟩
    simp only [scanL]
    split
    · split
      · exact key ..
      · split
        · exact key ..
        · split
          · exact key ..
          · exact key ..
    · split
      · exact key ..
      · split
        · exact key ..
        · split
          · split
            · simp
            · exact key ..
          · split
            · simp
            · exact key ..

/-- The law of the two pieces, as the Go text asks it. -/
theorem scanL_ends (a b : List Int) (d : Int) (s e : Bool) (h : (scanL a 0 d s e).2.1 = true) : scanL (a ++ b) 0 d s e = scanL a 0 d s e := by
  rw [scanL_append, if_pos h]
theorem scanL_goes (a b : List Int) (d : Int) (s e : Bool) (h : (scanL a 0 d s e).2.1 = false) :
    scanL (a ++ b) 0 d s e = (a.length + (scanL b 0 (scanL a 0 d s e).2.2.1 (scanL a 0 d s e).2.2.2.1 (scanL a 0 d s e).2.2.2.2).1,
      (scanL b 0 (scanL a 0 d s e).2.2.1 (scanL a 0 d s e).2.2.2.1 (scanL a 0 d s e).2.2.2.2).2) := by
  rw [scanL_append, if_neg (by simp [h])]
  have hn := (scanL_le a 0 d s e).2 h
  rw [hn]
  have := scanL_shift b a.length 0 (scanL a 0 d s e).2.2.1 (scanL a 0 d s e).2.2.2.1 (scanL a 0 d s e).2.2.2.2
  simpa using this

/-- The automaton from place k on. -/
def scanAt (zs : List Int) (k : Nat) (d : Int) (s e : Bool) : Nat × Bool × Int × Bool × Bool := scanL (zs.drop k) k d s e
theorem scanAt_end (zs : List Int) (k : Nat) (d : Int) (s e : Bool) (h : zs.length ≤ k) : scanAt zs k d s e = (k, false, d, s, e) := by
  unfold scanAt; rw [List.drop_eq_nil_of_le h]; rfl
theorem scanAt_step (zs : List Int) (k : Nat) (d : Int) (s e : Bool) (c : Int) (h : k < zs.length) (hc : c = zs.getD k 0) : scanAt zs k d s e =
    if s = true then
      if e = true then scanAt zs (k + 1) d true false
      else if c = 92 then scanAt zs (k + 1) d true true
      else if c = 34 then scanAt zs (k + 1) d false false
      else scanAt zs (k + 1) d true false
    else if c = 34 then scanAt zs (k + 1) d true e
    else if c = 123 ∨ c = 91 then scanAt zs (k + 1) (wrap64 (d + 1)) false e
    else if c = 125 ∨ c = 93 then
      if wrap64 (d - 1) ≤ 0 then (k + 1, true, wrap64 (d - 1), false, e) else scanAt zs (k + 1) (wrap64 (d - 1)) false e
    else if (c = 32 ∨ c = 9 ∨ c = 13 ∨ c = 10) ∧ d = 0 then (k, true, d, false, e)
    else scanAt zs (k + 1) d false e := by
  have hc' : c = zs[k] := by rw [hc, List.getD_eq_getElem?_getD, List.getElem?_eq_getElem h]; rfl
  unfold scanAt
  rw [List.drop_eq_getElem_cons h, scanL, hc']

/-! ### The steps, in the walk's own forms -/
section
variable {zs : List Int} {k : Nat} {d : Int} {e : Bool} {c : Int}
theorem st_quote (h : k < zs.length) (hc : c = zs.getD k 0) (h1 : (c == 34) = true) : scanAt zs k d false e = scanAt zs (k + 1) d true e := by
  rw [scanAt_step zs k d false e c h hc]; simp_all
theorem st_open1 (h : k < zs.length) (hc : c = zs.getD k 0) (h1 : (c == 34) = false) (h2 : (c == 123) = true) : scanAt zs k d false e = scanAt zs (k + 1) (wrap64 (d + 1)) false e := by
  rw [scanAt_step zs k d false e c h hc]; simp_all
theorem st_open2 (h : k < zs.length) (hc : c = zs.getD k 0) (h1 : (c == 34) = false) (h2 : (c == 91) = true) : scanAt zs k d false e = scanAt zs (k + 1) (wrap64 (d + 1)) false e := by
  rw [scanAt_step zs k d false e c h hc]; simp_all
theorem st_close1 (h : k < zs.length) (hc : c = zs.getD k 0) (h1 : (c == 125) = true) (h2 : 0 < wrap64 (d - 1)) : scanAt zs k d false e = scanAt zs (k + 1) (wrap64 (d - 1)) false e := by
  rw [scanAt_step zs k d false e c h hc]
  obtain rfl : c = 125 := by simpa using h1
  simp; omega
theorem st_close2 (h : k < zs.length) (hc : c = zs.getD k 0) (h1 : (c == 93) = true) (h2 : 0 < wrap64 (d - 1)) : scanAt zs k d false e = scanAt zs (k + 1) (wrap64 (d - 1)) false e := by
  rw [scanAt_step zs k d false e c h hc]
  obtain rfl : c = 93 := by simpa using h1
  simp; omega
theorem st_done1 (h : k < zs.length) (hc : c = zs.getD k 0) (h1 : (c == 125) = true) (h2 : wrap64 (d - 1) ≤ 0) : scanAt zs k d false e = (k + 1, true, wrap64 (d - 1), false, e) := by
  rw [scanAt_step zs k d false e c h hc]
  obtain rfl : c = 125 := by simpa using h1
  simp; omega
theorem st_done2 (h : k < zs.length) (hc : c = zs.getD k 0) (h1 : (c == 93) = true) (h2 : wrap64 (d - 1) ≤ 0) : scanAt zs k d false e = (k + 1, true, wrap64 (d - 1), false, e) := by
  rw [scanAt_step zs k d false e c h hc]
  obtain rfl : c = 93 := by simpa using h1
  simp; omega
theorem st_space (h : k < zs.length) (hc : c = zs.getD k 0) (h1 : (c == 32) = true ∨ (c == 9) = true ∨ (c == 13) = true ∨ (c == 10) = true) (h2 : (d == 0) = true) : scanAt zs k d false e = (k, true, d, false, e) := by
  rw [scanAt_step zs k d false e c h hc]
  simp at h1 h2
  subst h2
  rcases h1 with rfl | rfl | rfl | rfl <;> simp
theorem st_inner (h : k < zs.length) (hc : c = zs.getD k 0) (h1 : (c == 32) = true ∨ (c == 9) = true ∨ (c == 13) = true ∨ (c == 10) = true) (h2 : (d == 0) = false) : scanAt zs k d false e = scanAt zs (k + 1) d false e := by
  rw [scanAt_step zs k d false e c h hc]
  simp at h1 h2
  rcases h1 with rfl | rfl | rfl | rfl <;> simp [h2]
theorem st_plain (h : k < zs.length) (hc : c = zs.getD k 0) (h1 : (c == 34) = false) (h2 : (c == 123) = false) (h3 : (c == 91) = false) (h4 : (c == 125) = false) (h5 : (c == 93) = false) (h6 : (c == 32) = false) (h7 : (c == 9) = false) (h8 : (c == 13) = false) (h9 : (c == 10) = false) :
    scanAt zs k d false e = scanAt zs (k + 1) d false e := by
  rw [scanAt_step zs k d false e c h hc]; simp_all
theorem st_esc (h : k < zs.length) : scanAt zs k d true true = scanAt zs (k + 1) d true false := by
  rw [scanAt_step zs k d true true _ h rfl]; simp
theorem st_in (h : k < zs.length) (hc : c = zs.getD k 0) (h1 : (c != 34) = true) (h2 : (c != 92) = true) : scanAt zs k d true false = scanAt zs (k + 1) d true false := by
  rw [scanAt_step zs k d true false c h hc]; simp_all
theorem st_back (h : k < zs.length) (hc : c = zs.getD k 0) (h2 : (c == 92) = true) : scanAt zs k d true false = scanAt zs (k + 1) d true true := by
  rw [scanAt_step zs k d true false c h hc]; simp_all
theorem st_shut (h : k < zs.length) (hc : c = zs.getD k 0) (h2 : (c == 34) = true) : scanAt zs k d true false = scanAt zs (k + 1) d false false := by
  rw [scanAt_step zs k d true false c h hc]; simp_all
end

end Go.Proofs.Qxb6605313a
