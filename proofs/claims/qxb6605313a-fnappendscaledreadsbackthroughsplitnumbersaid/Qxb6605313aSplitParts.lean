/-
  WHAT THE WALK OF 'splitNumber' (function 23) WANTS: one small law a step.
-/
import Derived.Test.Qxb6605313aNumWalk
import Derived.Laws.RangeString
import Derived.Deep.DeepCutAuto
import Derived.Deep.CutBlock
namespace Go.Proofs.Qxb6605313a
open Go.RowKit
set_option linter.unusedVariables false
set_option linter.unusedSimpArgs false

theorem results_tmp4 {fn : Func} {t u v x : Tmp} (h : fn.results = #[.tmp t, .tmp u, .tmp v, .tmp x]) (tmps : Array Value) (P : Program) (w : World) :
    (results fn tmps).run P w = .ok (.tuple #[tmps.getD t undef, tmps.getD u undef, tmps.getD v undef, tmps.getD x undef]) w := by
  simp [results, h]

/-- What is handed back: the four values, the digits told by their list. -/
def NumRet (R : Option (Bool × List UInt8 × Int)) (e : Ending) : Prop :=
  match R with
  | none => e = .returned (.tuple #[.bool false, .string ByteArray.empty, .int .i64 0, .bool false])
  | some (neg, L, x) => ∃ s : ByteArray, s.data.toList = L ∧ e = .returned (.tuple #[.bool neg, .string s, .int .i64 x, .bool true])

/-- Is there a byte, and does it meet q? -/
def hdIs (q : UInt8 → Bool) : List UInt8 → Bool
  | [] => false
  | c :: _ => q c
theorem hd_in (q : UInt8 → Bool) (s : ByteArray) (p : Nat) (h : p < s.size) : hdIs q (s.data.toList.drop p) = q s[p] := by rw [drop_at s p h]; rfl
theorem hd_out (q : UInt8 → Bool) (s : ByteArray) (p : Nat) (h : s.size ≤ p) : hdIs q (s.data.toList.drop p) = false := by rw [drop_end s p h]; rfl
theorem u8_beq (c a : UInt8) : ((c.toNat : Int) == (a.toNat : Int)) = (c == a) := by
  cases h : (c == a)
  · rw [beq_eq_false_iff_ne] at h ⊢
    intro e; exact h (UInt8.toNat_inj.1 (by omega))
  · rw [beq_iff_eq] at h ⊢; rw [h]

theorem sign_yes {bd : Int} {L : List UInt8} {R : Option (Bool × List UInt8 × Int)} (h : sAll bd L = R) (hq : hdIs (· == 45) (L.drop 0) = true) : sInt bd true (L.drop 1) = R ∧ 1 ≤ L.length := by
  cases L with
  | nil => simp [hdIs] at hq
  | cons c r => simp [hdIs] at hq; subst hq; simp [sAll] at h; exact ⟨h, by simp⟩
theorem sign_no {bd : Int} {L : List UInt8} {R : Option (Bool × List UInt8 × Int)} (h : sAll bd L = R) (hq : hdIs (· == 45) (L.drop 0) = false) : sInt bd false (L.drop 0) = R := by
  cases L with
  | nil => exact h
  | cons c r => simp [hdIs] at hq; simp [sAll, hq] at h; exact h

theorem skip_le (s : ByteArray) (p : Nat) (hp : p ≤ s.size) : p + (dW (s.data.toList.drop p)).length ≤ s.size := by
  have := congrArg List.length (dW_dR (s.data.toList.drop p))
  rw [List.length_append, List.length_drop, size_of_toList] at this
  omega
theorem take_dW (l : List UInt8) : l.take (dW l).length = dW l := by
  have : (dW l ++ dR l).take (dW l).length = dW l := List.take_left
  rw [dW_dR] at this; exact this
theorem drop_dW (l : List UInt8) : l.drop (dW l).length = dR l := by
  have : (dW l ++ dR l).drop (dW l).length = dR l := List.drop_left
  rw [dW_dR] at this; exact this
/-- The digits from place p on, and what stands behind them. -/
theorem skip_cut (L : List UInt8) (p : Nat) : (L.drop p).take (p + (dW (L.drop p)).length - p) = dW (L.drop p) ∧ L.drop (p + (dW (L.drop p)).length) = dR (L.drop p) := by
  have e : p + (dW (L.drop p)).length - p = (dW (L.drop p)).length := by omega
  refine ⟨?_, ?_⟩
  · rw [e]; exact take_dW _
  · rw [← List.drop_drop]; exact drop_dW _
section
variable {bd : Int} {neg : Bool} {L : List UInt8} {p : Nat} {c : UInt8} {R : Option (Bool × List UInt8 × Int)}
theorem ne48 (h : ((c.toNat : Int) == 48) = false) : c ≠ 48 := by rintro rfl; simp at h
theorem int_digits (h : sInt bd neg (L.drop p) = R) (hd : L.drop p = c :: L.drop (p + 1)) (h48 : ((c.toNat : Int) == 48) = false) (h1 : (49 : Int) ≤ (c.toNat : Int)) (h2 : (c.toNat : Int) ≤ 57) :
    sFrac bd neg ((L.drop p).take (p + (dW (L.drop p)).length - p)) (L.drop (p + (dW (L.drop p)).length)) = R := by
  rw [(skip_cut L p).1, (skip_cut L p).2]
  rw [hd] at h ⊢
  rw [sInt, if_neg (ne48 h48), if_pos (by omega)] at h
  exact h
theorem int_hi (h : sInt bd neg (L.drop p) = R) (hd : L.drop p = c :: L.drop (p + 1)) (h48 : ((c.toNat : Int) == 48) = false) (h2 : ¬ (c.toNat : Int) ≤ 57) : R = none := by
  rw [hd, sInt, if_neg (ne48 h48), if_neg (by omega)] at h
  exact h.symm
theorem int_lo (h : sInt bd neg (L.drop p) = R) (hd : L.drop p = c :: L.drop (p + 1)) (h48 : ((c.toNat : Int) == 48) = false) (h2 : ¬ (49 : Int) ≤ (c.toNat : Int)) : R = none := by
  rw [hd, sInt, if_neg (ne48 h48), if_neg (by omega)] at h
  exact h.symm
theorem int_zero (h : sInt bd neg (L.drop p) = R) (hd : L.drop p = c :: L.drop (p + 1)) (h48 : ((c.toNat : Int) == 48) = true) : sFrac bd neg ((L.drop p).take (p + 1 - p)) (L.drop (p + 1)) = R := by
  have hc : c = 48 := UInt8.toNat_inj.1 (by have := beq_iff_eq.1 h48; show c.toNat = 48; omega)
  have e : p + 1 - p = 1 := by omega
  rw [hd, hc, sInt, if_pos rfl] at h
  rw [e, hd, hc]
  exact h
theorem int_none (h : sInt bd neg (L.drop p) = R) (hd : L.drop p = []) : R = none := by
  rw [hd] at h; exact h.symm
end

/-! ### The fraction -/
section
variable {bd : Int} {neg : Bool} {L ip : List UInt8} {q : Nat} {R : Option (Bool × List UInt8 × Int)}
theorem drop_cons {L : List UInt8} {q : Nat} {c : UInt8} {r : List UInt8} (h : L.drop q = c :: r) : L.drop (q + 1) = r ∧ q < L.length := by
  refine ⟨?_, ?_⟩
  · rw [← List.drop_drop, h]; rfl
  · have := congrArg List.length h; simp at this; omega
theorem frac_no (h : sFrac bd neg ip (L.drop q) = R) (hx : hdIs (· == 46) (L.drop q) = false) : sExp bd neg ip [] (L.drop q) = R := by
  cases hd : L.drop q with
  | nil => rw [hd] at h; exact h
  | cons c r =>
    rw [hd] at h hx
    simp [hdIs] at hx
    rw [sFrac, if_neg hx] at h
    exact h
theorem frac_yes (h : sFrac bd neg ip (L.drop q) = R) (hx : hdIs (· == 46) (L.drop q) = true) : q + 1 ≤ L.length ∧ (dW (L.drop (q + 1)) = [] → R = none) ∧
    (dW (L.drop (q + 1)) ≠ [] → sExp bd neg ip ((L.drop (q + 1)).take (q + 1 + (dW (L.drop (q + 1))).length - (q + 1))) (L.drop (q + 1 + (dW (L.drop (q + 1))).length)) = R) := by
  cases hd : L.drop q with
  | nil => rw [hd] at hx; simp [hdIs] at hx
  | cons c r =>
    obtain ⟨e1, e2⟩ := drop_cons hd
    rw [hd] at h hx
    simp [hdIs] at hx
    subst hx
    rw [sFrac, if_pos rfl] at h
    refine ⟨by omega, ?_, ?_⟩
    · intro he; rw [e1] at he; rw [if_pos he] at h; exact h.symm
    · intro he
      rw [(skip_cut L (q + 1)).1, (skip_cut L (q + 1)).2, e1]
      rw [e1] at he
      rw [if_neg he] at h
      exact h
end

/-! ### The exponent -/
section
variable {bd : Int} {neg : Bool} {L ip fr : List UInt8} {q : Nat} {R : Option (Bool × List UInt8 × Int)}
theorem exp_no (h : sExp bd neg ip fr (L.drop q) = R) (hx : hdIs (fun c => c == 101 || c == 69) (L.drop q) = false) : sEnd neg ip fr 0 (L.drop q) = R := by
  cases hd : L.drop q with
  | nil => rw [hd] at h; exact h
  | cons c r =>
    rw [hd] at h hx
    simp [hdIs] at hx
    rw [sExp, if_neg (by simp [hx])] at h
    exact h
/-- Behind the e: the sign is yet to be read. -/
def sExp2 (bd : Int) (neg : Bool) (ip fr r : List UInt8) : Option (Bool × List UInt8 × Int) :=
  if dW (exSign r).2 = [] then none else sEnd neg ip fr (sgnE (exSign r).1 (satF bd (dW (exSign r).2))) (dR (exSign r).2)
theorem exp_yes (h : sExp bd neg ip fr (L.drop q) = R) (hx : hdIs (fun c => c == 101 || c == 69) (L.drop q) = true) : q + 1 ≤ L.length ∧ sExp2 bd neg ip fr (L.drop (q + 1)) = R := by
  cases hd : L.drop q with
  | nil => rw [hd] at hx; simp [hdIs] at hx
  | cons c r =>
    obtain ⟨e1, e2⟩ := drop_cons hd
    rw [hd] at h hx
    have hc : c = 101 ∨ c = 69 := by simpa [hdIs] using hx
    rw [sExp, if_pos hc] at h
    exact ⟨by omega, by rw [e1]; exact h⟩
/-- The sign is read: the digits from place q on. -/
def sExp3 (bd : Int) (neg : Bool) (ip fr : List UInt8) (en : Bool) (r : List UInt8) : Option (Bool × List UInt8 × Int) :=
  if dW r = [] then none else sEnd neg ip fr (sgnE en (satF bd (dW r))) (dR r)
theorem exsign_no (h : sExp2 bd neg ip fr (L.drop q) = R) (hx : hdIs (fun c => c == 43 || c == 45) (L.drop q) = false) : sExp3 bd neg ip fr false (L.drop q) = R := by
  cases hd : L.drop q with
  | nil => rw [hd] at h; exact h
  | cons c r =>
    rw [hd] at h hx
    simp [hdIs] at hx
    have e : exSign (c :: r) = (false, c :: r) := by simp [exSign, hx]
    unfold sExp2 at h
    rw [e] at h
    exact h
theorem exsign_yes (h : sExp2 bd neg ip fr (L.drop q) = R) (hx : hdIs (fun c => c == 43 || c == 45) (L.drop q) = true) : q + 1 ≤ L.length ∧ sExp3 bd neg ip fr (hdIs (· == 45) (L.drop q)) (L.drop (q + 1)) = R := by
  cases hd : L.drop q with
  | nil => rw [hd] at hx; simp [hdIs] at hx
  | cons c r =>
    obtain ⟨e1, e2⟩ := drop_cons hd
    rw [hd] at h hx
    have hc : c = 43 ∨ c = 45 := by simpa [hdIs] using hx
    unfold sExp2 at h
    refine ⟨by omega, ?_⟩
    rw [e1]
    rcases hc with rfl | rfl
    · exact h
    · exact h
theorem exp3_none {en : Bool} {r : List UInt8} (h : sExp3 bd neg ip fr en r = R) (hd : dW r = []) : R = none := by
  unfold sExp3 at h; rw [if_pos hd] at h; exact h.symm
theorem exp3_some {en : Bool} {r : List UInt8} (h : sExp3 bd neg ip fr en r = R) (hd : dW r ≠ []) : sEnd neg ip fr (sgnE en (satF bd (dW r))) (dR r) = R := by
  unfold sExp3 at h; rw [if_neg hd] at h; exact h
theorem satF_bounds (b : Int) (hb : 0 ≤ b) (xs : List UInt8) (h : ∀ c ∈ xs, isD c = true) : 0 ≤ satF b xs ∧ satF b xs ≤ b := by
  rw [satF_min b hb xs h]
  have := fold_ge xs h 0 (by omega)
  have hv : 0 ≤ val xs := by unfold val; simpa using this
  omega
theorem sEnd_no {e : Int} {l : List UInt8} (h : sEnd neg ip fr e l = R) (hl : l ≠ []) : R = none := by rw [sEnd_cons _ _ _ _ _ hl] at h; exact h.symm
theorem sEnd_yes {e : Int} {l : List UInt8} (h : sEnd neg ip fr e l = R) (hl : l = []) : fin neg ip fr e = R := by rw [hl] at h; exact h
end

/-- 'skipDigits' at a place that is told as a number. -/
theorem skip_at (s : ByteArray) (i : Int) (k n : Nat) (w : World) (hs : s.size ≤ 1048576) (hk : k ≤ s.size) (hi : i = (k : Int)) (hn : n = (dW (s.data.toList.drop k)).length) :
    Calls Try.prog 29 #[.string s, .int .i64 i] w fun e w' => e = .returned (.int .i64 (i + (n : Int))) ∧ w' = w := by
  subst hi
  refine (skip_any s k w hs hk).mono ?_
  rintro e w' ⟨rfl, rfl⟩
  exact ⟨by rw [← hn, Int.natCast_add], rfl⟩
theorem len_zero {l : List UInt8} {n : Nat} (hn : n = l.length) (h : n = 0) : l = [] := List.eq_nil_of_length_eq_zero (by omega)
theorem len_pos {l : List UInt8} {n : Nat} (hn : n = l.length) (h : n ≠ 0) : l ≠ [] := by rintro rfl; exact h hn

/-! ### The zeros behind -/
theorem rz_zero (l : List UInt8) : rz (l ++ [48]) = rz l := by simp [rz, List.dropWhile_cons]
theorem rz_keep (l : List UInt8) {c : UInt8} (h : c ≠ 48) : rz (l ++ [c]) = l ++ [c] := by simp [rz, List.dropWhile_cons, h]
theorem rz_len (l : List UInt8) : (rz l).length ≤ l.length := by
  unfold rz
  rw [List.length_reverse]
  have := (List.dropWhile_sublist (l := l.reverse) (· == 48)).length_le
  rw [List.length_reverse] at this
  exact this
theorem lz_len (l : List UInt8) : (lz l).length ≤ l.length := (List.dropWhile_sublist _).length_le
theorem last_split (x : ByteArray) (h : 0 < x.size) : x.data.toList = (x.extract 0 (x.size - 1)).data.toList ++ [x[x.size - 1]] := by
  have h1 := drop_at x (x.size - 1) (by omega)
  have h2 : x.data.toList.drop (x.size - 1 + 1) = [] := drop_end x _ (by omega)
  rw [h2] at h1
  rw [Lib.extract_data, List.drop_zero, Nat.sub_zero]
  conv => lhs; rw [← List.take_append_drop (x.size - 1) x.data.toList]
  rw [h1]

def szOf2 : Value → Nat | .string x => x.size | _ => 0
theorem cat_toList (x y : ByteArray) : (x ++ y).data.toList = x.data.toList ++ y.data.toList := by simp
/-- The place of the string's iterator at block b. -/
def itPos (w : World) (b : Nat) : Nat := match w.heap[b]? with | some (.stringIter _ k) => k | _ => 0
theorem itPos_iter (w : World) (s : ByteArray) (k : Nat) : itPos (w.iter s k) w.heap.size = k := by unfold itPos; rw [World.iter_heap]

end Go.Proofs.Qxb6605313a
