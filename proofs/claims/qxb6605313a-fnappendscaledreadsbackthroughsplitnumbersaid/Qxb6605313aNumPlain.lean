/-
  THE PLAIN LAWS OF THE NUMBER SPLITTER (seat b6605313a): no Go in sight. 's..': as 'splitNumber' goes, by what is left of the text; 'm..': as 'zzNumberModel' goes, cutting at the first e and the first point. They answer alike.
-/
import Derived.RowKit
namespace Go.Proofs.Qxb6605313a
set_option linter.unusedVariables false
set_option linter.unusedSimpArgs false

def isD (c : UInt8) : Bool := decide (48 ≤ c.toNat ∧ c.toNat ≤ 57)
def dW (l : List UInt8) : List UInt8 := l.takeWhile isD
def dR (l : List UInt8) : List UInt8 := l.dropWhile isD
def lz (l : List UInt8) : List UInt8 := l.dropWhile (· == 48)
def rz (l : List UInt8) : List UInt8 := (l.reverse.dropWhile (· == 48)).reverse
/-- The answer: the sign, the digits without zeros ahead and behind, the exponent. -/
def fin (neg : Bool) (ip fr : List UInt8) (e : Int) : Option (Bool × List UInt8 × Int) :=
  some (neg, rz (lz (ip ++ fr)), e - (fr.length : Int) + (((lz (ip ++ fr)).length : Int) - ((rz (lz (ip ++ fr))).length : Int)))
def sgnE (en : Bool) (x : Int) : Int := if en = true then -x else x
def exSign : List UInt8 → Bool × List UInt8
  | [] => (false, [])
  | c :: r => if c = 43 then (false, r) else if c = 45 then (true, r) else (false, c :: r)
def satF (b : Int) (xs : List UInt8) : Int := xs.foldl (fun e c => min (e * 10 + ((c.toNat : Int) - 48)) b) 0

def sEnd (neg : Bool) (ip fr : List UInt8) (e : Int) : List UInt8 → Option (Bool × List UInt8 × Int)
  | [] => fin neg ip fr e
  | _ :: _ => none
def sExp (b : Int) (neg : Bool) (ip fr : List UInt8) : List UInt8 → Option (Bool × List UInt8 × Int)
  | [] => sEnd neg ip fr 0 []
  | c :: r => if c = 101 ∨ c = 69 then (if dW (exSign r).2 = [] then none else sEnd neg ip fr (sgnE (exSign r).1 (satF b (dW (exSign r).2))) (dR (exSign r).2)) else sEnd neg ip fr 0 (c :: r)
def sFrac (b : Int) (neg : Bool) (ip : List UInt8) : List UInt8 → Option (Bool × List UInt8 × Int)
  | [] => sExp b neg ip [] []
  | c :: r => if c = 46 then (if dW r = [] then none else sExp b neg ip (dW r) (dR r)) else sExp b neg ip [] (c :: r)
def sInt (b : Int) (neg : Bool) : List UInt8 → Option (Bool × List UInt8 × Int)
  | [] => none
  | c :: r => if c = 48 then sFrac b neg [48] r else if 49 ≤ c.toNat ∧ c.toNat ≤ 57 then sFrac b neg (dW (c :: r)) (dR (c :: r)) else none
def sAll (b : Int) : List UInt8 → Option (Bool × List UInt8 × Int)
  | [] => sInt b false []
  | c :: r => if c = 45 then sInt b true r else sInt b false (c :: r)

/-! ### The model -/
def nE (c : UInt8) : Bool := !(c == 101 || c == 69)
def nD (c : UInt8) : Bool := !(c == 46)
def allD (l : List UInt8) : Bool := !l.isEmpty && l.all isD
def okI (l : List UInt8) : Bool := allD l && !(decide (1 < l.length) && l.headD 0 == 48)
def val (l : List UInt8) : Int := l.foldl (fun v c => v * 10 + ((c.toNat : Int) - 48)) 0
def satM (b : Int) (xs : List UInt8) : Int := if 7 < (lz xs).length then b else if b < val (lz xs) then b else val (lz xs)
def mExp (b : Int) (neg : Bool) (ip fr : List UInt8) : List UInt8 → Option (Bool × List UInt8 × Int)
  | [] => fin neg ip fr 0
  | _ :: xp => if allD (exSign xp).2 = true then fin neg ip fr (sgnE (exSign xp).1 (satM b (exSign xp).2)) else none
def mFrac (b : Int) (neg : Bool) (ip fx ex : List UInt8) : Option (Bool × List UInt8 × Int) :=
  match fx with
  | [] => mExp b neg ip [] ex
  | _ :: fr => if allD fr = true then mExp b neg ip fr ex else none
def mBody (b : Int) (neg : Bool) (s : List UInt8) : Option (Bool × List UInt8 × Int) :=
  if okI ((s.takeWhile nE).takeWhile nD) = true then mFrac b neg ((s.takeWhile nE).takeWhile nD) ((s.takeWhile nE).dropWhile nD) (s.dropWhile nE) else none
def mAll (b : Int) : List UInt8 → Option (Bool × List UInt8 × Int)
  | [] => mBody b false []
  | c :: r => if c = 45 then mBody b true r else mBody b false (c :: r)

/-! ### Small laws -/
theorem isD_nE {c : UInt8} (h : isD c = true) : nE c = true := by
  simp only [isD, decide_eq_true_eq] at h
  have h1 : c ≠ 101 := by rintro rfl; revert h; decide
  have h2 : c ≠ 69 := by rintro rfl; revert h; decide
  simp [nE, h1, h2]
theorem isD_nD {c : UInt8} (h : isD c = true) : nD c = true := by
  simp only [isD, decide_eq_true_eq] at h
  have h1 : c ≠ 46 := by rintro rfl; revert h; decide
  simp [nD, h1]
theorem tw_all (p : UInt8 → Bool) (l : List UInt8) : ∀ c ∈ l.takeWhile p, p c = true := by
  induction l with
  | nil => simp
  | cons a r ih =>
    rw [List.takeWhile_cons]
    by_cases h : p a = true
    · rw [if_pos h]
      intro c hc
      rcases List.mem_cons.1 hc with rfl | hc
      · exact h
      · exact ih c hc
    · rw [if_neg h]; simp
theorem tw_self (p : UInt8 → Bool) (l : List UInt8) (h : ∀ c ∈ l, p c = true) : l.takeWhile p = l := by
  induction l with
  | nil => rfl
  | cons a r ih => rw [List.takeWhile_cons, if_pos (h a (by simp)), ih (fun c hc => h c (by simp [hc]))]
theorem dw_self (p : UInt8 → Bool) (l : List UInt8) (h : ∀ c ∈ l, p c = true) : l.dropWhile p = [] := by
  induction l with
  | nil => rfl
  | cons a r ih => rw [List.dropWhile_cons, if_pos (h a (by simp)), ih (fun c hc => h c (by simp [hc]))]
theorem tw_app (p : UInt8 → Bool) (l r : List UInt8) (h : ∀ c ∈ l, p c = true) : (l ++ r).takeWhile p = l ++ r.takeWhile p := by
  induction l with
  | nil => rfl
  | cons a l ih => rw [List.cons_append, List.takeWhile_cons, if_pos (h a (by simp)), ih (fun c hc => h c (by simp [hc])), List.cons_append]
theorem dw_app (p : UInt8 → Bool) (l r : List UInt8) (h : ∀ c ∈ l, p c = true) : (l ++ r).dropWhile p = r.dropWhile p := by
  induction l with
  | nil => rfl
  | cons a l ih => rw [List.cons_append, List.dropWhile_cons, if_pos (h a (by simp)), ih (fun c hc => h c (by simp [hc]))]
theorem dW_all (l : List UInt8) : ∀ c ∈ dW l, isD c = true := tw_all isD l
theorem dW_dR (l : List UInt8) : dW l ++ dR l = l := List.takeWhile_append_dropWhile
/-- What stands behind the digits begins with no digit. -/
theorem dR_head (l : List UInt8) : dR l = [] ∨ ∃ c r, dR l = c :: r ∧ isD c = false := by
  induction l with
  | nil => left; rfl
  | cons c r ih =>
    unfold dR at *
    rw [List.dropWhile_cons]
    by_cases h : isD c = true
    · rw [if_pos h]; exact ih
    · rw [if_neg h]; right; exact ⟨c, r, rfl, by simpa using h⟩
theorem allD_iff (l : List UInt8) : allD l = true ↔ l ≠ [] ∧ ∀ c ∈ l, isD c = true := by
  cases l <;> simp [allD]
theorem allD_dW {l : List UInt8} (h : allD l = true) : dW l = l ∧ dR l = [] := by
  rw [allD_iff] at h
  refine ⟨?_, ?_⟩
  · exact tw_self isD l h.2
  · exact dw_self isD l h.2
theorem allD_of {l : List UInt8} (h1 : dW l ≠ []) (h2 : dR l = []) : allD l = true := by
  rw [allD_iff]
  have e : dW l = l := by have := dW_dR l; rw [h2, List.append_nil] at this; exact this
  exact ⟨by rw [← e]; exact h1, by rw [← e]; exact dW_all l⟩
theorem allD_not {l : List UInt8} (h : dW l = [] ∨ dR l ≠ []) : allD l = false := by
  cases ha : allD l
  · rfl
  · have := allD_dW ha
    rcases h with h | h
    · rw [this.1] at h; rw [allD_iff] at ha; exact absurd h ha.1
    · exact absurd this.2 h

/-! ### Saturation -/
theorem digit_nonneg {c : UInt8} (h : isD c = true) : 0 ≤ (c.toNat : Int) - 48 ∧ (c.toNat : Int) - 48 ≤ 9 := by
  simp only [isD, decide_eq_true_eq] at h; omega
theorem sat_fold (b : Int) (hb : 0 ≤ b) (xs : List UInt8) (h : ∀ c ∈ xs, isD c = true) : ∀ a : Int, 0 ≤ a →
    xs.foldl (fun e c => min (e * 10 + ((c.toNat : Int) - 48)) b) (min a b) = min (xs.foldl (fun v c => v * 10 + ((c.toNat : Int) - 48)) a) b := by
  induction xs with
  | nil => intro a ha; rfl
  | cons c r ih =>
    intro a ha
    have hc := digit_nonneg (h c (by simp))
    simp only [List.foldl_cons]
    have e : min (min a b * 10 + ((c.toNat : Int) - 48)) b = min (a * 10 + ((c.toNat : Int) - 48)) b := by omega
    rw [e]
    exact ih (fun c' h' => h c' (by simp [h'])) _ (by omega)
theorem satF_min (b : Int) (hb : 0 ≤ b) (xs : List UInt8) (h : ∀ c ∈ xs, isD c = true) : satF b xs = min (val xs) b := by
  have := sat_fold b hb xs h 0 (by omega)
  have e : min 0 b = 0 := by omega
  rw [e] at this
  exact this
theorem val_lz (xs : List UInt8) : val (lz xs) = val xs := by
  induction xs with
  | nil => rfl
  | cons c r ih =>
    unfold lz at *
    rw [List.dropWhile_cons]
    by_cases h : (c == 48) = true
    · rw [if_pos h, ih]
      obtain rfl : c = 48 := by simpa using h
      rfl
    · rw [if_neg h]
theorem fold_ge (xs : List UInt8) (h : ∀ c ∈ xs, isD c = true) : ∀ a : Int, 0 ≤ a → a * 10 ^ xs.length ≤ xs.foldl (fun v c => v * 10 + ((c.toNat : Int) - 48)) a := by
  induction xs with
  | nil => intro a ha; simp
  | cons c r ih =>
    intro a ha
    have hc := digit_nonneg (h c (by simp))
    simp only [List.foldl_cons, List.length_cons]
    have := ih (fun c' h' => h c' (by simp [h'])) (a * 10 + ((c.toNat : Int) - 48)) (by omega)
    refine Int.le_trans ?_ this
    have hp : (0 : Int) < 10 ^ r.length := Int.pow_pos (by omega)
    rw [Int.pow_succ, ← Int.mul_assoc]
    have : a * 10 ^ r.length * 10 = (a * 10) * 10 ^ r.length := by rw [Int.mul_assoc, Int.mul_comm (10 ^ r.length) 10, ← Int.mul_assoc]
    rw [this]
    exact Int.mul_le_mul_of_nonneg_right (by omega) (by omega)
theorem val_long (xs : List UInt8) (h : ∀ c ∈ xs, isD c = true) (hl : 7 < xs.length) (hh : xs.headD 0 ≠ 48) : 10000000 ≤ val xs := by
  match xs, h, hl, hh with
  | c :: r, h, hl, hh =>
    have hc := h c (by simp)
    have hc48 : c ≠ 48 := by simpa using hh
    have h1 : 1 ≤ (c.toNat : Int) - 48 := by
      have := digit_nonneg hc
      have : c.toNat ≠ 48 := by intro e; apply hc48; exact UInt8.toNat_inj.1 (by rw [e]; rfl)
      omega
    have := fold_ge r (fun c' h' => h c' (by simp [h'])) ((c.toNat : Int) - 48) (by omega)
    have hv : val (c :: r) = r.foldl (fun v c => v * 10 + ((c.toNat : Int) - 48)) ((c.toNat : Int) - 48) := by simp [val]
    rw [hv]
    refine Int.le_trans ?_ this
    have hp : (10 : Int) ^ 7 ≤ 10 ^ r.length := by
      have : 10 ^ 7 ≤ 10 ^ r.length := Nat.pow_le_pow_right (n := 10) (by omega) (by simp at hl; omega)
      exact_mod_cast this
    calc (10000000 : Int) = 1 * 10 ^ 7 := by decide
      _ ≤ 1 * 10 ^ r.length := by omega
      _ ≤ ((c.toNat : Int) - 48) * 10 ^ r.length := Int.mul_le_mul_of_nonneg_right h1 (by omega)
theorem lz_mem {xs : List UInt8} {c : UInt8} (h : c ∈ lz xs) : c ∈ xs := (List.dropWhile_sublist _).subset h
theorem lz_head (xs : List UInt8) : lz xs = [] ∨ (lz xs).headD 0 ≠ 48 := by
  induction xs with
  | nil => left; rfl
  | cons c r ih =>
    unfold lz at *
    rw [List.dropWhile_cons]
    by_cases h : (c == 48) = true
    · rw [if_pos h]; exact ih
    · rw [if_neg h]; right; simpa using h
theorem sat_eq (b : Int) (hb : 0 ≤ b) (hb7 : b < 10000000) (xs : List UInt8) (h : ∀ c ∈ xs, isD c = true) : satF b xs = satM b xs := by
  rw [satF_min b hb xs h, ← val_lz]
  unfold satM
  split
  · rcases lz_head xs with h0 | h0
    · have h7 : 7 < (lz xs).length := by assumption
      rw [h0] at h7; simp at h7
    · have := val_long (lz xs) (fun c hc => h c (lz_mem hc)) (by assumption) h0
      omega
  · split <;> omega

/-! ### The two ways of reading answer alike -/
/-- Behind the digits of a part: an end, or an exponent, or nothing good. -/
theorem allD_pre (ds r : List UInt8) (hds : ∀ c ∈ ds, isD c = true) (hr : r = [] ∨ ∃ c r', r = c :: r' ∧ isD c = false) (hne : r ≠ []) : allD (ds ++ r) = false := by
  cases ha : allD (ds ++ r)
  · rfl
  · rw [allD_iff] at ha
    rcases hr with h | ⟨c, r', rfl, hc⟩
    · exact absurd h hne
    · have := ha.2 c (by simp)
      rw [hc] at this; simp at this
theorem nE_head {c : UInt8} (h : ¬ (c = 101 ∨ c = 69)) : nE c = true := by
  simp only [not_or] at h
  simp [nE, h.1, h.2]
theorem nE_not {c : UInt8} (h : c = 101 ∨ c = 69) : nE c = false := by
  rcases h with rfl | rfl <;> rfl
theorem nD_head {c : UInt8} (h : c ≠ 46) : nD c = true := by simp [nD, h]
theorem sEnd_cons (neg : Bool) (ip fr : List UInt8) (e : Int) (l : List UInt8) (h : l ≠ []) : sEnd neg ip fr e l = none := by
  cases l with
  | nil => exact absurd rfl h
  | cons _ _ => rfl
/-- The exponent's part. -/
theorem exp_eq (b : Int) (hb : 0 ≤ b) (hb7 : b < 10000000) (neg : Bool) (ip fr : List UInt8) (c : UInt8) (r : List UInt8) (hc : c = 101 ∨ c = 69) : sExp b neg ip fr (c :: r) = mExp b neg ip fr (c :: r) := by
  simp only [sExp, mExp, if_pos hc]
  by_cases h1 : dW (exSign r).2 = []
  · rw [if_pos h1, allD_not (.inl h1)]; simp
  · rw [if_neg h1]
    by_cases h2 : dR (exSign r).2 = []
    · rw [allD_of h1 h2, if_pos rfl, h2]
      have := allD_dW (allD_of h1 h2)
      rw [this.1, sat_eq b hb hb7 _ (by rw [← this.1]; exact dW_all _)]
      rfl
    · rw [allD_not (.inr h2), sEnd_cons _ _ _ _ _ h2]; simp
/-- Ahead of the exponent stands a part 'fr ++ r', fr digits, r no digit at its head. -/
theorem tailpart (b : Int) (hb : 0 ≤ b) (hb7 : b < 10000000) (neg : Bool) (ip fr r : List UInt8) (hr : r = [] ∨ ∃ c r', r = c :: r' ∧ isD c = false) (hfr : ∀ c ∈ fr, isD c = true) (hne : fr ≠ []) :
    sExp b neg ip fr r = if allD (fr ++ r.takeWhile nE) = true then mExp b neg ip (fr ++ r.takeWhile nE) (r.dropWhile nE) else none := by
  rcases hr with rfl | ⟨c, r', rfl, hc⟩
  · have : allD fr = true := (allD_iff fr).2 ⟨hne, hfr⟩
    simp [this, sExp, mExp, sEnd]
  · by_cases he : c = 101 ∨ c = 69
    · rw [List.takeWhile_cons, List.dropWhile_cons, nE_not he]
      have : allD fr = true := (allD_iff fr).2 ⟨hne, hfr⟩
      simp [this]
      exact exp_eq b hb hb7 neg ip fr c r' he
    · rw [List.takeWhile_cons, nE_head he, if_pos rfl, allD_pre fr _ hfr (.inr ⟨c, _, rfl, hc⟩) (by simp)]
      simp [sExp, he, sEnd]
/-- Behind the integer's digits. -/
theorem frac_eq (b : Int) (hb : 0 ≤ b) (hb7 : b < 10000000) (neg : Bool) (ds r : List UInt8) (hr : r = [] ∨ ∃ c r', r = c :: r' ∧ isD c = false) (hds : ∀ c ∈ ds, isD c = true) (hok : okI ds = true) :
    sFrac b neg ds r = mBody b neg (ds ++ r) := by
  have hdE : ∀ c ∈ ds, nE c = true := fun c h => isD_nE (hds c h)
  have hdD : ∀ c ∈ ds, nD c = true := fun c h => isD_nD (hds c h)
  unfold mBody
  rw [tw_app nE ds r hdE, dw_app nE ds r hdE, tw_app nD ds _ hdD, dw_app nD ds _ hdD]
  rcases hr with rfl | ⟨c, r', rfl, hc⟩
  · simp [hok, sFrac, sExp, mFrac, mExp, sEnd]
  · by_cases hp : c = 46
    · subst hp
      have e1 : ((46 : UInt8) :: r').takeWhile nE = 46 :: r'.takeWhile nE := by rw [List.takeWhile_cons]; rfl
      have e2 : ((46 : UInt8) :: r').dropWhile nE = r'.dropWhile nE := by rw [List.dropWhile_cons]; rfl
      have e3 : ((46 : UInt8) :: r'.takeWhile nE).takeWhile nD = [] := by rw [List.takeWhile_cons]; rfl
      have e4 : ((46 : UInt8) :: r'.takeWhile nE).dropWhile nD = 46 :: r'.takeWhile nE := by rw [List.dropWhile_cons]; rfl
      rw [e1, e2, e3, e4, List.append_nil, if_pos hok]
      simp only [sFrac, if_true, mFrac]
      have hfE : ∀ c ∈ dW r', nE c = true := fun c h => isD_nE (dW_all r' c h)
      by_cases hf : dW r' = []
      · rw [if_pos hf, allD_not]
        · simp
        · left
          have hr' : dR r' = r' := by have := dW_dR r'; rw [hf] at this; simpa using this
          rcases dR_head r' with h | ⟨c, r2, h, hc2⟩
          · rw [hr'] at h; rw [h]; rfl
          · rw [hr'] at h
            rw [h, List.takeWhile_cons]
            by_cases hn : nE c = true
            · rw [if_pos hn]; simp [dW, List.takeWhile_cons, hc2]
            · rw [if_neg hn]; rfl
      · rw [if_neg hf]
        have := tailpart b hb hb7 neg ds (dW r') (dR r') (dR_head r') (dW_all r') hf
        rw [this]
        have f1 : r'.takeWhile nE = dW r' ++ (dR r').takeWhile nE := by
          conv => lhs; rw [← dW_dR r']
          exact tw_app nE _ _ hfE
        have f2 : r'.dropWhile nE = (dR r').dropWhile nE := by
          conv => lhs; rw [← dW_dR r']
          exact dw_app nE _ _ hfE
        rw [f1, f2]
    · simp only [sFrac, if_neg hp]
      by_cases he : c = 101 ∨ c = 69
      · have e1 : (c :: r').takeWhile nE = [] := by rw [List.takeWhile_cons, nE_not he]; rfl
        have e2 : (c :: r').dropWhile nE = c :: r' := by rw [List.dropWhile_cons, nE_not he]; rfl
        rw [e1, e2]
        simp only [List.takeWhile_nil, List.dropWhile_nil, List.append_nil, if_pos hok, mFrac]
        exact exp_eq b hb hb7 neg ds [] c r' he
      · have e1 : (c :: r').takeWhile nE = c :: r'.takeWhile nE := by rw [List.takeWhile_cons, nE_head he]; rfl
        have e3 : (c :: r'.takeWhile nE).takeWhile nD = c :: (r'.takeWhile nE).takeWhile nD := by rw [List.takeWhile_cons, nD_head hp]; rfl
        rw [e1, e3]
        have hno : okI (ds ++ c :: (r'.takeWhile nE).takeWhile nD) = false := by
          unfold okI
          rw [allD_pre ds _ hds (.inr ⟨c, _, rfl, hc⟩) (by simp)]
          rfl
        rw [hno]
        simp [sExp, he, sEnd]

theorem int_eq (b : Int) (hb : 0 ≤ b) (hb7 : b < 10000000) (neg : Bool) (s : List UInt8) : sInt b neg s = mBody b neg s := by
  cases s with
  | nil => rfl
  | cons c r =>
    by_cases h0 : c = 48
    · subst h0
      simp only [sInt, if_true]
      by_cases hd : dW r = []
      · have hr : r = [] ∨ ∃ c r', r = c :: r' ∧ isD c = false := by
          have e : dR r = r := by have := dW_dR r; rw [hd] at this; simpa using this
          have := dR_head r
          rw [e] at this; exact this
        exact frac_eq b hb hb7 neg [48] r hr (by simp [isD]) (by rfl)
      · -- a zero ahead of a digit
        match r, hd with
        | d :: r', hd =>
          have hdd : isD d = true := by
            by_cases h : isD d = true
            · exact h
            · exact absurd (by simp [dW, List.takeWhile_cons, h]) hd
          have h46 : d ≠ 46 := by rintro rfl; revert hdd; decide
          have hE : ¬ (d = 101 ∨ d = 69) := by rintro (rfl | rfl) <;> revert hdd <;> decide
          have hl : sFrac b neg [48] (d :: r') = none := by simp [sFrac, h46, sExp, hE, sEnd]
          rw [hl]
          unfold mBody
          have e1 : ((48 : UInt8) :: d :: r').takeWhile nE = 48 :: d :: r'.takeWhile nE := by
            rw [List.takeWhile_cons, List.takeWhile_cons, isD_nE hdd]; rfl
          have e2 : ((48 : UInt8) :: d :: r'.takeWhile nE).takeWhile nD = 48 :: d :: (r'.takeWhile nE).takeWhile nD := by
            rw [List.takeWhile_cons, List.takeWhile_cons, isD_nD hdd]; rfl
          rw [e1, e2]
          have : okI (48 :: d :: (r'.takeWhile nE).takeWhile nD) = false := by simp [okI]
          rw [this]; rfl
    · by_cases h1 : 49 ≤ c.toNat ∧ c.toNat ≤ 57
      · simp only [sInt, if_neg h0, if_pos h1]
        have hc : isD c = true := by simp [isD]; omega
        have hd : dW (c :: r) = c :: dW r := by simp [dW, List.takeWhile_cons, hc]
        have hok : okI (dW (c :: r)) = true := by
          have ha : allD (dW (c :: r)) = true := (allD_iff _).2 ⟨by rw [hd]; simp, dW_all _⟩
          rw [okI, ha, hd]
          simp [h0]
        have := frac_eq b hb hb7 neg (dW (c :: r)) (dR (c :: r)) (dR_head _) (dW_all _) hok
        rw [this, dW_dR]
      · simp only [sInt, if_neg h0, if_neg h1]
        have hc : isD c = false := by
          have : c.toNat ≠ 48 := by intro e; apply h0; exact UInt8.toNat_inj.1 (by rw [e]; rfl)
          simp [isD]; omega
        unfold mBody
        have : okI (((c :: r).takeWhile nE).takeWhile nD) = false := by
          have : allD (((c :: r).takeWhile nE).takeWhile nD) = false := by
            apply allD_not
            left
            rw [List.takeWhile_cons]
            split
            · rw [List.takeWhile_cons]
              split
              · simp [dW, List.takeWhile_cons, hc]
              · rfl
            · rfl
          rw [okI, this]; rfl
        rw [this]; rfl

/-- THE LAW: 'splitNumber' and the model answer alike. -/
theorem all_eq (b : Int) (hb : 0 ≤ b) (hb7 : b < 10000000) (L : List UInt8) : sAll b L = mAll b L := by
  cases L with
  | nil => exact int_eq b hb hb7 false []
  | cons c r =>
    simp only [sAll, mAll, int_eq b hb hb7]

end Go.Proofs.Qxb6605313a
