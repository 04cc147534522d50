/-
  THE SMALL WALKS OF THE NUMBER SPLITTER: 'skipDigits' (29), 'zzIndexOf2' (24), 'zzAllDigits' (25), 'zzSaturated' (26).
-/
import Derived.Test.Qxb6605313aProg
import Derived.Test.Qxb6605313aNumPlain
import Derived.WalkKit
import Derived.WalkSpells
import Derived.WalkLawsBesides
import Derived.Below
import Derived.Deep.Light
import Derived.Lib.Strings
namespace Go.Proofs.Qxb6605313a
open Go.RowKit
set_option linter.unusedVariables false
set_option linter.unusedSimpArgs false

theorem hidden {p : Prop} (h : p) : Hid p := h
theorem drop_at (s : ByteArray) (k : Nat) (h : k < s.size) : s.data.toList.drop k = s[k] :: s.data.toList.drop (k + 1) := by
  have h' : k < s.data.toList.length := by simpa using h
  rw [List.drop_eq_getElem_cons h']
  congr 1
theorem mem_at (s : ByteArray) (k : Nat) (h : k < s.size) : s[k] ∈ s.data.toList := by
  have : s[k] ∈ s.data.toList.drop k := by rw [drop_at s k h]; simp
  exact List.mem_of_mem_drop this
theorem drop_end (s : ByteArray) (k : Nat) (h : s.size ≤ k) : s.data.toList.drop k = [] := List.drop_eq_nil_of_le (by simpa using h)
theorem isD_of {c : UInt8} (h1 : (48 : Int) ≤ (c.toNat : Int)) (h2 : (c.toNat : Int) ≤ 57) : isD c = true := by simp [isD]; omega
theorem isD_lo {c : UInt8} (h1 : (c.toNat : Int) < 48) : isD c = false := by simp [isD]; omega
theorem isD_hi {c : UInt8} (h1 : (57 : Int) < (c.toNat : Int)) : isD c = false := by simp [isD]; omega
theorem dW_cons_yes {c : UInt8} {r : List UInt8} (h : isD c = true) : dW (c :: r) = c :: dW r := by simp [dW, List.takeWhile_cons, h]
theorem dW_cons_no {c : UInt8} {r : List UInt8} (h : isD c = false) : dW (c :: r) = [] := by simp [dW, List.takeWhile_cons, h]
theorem dR_cons_yes {c : UInt8} {r : List UInt8} (h : isD c = true) : dR (c :: r) = dR r := by simp [dR, List.dropWhile_cons, h]
theorem dR_cons_no {c : UInt8} {r : List UInt8} (h : isD c = false) : dR (c :: r) = c :: r := by simp [dR, List.dropWhile_cons, h]
theorem ret_i64 {a b : Int} {w : World} (h : a = b) : Ending.returned (.int .i64 a) = .returned (.int .i64 b) ∧ w = w := by rw [h]; exact ⟨rfl, rfl⟩
theorem ret_b {a b : Bool} {w : World} (h : a = b) : Ending.returned (.bool a) = .returned (.bool b) ∧ w = w := by rw [h]; exact ⟨rfl, rfl⟩

set_option maxHeartbeats 400000 in
theorem skip_any (s : ByteArray) (i : Nat) (w : World) (hs : s.size ≤ 1048576) (hi : i ≤ s.size) :
    Calls Try.prog 29 #[.string s, .int .i64 (i : Int)] w fun e w' => e = .returned (.int .i64 ((i + (dW (s.data.toList.drop i)).length : Nat) : Int)) ∧ w' = w := by
  obtain ⟨R, hR⟩ : ∃ R, i + (dW (s.data.toList.drop i)).length = R := ⟨_, rfl⟩
  rw [hR]
  have HR := hidden hR
  clear hR
  go_enter Try.func29, Try.ntmps29
  go_wp2
  go_loop [1] (fun v => ∃ k : Nat, k ≤ s.size ∧ v = .int .i64 (k : Int) ∧ k + (dW (s.data.toList.drop k)).length = R) (fun v => s.size - (intOf v).toNat)
  case atStart => exact ⟨i, hi, rfl, HR.out⟩
  case round =>
    obtain ⟨k, hk, rfl, hrest⟩ := hrel
    have HX := hidden hrest
    clear hrest
    by_cases hlt : k < s.size
    · have HD := hidden (drop_at s k hlt)
      by_cases h1 : (48 : Int) ≤ (s[k].toNat : Int)
      · by_cases h2 : (s[k].toNat : Int) ≤ 57
        · go_wp2
          go_round
          case rel =>
            refine ⟨k + 1, by omega, by go_num, ?_⟩
            have := HX.out
            rw [HD.out, dW_cons_yes (isD_of h1 h2), List.length_cons] at this
            omega
          case measure => simp [intOf]; omega
        · go_wp2
          go_ret
          refine ret_i64 ?_
          have := HX.out
          rw [HD.out, dW_cons_no (isD_hi (by omega))] at this
          simp at this; omega
      · go_wp2
        go_ret
        refine ret_i64 ?_
        have := HX.out
        rw [HD.out, dW_cons_no (isD_lo (by omega))] at this
        simp at this; omega
    · go_wp2
      go_ret
      refine ret_i64 ?_
      have := HX.out
      rw [drop_end s k (by omega)] at this
      simp [dW] at this; omega

/-- The first place of a byte that p lets not by, or -1. -/
def ix (p : UInt8 → Bool) (l : List UInt8) (k : Nat) : Int := if l.dropWhile p = [] then -1 else ((k + (l.takeWhile p).length : Nat) : Int)
theorem ix_yes {p : UInt8 → Bool} {c : UInt8} {r : List UInt8} {k : Nat} (h : p c = true) : ix p (c :: r) k = ix p r (k + 1) := by
  unfold ix
  rw [List.dropWhile_cons, if_pos h, List.takeWhile_cons, if_pos h, List.length_cons]
  split
  · rfl
  · congr 1; omega
theorem ix_no {p : UInt8 → Bool} {c : UInt8} {r : List UInt8} {k : Nat} (h : p c = false) : ix p (c :: r) k = (k : Int) := by
  unfold ix
  rw [List.dropWhile_cons, h, List.takeWhile_cons, h]
  simp
theorem ix_end (p : UInt8 → Bool) (k : Nat) : ix p [] k = -1 := rfl

theorem u8_eq {c a : UInt8} {x : Int} (hx : x = (a.toNat : Int)) : (((c.toNat : Int) == x) = true ↔ c = a) := by
  rw [beq_iff_eq, hx]
  constructor
  · intro h; exact UInt8.toNat_inj.1 (by omega)
  · rintro rfl; rfl

set_option maxHeartbeats 400000 in
theorem index_any (s : ByteArray) (a b : UInt8) (x y : Int) (hx : x = (a.toNat : Int)) (hy : y = (b.toNat : Int)) (w : World) (hs : s.size ≤ 1048576) :
    Calls Try.prog 24 #[.string s, .int .u8 x, .int .u8 y] w fun e w' => e = .returned (.int .i64 (ix (fun c => !(c == a || c == b)) s.data.toList 0)) ∧ w' = w := by
  obtain ⟨R, hR⟩ : ∃ R, ix (fun c => !(c == a || c == b)) s.data.toList 0 = R := ⟨_, rfl⟩
  rw [hR]
  have HR := hidden hR
  have HX := hidden hx
  have HY := hidden hy
  clear hR hx hy
  go_enter Try.func24, Try.ntmps24
  go_wp2
  go_loop [7] (fun v => ∃ k : Nat, k ≤ s.size ∧ v = .int .i64 (k : Int) ∧ ix (fun c => !(c == a || c == b)) (s.data.toList.drop k) k = R) (fun v => s.size - (intOf v).toNat)
  case atStart => exact ⟨0, Nat.zero_le _, rfl, HR.out⟩
  case round =>
    obtain ⟨k, hk, rfl, hrest⟩ := hrel
    have HQ := hidden hrest
    clear hrest
    by_cases hlt : k < s.size
    · have HD := hidden (drop_at s k hlt)
      have ha := u8_eq (c := s[k]) HX.out
      have hb := u8_eq (c := s[k]) HY.out
      have HA := hidden ha
      have HB := hidden hb
      clear ha hb
      cases h1 : ((s[k].toNat : Int) == x)
      · cases h2 : ((s[k].toNat : Int) == y)
        · go_wp2
          go_round
          case rel =>
            refine ⟨k + 1, by omega, by go_num, ?_⟩
            have := HQ.out
            rw [HD.out, ix_yes] at this
            · exact this
            · have e1 : s[k] ≠ a := fun e => by have := HA.out.2 e; rw [h1] at this; simp at this
              have e2 : s[k] ≠ b := fun e => by have := HB.out.2 e; rw [h2] at this; simp at this
              simp [e1, e2]
          case measure => simp [intOf]; omega
        · go_wp2
          go_ret
          refine ret_i64 ?_
          have := HQ.out
          rw [HD.out, ix_no] at this
          · exact this
          · simp [HB.out.1 h2]
      · go_wp2
        go_ret
        refine ret_i64 ?_
        have := HQ.out
        rw [HD.out, ix_no] at this
        · exact this
        · simp [HA.out.1 h1]
    · go_wp2
      go_ret
      refine ret_i64 ?_
      have := HQ.out
      rw [drop_end s k (by omega), ix_end] at this
      exact this

theorem index_e (s : ByteArray) (w : World) (hs : s.size ≤ 1048576) :
    Calls Try.prog 24 #[.string s, .int .u8 101, .int .u8 69] w fun e w' => e = .returned (.int .i64 (ix nE s.data.toList 0)) ∧ w' = w :=
  index_any s 101 69 101 69 rfl rfl w hs
theorem index_dot (s : ByteArray) (w : World) (hs : s.size ≤ 1048576) :
    Calls Try.prog 24 #[.string s, .int .u8 46, .int .u8 46] w fun e w' => e = .returned (.int .i64 (ix nD s.data.toList 0)) ∧ w' = w := by
  have h := index_any s 46 46 46 46 rfl rfl w hs
  have e : (fun c : UInt8 => !(c == 46 || c == 46)) = nD := by funext c; simp [nD]
  rw [e] at h
  exact h

theorem size_of_toList (s : ByteArray) : s.data.toList.length = s.size := by simp

set_option maxHeartbeats 400000 in
theorem allDigits_any (s : ByteArray) (w : World) (hs : s.size ≤ 1048576) :
    Calls Try.prog 25 #[.string s] w fun e w' => e = .returned (.bool (allD s.data.toList)) ∧ w' = w := by
  by_cases h0 : s.size = 0
  · have hz : ((s.size : Int) == 0) = true := beq_iff_eq.2 (by omega)
    have e : allD s.data.toList = false := by
      have : s.data.toList = [] := List.eq_nil_of_length_eq_zero (by rw [size_of_toList]; exact h0)
      rw [this]; rfl
    rw [e]
    clear e h0
    go_enter Try.func25, Try.ntmps25
    go_wp2
    go_ret
    exact ⟨rfl, rfl⟩
  · have hz : ((s.size : Int) == 0) = false := beq_eq_false_iff_ne.2 (by omega)
    have e : allD s.data.toList = s.data.toList.all isD := by
      unfold allD
      have : s.data.toList ≠ [] := by intro h; have := congrArg List.length h; rw [size_of_toList] at this; exact h0 this
      cases h : s.data.toList with
      | nil => exact absurd h this
      | cons a b => simp
    rw [e]
    obtain ⟨R, hR⟩ : ∃ R, s.data.toList.all isD = R := ⟨_, rfl⟩
    rw [hR]
    have HR := hidden hR
    clear hR e
    go_enter Try.func25, Try.ntmps25
    go_wp2
    go_loop [3] (fun v => ∃ k : Nat, k ≤ s.size ∧ v = .int .i64 (k : Int) ∧ (s.data.toList.drop k).all isD = R) (fun v => s.size - (intOf v).toNat)
    case atStart => exact ⟨0, Nat.zero_le _, rfl, HR.out⟩
    case round =>
      obtain ⟨k, hk, rfl, hrest⟩ := hrel
      have HX := hidden hrest
      clear hrest
      by_cases hlt : k < s.size
      · have HD := hidden (drop_at s k hlt)
        by_cases h1 : (48 : Int) ≤ (s[k].toNat : Int)
        · by_cases h2 : (s[k].toNat : Int) ≤ 57
          · go_wp2
            go_round
            case rel =>
              refine ⟨k + 1, by omega, by go_num, ?_⟩
              have := HX.out
              rw [HD.out, List.all_cons, isD_of h1 h2, Bool.true_and] at this
              exact this
            case measure => simp [intOf]; omega
          · go_wp2
            go_ret
            refine ret_b ?_
            have := HX.out
            rw [HD.out, List.all_cons, isD_hi (by omega), Bool.false_and] at this
            exact this
        · go_wp2
          go_ret
          refine ret_b ?_
          have := HX.out
          rw [HD.out, List.all_cons, isD_lo (by omega), Bool.false_and] at this
          exact this
      · go_wp2
        go_ret
        refine ret_b ?_
        have := HX.out
        rw [drop_end s k (by omega)] at this
        exact this

theorem lz_yes {r : List UInt8} : lz (48 :: r) = lz r := by simp [lz, List.dropWhile_cons]
theorem lz_no {c : UInt8} {r : List UInt8} (h : c ≠ 48) : lz (c :: r) = c :: r := by simp [lz, List.dropWhile_cons, h]
theorem extract_end (s : ByteArray) (k : Nat) : (s.extract k s.size).data.toList = s.data.toList.drop k := by
  rw [Lib.extract_data, List.take_of_length_le]
  rw [List.length_drop, size_of_toList]; exact Nat.le_refl _

set_option maxHeartbeats 400000 in
theorem saturated_any (s : ByteArray) (b : Int) (w : World) (hs : s.size ≤ 1048576) (hb : 0 ≤ b) (hb7 : b < 10000000) (hd : ∀ c ∈ s.data.toList, isD c = true) :
    Calls Try.prog 26 #[.string s, .int .i64 b] w fun e w' => e = .returned (.int .i64 (satM b s.data.toList)) ∧ w' = w := by
  have HDG := hidden hd
  clear hd
  obtain ⟨R, hR⟩ : ∃ R, satM b s.data.toList = R := ⟨_, rfl⟩
  rw [hR]
  have HR := hidden hR
  clear hR
  go_enter Try.func26, Try.ntmps26
  go_wp2
  go_loop [5] (fun v => ∃ k : Nat, k ≤ s.size ∧ v = .int .i64 (k : Int) ∧ lz (s.data.toList.drop k) = lz s.data.toList) (fun v => s.size - (intOf v).toNat)
  case atStart => exact ⟨0, Nat.zero_le _, rfl, rfl⟩
  case round =>
    obtain ⟨k, hk, rfl, hrest⟩ := hrel
    have HX := hidden hrest
    clear hrest
    -- the rest, once the zeros are passed
    have key : Hid (s.data.toList.drop k = lz s.data.toList → lz s.data.toList = (s.extract k s.size).data.toList) := fun h => by rw [extract_end]; exact h.symm
    by_cases hz : ∃ h : k < s.size, s[k] = 48
    · obtain ⟨hlt, h48⟩ := hz
      have hb48 : ((s[k].toNat : Int) == 48) = true := by rw [h48]; rfl
      have HD := hidden (drop_at s k hlt)
      have H48 := hidden h48
      clear h48
      go_wp2
      go_round
      case rel =>
        refine ⟨k + 1, by omega, by go_num, ?_⟩
        have := HX.out
        rw [HD.out, H48.out, lz_yes] at this
        exact this
      case measure => simp [intOf]; omega
    · have HE : Hid (s.data.toList.drop k = lz s.data.toList) := by
        have := HX.out
        by_cases hlt : k < s.size
        · rw [drop_at s k hlt, lz_no (fun e => hz ⟨hlt, e⟩)] at this
          show s.data.toList.drop k = _
          rw [drop_at s k hlt]; exact this
        · rw [drop_end s k (by omega)] at this
          show s.data.toList.drop k = _
          rw [drop_end s k (by omega)]; exact this
      obtain ⟨y, hy⟩ : ∃ y, s.extract k s.size = y := ⟨_, rfl⟩
      have hysz : y.size = s.size - k := by rw [← hy, ByteArray.size_extract]; omega
      have HY : Hid (lz s.data.toList = y.data.toList) := by rw [← hy]; exact key.out HE.out
      have hyd : Hid (∀ c ∈ y.data.toList, isD c = true) := fun c hc => HDG.out c (lz_mem (by rw [HY.out]; exact hc))
      have HYS := hidden hysz
      have hyle : y.size ≤ 1048576 := by omega
      clear key HE HX HDG hysz
      by_cases hlt : k < s.size
      · have hb48 : ((s[k].toNat : Int) == 48) = false := by
          rw [beq_eq_false_iff_ne]
          intro e
          exact hz ⟨hlt, UInt8.toNat_inj.1 (by show s[k].toNat = 48; omega)⟩
        clear hz
        by_cases h7 : 7 < y.size
        · have hR : R = b := by rw [← HR.out]; unfold satM; rw [HY.out, if_pos (by rw [size_of_toList]; exact h7)]
          have HRb := hidden hR
          clear hR
          go_wp2
          go_ret
          exact ret_i64 HRb.out.symm
        · have HRv : Hid (R = if b < val y.data.toList then b else val y.data.toList) := by
            show R = _
            rw [← HR.out]; unfold satM; rw [HY.out, if_neg (by rw [size_of_toList]; exact h7)]
          go_wp2
          go_loop [6, 7] (fun vv vi => ∃ (k2 : Nat) (v : Int), k2 ≤ y.size ∧ vi = .int .i64 (k2 : Int) ∧ vv = .int .i64 v ∧ 0 ≤ v ∧ v < 10 ^ k2 ∧ (y.data.toList.drop k2).foldl (fun v c => v * 10 + ((c.toNat : Int) - 48)) v = val y.data.toList) (fun _ vi => y.size - (intOf vi).toNat)
          case atStart => exact ⟨0, 0, Nat.zero_le _, rfl, rfl, by omega, by decide, rfl⟩
          case round =>
            obtain ⟨k2, v, hk2, rfl, rfl, hv0, hv1, hfold⟩ := hrel
            have HF := hidden hfold
            have HV1 := hidden hv1
            clear hfold hv1
            by_cases hlt2 : k2 < y.size
            · have hdig := digit_nonneg (hyd.out y[k2] (mem_at y k2 hlt2))
              have hv7 : v ≤ 1000000 := by
                have h6 : (10 : Int) ^ k2 ≤ 10 ^ 6 := by
                  have : 10 ^ k2 ≤ 10 ^ 6 := Nat.pow_le_pow_right (n := 10) (by omega) (by omega)
                  exact_mod_cast this
                have := HV1.out
                have : (10 : Int) ^ 6 = 1000000 := by decide
                omega
              have HD := hidden (drop_at y k2 hlt2)
              have hd0 : 48 ≤ (y[k2].toNat : Int) := by omega
              have hd9 : (y[k2].toNat : Int) ≤ 57 := by omega
              clear hdig
              go_wp2
              go_round
              case rel =>
                refine ⟨k2 + 1, _, by omega, by go_num, rfl, by omega, ?_, ?_⟩
                · have := HV1.out
                  rw [Int.pow_succ]; omega
                · have := HF.out
                  rw [HD.out, List.foldl_cons] at this
                  exact this
              case measure => simp [intOf]; omega
            · have hval : v = val y.data.toList := by
                have := HF.out
                rw [drop_end y k2 (by omega)] at this
                exact this
              have HVal := hidden hval
              clear hval
              by_cases hbv : b < v
              · go_wp2
                go_ret
                exact ret_i64 (by rw [HRv.out, ← HVal.out, if_pos hbv])
              · go_wp2
                go_ret
                exact ret_i64 (by rw [HRv.out, ← HVal.out, if_neg (by omega)])
      · clear hz
        by_cases h7 : 7 < y.size
        · have hR : R = b := by rw [← HR.out]; unfold satM; rw [HY.out, if_pos (by rw [size_of_toList]; exact h7)]
          have HRb := hidden hR
          clear hR
          go_wp2
          go_ret
          exact ret_i64 HRb.out.symm
        · have HRv : Hid (R = if b < val y.data.toList then b else val y.data.toList) := by
            show R = _
            rw [← HR.out]; unfold satM; rw [HY.out, if_neg (by rw [size_of_toList]; exact h7)]
          go_wp2
          go_loop [6, 7] (fun vv vi => ∃ (k2 : Nat) (v : Int), k2 ≤ y.size ∧ vi = .int .i64 (k2 : Int) ∧ vv = .int .i64 v ∧ 0 ≤ v ∧ v < 10 ^ k2 ∧ (y.data.toList.drop k2).foldl (fun v c => v * 10 + ((c.toNat : Int) - 48)) v = val y.data.toList) (fun _ vi => y.size - (intOf vi).toNat)
          case atStart => exact ⟨0, 0, Nat.zero_le _, rfl, rfl, by omega, by decide, rfl⟩
          case round =>
            obtain ⟨k2, v, hk2, rfl, rfl, hv0, hv1, hfold⟩ := hrel
            have HF := hidden hfold
            have HV1 := hidden hv1
            clear hfold hv1
            by_cases hlt2 : k2 < y.size
            · have hdig := digit_nonneg (hyd.out y[k2] (mem_at y k2 hlt2))
              have hv7 : v ≤ 1000000 := by
                have h6 : (10 : Int) ^ k2 ≤ 10 ^ 6 := by
                  have : 10 ^ k2 ≤ 10 ^ 6 := Nat.pow_le_pow_right (n := 10) (by omega) (by omega)
                  exact_mod_cast this
                have := HV1.out
                have : (10 : Int) ^ 6 = 1000000 := by decide
                omega
              have HD := hidden (drop_at y k2 hlt2)
              have hd0 : 48 ≤ (y[k2].toNat : Int) := by omega
              have hd9 : (y[k2].toNat : Int) ≤ 57 := by omega
              clear hdig
              go_wp2
              go_round
              case rel =>
                refine ⟨k2 + 1, _, by omega, by go_num, rfl, by omega, ?_, ?_⟩
                · have := HV1.out
                  rw [Int.pow_succ]; omega
                · have := HF.out
                  rw [HD.out, List.foldl_cons] at this
                  exact this
              case measure => simp [intOf]; omega
            · have hval : v = val y.data.toList := by
                have := HF.out
                rw [drop_end y k2 (by omega)] at this
                exact this
              have HVal := hidden hval
              clear hval
              by_cases hbv : b < v
              · go_wp2
                go_ret
                exact ret_i64 (by rw [HRv.out, ← HVal.out, if_pos hbv])
              · go_wp2
                go_ret
                exact ret_i64 (by rw [HRv.out, ← HVal.out, if_neg (by omega)])
end Go.Proofs.Qxb6605313a
