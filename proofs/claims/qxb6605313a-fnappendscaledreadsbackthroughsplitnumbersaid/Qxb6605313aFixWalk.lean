/-
  THE WALK OF 'zzFixedPoint' (function 11).
-/
import Derived.Test.Qxb6605313aDecWalk
import Derived.Lib.Strings
namespace Go.Proofs.Qxb6605313a
open Go.RowKit
set_option linter.unusedVariables false
set_option linter.unusedSimpArgs false

/-- A string's length, for a loop's measure. -/
def szOf : Value → Nat | .string x => x.size | _ => 0
theorem size_toList (x : ByteArray) : x.data.toList.length = x.size := by simp
theorem cat_data (x y : ByteArray) : (x ++ y).data.toList = x.data.toList ++ y.data.toList := by simp

/-- The four ways out of 'zzFixedPoint'. -/
theorem fixed_close {m n d k : Nat} {x : ByteArray} (hnd : IsNd m n) (hx : x.data.toList = List.replicate k (dg 0) ++ digL n m) (hk : k = d + 1 - n) :
    ∃ a, IsNd (m / 10 ^ d) a ∧ x.size = a + d ∧ (x.extract 0 (x.size - d)).data.toList = digL a (m / 10 ^ d) ∧ (x.extract (x.size - d) x.size).data.toList = digL d m := by
  obtain ⟨a, ha, he, hl⟩ := fixed_cut d hnd
  rw [← hk] at he hl
  rw [he] at hx
  have hs : x.size = a + d := by
    rw [← size_toList, hx, List.length_append, digL_length, digL_length]
  refine ⟨a, ha, hs, ?_, ?_⟩
  · rw [Lib.extract_data, hx, hs]
    simp [digL_length]
  · rw [Lib.extract_data, hx, hs]
    have e : a + d - d = a := by omega
    rw [e, List.drop_append_of_le_length (by rw [digL_length]; omega)]
    rw [List.drop_of_length_le (by rw [digL_length]; omega), List.nil_append, List.take_of_length_le (by rw [digL_length]; omega)]

set_option maxHeartbeats 1000000 in
theorem fixed_any (v : Int) (d : Nat) (w : World) (h0 : -9223372036854775808 ≤ v) (h1 : v ≤ 9223372036854775807) (hd : d ≤ 18) :
    Calls Try.prog 11 #[.int .i64 v, .int .i64 (d : Int)] w fun e w' => ∃ (s : ByteArray) (n : Nat), e = .returned (.string s) ∧ s.data.toList = fixedL (decide (v < 0)) n d v.natAbs ∧ IsNd (v.natAbs / 10 ^ d) n ∧ Below w.heap.size w w' := by
  obtain ⟨m, hm⟩ : ∃ m, m = v.natAbs := ⟨_, rfl⟩
  rw [← hm]
  have HM : Hid (m = v.natAbs) := hm
  have hmle : m ≤ 9223372036854775808 := by omega
  clear hm
  go_enter Try.func11, Try.ntmps11
  go_wp2_with (go_at_call 14; refine (zzMagnitude_any v _ h0 h1).mono ?_; rintro e w' ⟨rfl, hw'⟩; subst w')
  rw [← HM.out]
  refine (zzDecimal_any m _ hmle).mono ?_
  rintro e w1 ⟨s, n, rfl, hs, hnd, hb⟩
  have HS : Hid (s.data.toList = digL n m) := hs
  have HND : Hid (IsNd m n) := hnd
  have hsz : s.size = n := by
    have := congrArg List.length hs
    rw [digL_length] at this
    simpa using this
  have hn19 : n ≤ 19 := hnd.le19 hmle
  have HSZ : Hid (s.size = n) := hsz
  clear hs hnd hsz
  go_wp2
  go_loop [5] (fun t => ∃ (k : Nat) (x : ByteArray), t = .string x ∧ x.data.toList = List.replicate k (dg 0) ++ digL n m ∧ x.size = k + n ∧ (k = 0 ∨ k + n ≤ d + 1)) (fun t => d + 1 - szOf t)
  case atStart => exact ⟨0, s, rfl, by simpa using HS.out, by rw [HSZ.out]; omega, .inl rfl⟩
  case round =>
    obtain ⟨k, x, rfl, hx, hxs, hk⟩ := hrel
    have HX : Hid (x.data.toList = List.replicate k (dg 0) ++ digL n m) := hx
    have HXS : Hid (x.size = k + n) := hxs
    have hx40 : x.size ≤ 40 := by omega
    clear hx
    by_cases hlt : x.size < d + 1
    · clear hxs
      go_wp2
      go_round
      case rel =>
        refine ⟨k + 1, _, rfl, ?_, ?_, .inr (by have := HXS.out; omega)⟩
        · rw [cat_data, HX.out, List.replicate_succ]; rfl
        · rw [ByteArray.size_append, HXS.out]; show 1 + (k + n) = _; omega
      case measure => simp only [szOf, ByteArray.size_append]; show d + 1 - (1 + _) < _; omega
    · have hk' : k = d + 1 - n := by omega
      obtain ⟨a, ha, hsz, e1, e2⟩ := fixed_close HND.out HX.out hk'
      have HA : Hid (IsNd (m / 10 ^ d) a) := ha
      have E1 : Hid ((x.extract 0 (x.size - d)).data.toList = digL a (m / 10 ^ d)) := e1
      have E2 : Hid ((x.extract (x.size - d) x.size).data.toList = digL d m) := e2
      clear hxs ha hsz e1 e2 hk'
      by_cases hd0 : 0 < d
      · by_cases hv : v < 0
        · go_wp2
          go_ret
          refine ⟨_, rfl, a, ?_, HA.out, hb⟩
          rw [cat_data, cat_data, cat_data, E1.out, E2.out]
          simp [fixedL, body, hd0, hv]
        · go_wp2
          go_ret
          refine ⟨_, rfl, a, ?_, HA.out, hb⟩
          rw [cat_data, cat_data, E1.out, E2.out]
          simp [fixedL, body, hd0, hv]
      · by_cases hv : v < 0
        · go_wp2
          go_ret
          refine ⟨_, rfl, a, ?_, HA.out, hb⟩
          rw [cat_data, E1.out]
          simp [fixedL, body, hd0, hv]
        · go_wp2
          go_ret
          refine ⟨_, rfl, a, ?_, HA.out, hb⟩
          rw [E1.out]
          simp [fixedL, body, hd0, hv]
end Go.Proofs.Qxb6605313a
