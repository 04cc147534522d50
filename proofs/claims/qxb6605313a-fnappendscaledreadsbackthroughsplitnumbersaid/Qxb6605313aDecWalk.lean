/-
  THE WALKS OF 'magnitude' (28), 'zzMagnitude' (14), 'zzDecimal' (15).
-/
import Derived.Test.Qxb6605313aCommon
import Derived.Test.Qxb6605313aDecPlain
import Derived.Laws.IdiomStrings
import Derived.Deep.Light
namespace Go.Proofs.Qxb6605313a
open Go.RowKit
set_option linter.unusedVariables false

theorem ret_u64 {a b : Int} {w : World} (h : a = b) : Ending.returned (.int .u64 a) = .returned (.int .u64 b) ∧ w = w := by rw [h]; exact ⟨rfl, rfl⟩

theorem magnitude_any (v : Int) (w : World) (h0 : -9223372036854775808 ≤ v) (h1 : v ≤ 9223372036854775807) :
    Calls Try.prog 28 #[.int .i64 v] w fun e w' => e = .returned (.int .u64 (v.natAbs : Int)) ∧ w' = w := by
  by_cases h : v < 0
  · go_enter Try.func28, Try.ntmps28
    go_wp2
    go_ret
    exact ret_u64 (by rw [IntKind.wrap_u64, IntKind.wrap_u64]; omega)
  · go_enter Try.func28, Try.ntmps28
    go_wp2
    go_ret
    exact ret_u64 (by omega)

theorem zzMagnitude_any (v : Int) (w : World) (h0 : -9223372036854775808 ≤ v) (h1 : v ≤ 9223372036854775807) :
    Calls Try.prog 14 #[.int .i64 v] w fun e w' => e = .returned (.int .u64 (v.natAbs : Int)) ∧ w' = w := by
  by_cases h : v < 0
  · go_enter Try.func14, Try.ntmps14
    go_wp2
    go_ret
    exact ret_u64 (by omega)
  · go_enter Try.func14, Try.ntmps14
    go_wp2
    go_ret
    exact ret_u64 (by omega)
/-- Bytes as numbers. -/
def ints (l : List UInt8) : List Int := l.map fun c => (c.toNat : Int)
theorem ints_length (l : List UInt8) : (ints l).length = l.length := by simp [ints]
theorem ints_append (a b : List UInt8) : ints (a ++ b) = ints a ++ ints b := by simp [ints]
theorem ints_getD (l : List UInt8) (k : Nat) : (ints l).getD k 0 = ((l.getD k 0).toNat : Int) := by
  by_cases h : k < l.length
  · simp [ints, List.getD, h]
  · simp [ints, List.getD, h]

/-- 'string(b)' of what is owned. -/
theorem Owns.str {w : World} {B : Nat} {a : Option Addr} {n cap : Nat} {L : List UInt8} (h : Owns w B (.slice a n cap) (ints L)) : ∃ s : ByteArray, s.data.toList = L ∧ (convert 22 9 (.slice a n cap)).run Try.prog w = .ok (.string s) w := by
  obtain ⟨a2, cap2, he, hn, hr, _, _⟩ := h.reads
  simp only [Value.slice.injEq] at he
  obtain ⟨rfl, rfl, rfl⟩ := he
  refine ⟨⟨L.toArray⟩, rfl, ?_⟩
  have hl : (ints L).length = L.length := ints_length L
  cases a with
  | none =>
    obtain ⟨h0, rfl⟩ := hn rfl
    obtain rfl : L = [] := List.eq_nil_of_length_eq_zero (by omega)
    rw [h0, run_convert_bytes_string w 22 9 5 none 0 0 Try.underlying22 Try.underlying5 Try.underlying9]
    rfl
  | some x =>
    rw [hl]
    refine run_convert_bytes_back w 22 9 5 x cap L Try.underlying22 Try.underlying5 Try.underlying9 (fun j hj => ?_)
    have hj' : (bcells (ints L))[j]? = some (.int .u8 (L[j].toNat : Int)) := by simp [bcells, ints, hj]
    exact hr.cells j _ hj'

theorem Owns.readsU {w : World} {B : Nat} {v : Value} {L : List UInt8} (h : Owns w B v (ints L)) :
    ∃ a cap, v = .slice a L.length cap ∧ (a = none → L.length = 0 ∧ cap = 0) ∧ Reads w w.heap.size a L.length (ints L) ∧ L.length ≤ cap ∧ cap ≤ maxLen := by
  have := h.reads
  rw [ints_length] at this
  exact this

theorem dg_int (d : Nat) (h : d < 10) : ((dg d).toNat : Int) = 48 + (d : Int) := by rw [dg_toNat d h]; omega

theorem own_put {w1 : World} {B : Nat} {v' : Value} {nL d : Nat} {L : List UInt8} (hn : nL = L.length) (hd : d < 10) (h : w1.ownsRow B 5 1 v' (nL + 1) (bcells (ints L) ++ [.int .u8 (48 + (d : Int))])) : Owns w1 B v' (ints (L ++ [dg d])) := by
  have e : bcells (ints (L ++ [dg d])) = bcells (ints L) ++ [.int .u8 (48 + (d : Int))] := by
    rw [ints_append, bcells_append]
    congr 1
    simp [ints, bcells, dg_int d hd]
  show World.ownsRow _ _ _ _ _ _ _
  rw [e, ints_length, List.length_append, ← hn]
  exact h

set_option maxHeartbeats 1000000 in
theorem zzDecimal_any (m : Nat) (w : World) (hm : m ≤ 9223372036854775808) :
    Calls Try.prog 15 #[.int .u64 (m : Int)] w fun e w' => ∃ (s : ByteArray) (n : Nat), e = .returned (.string s) ∧ s.data.toList = digL n m ∧ IsNd m n ∧ Below w.heap.size w w' := by
  obtain ⟨i0, hi, hz0, hz1, hz2⟩ := info_parts Try.info5
  have Hi : Hid (Try.prog.info? 5 = some i0) := hi
  have Hz0 : Hid (i0.zero = some (.int .u8 0)) := hz0
  have Hz1 : Hid (i0.size = 1) := hz1
  have Hz2 : Hid (i0.bytes = 1) := hz2
  clear hi hz0 hz1 hz2
  go_enter Try.func15, Try.ntmps15
  go_wp2
  go_loopw [0, 3, 4, 5] (fun vm vb vp _ wr => ∃ (j P mc : Nat) (L : List UInt8), j ≤ 19 ∧ vm = .int .u64 (mc : Int) ∧ vp = .int .u64 (P : Int) ∧ P = 10 ^ j ∧ mc = m % 10 ^ (j + 1) ∧ Owns wr w.heap.size vb (ints L) ∧ DecSt (m / 10 ^ (j + 1)) L ∧ Below w.heap.size w wr) (fun _ _ p _ _ => (intOf p).toNat)
  case atStart => exact ⟨19, 10000000000000000000, m, [], by omega, rfl, rfl, by decide, (Nat.mod_eq_of_lt (by omega)).symm, Owns.nil _ _, DecSt.start (by omega), Below.refl _ _⟩
  case round =>
    obtain ⟨j, P, mc, L, hj, rfl, rfl, hP, hmc, hown, hst, hbel⟩ := hrel
    obtain ⟨a, cap, rfl, hnone, hrd, hcap, hcm⟩ := hown.readsU
    obtain ⟨d, mc', hd9, hP1, hPm, hmcm, hmc', hq, hleI, hge, hsub, hstep, hj0⟩ := dec_round m j P mc hj hP hmc
    have HST : Hid (DecSt (m / 10 ^ (j + 1)) L) := hst
    have HStep : Hid (m / 10 ^ j = 10 * (m / 10 ^ (j + 1)) + d) := hstep
    have HP : Hid (P = 10 ^ j) := hP
    have HM : Hid (mc' = m % 10 ^ j) := hmc'
    have hL20 : L.length ≤ 20 := by
      refine HST.out.len ?_
      have := Nat.div_le_self m (10 ^ (j + 1))
      omega
    have hJ : Hid (P = 1 → j = 0) := hj0
    obtain ⟨nL, hnL⟩ : ∃ nL, nL = L.length := ⟨_, rfl⟩
    rw [← hnL] at hown hL20 hcap ⊢
    have HNL : Hid (nL = L.length) := hnL
    have HOWN : Hid (wr.ownsRow w.heap.size 5 1 (.slice a nL cap) nL (bcells (ints L))) := by
      have h : World.ownsRow _ _ _ _ _ _ _ := hown
      rw [ints_length, ← hnL] at h
      exact h
    clear hst hstep hP hmc' hmc hnone hrd hcm hj0 hown hnL
    cases hdb : ((d : Int) != 0)
    · have HD0 : Hid (d = 0) := by show d = 0; simpa using hdb
      by_cases hl : 0 < nL
      · have hlI : (0 : Int) < (nL : Int) := by omega
        go_wp2_with (at_builtin; refine wpList_append_own _ rfl _ _ 22 rfl w.heap.size 5 i0 (.int .u8 0) 1 1 Try.underlying22 Hi.out Hz0.out Hz1.out Hz2.out rfl (by decide) _ _ _ rfl (HOWN.out.alloc _) ⟨wr.heap.size, 0, none⟩ 1 1 [.int .u8 (48 + (d : Int))] rfl rfl ?c1 ?c2 ?c3 ?c4 ?c5 ?_)
        case c1 =>
          intro j u hj
          match j, hj with
          | 0, hj => simp at hj; subst hj; simp [Addr.add]
        case c2 => intro u hu; simp at hu; subst hu; rfl
        case c3 => unfold maxLen; omega
        case c4 => omega
        case c5 => have := hbel.size; simp; omega
        intro v' w1 hown' hgrow hnil'
        have hb1 : Below w.heap.size w w1 := (hbel.alloc (by have := hbel.size; omega) _).grown hgrow (by have := hbel.size; simp; omega) (fun k hk => ((HOWN.out).lt k hk).1)
        have HO : Hid (Owns w1 w.heap.size v' (ints (L ++ [dg d]))) := own_put HNL.out hd9 hown'
        have HPUT := DecSt.put HST.out hd9 (.inr (by intro h; rw [HNL.out, h] at hl; simp at hl))
        clear hown' hgrow hnil'
        obtain ⟨a', cap', hv', hnone', hrd', hcap', hcm'⟩ := HO.out.readsU
        obtain ⟨n', hn'⟩ : ∃ n', n' = (L ++ [dg d]).length := ⟨_, rfl⟩
        rw [← hn'] at hv'
        rw [hv'] at HO ⊢
        clear hn' hv'
        obtain ⟨hq0, n, hnd, hdig⟩ := HPUT
        have HDIG : Hid (L ++ [dg d] = digL n (10 * (m / 10 ^ (j + 1)) + d)) := hdig
        have HND : Hid (IsNd (10 * (m / 10 ^ (j + 1)) + d) n) := hnd
        have HQ0 : Hid (10 * (m / 10 ^ (j + 1)) + d ≠ 0) := hq0
        clear hnone' hrd' hcap' hcm' hdig hnd hq0 hbel HOWN hcap hq hsub hleI hge
        cases hPb : ((P : Int) == 1)
        · go_wp2
          go_roundw
          case rel =>
            obtain ⟨j', rfl⟩ : ∃ j', j = j' + 1 := ⟨j - 1, by
              have : j ≠ 0 := by rintro rfl; have := HP.out; simp at this; subst this; simp at hPb
              omega⟩
            refine ⟨j', P / 10, mc', L ++ [dg d], by omega, rfl, by go_num, ?_, HM.out, HO.out, ?_, hb1⟩
            · rw [HP.out, Nat.pow_succ]; omega
            · rw [HStep.out]; exact .inr ⟨HQ0.out, n, HND.out, HDIG.out⟩
          case measure => simp [intOf]; omega
        · have HJ0 := hJ.out (by have : (P : Int) = 1 := by simpa using hPb
                                 omega)
          have e0 := HStep.out
          rw [HJ0, Nat.pow_zero, Nat.div_one] at e0
          obtain ⟨s, hs, hcv⟩ := HO.out.str
          have HS : Hid (s.data.toList = digL n m ∧ IsNd m n) := by
            have h1 := HDIG.out
            have h2 := HND.out
            rw [HJ0] at h1 h2
            rw [← e0] at h1 h2
            exact ⟨hs.trans h1, h2⟩
          clear hs e0 HJ0 HDIG HND HO
          go_wp2
          go_ret
          exact ⟨s, n, rfl, HS.out.1, HS.out.2, hb1⟩
      · have HL0 : Hid (L = []) := List.eq_nil_of_length_eq_zero (by have := HNL.out; omega)
        obtain rfl : nL = 0 := by omega
        cases hPb : ((P : Int) == 1)
        · go_wp2
          go_roundw
          case rel =>
            obtain ⟨j', rfl⟩ : ∃ j', j = j' + 1 := ⟨j - 1, by
              have : j ≠ 0 := by rintro rfl; have := HP.out; simp at this; subst this; simp at hPb
              omega⟩
            have hs0 := HST.out
            rw [HL0.out] at hs0
            have hz := hs0.skip
            refine ⟨j', P / 10, mc', [], by omega, rfl, by go_num, ?_, HM.out, ?_, ?_, hbel⟩
            · rw [HP.out, Nat.pow_succ]; omega
            · have ho := HOWN.out
              rw [HL0.out] at ho
              exact ho
            · rw [HStep.out, HD0.out]; exact .inl ⟨rfl, hz⟩
          case measure => simp [intOf]; omega
        · have HJ0 := hJ.out (by have : (P : Int) = 1 := by simpa using hPb
                                 omega)
          go_wp2_with (at_builtin; refine wpList_append_own _ rfl _ _ 22 rfl w.heap.size 5 i0 (.int .u8 0) 1 1 Try.underlying22 Hi.out Hz0.out Hz1.out Hz2.out rfl (by decide) _ _ _ rfl (HOWN.out.alloc _) ⟨wr.heap.size, 0, none⟩ 1 1 [.int .u8 (48 + (d : Int))] rfl rfl ?c1 ?c2 ?c3 ?c4 ?c5 ?_)
          case c1 =>
            intro j u hj
            match j, hj with
            | 0, hj => simp at hj; subst hj; simp [Addr.add]
          case c2 => intro u hu; simp at hu; subst hu; rfl
          case c3 => unfold maxLen; omega
          case c4 => omega
          case c5 => have := hbel.size; simp; omega
          intro v' w1 hown' hgrow hnil'
          have hb1 : Below w.heap.size w w1 := (hbel.alloc (by have := hbel.size; omega) _).grown hgrow (by have := hbel.size; simp; omega) (fun k hk => ((HOWN.out).lt k hk).1)
          have HO : Hid (Owns w1 w.heap.size v' (ints (L ++ [dg d]))) := own_put HNL.out hd9 hown'
          clear hown' hgrow hnil'
          obtain ⟨a', cap', hv', hnone', hrd', hcap', hcm'⟩ := HO.out.readsU
          obtain ⟨n', hn'⟩ : ∃ n', n' = (L ++ [dg d]).length := ⟨_, rfl⟩
          rw [← hn'] at hv'
          rw [hv'] at HO ⊢
          clear hn' hv'
          clear hnone' hrd' hcap' hcm' hbel HOWN hcap hq hsub hleI hge
          obtain ⟨s, hs, hcv⟩ := HO.out.str
          have HS : Hid (s.data.toList = digL 1 m ∧ IsNd m 1) := by
            have hs0 := HST.out
            rw [HL0.out, HJ0] at hs0
            have hz := hs0.skip
            have e0 := HStep.out
            rw [HJ0, Nat.pow_zero, Nat.div_one, HD0.out, hz] at e0
            rw [hs, HL0.out, HD0.out, e0]
            exact ⟨rfl, IsNd.zero⟩
          clear hs HJ0 HO
          go_wp2
          go_ret
          exact ⟨s, 1, rfl, HS.out.1, HS.out.2, hb1⟩
    · have hdne : d ≠ 0 := by intro h; rw [h] at hdb; simp at hdb
      have HD1 : Hid (d ≠ 0) := hdne
      clear hdne
      go_wp2_with (at_builtin; refine wpList_append_own _ rfl _ _ 22 rfl w.heap.size 5 i0 (.int .u8 0) 1 1 Try.underlying22 Hi.out Hz0.out Hz1.out Hz2.out rfl (by decide) _ _ _ rfl (HOWN.out.alloc _) ⟨wr.heap.size, 0, none⟩ 1 1 [.int .u8 (48 + (d : Int))] rfl rfl ?c1 ?c2 ?c3 ?c4 ?c5 ?_)
      case c1 =>
        intro j u hj
        match j, hj with
        | 0, hj => simp at hj; subst hj; simp [Addr.add]
      case c2 => intro u hu; simp at hu; subst hu; rfl
      case c3 => unfold maxLen; omega
      case c4 => omega
      case c5 => have := hbel.size; simp; omega
      intro v' w1 hown' hgrow hnil'
      have hb1 : Below w.heap.size w w1 := (hbel.alloc (by have := hbel.size; omega) _).grown hgrow (by have := hbel.size; simp; omega) (fun k hk => ((HOWN.out).lt k hk).1)
      have HO : Hid (Owns w1 w.heap.size v' (ints (L ++ [dg d]))) := own_put HNL.out hd9 hown'
      have HPUT := DecSt.put HST.out hd9 (.inl HD1.out)
      clear hown' hgrow hnil'
      obtain ⟨a', cap', hv', hnone', hrd', hcap', hcm'⟩ := HO.out.readsU
      obtain ⟨n', hn'⟩ : ∃ n', n' = (L ++ [dg d]).length := ⟨_, rfl⟩
      rw [← hn'] at hv'
      rw [hv'] at HO ⊢
      clear hn' hv'
      obtain ⟨hq0, n, hnd, hdig⟩ := HPUT
      have HDIG : Hid (L ++ [dg d] = digL n (10 * (m / 10 ^ (j + 1)) + d)) := hdig
      have HND : Hid (IsNd (10 * (m / 10 ^ (j + 1)) + d) n) := hnd
      have HQ0 : Hid (10 * (m / 10 ^ (j + 1)) + d ≠ 0) := hq0
      clear hnone' hrd' hcap' hcm' hdig hnd hq0 hbel HOWN hcap hq hsub hleI hge
      cases hPb : ((P : Int) == 1)
      · go_wp2
        go_roundw
        case rel =>
          obtain ⟨j', rfl⟩ : ∃ j', j = j' + 1 := ⟨j - 1, by
            have : j ≠ 0 := by rintro rfl; have := HP.out; simp at this; subst this; simp at hPb
            omega⟩
          refine ⟨j', P / 10, mc', L ++ [dg d], by omega, rfl, by go_num, ?_, HM.out, HO.out, ?_, hb1⟩
          · rw [HP.out, Nat.pow_succ]; omega
          · rw [HStep.out]; exact .inr ⟨HQ0.out, n, HND.out, HDIG.out⟩
        case measure => simp [intOf]; omega
      · have HJ0 := hJ.out (by have : (P : Int) = 1 := by simpa using hPb
                               omega)
        have e0 := HStep.out
        rw [HJ0, Nat.pow_zero, Nat.div_one] at e0
        obtain ⟨s, hs, hcv⟩ := HO.out.str
        have HS : Hid (s.data.toList = digL n m ∧ IsNd m n) := by
          have h1 := HDIG.out
          have h2 := HND.out
          rw [HJ0] at h1 h2
          rw [← e0] at h1 h2
          exact ⟨hs.trans h1, h2⟩
        clear hs e0 HJ0 HDIG HND HO
        go_wp2
        go_ret
        exact ⟨s, n, rfl, HS.out.1, HS.out.2, hb1⟩
end Go.Proofs.Qxb6605313a
