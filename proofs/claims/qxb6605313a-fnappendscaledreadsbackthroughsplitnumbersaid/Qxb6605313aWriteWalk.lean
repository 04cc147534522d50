/-
  'ZZAppendScaled' (10) AND 'FnAppendScaledWritesFixedPointDecimal' (3).
-/
import Derived.Test.Qxb6605313aAppWalk
import Derived.Test.Qxb6605313aFixWalk
import Derived.BigQuiet
import Derived.OpenShut
import Derived.Deep.QuietTactic
namespace Go.Proofs.Qxb6605313a
open Go.RowKit
set_option linter.unusedVariables false
set_option linter.unusedSimpArgs false

theorem fixedL_length (neg : Bool) (n d m : Nat) : (fixedL neg n d m).length ≤ n + d + 2 := by
  unfold fixedL body
  cases neg <;> by_cases h : 0 < d <;> simp [h, digL_length] <;> omega
theorem fixedL_pos (neg : Bool) {n d m : Nat} (h : IsNd (m / 10 ^ d) n) : 0 < (fixedL neg n d m).length := by
  have := h.1
  unfold fixedL body
  cases neg <;> simp [digL_length] <;> omega

/-- What ZZAppendScaled hands back, as a slice at the head of a block of the call's own. -/
theorem zzappend (a : Option Addr) (len : Nat) (zs : List Int) (v : Int) (d : Nat) (w : World) (hlen : len ≤ 1048576) (hin : ComesIn w a len len zs) (h0 : -9223372036854775808 ≤ v) (h1 : v ≤ 9223372036854775807) (hd : d ≤ 18) :
    Calls Try.prog 10 #[.slice a len len, .int .i64 v, .int .i64 (d : Int)] w fun e w' => ∃ (g cap n M : Nat), e = .returned (.slice (some ⟨g, 0, none⟩) (len + M) cap) ∧ IsNd (v.natAbs / 10 ^ d) n ∧ M = (fixedL (decide (v < 0)) n d v.natAbs).length ∧
      Reads w' w'.heap.size (some ⟨g, 0, none⟩) (len + M) (zs ++ ints (fixedL (decide (v < 0)) n d v.natAbs)) ∧ Below w.heap.size w w' := by
  have HA := appendScaled_any a len zs v d w hlen hin h0 h1 hd
  have H2 : Calls Try.prog 22 #[.slice a len len, .int .i64 v, .int .i64 (d : Int)] w fun e w' => ∃ (g cap n M : Nat), e = .returned (.slice (some ⟨g, 0, none⟩) (len + M) cap) ∧ IsNd (v.natAbs / 10 ^ d) n ∧ M = (fixedL (decide (v < 0)) n d v.natAbs).length ∧
      Reads w' w'.heap.size (some ⟨g, 0, none⟩) (len + M) (zs ++ ints (fixedL (decide (v < 0)) n d v.natAbs)) ∧ Below w.heap.size w w' := by
    refine HA.mono ?_
    rintro e w' ⟨v', n, rfl, hn, ho, hb⟩
    have hl : (zs ++ ints (fixedL (decide (v < 0)) n d v.natAbs)).length = len + (fixedL (decide (v < 0)) n d v.natAbs).length := by rw [List.length_append, ints_length, hin.2.1]
    obtain ⟨a2, cap, rfl, hnone, hr, _, _⟩ := ho.reads
    have hp := fixedL_pos (decide (v < 0)) hn
    rw [hl] at hr hnone
    cases a2 with
    | none => have := (hnone rfl).1; omega
    | some x =>
      rcases ho.2 with ⟨he, _⟩ | ⟨g, cap', cur, he, _⟩
      · simp at he
      · simp only [Value.slice.injEq, Option.some.injEq] at he
        obtain ⟨rfl, _, _⟩ := he
        exact ⟨g, cap, n, _, by rw [hl], hn, rfl, hr, hb⟩
  have C2 := toHid H2
  clear HA H2
  go_enter Try.func10, Try.ntmps10
  go_wp2_with fail
  refine C2.out.mono ?_
  rintro e w' ⟨g, cap, n, M, rfl, hn, hM, hr, hb⟩
  have HM := toHid hM
  have HN := toHid hn
  have HR := toHid hr
  clear hM hn hr C2
  go_wp2
  go_ret
  exact ⟨g, cap, n, M, rfl, HN.out, HM.out, HR.out, hb⟩

theorem Reads.drewN {w : World} {B : Nat} {a : Option Addr} {len : Nat} {zs : List Int} (h : Reads w B a len zs) (q : Nat) : Reads (w.drewN q) B a len zs := h

theorem Reads.at {w : World} {B : Nat} {a : Option Addr} {len : Nat} {zs : List Int} (h : Reads w B a len zs) {k : Nat} (hk : k < len) : ∃ b off, a = some ⟨b, off, none⟩ ∧ w.cell? ⟨b, off + k, none⟩ = some (.int .u8 (zs.getD k 0)) := by
  rcases h.2 with h0 | ⟨b, off, ha, _, hc⟩
  · omega
  · exact ⟨b, off, ha, hc k hk⟩
theorem byte_at (s : ByteArray) (k : Nat) (h : k < s.size) : s.data.toList.getD k 0 = s[k] := by
  simp [List.getD, h, ByteArray.getElem_eq_getElem_data]
theorem getD_left {a b : List Int} {k : Nat} (h : k < a.length) : (a ++ b).getD k 0 = a.getD k 0 := by
  simp [List.getD, List.getElem?_append_left h]
theorem getD_right {a b : List Int} {k : Nat} : (a ++ b).getD (a.length + k) 0 = b.getD k 0 := by
  simp [List.getD, List.getElem?_append_right]

set_option maxHeartbeats 1000000 in
set_option maxRecDepth 100000 in
theorem write_go (a : Option Addr) (len cap : Nat) (zs : List Int) (v : Int) (d : Nat) (w : World) (hlen : len ≤ 1048576) (hin : ComesIn w a len cap zs) (h0 : -9223372036854775808 ≤ v) (h1 : v ≤ 9223372036854775807) (hd : d ≤ 18) :
    Calls Try.prog 3 #[.slice a len cap, .int .i64 v, .int .i64 (d : Int)] w fun e w' => e = .returned (.bool true) ∧ Below w.heap.size w w' := by
  go_enter Try.func3, Try.ntmps3
  go_wp2_with (go_at_call 8; refine (bytes8 _ _ _ _ _ _ hlen).mono ?_; rintro x w' ⟨rfl, hw'⟩; subst w')
  refine (clone_reads a len cap zs _ hlen hin).mono ?_
  rintro e w1 ⟨a', rfl, ho, hc, hb1⟩
  clear ho hin
  go_wp2_with fail
  refine (zzappend a' len zs v d _ hlen hc h0 h1 hd).mono ?_
  rintro e w2 ⟨g, cap2, n, M, rfl, hn, hM, hr, hb2⟩
  have HM := toHid hM
  have HN := toHid hn
  have HR := toHid hr
  have HC := toHid ((hc.2.below hb2).mono hb2.size)
  have hb12 := hb1.trans (hb2.mono hb1.size)
  have hM40 : M ≤ 40 := by
    have := fixedL_length (decide (v < 0)) n d v.natAbs
    have := hn.le19 (by have := Nat.div_le_self v.natAbs (10 ^ d); omega)
    omega
  clear hM hn hr hc hb1 hb2
  go_wp2_with fail
  refine (fixed_any v d _ h0 h1 hd).mono ?_
  rintro e w3 ⟨s, n2, rfl, hs, hn2, hb3⟩
  have en : n2 = n := hn2.unique HN.out
  rw [en] at hs
  obtain ⟨T, hT⟩ : ∃ T, T = fixedL (decide (v < 0)) n d v.natAbs := ⟨_, rfl⟩
  rw [← hT] at HR HM hs
  have HS := toHid hs
  have hsz : s.size = M := by rw [HM.out, ← hs]; simp
  have HR3 := toHid ((HR.out.below hb3).mono hb3.size)
  have HC3 := toHid ((HC.out.below hb3).mono hb3.size)
  have hb13 := toHid (hb12.trans (hb3.mono hb12.size))
  clear hb12 hb3 HR HC hs hn2 hT en HN
  go_wp2
  go_loopw [9] (fun i wr => ∃ k : Nat, k ≤ len ∧ i = .int .i64 (k : Int) ∧ Reads wr wr.heap.size a' len zs ∧ Reads wr wr.heap.size (some ⟨g, 0, none⟩) (len + M) (zs ++ ints T) ∧ Below w.heap.size w wr) (fun i _ => len - (intOf i).toNat)
  case atStart => exact ⟨0, Nat.zero_le _, rfl, HC3.out, HR3.out, hb13.out⟩
  case round =>
    clear HC3 HR3 hb13
    obtain ⟨k, hk, rfl, hra, hrg, hbel⟩ := hrel
    have HRA := toHid hra
    have HRG := toHid hrg
    by_cases hlt : k < len
    · have hzl := toHid hra.1
      obtain ⟨b, off, rfl, hca⟩ : ∃ b off, a' = some ⟨b, off, none⟩ ∧ wr.cell? ⟨b, off + k, none⟩ = some (.int .u8 (zs.getD k 0)) := hra.at hlt
      have hcg : wr.cell? ⟨g, k, none⟩ = some (.int .u8 (zs.getD k 0)) := by
        obtain ⟨b', off', he, hc'⟩ := hrg.at (k := k) (by omega)
        simp only [Option.some.injEq, Addr.mk.injEq] at he
        obtain ⟨rfl, rfl, _⟩ := he
        rw [Nat.zero_add] at hc'
        rw [hc', getD_left (by have := hzl.out; omega)]
      obtain ⟨c, hcdef⟩ : ∃ c, c = zs.getD k 0 := ⟨_, rfl⟩
      rw [← hcdef] at hca hcg
      have i1 : (k : Int) < (len : Int) := by omega
      have i2 : (k : Int) < ((len + M : Nat) : Int) := by omega
      clear hcdef hra hrg
      go_wp2
      go_quiet (fail)
      go_wp2
      go_roundw
      case rel => exact ⟨k + 1, by omega, by go_num, HRA.out.drewN _, HRG.out.drewN _, below_drewN hbel _⟩
      case measure => simp [intOf]; omega
    · have HZL := toHid hra.1
      have HB := toHid hbel
      clear hra hrg HRA
      go_wp2
      go_loopw [10] (fun i wr => ∃ k : Nat, k ≤ M ∧ i = .int .i64 (k : Int) ∧ Reads wr wr.heap.size (some ⟨g, 0, none⟩) (len + M) (zs ++ ints T) ∧ Below w.heap.size w wr) (fun i _ => M - (intOf i).toNat)
      case atStart => exact ⟨0, Nat.zero_le _, rfl, HRG.out, HB.out⟩
      case round =>
        clear HRG HB hbel
        obtain ⟨k2, hk2, rfl, hrg, hbel⟩ := hrel
        have HRG := toHid hrg
        by_cases hlt2 : k2 < M
        · have hks : k2 < s.size := by omega
          have hcg : wr.cell? ⟨g, len + k2, none⟩ = some (.int .u8 (s[k2].toNat : Int)) := by
            obtain ⟨b', off', he, hc'⟩ := hrg.at (k := len + k2) (by omega)
            simp only [Option.some.injEq, Addr.mk.injEq] at he
            obtain ⟨rfl, rfl, _⟩ := he
            rw [Nat.zero_add] at hc'
            have e : (zs ++ ints T).getD (len + k2) 0 = (s[k2].toNat : Int) := by
              rw [← HZL.out, getD_right, ints_getD, ← HS.out, byte_at s k2 hks]
            rw [hc', e]
          have i1 : (len : Int) + (k2 : Int) < ((len + M : Nat) : Int) := by omega
          have i2 : (k2 : Int) < (s.size : Int) := by omega
          clear hrg
          go_wp2
          go_quiet (fail)
          go_wp2
          go_roundw
          case rel => exact ⟨k2 + 1, by omega, by go_num, HRG.out.drewN _, below_drewN hbel _⟩
          case measure => simp [intOf]; omega
        · clear hrg
          go_wp2
          go_ret
          exact ⟨rfl, hbel⟩

set_option maxRecDepth 100000 in
theorem write_any (a : Option Addr) (len cap : Nat) (zs : List Int) (v d : Int) (w : World) (hin : ComesIn w a len cap zs) (hv : (Lit.int .i64 v).wf = true) (hd : (Lit.int .i64 d).wf = true) :
    Calls Try.prog 3 #[.slice a len cap, .int .i64 v, .int .i64 d] w fun e w' => e = .returned (.bool true) ∧ Below w.heap.size w w' := by
  have hvb := bounds_i64 hv
  have hdb := bounds_i64 hd
  by_cases hlen : len ≤ 1048576
  · by_cases hd0 : 0 ≤ d
    · by_cases hd1 : d ≤ 18
      · obtain ⟨k, rfl⟩ := Int.eq_ofNat_of_zero_le hd0
        exact write_go a len cap zs v k w hlen hin hvb.1 hvb.2 (by omega)
      · go_enter Try.func3, Try.ntmps3
        go_wp2_with (go_at_call 8; refine (bytes8 _ _ _ _ _ _ hlen).mono ?_; rintro x w' ⟨rfl, rfl⟩)
        go_ret
        exact ⟨rfl, Below.refl _ _⟩
    · go_enter Try.func3, Try.ntmps3
      go_wp2_with (go_at_call 8; refine (bytes8 _ _ _ _ _ _ hlen).mono ?_; rintro x w' ⟨rfl, rfl⟩)
      go_ret
      exact ⟨rfl, Below.refl _ _⟩
  · go_enter Try.func3, Try.ntmps3
    go_wp2_with (go_at_call 8; refine (bytes8_no _ _ _ _ _ _ (by omega)).mono ?_; rintro x w' ⟨rfl, rfl⟩)
    go_ret
    exact ⟨rfl, Below.refl _ _⟩
end Go.Proofs.Qxb6605313a
