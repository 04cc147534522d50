/-
  'FnAppendScaledReadsBackThroughSplitNumber' (function 4).
-/
import Derived.Test.Qxb6605313aWriteWalk
import Derived.Test.Qxb6605313aSplitZ
import Derived.Test.Qxb6605313aBackPlain
namespace Go.Proofs.Qxb6605313a
open Go.RowKit
set_option linter.unusedVariables false
set_option linter.unusedSimpArgs false

/-- ZZAppendScaled at a number of digits that is known. -/
theorem app_back (a : Option Addr) (len : Nat) (zs : List Int) (v : Int) (d n0 M : Nat) (T : List UInt8) (w : World) (hlen : len ≤ 1048576) (hin : ComesIn w a len len zs) (h0 : -9223372036854775808 ≤ v) (h1 : v ≤ 9223372036854775807) (hd : d ≤ 18)
    (hn0 : IsNd (v.natAbs / 10 ^ d) n0) (hT : T = fixedL (decide (v < 0)) n0 d v.natAbs) (hM : M = T.length) :
    Calls Try.prog 10 #[.slice a len len, .int .i64 v, .int .i64 (d : Int)] w fun e w' => ∃ (g cap : Nat), e = .returned (.slice (some ⟨g, 0, none⟩) (len + M) cap) ∧ len + M ≤ cap ∧
      Reads w' w'.heap.size (some ⟨g, 0, none⟩) (len + M) (zs ++ ints T) ∧ Below w.heap.size w w' := by
  have C2 : Hid (Calls Try.prog 22 #[.slice a len len, .int .i64 v, .int .i64 (d : Int)] w fun e w' => ∃ (g cap : Nat), e = .returned (.slice (some ⟨g, 0, none⟩) (len + M) cap) ∧ len + M ≤ cap ∧
      Reads w' w'.heap.size (some ⟨g, 0, none⟩) (len + M) (zs ++ ints T) ∧ Below w.heap.size w w') := by
    refine (appendScaled_any a len zs v d w hlen hin h0 h1 hd).mono ?_
    rintro e w' ⟨v', n, rfl, hn, ho, hb⟩
    have en : n = n0 := hn.unique hn0
    rw [en, ← hT] at ho
    have hl : (zs ++ ints T).length = len + M := by rw [List.length_append, ints_length, hin.2.1, hM]
    obtain ⟨a2, cap, rfl, hnone, hr, hcap, _⟩ := ho.reads
    have hp := fixedL_pos (decide (v < 0)) hn0
    rw [← hT, ← hM] at hp
    rw [hl] at hr hnone hcap
    cases a2 with
    | none => have := (hnone rfl).1; omega
    | some x =>
      rcases ho.2 with ⟨he, _⟩ | ⟨g, cap', cur, he, _⟩
      · simp at he
      · simp only [Value.slice.injEq, Option.some.injEq] at he
        obtain ⟨rfl, _, _⟩ := he
        exact ⟨g, cap, by rw [hl], hcap, hr, hb⟩
  clear hn0 hT hM hin
  go_enter Try.func10, Try.ntmps10
  go_wp2_with fail
  refine C2.out.mono ?_
  rintro e w' ⟨g, cap, rfl, hcap, hr, hb⟩
  have HR := toHid hr
  clear hr C2
  go_wp2
  go_ret
  exact ⟨g, cap, rfl, hcap, HR.out, hb⟩

/-- 'string(got[len(dst):])'. -/
theorem tail_str {w : World} {B g len M c : Nat} {zs : List Int} {T : List UInt8} (h : Reads w B (some ⟨g, 0, none⟩) (len + M) (zs ++ ints T)) (hz : zs.length = len) (hM : M = T.length) (nq : Nat) :
    (convert 22 9 (.slice (some ⟨g, len, none⟩) M c)).run Try.prog (w.drewN nq) = .ok (.string ⟨T.toArray⟩) (w.drewN nq) := by
  subst hM
  refine run_convert_bytes_back (w.drewN nq) 22 9 5 ⟨g, len, none⟩ c T Try.underlying22 Try.underlying5 Try.underlying9 (fun j hj => ?_)
  rw [Addr.add_lit]
  obtain ⟨b', off', he, hc'⟩ := (h.drewN nq).at (k := len + j) (by omega)
  simp only [Option.some.injEq, Addr.mk.injEq] at he
  obtain ⟨rfl, rfl, _⟩ := he
  rw [Nat.zero_add] at hc'
  rw [hc', ← hz, getD_right, ints_getD]
  simp [List.getD, hj]

set_option maxHeartbeats 1000000 in
set_option maxRecDepth 100000 in
theorem back_go0 (a : Option Addr) (len cap : Nat) (zs : List Int) (d : Nat) (w : World) (hlen : len ≤ 1048576) (hin : ComesIn w a len cap zs) (hd : d ≤ 18) :
    Calls Try.prog 4 #[.slice a len cap, .int .i64 0, .int .i64 (d : Int)] w fun e w' => e = .returned (.bool true) ∧ Below w.heap.size w w' := by
  obtain ⟨n0, hn0⟩ := IsNd.exists ((0 : Int).natAbs / 10 ^ d)
  obtain ⟨T, hT⟩ : ∃ T, T = fixedL (decide ((0 : Int) < 0)) n0 d (0 : Int).natAbs := ⟨_, rfl⟩
  obtain ⟨M, hM⟩ : ∃ M, M = T.length := ⟨_, rfl⟩
  have hM40 : M ≤ 40 := by
    have := fixedL_length (decide ((0 : Int) < 0)) n0 d (0 : Int).natAbs
    have := hn0.le19 (by have := Nat.div_le_self (0 : Int).natAbs (10 ^ d); simp)
    rw [hM, hT]; omega
  have hM0 : 0 < M := by rw [hM, hT]; exact fixedL_pos _ hn0
  obtain ⟨t, ht⟩ : ∃ t : ByteArray, t = ⟨T.toArray⟩ := ⟨_, rfl⟩
  have htsz : t.size = M := by rw [ht, hM]; simp [ByteArray.size]
  have hread : sAll ((t.size : Int) + 1048576) t.data.toList = some (false, [], -(d : Int)) := by
    have e : t.data.toList = T := by rw [ht]
    rw [e, hT, back_all _ _ hn0]
    exact back_zero false hn0
  have C13 := toHid (fun w => zzsplit_some t w (by omega) false [] (-(d : Int)) hread)
  have CA := toHid (fun a' w hc => app_back a' len zs 0 d n0 M T w hlen hc (by omega) (by omega) hd hn0 hT hM)
  have HM := toHid hM
  have HT := toHid ht
  clear hn0 hT hM ht hread
  go_enter Try.func4, Try.ntmps4
  go_wp2_with (go_at_call 12; refine (bytes12 _ _ _ _ _ _ hlen).mono ?_; rintro x w' ⟨rfl, hw'⟩; subst w')
  refine (clone_reads a len cap zs _ hlen hin).mono ?_
  rintro e w1 ⟨a', rfl, ho, hc, hb1⟩
  have HZL := toHid hc.2.1
  clear ho hin
  go_wp2_with fail
  refine (CA.out a' _ hc).mono ?_
  rintro e w2 ⟨g, cap2, rfl, hcap, hr, hb2⟩
  have hb := hb1.trans (hb2.mono hb1.size)
  have hcv : ∀ c, (convert 22 9 (.slice (some ⟨g, len, none⟩) M c)).run Try.prog w2 = .ok (.string t) w2 := fun c => by rw [HT.out]; exact tail_str hr HZL.out HM.out 0
  have hne : ¬ cap2 = len := by omega
  clear hc hb1 hb2 CA hr
  go_wp2_with fail
  refine (C13.out _).mono ?_
  rintro e w3 ⟨rfl, hb3⟩
  have hb' := hb.trans (hb3.mono hb.size)
  clear hb hb3 C13 hcv
  go_wp2_with (go_at_call 14; refine (zzMagnitude_any 0 _ (by omega) (by omega)).mono ?_; rintro e w' ⟨rfl, hw'⟩; subst w')
  go_ret
  exact ⟨by simp, hb'⟩

set_option maxHeartbeats 1000000 in
set_option maxRecDepth 100000 in
theorem back_go1 (a : Option Addr) (len cap : Nat) (zs : List Int) (v : Int) (d : Nat) (w : World) (hlen : len ≤ 1048576) (hin : ComesIn w a len cap zs) (hd : d ≤ 18) (h0 : -9223372036854775808 ≤ v) (h1 : v ≤ 9223372036854775807) (hv0 : v ≠ 0) :
    Calls Try.prog 4 #[.slice a len cap, .int .i64 v, .int .i64 (d : Int)] w fun e w' => e = .returned (.bool true) ∧ Below w.heap.size w w' := by
  have hm0 : v.natAbs ≠ 0 := by omega
  obtain ⟨n0, hn0⟩ := IsNd.exists (v.natAbs / 10 ^ d)
  obtain ⟨N, hN⟩ := IsNd.exists v.natAbs
  have hN19 := hN.le19 (by omega)
  obtain ⟨ng, hng⟩ : ∃ ng, ng = decide (v < 0) := ⟨_, rfl⟩
  obtain ⟨T, hT⟩ : ∃ T, T = fixedL ng n0 d v.natAbs := ⟨_, rfl⟩
  obtain ⟨M, hM⟩ : ∃ M, M = T.length := ⟨_, rfl⟩
  have hM40 : M ≤ 40 := by
    have := fixedL_length ng n0 d v.natAbs
    have := hn0.le19 (by have := Nat.div_le_self v.natAbs (10 ^ d); omega)
    rw [hM, hT]; omega
  have hM0 : 0 < M := by rw [hM, hT]; exact fixedL_pos _ hn0
  obtain ⟨t, ht⟩ : ∃ t : ByteArray, t = ⟨T.toArray⟩ := ⟨_, rfl⟩
  have htsz : t.size = M := by rw [ht, hM]; simp [ByteArray.size]
  obtain ⟨C, z, hfin, hCz, hzN, C', c, hC, hc48⟩ := back_some ng hm0 hn0 hN
  have hread : sAll ((t.size : Int) + 1048576) t.data.toList = some (ng, C, (z : Int) - (d : Int)) := by
    have e : t.data.toList = T := by rw [ht]
    rw [e, hT, back_all _ _ hn0]
    exact hfin
  obtain ⟨cs, hcs⟩ : ∃ cs : ByteArray, cs = ⟨C.toArray⟩ := ⟨_, rfl⟩
  have HCS : Hid (cs.data.toList = C) := by rw [hcs]; rfl
  have hcsz : cs.size = C.length := by rw [← size_of_toList, HCS.out]
  have hCl : C.length + z = N := by have := congrArg List.length hCz; rw [List.length_append, List.length_replicate, digL_length] at this; exact this
  have hcs0 : 0 < cs.size := by rw [hcsz, hC]; simp
  have hcs19 : cs.size ≤ 19 := by omega
  have hidx : cs.size - 1 < cs.size := Nat.sub_lt hcs0 (by decide)
  have hlast : (((cs[cs.size - 1]'hidx).toNat : Int) == 48) = false := by
    have h2 := last_split cs hcs0
    rw [HCS.out, hC] at h2
    have h3 : c = cs[cs.size - 1]'hidx := by
      have := congrArg List.getLast? h2
      simpa using this
    rw [beq_eq_false_iff_ne]
    intro e
    apply hc48
    rw [h3]
    exact UInt8.toNat_inj.1 (by show (cs[cs.size - 1]'hidx).toNat = 48; omega)
  have C13 : Hid (∀ w, Calls Try.prog 13 #[.string t] w fun e w' => e = .returned (.tuple #[.bool ng, .string cs, .int .i64 ((z : Int) - (d : Int)), .bool true]) ∧ Below w.heap.size w w') := by
    intro w; rw [hcs]; exact zzsplit_some t w (by omega) ng C _ hread
  have CA := toHid (fun a' w hc => app_back a' len zs v d n0 M T w hlen hc h0 h1 hd hn0 (by rw [hT, hng]) hM)
  have HM := toHid hM
  have HT := toHid ht
  have HCz := toHid hCz
  have HN := toHid hN
  have hz19 : z ≤ 19 := by omega
  have hszne : ((cs.size : Int) == 0) = false := beq_eq_false_iff_ne.2 (by omega)
  have hmne : ((v.natAbs : Int) == 0) = false := beq_eq_false_iff_ne.2 (by omega)
  have HNG := toHid hng
  have hngb : (ng == decide (v < 0)) = true := by rw [hng]; simp
  clear hn0 hT hM ht hread hfin hCz hC hc48 hcs hcsz hCl hN hng hzN hm0 hv0
  go_enter Try.func4, Try.ntmps4
  go_wp2_with (go_at_call 12; refine (bytes12 _ _ _ _ _ _ hlen).mono ?_; rintro x w' ⟨rfl, hw'⟩; subst w')
  refine (clone_reads a len cap zs _ hlen hin).mono ?_
  rintro e w1 ⟨a', rfl, ho, hc, hb1⟩
  have HZL := toHid hc.2.1
  clear ho hin
  go_wp2_with fail
  refine (CA.out a' _ hc).mono ?_
  rintro e w2 ⟨g, cap2, rfl, hcap, hr, hb2⟩
  have hb := hb1.trans (hb2.mono hb1.size)
  have hcv : ∀ c, (convert 22 9 (.slice (some ⟨g, len, none⟩) M c)).run Try.prog w2 = .ok (.string t) w2 := fun c => by rw [HT.out]; exact tail_str hr HZL.out HM.out 0
  have hne : ¬ cap2 = len := by omega
  clear hc hb1 hb2 CA hr
  go_wp2_with fail
  refine (C13.out _).mono ?_
  rintro e w3 ⟨rfl, hb3⟩
  have hb' := hb.trans (hb3.mono hb.size)
  clear hb hb3 C13 hcv
  go_wp2_with (go_at_call 14; refine (zzMagnitude_any v _ h0 h1).mono ?_; rintro e w' ⟨rfl, hw'⟩; subst w')
  go_loop [14, 15] (fun f vk => ∃ (k : Nat) (x : ByteArray), k ≤ z ∧ vk = .int .i64 (k : Int) ∧ f = .string x ∧ x.size ≤ 100 ∧ x.data.toList = C ++ List.replicate k 48 ∧ x.size = cs.size + k) (fun _ vk => z - (intOf vk).toNat)
  case atStart => exact ⟨0, cs, Nat.zero_le _, rfl, rfl, by omega, by rw [HCS.out]; simp, by omega⟩
  case round =>
    obtain ⟨k, x, hk, rfl, rfl, hx100, hxl, hxs⟩ := hrel
    have HXL := toHid hxl
    have HXS := toHid hxs
    clear hxl hxs
    by_cases hlt : k < z
    · go_wp2
      go_round
      case rel =>
        refine ⟨k + 1, _, by omega, by go_num, rfl, ?_, ?_, ?_⟩
        · rw [ByteArray.size_append, HXS.out]; show _ + 1 ≤ 100; omega
        · rw [cat_data, HXL.out, List.replicate_succ', List.append_assoc]
        · rw [ByteArray.size_append, HXS.out]; show _ + 1 = _; omega
      case measure => simp [intOf]; omega
    · have HXD : Hid (x.data.toList = digL N v.natAbs) := by
        show _ = _
        rw [HXL.out, ← HCz.out]
        have e : k = z := by omega
        rw [e]
      go_wp2_with fail
      refine (zzDecimal_any v.natAbs _ (by omega)).mono ?_
      rintro e w4 ⟨s, n, rfl, hs, hnn, hb4⟩
      have hsx : s = x := bytes_eq (by rw [hs, HXD.out, hnn.unique HN.out])
      rw [hsx]
      have hb5 := hb'.trans (hb4.mono hb'.size)
      clear hs hnn hb4 hsx
      go_wp2
      go_ret
      exact ⟨by simp, hb5⟩

set_option maxRecDepth 100000 in
theorem back_any (a : Option Addr) (len cap : Nat) (zs : List Int) (v d : Int) (w : World) (hin : ComesIn w a len cap zs) (hv : (Lit.int .i64 v).wf = true) (hd : (Lit.int .i64 d).wf = true) :
    Calls Try.prog 4 #[.slice a len cap, .int .i64 v, .int .i64 d] w fun e w' => e = .returned (.bool true) ∧ Below w.heap.size w w' := by
  have hvb := bounds_i64 hv
  have hdb := bounds_i64 hd
  by_cases hlen : len ≤ 1048576
  · by_cases hd0 : 0 ≤ d
    · by_cases hd1 : d ≤ 18
      · obtain ⟨k, rfl⟩ := Int.eq_ofNat_of_zero_le hd0
        by_cases hv0 : v = 0
        · subst hv0
          exact back_go0 a len cap zs k w hlen hin (by omega)
        · exact back_go1 a len cap zs v k w hlen hin (by omega) hvb.1 hvb.2 hv0
      · go_enter Try.func4, Try.ntmps4
        go_wp2_with (go_at_call 12; refine (bytes12 _ _ _ _ _ _ hlen).mono ?_; rintro x w' ⟨rfl, rfl⟩)
        go_ret
        exact ⟨rfl, Below.refl _ _⟩
    · go_enter Try.func4, Try.ntmps4
      go_wp2_with (go_at_call 12; refine (bytes12 _ _ _ _ _ _ hlen).mono ?_; rintro x w' ⟨rfl, rfl⟩)
      go_ret
      exact ⟨rfl, Below.refl _ _⟩
  · go_enter Try.func4, Try.ntmps4
    go_wp2_with (go_at_call 12; refine (bytes12_no _ _ _ _ _ _ (by omega)).mono ?_; rintro x w' ⟨rfl, rfl⟩)
    go_ret
    exact ⟨rfl, Below.refl _ _⟩

end Go.Proofs.Qxb6605313a
