/-
  'FnSerialOrderListsFinishersInOrder' (3).
-/
import Derived.Test.Qxb6003656aOrderZ
import Derived.BigQuiet
import Derived.Deep.QuietTactic
import Derived.Deep.DeepCutAuto
namespace Go.Proofs.Qxb6003656a
open Go.RowKit
set_option linter.unusedVariables false
set_option linter.unusedSimpArgs false

theorem getD_left {a b : List Int} {k : Nat} (h : k < a.length) : (a ++ b).getD k 0 = a.getD k 0 := by
  simp [List.getD, List.getElem?_append_left h]
theorem getD_right {a b : List Int} {k : Nat} : (a ++ b).getD (a.length + k) 0 = b.getD k 0 := by
  simp [List.getD, List.getElem?_append_right]

theorem rk_le (c : Int) : rk c ≤ 3 := by
  unfold rk
  by_cases h2 : c = 2 <;> by_cases h3 : c = 3 <;> by_cases h0 : c = 0 <;> by_cases h4 : c = 4 <;> simp [h2, h3, h0, h4]
/-- What the loop remembers of the position before. -/
def PrevOk (ss : List Int) (t : Nat) (prI pkI : Int) : Prop :=
  t = 0 ∨ (0 < t ∧ prI = rk (ss.getD ((ord ss).getD (t - 1) 0) 0) ∧ pkI = ky prI (((ord ss).getD (t - 1) 0 : Nat) : Int))

set_option maxHeartbeats 4000000 in
set_option maxRecDepth 100000 in
theorem main_go (a0 : Option Addr) (len0 cap0 : Nat) (zs : List Int) (a1 : Option Addr) (len1 cap1 : Nat) (ss : List Int) (w : World) (h0 : len0 ≤ 65536) (h1 : len1 ≤ 65536) (hin0 : ComesIn .i64 w a0 len0 cap0 zs) (hin1 : ComesIn .u8 w a1 len1 cap1 ss) :
    Calls Try.prog 3 #[.slice a0 len0 cap0, .slice a1 len1 cap1] w fun e w' => e = .returned (.bool true) ∧ Below w.heap.size w w' := by
  obtain ⟨i0, hi, hz0, hz1, hz2⟩ := info_parts Try.info5
  have Hi := toHid hi
  have Hz0 := toHid hz0
  have Hz1 := toHid hz1
  have Hz2 := toHid hz2
  have HIN0 := toHid hin0
  have HIN1 := toHid hin1
  have q := fun (w : World) (a : Option Addr) (n c n' c' : Nat) => run_neq_slice_nil_any (P := Try.prog) w 23 5 a n c n' c' Try.underlying23
  clear hi hz0 hz1 hz2 hin0 hin1
  go_enter Try.func3, Try.ntmps3
  go_upto_if 28 with (go_at_call 7; refine (bytes7 _ _ _ _ _ _ _ (by omega)).mono ?_; rintro x w' ⟨rfl, hw'⟩; subst w')
  go_cut [1, 5] (fun s _ wx => ∃ sa sc, s = .slice sa len1 sc ∧ Rd .u8 wx wx.heap.size sa len1 ss ∧ Below w.heap.size w wx)
  case first => as_aux_lemma =>
    cases a1 with
    | none =>
      go_wp2
      go_meet
      case rel => exact ⟨none, cap1, rfl, HIN1.out.2, Below.refl _ _⟩
    | some x =>
      go_wp2_with (at_make; refine wpList_make_full _ rfl _ _ 23 rfl w.heap.size 5 i0 (.int .u8 0) 1 Try.underlying23 Hi.out Hz0.out Hz1.out _ _ _ _ len1 rfl rfl (by omega) (by omega) (by rw [Hz2.out]; omega) (by unfold maxLen; omega) (Nat.le_refl _) ?_)
      intro w1 hown1 hgrow1
      obtain ⟨cur, hg1, hcur⟩ : ∃ cur : List Value, w1.heap[w.heap.size]? = some (.cells cur.toArray 5 (0, 0)) ∧ cur.length = len1 := by
        rcases hown1.2 with ⟨h, _⟩ | ⟨g, cap', cur, h, _, hg, _, _, hcs, _⟩
        · simp at h
        · simp only [Value.slice.injEq, Option.some.injEq, Addr.mk.injEq, and_true, true_and] at h
          obtain ⟨rfl, rfl⟩ := h
          exact ⟨cur.toList, by simpa using hg, by simpa using hcs⟩
      have hb1 : Below w.heap.size w w1 := (Below.refl _ _).grown hgrow1 (Nat.le_refl _) (fun k h => by simp at h)
      have hr1 : Rd .u8 w1 w.heap.size (some x) len1 ss := HIN1.out.2.below hb1
      have HG1 := toHid hg1
      have HC1 := toHid hcur
      clear hown1 hgrow1 hg1 hcur
      go_wp2_with (refine wpList_copy_splice rfl (.tmp 32) (.tmp 33) 23 23 rfl 5 Try.underlying23 (by kernel_rfl) _ _ _ _ _ _ rfl rfl w.heap.size 0 cur 5 HG1.out (ncells .u8 ss) ?_ ?_ ?_ (ncells_oneCell .u8 ss) w.heap.size w hb1 (Nat.le_refl _) ?_)
      · rw [length_ncells, hr1.1]; simp
      · intro _; exact hr1.cells
      · rw [length_ncells, hr1.1, HC1.out]; omega
      intro w2 hg2 hb2
      go_wp2
      go_meet
      case rel =>
        have h1' := HC1.out
        have h2' := hr1.1
        have h3' : (ncells .u8 ss).length = len1 := by rw [length_ncells]; exact h2'
        have ho : Ow 5 .u8 w2 w.heap.size (.slice (some ⟨w.heap.size, 0, none⟩) len1 len1) ss := by
          refine ⟨by rw [length_ncells]; omega, .inr ⟨w.heap.size, len1, _, by rw [h2'], Nat.le_refl _, hg2.out, by rw [h2']; exact Nat.le_refl _, by unfold maxLen; omega, ?_, ?_⟩⟩
          · rw [List.size_toArray, length_splice _ _ _ (by rw [length_ncells]; omega)]; omega
          · simp only [splice, List.take_zero, List.nil_append, Nat.zero_add, Nat.mul_one, h2', h3']
            rw [List.drop_eq_nil_of_le (by omega), List.append_nil, ← h3']
            simp
        obtain ⟨a2, cap2, he, _, hrd, _, _⟩ := ho.reads
        simp only [Value.slice.injEq] at he
        obtain ⟨rfl, hl, rfl⟩ := he
        exact ⟨_, _, rfl, by rw [← hl] at hrd; exact hrd, hb2⟩
  case rest =>
    obtain ⟨sa, sc, rfl, hsl, hbw⟩ := hcut
    have hc0 := HIN0.out.below hbw
    have HSL := toHid hsl
    clear HIN0 HIN1 hsl q
    go_wp2_with fail
    refine (clone_any a0 len0 cap0 zs _ (by omega) hc0).mono ?_
    rintro e w3 ⟨a3, rfl, hin3, hb3⟩
    have hsl3 := (HSL.out.below hb3).mono hb3.size
    have hbw3 := hbw.trans (hb3.mono hbw.size)
    clear hc0 HSL hb3 hbw
    go_wp2_with fail
    refine (clone_any a3 len0 len0 zs _ (by omega) hin3).mono ?_
    rintro e w4 ⟨a4, rfl, hin4, hb4⟩
    have hsl4 := (hsl3.below hb4).mono hb4.size
    have hin34 := hin3.below hb4
    have hbw4 := hbw3.trans (hb4.mono hbw3.size)
    clear hsl3 hin3 hb4 hbw3
    go_wp2_with fail
    refine (zzorder a3 len0 zs sa len1 sc ss _ (by omega) (by omega) hin34 hsl4).mono ?_
    rintro e w5 ⟨ag, cap5, rfl, hg5, hb5⟩
    have HSL5 := toHid ((hsl4.below hb5).mono hb5.size)
    have HW5 := toHid ((hin4.2.below hb5).mono hb5.size)
    have hbw5 := hbw4.trans (hb5.mono hbw4.size)
    obtain ⟨C, hC⟩ : ∃ C, (ord ss).length = C := ⟨_, rfl⟩
    rw [hC] at hg5 ⊢
    have HC := toHid hC
    have HCC : Hid (C = cnt ss len1) := by show C = _; rw [← hC, ord_len, hsl4.1]
    have hCle : C ≤ len1 := by rw [HCC.out]; exact cnt_le ss len1
    have HG5 := toHid hg5
    clear hsl4 hin4 hin34 hb5 hbw4 hg5 hC
    have HBW5 := toHid hbw5
    clear hbw5
    go_wp2
    go_loopw [8, 9] (fun vc vi wr => wr = w5 ∧ ∃ k : Nat, k ≤ len1 ∧ vi = .int .i64 (k : Int) ∧ vc = .int .i64 ((cnt ss k : Nat) : Int)) (fun _ vi _ => len1 - (intOf vi).toNat)
    case atStart => exact ⟨rfl, 0, Nat.zero_le _, rfl, rfl⟩
    case round =>
      obtain ⟨rfl, k, hk, rfl, rfl⟩ := hrel
      by_cases hlt : k < len1
      · obtain ⟨sb, off, rfl, hsb, hcell⟩ := HSL5.out.cellAt hlt
        obtain ⟨cc, hcc⟩ : ∃ cc, cc = ss.getD k 0 := ⟨_, rfl⟩
        rw [← hcc] at hcell
        have HN := toHid (cnt_succ ss k)
        rw [← hcc] at HN
        have hle := cnt_le ss k
        obtain ⟨cn, hcn⟩ : ∃ cn, cn = cnt ss k := ⟨_, rfl⟩
        rw [← hcn] at hle HN ⊢
        obtain ⟨r, hr⟩ : ∃ r, r = rk cc := ⟨_, rfl⟩
        have C10 := toHid (fun w => rank_any cc w)
        rw [← hr] at C10 HN
        clear hcc hcn hr
        by_cases hr0 : 0 ≤ r
        · go_wp2_with (go_at_call 10; refine (C10.out _).mono ?_; rintro e w' ⟨rfl, hw'⟩; subst w')
          go_roundw
          case rel => exact ⟨trivial, k + 1, by omega, by go_num, by rw [HN.out, if_pos hr0]; go_num⟩
          case measure => simp [intOf]; omega
        · go_wp2_with (go_at_call 10; refine (C10.out _).mono ?_; rintro e w' ⟨rfl, hw'⟩; subst w')
          go_roundw
          case rel => exact ⟨trivial, k + 1, by omega, by go_num, by rw [HN.out, if_neg (by omega)]; go_num⟩
          case measure => simp [intOf]; omega
      · have hkn : k = len1 := by omega
        subst k
        rw [← HCC.out]
        go_wp2
        go_loopw [10] (fun vi wr => ∃ k : Nat, k ≤ len0 ∧ vi = .int .i64 (k : Int) ∧ Rd .u8 wr wr.heap.size sa len1 ss ∧ Rd .i64 wr wr.heap.size a4 len0 zs ∧ Rd .i64 wr wr.heap.size ag (len0 + C) (zs ++ ni (ord ss)) ∧ Below w.heap.size w wr) (fun vi _ => len0 - (intOf vi).toNat)
        case atStart => exact ⟨0, Nat.zero_le _, rfl, HSL5.out, HW5.out, HG5.out, HBW5.out⟩
        case round =>
          clear HSL5 HW5 HG5 HBW5
          obtain ⟨k, hk, rfl, hsl, hw, hg, hbel⟩ := hrel
          have HSL := toHid hsl
          have HW := toHid hw
          have HG := toHid hg
          have HB := toHid hbel
          have HZL := toHid hw.1
          by_cases hlt : k < len0
          · obtain ⟨wb, woff, rfl, _, hcw⟩ := hw.cellAt hlt
            obtain ⟨gb, goff, rfl, _, hcg⟩ := hg.cellAt (j := k) (by omega)
            rw [getD_left (by have := HZL.out; omega)] at hcg
            obtain ⟨c, hcdef⟩ : ∃ c, c = zs.getD k 0 := ⟨_, rfl⟩
            rw [← hcdef] at hcw hcg
            have i1 : (k : Int) < (len0 : Int) := by omega
            have i2 : (k : Int) < ((len0 + C : Nat) : Int) := by omega
            clear hcdef hsl hw hg hbel
            go_wp2
            go_quiet (fail)
            go_wp2
            go_roundw
            case rel => exact ⟨k + 1, by omega, by go_num, HSL.out.drewN _, HW.out.drewN _, HG.out.drewN _, below_drewN HB.out _⟩
            case measure => simp [intOf]; omega
          · clear hsl hw hg hbel HW
            go_wp2
            go_loopw [11, 12, 13, 14, 15, 16] (fun pr pk vj _ _ _ wr => ∃ (t : Nat) (prI pkI : Int), t ≤ C ∧ vj = .int .i64 ((len0 + t : Nat) : Int) ∧ pr = .int .i64 prI ∧ pk = .int .i64 pkI ∧ Rd .u8 wr wr.heap.size sa len1 ss ∧ Rd .i64 wr wr.heap.size ag (len0 + C) (zs ++ ni (ord ss)) ∧ Below w.heap.size w wr ∧ PrevOk ss t prI pkI) (fun _ _ vj _ _ _ _ => len0 + C - (intOf vj).toNat)
            case atStart => exact ⟨0, -1, 0, Nat.zero_le _, rfl, rfl, rfl, HSL.out, HG.out, HB.out, .inl rfl⟩
            case round =>
              clear HSL HG HB
              obtain ⟨t, prI, pkI, ht, rfl, rfl, rfl, hsl, hg, hbel, hprev⟩ := hrel
              have HSL := toHid hsl
              have HG := toHid hg
              have HB := toHid hbel
              by_cases hlt : t < C
              · obtain ⟨p, hp⟩ : ∃ p, p = (ord ss).getD t 0 := ⟨_, rfl⟩
                have hat := ord_at ss t (by rw [HC.out]; exact hlt)
                have hss := hsl.1
                rw [← hp, hss] at hat
                obtain ⟨gb, goff, rfl, _, hcg⟩ := hg.cellAt (j := len0 + t) (by omega)
                have eg : (zs ++ ni (ord ss)).getD (len0 + t) 0 = (p : Int) := by rw [← HZL.out, getD_right, ni_getD, ← hp]
                rw [eg] at hcg
                obtain ⟨sb, off, rfl, _, hcs⟩ := hsl.cellAt (j := p) hat.1
                obtain ⟨cc, hcc⟩ : ∃ cc, cc = ss.getD p 0 := ⟨_, rfl⟩
                rw [← hcc] at hcs hat
                obtain ⟨r, hr⟩ : ∃ r, r = rk cc := ⟨_, rfl⟩
                obtain ⟨kk, hkk⟩ : ∃ kk, kk = ky r (p : Int) := ⟨_, rfl⟩
                have hrb : 0 ≤ r ∧ r ≤ 3 := by rw [hr]; exact ⟨hat.2, rk_le cc⟩
                have C10 : Hid (∀ w, Calls Try.prog 10 #[.int .u8 cc] w fun e w' => e = .returned (.int .i64 r) ∧ w' = w) := fun w => by rw [hr]; exact rank_any cc w
                have C11 : Hid (∀ w, Calls Try.prog 11 #[.int .i64 r, .int .i64 (p : Int)] w fun e w' => e = .returned (.int .i64 kk) ∧ w' = w) := fun w => by rw [hkk]; exact key_any r (p : Int) w (by omega) (by omega)
                have hnext : PrevOk ss (t + 1) r kk := .inr ⟨by omega, by rw [Nat.add_sub_cancel, ← hp, ← hcc, hr], by rw [Nat.add_sub_cancel, ← hp]; exact hkk⟩
                have hcmp : t = 0 ∨ prI < r ∨ (prI = r ∧ pkI < kk) := by
                  rcases hprev with h | ⟨h0, h1, h2⟩
                  · exact .inl h
                  · right
                    have hn := ord_next ss (t - 1) (by rw [HC.out]; omega)
                    have e1 : t - 1 + 1 = t := by omega
                    rw [e1, ← hp] at hn
                    unfold lt2 at hn
                    rw [← hcc, ← hr, ← h1, ← hkk, ← h2] at hn
                    exact hn
                have HNX := toHid hnext
                have HCMP := toHid hcmp
                have hp1 : (p : Int) < (len1 : Int) := by omega
                have i1 : ((len0 + t : Nat) : Int) < ((len0 + C : Nat) : Int) := by omega
                have hr0 := hrb.1
                clear hp eg hcc hr hkk hnext hcmp hprev hsl hg hbel hss hrb
                have hat1 := hat.1
                clear hat
                by_cases ht0 : t = 0
                · have hngt : ¬ (len0 : Int) < ((len0 + t : Nat) : Int) := by omega
                  have HT0 := toHid ht0
                  clear ht0
                  go_wp2_with (first | (go_at_call 10; refine (C10.out _).mono ?_; rintro e w' ⟨rfl, hw'⟩; subst w') | (go_at_call 11; refine (C11.out _).mono ?_; rintro e w' ⟨rfl, hw'⟩; subst w'))
                  go_roundw
                  case rel => exact ⟨t + 1, r, kk, by omega, by go_num, rfl, rfl, HSL.out, HG.out, HB.out, HNX.out⟩
                  case measure => simp [intOf]; omega
                · have hgt : (len0 : Int) < ((len0 + t : Nat) : Int) := by omega
                  have hnlt : ¬ r < prI := by rcases HCMP.out with h | h | h <;> omega
                  cases hreq : (r == prI)
                  · go_wp2_with (first | (go_at_call 10; refine (C10.out _).mono ?_; rintro e w' ⟨rfl, hw'⟩; subst w') | (go_at_call 11; refine (C11.out _).mono ?_; rintro e w' ⟨rfl, hw'⟩; subst w'))
                    go_roundw
                    case rel => exact ⟨t + 1, r, kk, by omega, by go_num, rfl, rfl, HSL.out, HG.out, HB.out, HNX.out⟩
                    case measure => simp [intOf]; omega
                  · have hkgt : ¬ kk ≤ pkI := by
                      have : r = prI := by simpa using hreq
                      rcases HCMP.out with h | h | h <;> omega
                    go_wp2_with (first | (go_at_call 10; refine (C10.out _).mono ?_; rintro e w' ⟨rfl, hw'⟩; subst w') | (go_at_call 11; refine (C11.out _).mono ?_; rintro e w' ⟨rfl, hw'⟩; subst w'))
                    go_roundw
                    case rel => exact ⟨t + 1, r, kk, by omega, by go_num, rfl, rfl, HSL.out, HG.out, HB.out, HNX.out⟩
                    case measure => simp [intOf]; omega
              · clear hsl hg hprev
                go_wp2
                go_ret
                exact ⟨rfl, HB.out⟩

set_option maxRecDepth 100000 in
theorem main_any (a0 : Option Addr) (len0 cap0 : Nat) (zs : List Int) (a1 : Option Addr) (len1 cap1 : Nat) (ss : List Int) (w : World) (hin0 : ComesIn .i64 w a0 len0 cap0 zs) (hin1 : ComesIn .u8 w a1 len1 cap1 ss) :
    Calls Try.prog 3 #[.slice a0 len0 cap0, .slice a1 len1 cap1] w fun e w' => e = .returned (.bool true) ∧ Below w.heap.size w w' := by
  by_cases h0 : len0 ≤ 65536
  · by_cases h1 : len1 ≤ 65536
    · exact main_go a0 len0 cap0 zs a1 len1 cap1 ss w h0 h1 hin0 hin1
    · by_cases h : len0 + len1 ≤ 1048576
      · go_enter Try.func3, Try.ntmps3
        go_wp2_with (go_at_call 7; refine (bytes7 _ _ _ _ _ _ _ h).mono ?_; rintro x w' ⟨rfl, rfl⟩)
        go_ret
        exact ⟨rfl, Below.refl _ _⟩
      · go_enter Try.func3, Try.ntmps3
        go_wp2_with (go_at_call 7; refine (bytes7_no _ _ _ _ _ _ _ (by omega)).mono ?_; rintro x w' ⟨rfl, rfl⟩)
        go_ret
        exact ⟨rfl, Below.refl _ _⟩
  · by_cases h : len0 + len1 ≤ 1048576
    · go_enter Try.func3, Try.ntmps3
      go_wp2_with (go_at_call 7; refine (bytes7 _ _ _ _ _ _ _ h).mono ?_; rintro x w' ⟨rfl, rfl⟩)
      go_ret
      exact ⟨rfl, Below.refl _ _⟩
    · go_enter Try.func3, Try.ntmps3
      go_wp2_with (go_at_call 7; refine (bytes7_no _ _ _ _ _ _ _ (by omega)).mono ?_; rintro x w' ⟨rfl, rfl⟩)
      go_ret
      exact ⟨rfl, Below.refl _ _⟩
end Go.Proofs.Qxb6003656a
