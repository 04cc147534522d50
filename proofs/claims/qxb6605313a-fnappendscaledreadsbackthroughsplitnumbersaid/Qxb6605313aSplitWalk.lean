/-
  THE WALK OF 'splitNumber' (function 23).
-/
import Derived.Test.Qxb6605313aSplitParts
import Derived.Deep.DeepCutAuto
import Derived.Deep.CutBlock
import Derived.Laws.RangeString
namespace Go.Proofs.Qxb6605313a
open Go.RowKit
set_option linter.unusedVariables false
set_option linter.unusedSimpArgs false

set_option maxHeartbeats 4000000 in
set_option maxRecDepth 100000 in
theorem split_any (s : ByteArray) (w : World) (hs : s.size ≤ 1048576) :
    Calls Try.prog 23 #[.string s] w fun e w' => NumRet (sAll ((s.size : Int) + 1048576) s.data.toList) e ∧ Below w.heap.size w w' := by
  obtain ⟨bd, hbd⟩ : ∃ bd, bd = (s.size : Int) + 1048576 := ⟨_, rfl⟩
  rw [← hbd]
  have HBD := hidden hbd
  have hbd0 : 0 ≤ bd := by omega
  have hbd1 : bd ≤ 2097152 := by omega
  obtain ⟨R, hR⟩ : ∃ R, sAll bd s.data.toList = R := ⟨_, rfl⟩
  rw [hR]
  have HR := hidden hR
  clear hR hbd
  go_enter Try.func23, Try.ntmps23
  go_upto_region 2 with fail
  go_cut [23] (fun t wx => w = wx ∧ t = .bool (hdIs (· == 45) (s.data.toList.drop 0)))
  case first => as_aux_lemma =>
    by_cases h0 : 0 < s.size
    · have e := hidden (hd_in (· == 45) s 0 h0)
      have HEB : Hid (((s[0].toNat : Int) == 45) = (s[0] == 45)) := u8_beq s[0] 45
      go_wp2
      go_meet
      case rel => exact ⟨rfl, by rw [e.out, ← HEB.out]⟩
    · have e := hidden (hd_out (· == 45) s 0 (by omega))
      go_wp2
      go_meet
      case rel => exact ⟨rfl, by rw [e.out]⟩
  case rest =>
    obtain ⟨rfl, rfl⟩ := hcut
    go_upto_if 23 with fail
    go_cut [2, 6] (fun n i wx => w = wx ∧ ∃ (neg : Bool) (p : Nat), n = .bool neg ∧ i = .int .i64 (p : Int) ∧ p ≤ s.size ∧ sInt bd neg (s.data.toList.drop p) = R)
    case first => as_aux_lemma =>
      cases hx : hdIs (· == 45) (s.data.toList.drop 0)
      · have K := hidden (sign_no HR.out hx)
        go_wp2
        go_meet
        case rel => exact ⟨rfl, false, 0, rfl, rfl, Nat.zero_le _, K.out⟩
      · have K := hidden (sign_yes HR.out hx)
        go_wp2
        go_meet
        case rel => exact ⟨rfl, true, 1, rfl, rfl, by have := K.out.2; rw [size_of_toList] at this; exact this, K.out.1⟩
    case rest =>
      obtain ⟨rfl, neg, p, rfl, rfl, hp, hint⟩ := hcut
      have HI := hidden hint
      clear hint HR
      go_upto_block 0 with fail
      go_cut [2, 4, 6] (fun n x i wx => w = wx ∧ n = .bool neg ∧ x = .int .i64 0 ∧ ∃ q : Nat, i = .int .i64 (q : Int) ∧ p ≤ q ∧ q ≤ s.size ∧ sFrac bd neg ((s.data.toList.drop p).take (q - p)) (s.data.toList.drop q) = R)
      case first => as_aux_lemma =>
        by_cases h0 : p < s.size
        · have HD := hidden (drop_at s p h0)
          cases h48 : ((s[p].toNat : Int) == 48)
          · by_cases h1 : (49 : Int) ≤ (s[p].toNat : Int)
            · by_cases h2 : (s[p].toNat : Int) ≤ 57
              · have hn48 := hidden h48
                have hle : p + (dW (s.data.toList.drop p)).length ≤ s.size := skip_le s p hp
                have K := hidden (int_digits HI.out HD.out hn48.out h1 h2)
                go_wp2_with (go_at_call 29; refine (skip_any s p _ hs hp).mono ?_; rintro e w' ⟨rfl, hw'⟩; subst w')
                go_meet
                case rel => exact ⟨rfl, rfl, rfl, _, rfl, by omega, hle, K.out⟩
              · have K := hidden (int_hi HI.out HD.out h48 h2)
                go_wp2
                refine bodyPost_ret (results_tmp4 rfl _ _ _) rfl ?_
                exact ⟨by rw [K.out]; rfl, Below.refl _ _⟩
            · have K := hidden (int_lo HI.out HD.out h48 h1)
              go_wp2
              refine bodyPost_ret (results_tmp4 rfl _ _ _) rfl ?_
              exact ⟨by rw [K.out]; rfl, Below.refl _ _⟩
          · have K := hidden (int_zero HI.out HD.out h48)
            go_wp2
            go_meet
            case rel => exact ⟨rfl, rfl, rfl, p + 1, by go_num, by omega, by omega, K.out⟩
        · have K := hidden (int_none HI.out (drop_end s p (by omega)))
          go_wp2
          refine bodyPost_ret (results_tmp4 rfl _ _ _) rfl ?_
          exact ⟨by rw [K.out]; rfl, Below.refl _ _⟩
      case rest =>
        obtain ⟨rfl, rfl, rfl, q, rfl, hpq, hq, hfr⟩ := hcut
        have HF := hidden hfr
        clear hfr HI
        obtain ⟨y, hy⟩ : ∃ y, s.extract p q = y := ⟨_, rfl⟩
        have HY : Hid (y.data.toList = (s.data.toList.drop p).take (q - p)) := by show y.data.toList = _; rw [← hy, Lib.extract_data]
        have hysz : y.size ≤ 1048576 := by rw [← hy, ByteArray.size_extract]; omega
        go_upto_region 13 with fail
        go_cut [73] (fun t wx => w = wx ∧ t = .bool (hdIs (· == 46) (s.data.toList.drop q)))
        case first => as_aux_lemma =>
          by_cases h0 : q < s.size
          · have e := hidden (hd_in (· == 46) s q h0)
            have HEB : Hid (((s[q].toNat : Int) == 46) = (s[q] == 46)) := u8_beq s[q] 46
            go_wp2
            go_meet
            case rel => exact ⟨rfl, by rw [e.out, ← HEB.out]⟩
          · have e := hidden (hd_out (· == 46) s q (by omega))
            go_wp2
            go_meet
            case rel => exact ⟨rfl, by rw [e.out]⟩
        case rest =>
          obtain ⟨rfl, rfl⟩ := hcut
          go_upto_if 73 with fail
          go_cut [2, 4, 6, 7, 9] (fun n x i st f wx => w = wx ∧ n = .bool neg ∧ x = .int .i64 0 ∧ ∃ (q2 : Nat) (f0 : ByteArray), i = .int .i64 (q2 : Int) ∧ f = .string f0 ∧ q2 ≤ s.size ∧ f0.size ≤ 1048576 ∧ sExp bd neg y.data.toList f0.data.toList (s.data.toList.drop q2) = R)
          case first => as_aux_lemma =>
            rw [← HY.out] at HF
            cases hx : hdIs (· == 46) (s.data.toList.drop q)
            · have K := hidden (frac_no HF.out hx)
              go_wp2
              go_meet
              case rel => exact ⟨rfl, rfl, rfl, q, ⟨#[]⟩, rfl, rfl, hq, by decide, K.out⟩
            · have K := hidden (frac_yes HF.out hx)
              obtain ⟨n, hn⟩ : ∃ n, n = (dW (s.data.toList.drop (q + 1))).length := ⟨_, rfl⟩
              have hq1 : q + 1 ≤ s.size := by have := K.out.1; rw [size_of_toList] at this; exact this
              have hle : q + 1 + n ≤ s.size := by rw [hn]; exact skip_le s (q + 1) hq1
              have HN := hidden hn
              have C29 := hidden (fun w => skip_at s ((q : Int) + 1) (q + 1) n w hs hq1 (by omega) hn)
              clear hn hx
              by_cases hn0 : n = 0
              · have ht : (((q : Int) + 1 + (n : Int)) == ((q : Int) + 1)) = true := beq_iff_eq.2 (by omega)
                have K2 := hidden (K.out.2.1 (len_zero HN.out hn0))
                have HN0 := hidden hn0
                clear hn0
                go_wp2_with (go_at_call 29; refine (C29.out _).mono ?_; rintro e w' ⟨rfl, hw'⟩; subst w')
                refine bodyPost_ret (results_tmp4 rfl _ _ _) rfl ?_
                exact ⟨by rw [K2.out]; rfl, Below.refl _ _⟩
              · have ht : (((q : Int) + 1 + (n : Int)) == ((q : Int) + 1)) = false := beq_eq_false_iff_ne.2 (by omega)
                have K2 := hidden (K.out.2.2 (len_pos HN.out hn0))
                obtain ⟨f, hf⟩ : ∃ f, s.extract (q + 1) (q + 1 + n) = f := ⟨_, rfl⟩
                have HFR : Hid (f.data.toList = (s.data.toList.drop (q + 1)).take (q + 1 + n - (q + 1))) := by show f.data.toList = _; rw [← hf, Lib.extract_data]
                have hfsz : f.size ≤ 1048576 := by rw [← hf, ByteArray.size_extract]; omega
                clear hn0
                go_wp2_with (go_at_call 29; refine (C29.out _).mono ?_; rintro e w' ⟨rfl, hw'⟩; subst w')
                go_meet
                case rel =>
                  refine ⟨rfl, rfl, rfl, q + 1 + n, f, by go_num, congrArg Value.string hf, hle, hfsz, ?_⟩
                  have := K2.out
                  rw [← HN.out, ← HFR.out] at this
                  exact this
          case rest =>
            obtain ⟨rfl, rfl, rfl, q2, f0, rfl, rfl, hq2, hf0, hex⟩ := hcut
            have HX := hidden hex
            clear hex HF hy hpq hq hp
            go_upto_region 19 with fail
            go_cut [101] (fun t wx => w = wx ∧ t = .bool (hdIs (fun c => c == 101 || c == 69) (s.data.toList.drop q2)))
            case first => as_aux_lemma =>
              by_cases h0 : q2 < s.size
              · have e := hidden (hd_in (fun c => c == 101 || c == 69) s (q2) h0)
                have HEA : Hid (((s[q2].toNat : Int) == 101) = (s[q2] == 101)) := u8_beq s[q2] 101
                have HEB : Hid (((s[q2].toNat : Int) == 69) = (s[q2] == 69)) := u8_beq s[q2] 69
                cases h1 : ((s[q2].toNat : Int) == 101)
                · go_wp2
                  go_meet
                  case rel => exact ⟨rfl, by rw [e.out, ← HEA.out, ← HEB.out, h1]; rfl⟩
                · go_wp2
                  go_meet
                  case rel => exact ⟨rfl, by rw [e.out, ← HEA.out, h1]; rfl⟩
              · have e := hidden (hd_out (fun c => c == 101 || c == 69) s (q2) (by omega))
                go_wp2
                go_meet
                case rel => exact ⟨rfl, by rw [e.out]⟩
            case rest =>
              obtain ⟨rfl, rfl⟩ := hcut
              go_upto_if 101 with fail
              go_cut [2, 4, 6, 7, 10, 11, 13] (fun n x i st en b d wx => Below w.heap.size w wx ∧ n = .bool neg ∧ ∃ (q4 : Nat) (e : Int), i = .int .i64 (q4 : Int) ∧ x = .int .i64 e ∧ q4 ≤ s.size ∧ -2097152 ≤ e ∧ e ≤ 2097152 ∧ sEnd neg y.data.toList f0.data.toList e (s.data.toList.drop q4) = R)
              case first => as_aux_lemma =>
                cases hx : hdIs (fun c => c == 101 || c == 69) (s.data.toList.drop q2)
                · have K := hidden (exp_no HX.out hx)
                  go_wp2
                  go_meet
                  case rel => exact ⟨Below.refl _ _, rfl, q2, 0, rfl, rfl, hq2, by omega, by omega, K.out⟩
                · have K := hidden (exp_yes HX.out hx)
                  have hq3 : q2 + 1 ≤ s.size := by have := K.out.1; rw [size_of_toList] at this; exact this
                  clear hx HX
                  go_upto_region 22 with fail
                  go_cut [119] (fun t wx => w = wx ∧ t = .bool (hdIs (fun c => c == 43 || c == 45) (s.data.toList.drop (q2 + 1))))
                  case first => as_aux_lemma =>
                    by_cases h0 : q2 + 1 < s.size
                    · have e := hidden (hd_in (fun c => c == 43 || c == 45) s (q2 + 1) h0)
                      have HEA : Hid (((s[q2 + 1].toNat : Int) == 43) = (s[q2 + 1] == 43)) := u8_beq s[q2 + 1] 43
                      have HEB : Hid (((s[q2 + 1].toNat : Int) == 45) = (s[q2 + 1] == 45)) := u8_beq s[q2 + 1] 45
                      cases h1 : ((s[q2 + 1].toNat : Int) == 43)
                      · go_wp2
                        go_meet
                        case rel => exact ⟨rfl, by rw [e.out, ← HEA.out, ← HEB.out, h1]; rfl⟩
                      · go_wp2
                        go_meet
                        case rel => exact ⟨rfl, by rw [e.out, ← HEA.out, h1]; rfl⟩
                    · have e := hidden (hd_out (fun c => c == 43 || c == 45) s (q2 + 1) (by omega))
                      go_wp2
                      go_meet
                      case rel => exact ⟨rfl, by rw [e.out]⟩
                  case rest =>
                    obtain ⟨rfl, rfl⟩ := hcut
                    go_upto_if 119 with fail
                    go_cut [6, 10] (fun i x wx => w = wx ∧ ∃ (q3 : Nat) (en : Bool), i = .int .i64 (q3 : Int) ∧ x = .bool en ∧ q3 ≤ s.size ∧ sExp3 bd neg y.data.toList f0.data.toList en (s.data.toList.drop q3) = R)
                    case first => as_aux_lemma =>
                      cases hx : hdIs (fun c => c == 43 || c == 45) (s.data.toList.drop (q2 + 1))
                      · have K2 := hidden (exsign_no K.out.2 hx)
                        go_wp2
                        go_meet
                        case rel => exact ⟨rfl, q2 + 1, false, by go_num, rfl, hq3, K2.out⟩
                      · have K2 := hidden (exsign_yes K.out.2 hx)
                        have h0 : q2 + 1 < s.size := by have := K2.out.1; rw [size_of_toList] at this; omega
                        have e := hidden (hd_in (· == 45) s (q2 + 1) h0)
                        have HEB : Hid (((s[q2 + 1].toNat : Int) == 45) = (s[q2 + 1] == 45)) := u8_beq s[q2 + 1] 45
                        go_wp2
                        go_meet
                        case rel => exact ⟨rfl, q2 + 1 + 1, _, by go_num, by rw [e.out, HEB.out], by omega, K2.out.2⟩
                    case rest =>
                      obtain ⟨rfl, q3, en, rfl, rfl, hq3', hx3⟩ := hcut
                      have HX3 := hidden hx3
                      clear hx3 K hq3
                      as_aux_lemma =>
                        obtain ⟨n, hn⟩ : ∃ n, n = (dW (s.data.toList.drop q3)).length := ⟨_, rfl⟩
                        have hle : q3 + n ≤ s.size := by rw [hn]; exact skip_le s q3 hq3'
                        have HN := hidden hn
                        have C29 := hidden (fun w => skip_at s (q3 : Int) q3 n w hs hq3' rfl hn)
                        clear hn
                        by_cases hn0 : n = 0
                        · have ht : (((q3 : Int) + (n : Int)) == (q3 : Int)) = true := beq_iff_eq.2 (by omega)
                          have K2 := hidden (exp3_none HX3.out (len_zero HN.out hn0))
                          clear hn0
                          go_wp2_with (go_at_call 29; refine (C29.out _).mono ?_; rintro e w' ⟨rfl, hw'⟩; subst w')
                          refine bodyPost_ret (results_tmp4 rfl _ _ _) rfl ?_
                          exact ⟨by rw [K2.out]; rfl, Below.refl _ _⟩
                        · have ht : (((q3 : Int) + (n : Int)) == (q3 : Int)) = false := beq_eq_false_iff_ne.2 (by omega)
                          have K2 := hidden (exp3_some HX3.out (len_pos HN.out hn0))
                          obtain ⟨x, hx⟩ : ∃ x, s.extract q3 (q3 + n) = x := ⟨_, rfl⟩
                          have HXL : Hid (x.data.toList = dW (s.data.toList.drop q3)) := by
                            show x.data.toList = _
                            rw [← hx, Lib.extract_data, HN.out]; exact (skip_cut s.data.toList q3).1
                          have hxd : Hid (∀ c ∈ x.data.toList, isD c = true) := by intro c hc; rw [HXL.out] at hc; exact dW_all _ c hc
                          have hxs : x.size ≤ 1048576 := by rw [← hx, ByteArray.size_extract]; omega
                          have hbd := HBD.out.symm
                          have hbdN : (s.size : Int) + 1048576 ≤ 2097152 := by omega
                          clear hn0 HX3
                          go_wp2_with (go_at_call 29; refine (C29.out _).mono ?_; rintro e w' ⟨rfl, hw'⟩; subst w')
                          go_loopw [4, 13] (fun e d wr => ∃ (k : Nat) (v : Int), k ≤ x.size ∧ wr = w.iter x k ∧ e = .int .i64 v ∧ 0 ≤ v ∧ v ≤ bd ∧ (x.data.toList.drop k).foldl (fun e c => min (e * 10 + ((c.toNat : Int) - 48)) bd) v = satF bd x.data.toList) (fun _ _ wr => x.size - itPos wr w.heap.size)
                          case atStart => exact ⟨0, 0, Nat.zero_le _, rfl, rfl, by omega, by omega, rfl⟩
                          case round =>
                            obtain ⟨k, v, hk, rfl, rfl, hv0, hv1, hfold⟩ := hrel
                            have HFO := hidden hfold
                            clear hfold
                            by_cases hlt : k < x.size
                            · have hdig := digit_nonneg (hxd.out x[k] (mem_at x k hlt))
                              have hd0 : 48 ≤ (x[k].toNat : Int) := by omega
                              have hd9 : (x[k].toNat : Int) ≤ 57 := by omega
                              have hnx := fun ty => run_next_ascii (P := Try.prog) w x k ty hlt (by omega)
                              have HD := hidden (drop_at x k hlt)
                              clear hdig
                              go_wp2
                              go_roundw
                              case rel =>
                                have hmin : (if bd < v * 10 + ((x[k].toNat : Int) - 48) then bd else v * 10 + ((x[k].toNat : Int) - 48)) = min (v * 10 + ((x[k].toNat : Int) - 48)) bd := by split <;> omega
                                refine ⟨k + 1, _, by omega, rfl, rfl, by split <;> omega, by split <;> omega, ?_⟩
                                have := HFO.out
                                rw [HD.out, List.foldl_cons] at this
                                rw [hmin]; exact this
                              case measure => rw [itPos_iter, itPos_iter]; omega
                            · have hnx := fun ty => run_next_end (P := Try.prog) w x k ty hlt
                              have HV : Hid (v = satF bd x.data.toList) := by
                                have := HFO.out
                                rw [drop_end x k (by omega)] at this
                                exact this
                              have hb6 : Below w.heap.size w (w.iter x k) := (Below.refl _ _).alloc (Nat.le_refl _) _
                              have K3 : Hid (sEnd neg y.data.toList f0.data.toList (sgnE en v) (s.data.toList.drop (q3 + n)) = R) := by
                                show sEnd _ _ _ _ _ = R
                                have := K2.out
                                rw [← HXL.out, ← HV.out] at this
                                rw [HN.out, (skip_cut s.data.toList q3).2]; exact this
                              cases en
                              · go_wp2
                                go_meet
                                case rel => exact ⟨hb6, rfl, q3 + n, v, by go_num, rfl, hle, by omega, by omega, K3.out⟩
                              · go_wp2
                                go_meet
                                case rel => exact ⟨hb6, rfl, q3 + n, -v, by go_num, rfl, hle, by omega, by omega, K3.out⟩
              case rest =>
                obtain ⟨hbel, rfl, q4, e4, rfl, rfl, hq4, he40, he41, hend⟩ := hcut
                have HE := hidden hend
                clear hend HX hq2
                by_cases hqe : q4 = s.size
                · have hne : ((q4 : Int) != (s.size : Int)) = false := by simp; omega
                  have HK := hidden (sEnd_yes HE.out (drop_end s q4 (by omega)))
                  clear hqe HE
                  go_wp2
                  go_loop [3] (fun c => ∃ z : ByteArray, c = .string z ∧ z.size ≤ 2097152 ∧ lz z.data.toList = lz (y.data.toList ++ f0.data.toList)) (fun c => szOf2 c)
                  case atStart => exact ⟨_, rfl, by rw [ByteArray.size_append]; omega, by rw [cat_toList]⟩
                  case round =>
                    obtain ⟨z, rfl, hzs, hlz⟩ := hrel
                    have HLZ := hidden hlz
                    clear hlz
                    by_cases hz : ∃ h : 0 < z.size, z[0] = 48
                    · obtain ⟨h0, h48⟩ := hz
                      have hb48 : ((z[0].toNat : Int) == 48) = true := by rw [h48]; rfl
                      have HD := hidden (drop_at z 0 h0)
                      have H48 := hidden h48
                      clear h48
                      go_wp2
                      go_round
                      case rel =>
                        refine ⟨_, rfl, by rw [ByteArray.size_extract]; omega, ?_⟩
                        have h1 := HLZ.out
                        have h2 := HD.out
                        rw [List.drop_zero] at h2
                        rw [h2, H48.out, lz_yes] at h1
                        rw [extract_end]; exact h1
                      case measure => simp only [szOf2, ByteArray.size_extract]; omega
                    · have HZ : Hid (z.data.toList = lz (y.data.toList ++ f0.data.toList)) := by
                        have h1 := HLZ.out
                        show z.data.toList = _
                        rw [← h1]
                        by_cases h0 : 0 < z.size
                        · have h2 := drop_at z 0 h0
                          rw [List.drop_zero] at h2
                          rw [h2]
                          exact (lz_no (fun e => hz ⟨h0, e⟩)).symm
                        · have : z.data.toList = [] := List.eq_nil_of_length_eq_zero (by rw [size_of_toList]; omega)
                          rw [this]; rfl
                      by_cases h0 : 0 < z.size
                      · have hb48 : ((z[0].toNat : Int) == 48) = false := by
                          rw [beq_eq_false_iff_ne]
                          intro e
                          exact hz ⟨h0, UInt8.toNat_inj.1 (by show z[0].toNat = 48; omega)⟩
                        clear hz
                        go_wp2
                        as_aux_lemma =>
                          go_loop [3, 4] (fun c e => ∃ (x : ByteArray) (v : Int), c = .string x ∧ e = .int .i64 v ∧ x.size ≤ z.size ∧ v = e4 - (f0.size : Int) + ((z.size : Int) - (x.size : Int)) ∧ rz x.data.toList = rz z.data.toList) (fun c _ => szOf2 c)
                          case atStart => exact ⟨z, _, rfl, rfl, Nat.le_refl _, by omega, rfl⟩
                          case round =>
                            obtain ⟨x, v, rfl, rfl, hxs, hv, hrz⟩ := hrel
                            have HRZ := hidden hrz
                            have HV := hidden hv
                            have hvb : -4194304 ≤ v ∧ v ≤ 8388608 := by omega
                            clear hrz hv
                            by_cases hz2 : ∃ h : x.size - 1 < x.size, x[x.size - 1] = 48
                            · obtain ⟨hlt, h48⟩ := hz2
                              have hb48 : ((x[x.size - 1].toNat : Int) == 48) = true := by rw [h48]; rfl
                              have hx0 : 0 < x.size := by omega
                              have HL := hidden (last_split x hx0)
                              have H48 := hidden h48
                              clear h48
                              go_wp2
                              go_round
                              case rel =>
                                refine ⟨_, _, rfl, rfl, ?_, ?_, ?_⟩
                                · rw [ByteArray.size_extract]; omega
                                · rw [ByteArray.size_extract]; have := HV.out; omega
                                · have := HRZ.out
                                  rw [HL.out, H48.out, rz_zero] at this
                                  exact this
                              case measure => simp only [szOf2, ByteArray.size_extract]; omega
                            · have HE2 : Hid (rz z.data.toList = x.data.toList) := by
                                have := HRZ.out
                                show rz z.data.toList = _
                                rw [← this]
                                by_cases hx0 : 0 < x.size
                                · have hl := last_split x hx0
                                  rw [hl]
                                  exact rz_keep _ (fun e => hz2 ⟨by omega, e⟩)
                                · have : x.data.toList = [] := List.eq_nil_of_length_eq_zero (by rw [size_of_toList]; omega)
                                  rw [this]; rfl
                              have HFIN : Hid (R = some (neg, x.data.toList, v)) := by
                                show R = _
                                have h1 := HK.out
                                unfold fin at h1
                                rw [← HZ.out, HE2.out] at h1
                                have h2 := HV.out
                                rw [← h1, size_of_toList, size_of_toList, size_of_toList, h2]
                              by_cases hx0 : 0 < x.size
                              · have hb48 : ((x[x.size - 1].toNat : Int) == 48) = false := by
                                  rw [beq_eq_false_iff_ne]
                                  intro e
                                  exact hz2 ⟨by omega, UInt8.toNat_inj.1 (by show x[x.size - 1].toNat = 48; omega)⟩
                                clear hz2
                                go_wp2
                                refine bodyPost_ret (results_tmp4 rfl _ _ _) rfl ?_
                                exact ⟨by rw [HFIN.out]; exact ⟨x, rfl, rfl⟩, hbel⟩
                              · clear hz2
                                go_wp2
                                refine bodyPost_ret (results_tmp4 rfl _ _ _) rfl ?_
                                exact ⟨by rw [HFIN.out]; exact ⟨x, rfl, rfl⟩, hbel⟩
                      · clear hz
                        go_wp2
                        as_aux_lemma =>
                          go_loop [3, 4] (fun c e => ∃ (x : ByteArray) (v : Int), c = .string x ∧ e = .int .i64 v ∧ x.size ≤ z.size ∧ v = e4 - (f0.size : Int) + ((z.size : Int) - (x.size : Int)) ∧ rz x.data.toList = rz z.data.toList) (fun c _ => szOf2 c)
                          case atStart => exact ⟨z, _, rfl, rfl, Nat.le_refl _, by omega, rfl⟩
                          case round =>
                            obtain ⟨x, v, rfl, rfl, hxs, hv, hrz⟩ := hrel
                            have HRZ := hidden hrz
                            have HV := hidden hv
                            have hvb : -4194304 ≤ v ∧ v ≤ 8388608 := by omega
                            clear hrz hv
                            by_cases hz2 : ∃ h : x.size - 1 < x.size, x[x.size - 1] = 48
                            · obtain ⟨hlt, h48⟩ := hz2
                              exfalso; omega
                            · have HE2 : Hid (rz z.data.toList = x.data.toList) := by
                                have := HRZ.out
                                show rz z.data.toList = _
                                rw [← this]
                                by_cases hx0 : 0 < x.size
                                · have hl := last_split x hx0
                                  rw [hl]
                                  exact rz_keep _ (fun e => hz2 ⟨by omega, e⟩)
                                · have : x.data.toList = [] := List.eq_nil_of_length_eq_zero (by rw [size_of_toList]; omega)
                                  rw [this]; rfl
                              have HFIN : Hid (R = some (neg, x.data.toList, v)) := by
                                show R = _
                                have h1 := HK.out
                                unfold fin at h1
                                rw [← HZ.out, HE2.out] at h1
                                have h2 := HV.out
                                rw [← h1, size_of_toList, size_of_toList, size_of_toList, h2]
                              by_cases hx0 : 0 < x.size
                              · exfalso; omega
                              · clear hz2
                                go_wp2
                                refine bodyPost_ret (results_tmp4 rfl _ _ _) rfl ?_
                                exact ⟨by rw [HFIN.out]; exact ⟨x, rfl, rfl⟩, hbel⟩
                · have hne : ((q4 : Int) != (s.size : Int)) = true := by rw [bne_iff_ne]; omega
                  have HK := hidden (sEnd_no HE.out (by intro h; have := congrArg List.length h; rw [List.length_drop, size_of_toList] at this; simp at this; omega))
                  clear hqe HE
                  go_wp2
                  refine bodyPost_ret (results_tmp4 rfl _ _ _) rfl ?_
                  exact ⟨by rw [HK.out]; rfl, hbel⟩
end Go.Proofs.Qxb6605313a
