/-
  THE WALK OF 'zzNumberModel' (function 17).
-/
import Derived.Test.Qxb6605313aSplitParts
import Derived.Deep.DeepCutAuto
import Derived.Deep.CutBlock
namespace Go.Proofs.Qxb6605313a
open Go.RowKit
set_option linter.unusedVariables false
set_option linter.unusedSimpArgs false

theorem msign_yes {bd : Int} {L : List UInt8} {R : Option (Bool × List UInt8 × Int)} (h : mAll bd L = R) (hq : hdIs (· == 45) (L.drop 0) = true) : mBody bd true (L.drop 1) = R ∧ 1 ≤ L.length := by
  cases L with
  | nil => simp [hdIs] at hq
  | cons c r => simp [hdIs] at hq; subst hq; simp [mAll] at h; exact ⟨h, by simp⟩
theorem msign_no {bd : Int} {L : List UInt8} {R : Option (Bool × List UInt8 × Int)} (h : mAll bd L = R) (hq : hdIs (· == 45) (L.drop 0) = false) : mBody bd false L = R := by
  cases L with
  | nil => exact h
  | cons c r => simp [hdIs] at hq; simp [mAll, hq] at h; exact h

/-- Cutting at the first byte that p does not let by. -/
theorem ix_cut (p : UInt8 → Bool) (s : ByteArray) (k : Nat) (hk : ix p s.data.toList 0 = (k : Int)) : k < s.size ∧ (s.extract 0 k).data.toList = s.data.toList.takeWhile p ∧ ∃ c, s.data.toList.dropWhile p = c :: (s.extract (k + 1) s.size).data.toList := by
  unfold ix at hk
  split at hk
  · omega
  · have hl : (s.data.toList.takeWhile p).length = k := by omega
    have happ : s.data.toList.takeWhile p ++ s.data.toList.dropWhile p = s.data.toList := List.takeWhile_append_dropWhile
    cases hd : s.data.toList.dropWhile p with
    | nil => rename_i h; exact absurd hd h
    | cons c r =>
      rw [hd] at happ
      have hlen := congrArg List.length happ
      rw [List.length_append, hl, List.length_cons, size_of_toList] at hlen
      refine ⟨by omega, ?_, c, ?_⟩
      · rw [Lib.extract_data, List.drop_zero, Nat.sub_zero]
        conv => lhs; rw [← happ]
        rw [← hl]; exact List.take_left
      · rw [extract_end]
        have : s.data.toList.drop (k + 1) = r := by
          rw [← List.drop_drop]
          have e : s.data.toList.drop k = c :: r := by
            conv => lhs; rw [← happ]
            rw [← hl]; exact List.drop_left
          rw [e]; rfl
        rw [this]
theorem ix_none (p : UInt8 → Bool) (l : List UInt8) (h : ¬ 0 ≤ ix p l 0) : l.dropWhile p = [] ∧ l.takeWhile p = l := by
  have happ : l.takeWhile p ++ l.dropWhile p = l := List.takeWhile_append_dropWhile
  unfold ix at h
  split at h
  · rename_i h'
    refine ⟨h', ?_⟩
    rw [h', List.append_nil] at happ; exact happ
  · exfalso; apply h; omega
theorem ix_range (p : UInt8 → Bool) (s : ByteArray) : -1 ≤ ix p s.data.toList 0 ∧ ix p s.data.toList 0 ≤ (s.size : Int) := by
  unfold ix
  have happ : s.data.toList.takeWhile p ++ s.data.toList.dropWhile p = s.data.toList := List.takeWhile_append_dropWhile
  have hlen := congrArg List.length happ
  rw [List.length_append, size_of_toList] at hlen
  split <;> omega


theorem mfrac_cases {bd : Int} {neg : Bool} {ip fx ex fr : List UInt8} {R : Option (Bool × List UInt8 × Int)} {idt : Int} {aF : Bool} (h : mFrac bd neg ip fx ex = R)
    (hf : (¬ 0 ≤ idt ∧ fx = [] ∧ fr = []) ∨ (0 ≤ idt ∧ ∃ c, fx = c :: fr)) (ha : allD fr = aF) : ((decide (0 ≤ idt) && !aF) = true → R = none) ∧ ((decide (0 ≤ idt) && !aF) = false → mExp bd neg ip fr ex = R) := by
  rcases hf with ⟨h0, rfl, rfl⟩ | ⟨h0, c, rfl⟩
  · simp [h0]; exact h
  · rw [mFrac, ha] at h
    cases aF
    · simp [h0]; simpa using h.symm
    · simp [h0]; simpa using h
theorem exsign_plain {L : List UInt8} (hx : hdIs (fun c => c == 43 || c == 45) (L.drop 0) = false) : exSign L = (false, L) := by
  cases L with
  | nil => rfl
  | cons c r => simp [hdIs] at hx; simp [exSign, hx]
theorem exsign_cut {L : List UInt8} (hx : hdIs (fun c => c == 43 || c == 45) (L.drop 0) = true) : 0 < L.length ∧ exSign L = (hdIs (· == 45) (L.drop 0), L.drop 1) := by
  cases L with
  | nil => simp [hdIs] at hx
  | cons c r =>
    have hc : c = 43 ∨ c = 45 := by simpa [hdIs] using hx
    refine ⟨by simp, ?_⟩
    rcases hc with rfl | rfl <;> rfl
theorem take_last (z : ByteArray) (k : Nat) (h : k < z.size) : z.data.toList.take (k + 1) = z.data.toList.take k ++ [z[k]] := by
  rw [List.take_succ_eq_append_getElem (by simpa using h)]; rfl

set_option maxHeartbeats 4000000 in
set_option maxRecDepth 100000 in
theorem numModel_any (s : ByteArray) (w : World) (hs : s.size ≤ 1048576) :
    Calls Try.prog 17 #[.string s] w fun e w' => NumRet (mAll ((s.size : Int) + 1048576) s.data.toList) e ∧ w' = w := by
  obtain ⟨bd, hbd⟩ : ∃ bd, bd = (s.size : Int) + 1048576 := ⟨_, rfl⟩
  rw [← hbd]
  have HBD := hidden hbd
  have hbd0 : 0 ≤ bd := by omega
  have hbd1 : bd ≤ 2097152 := by omega
  obtain ⟨R, hR⟩ : ∃ R, mAll bd s.data.toList = R := ⟨_, rfl⟩
  rw [hR]
  have HR := hidden hR
  clear hR hbd
  go_enter Try.func17, Try.ntmps17
  go_upto_region 3 with fail
  go_cut [30] (fun t wx => w = wx ∧ t = .bool (hdIs (· == 45) (s.data.toList.drop 0)))
  case first => as_aux_lemma =>
    by_cases h0 : 0 < s.size
    · have e := hidden (hd_in (· == 45) s (0) h0)
      have HEB : Hid (((s[0].toNat : Int) == 45) = (s[0] == 45)) := u8_beq s[0] 45
      go_wp2
      go_meet
      case rel => exact ⟨rfl, by rw [e.out, ← HEB.out]⟩
    · have e := hidden (hd_out (· == 45) s (0) (by omega))
      go_wp2
      go_meet
      case rel => exact ⟨rfl, by rw [e.out]⟩
  case rest =>
    obtain ⟨rfl, rfl⟩ := hcut
    go_upto_if 30 with fail
    go_cut [6, 7] (fun x n wx => w = wx ∧ ∃ (neg : Bool) (s1 : ByteArray), n = .bool neg ∧ x = .string s1 ∧ s1.size ≤ s.size ∧ mBody bd neg s1.data.toList = R)
    case first => as_aux_lemma =>
      cases hx : hdIs (· == 45) (s.data.toList.drop 0)
      · have K := hidden (msign_no HR.out hx)
        go_wp2
        go_meet
        case rel => exact ⟨rfl, false, s, rfl, rfl, Nat.le_refl _, K.out⟩
      · have K := hidden (msign_yes HR.out hx)
        have hs1 : 1 ≤ s.size := by have := K.out.2; rw [size_of_toList] at this; exact this
        go_wp2
        go_meet
        case rel => exact ⟨rfl, true, _, rfl, rfl, by rw [ByteArray.size_extract]; omega, by rw [extract_end]; exact K.out.1⟩
    case rest =>
      obtain ⟨rfl, neg, s1, rfl, rfl, hs1, hb1⟩ := hcut
      have HB := hidden hb1
      clear hb1 HR
      have hs1' : s1.size ≤ 1048576 := by omega
      obtain ⟨ie, hie⟩ : ∃ ie, ix nE s1.data.toList 0 = ie := ⟨_, rfl⟩
      have hrg := ix_range nE s1
      rw [hie] at hrg
      have HIE := hidden hie
      have CE := hidden (fun w => index_e s1 w hs1')
      clear hie
      go_upto_if 37 with (go_at_call 24; refine (CE.out _).mono ?_; rintro e w' ⟨rfl, hw'⟩; subst w'; rw [HIE.out])
      go_cut [8, 9, 10] (fun m x h wx => w = wx ∧ ∃ (m1 x1 : ByteArray) (hasE : Bool), m = .string m1 ∧ x = .string x1 ∧ h = .bool hasE ∧ m1.size ≤ s.size ∧ x1.size ≤ s.size ∧ m1.data.toList = s1.data.toList.takeWhile nE ∧ ((hasE = false ∧ s1.data.toList.dropWhile nE = []) ∨ (hasE = true ∧ ∃ c, s1.data.toList.dropWhile nE = c :: x1.data.toList)))
      case first => as_aux_lemma =>
        by_cases h0 : 0 ≤ ie
        · obtain ⟨k, rfl⟩ := Int.eq_ofNat_of_zero_le h0
          have K := hidden (ix_cut nE s1 k HIE.out)
          have hk := K.out.1
          go_wp2
          go_meet
          case rel => exact ⟨rfl, _, _, true, rfl, rfl, rfl, by rw [ByteArray.size_extract]; omega, by rw [ByteArray.size_extract]; omega, K.out.2.1, .inr ⟨rfl, K.out.2.2⟩⟩
        · have K := hidden (ix_none nE s1.data.toList (by rw [HIE.out]; exact h0))
          go_wp2
          go_meet
          case rel => exact ⟨rfl, _, ⟨#[]⟩, false, rfl, rfl, rfl, hs1, by show 0 ≤ _; omega, K.out.2.symm, .inl ⟨rfl, K.out.1⟩⟩
      case rest =>
        obtain ⟨rfl, m1, x1, hasE, rfl, rfl, rfl, hm1, hx1, hm, hx⟩ := hcut
        have HM := hidden hm
        have HX := hidden hx
        clear hm hx hrg HIE CE
        have hm1' : m1.size ≤ 1048576 := by omega
        obtain ⟨idt, hid⟩ : ∃ idt, ix nD m1.data.toList 0 = idt := ⟨_, rfl⟩
        have hrg := ix_range nD m1
        rw [hid] at hrg
        have HID := hidden hid
        have CD := hidden (fun w => index_dot m1 w hm1')
        clear hid
        go_upto_if 49 with (go_at_call 24; refine (CD.out _).mono ?_; rintro e w' ⟨rfl, hw'⟩; subst w'; rw [HID.out])
        go_cut [12, 13] (fun i f wx => w = wx ∧ ∃ (i1 f1 : ByteArray), i = .string i1 ∧ f = .string f1 ∧ i1.size ≤ s.size ∧ f1.size ≤ s.size ∧ i1.data.toList = m1.data.toList.takeWhile nD ∧ ((¬ 0 ≤ idt ∧ m1.data.toList.dropWhile nD = [] ∧ f1.data.toList = []) ∨ (0 ≤ idt ∧ ∃ c, m1.data.toList.dropWhile nD = c :: f1.data.toList)))
        case first => as_aux_lemma =>
          by_cases h0 : 0 ≤ idt
          · obtain ⟨k, rfl⟩ := Int.eq_ofNat_of_zero_le h0
            have K := hidden (ix_cut nD m1 k HID.out)
            have hk := K.out.1
            go_wp2
            go_meet
            case rel => exact ⟨rfl, _, _, rfl, rfl, by rw [ByteArray.size_extract]; omega, by rw [ByteArray.size_extract]; omega, K.out.2.1, .inr ⟨by omega, K.out.2.2⟩⟩
          · have K := hidden (ix_none nD m1.data.toList (by rw [HID.out]; exact h0))
            go_wp2
            go_meet
            case rel => exact ⟨rfl, _, ⟨#[]⟩, rfl, rfl, hm1, by show 0 ≤ _; omega, K.out.2.symm, .inl ⟨by omega, K.out.1, rfl⟩⟩
        case rest =>
          obtain ⟨rfl, i1, f1, rfl, rfl, hi1, hf1, hil, hfl⟩ := hcut
          have HIL := hidden hil
          have HFL := hidden hfl
          clear hil hfl HID CD
          have hi1' : i1.size ≤ 1048576 := by omega
          have hf1' : f1.size ≤ 1048576 := by omega
          have CI := hidden (fun w => allDigits_any i1 w hi1')
          have CF := hidden (fun w => allDigits_any f1 w hf1')
          have HB2 : Hid ((if okI i1.data.toList = true then mFrac bd neg i1.data.toList (m1.data.toList.dropWhile nD) (s1.data.toList.dropWhile nE) else none) = R) := by
            have := HB.out
            unfold mBody at this
            rw [← HM.out, ← HIL.out] at this
            exact this
          obtain ⟨aI, haI⟩ : ∃ aI, allD i1.data.toList = aI := ⟨_, rfl⟩
          have HAI := hidden haI
          clear haI HB
          go_upto_region 20 with fail
          go_cut [69] (fun t wx => w = wx ∧ t = .bool (!okI i1.data.toList))
          case first => as_aux_lemma =>
            cases aI
            · go_wp2_with (go_at_call 25; refine (CI.out _).mono ?_; rintro e w' ⟨rfl, hw'⟩; subst w'; rw [HAI.out])
              go_meet
              case rel => exact ⟨rfl, by rw [okI, HAI.out]; rfl⟩
            · by_cases h1 : 1 < i1.size
              · have h0 : 0 < i1.size := by omega
                have HEB : Hid (((i1[0].toNat : Int) == 48) = (i1[0] == 48)) := u8_beq i1[0] 48
                have HH : Hid (i1.data.toList.headD 0 = i1[0]) := by
                  show _ = _
                  have := drop_at i1 0 h0
                  rw [List.drop_zero] at this
                  rw [this]; rfl
                go_wp2_with (go_at_call 25; refine (CI.out _).mono ?_; rintro e w' ⟨rfl, hw'⟩; subst w'; rw [HAI.out])
                go_meet
                case rel => exact ⟨rfl, by rw [okI, HAI.out, HH.out, ← HEB.out, size_of_toList]; simp [h1]⟩
              · go_wp2_with (go_at_call 25; refine (CI.out _).mono ?_; rintro e w' ⟨rfl, hw'⟩; subst w'; rw [HAI.out])
                go_meet
                case rel => exact ⟨rfl, by rw [okI, HAI.out, size_of_toList]; simp [h1]⟩
          case rest =>
            obtain ⟨rfl, rfl⟩ := hcut
            cases hok : okI i1.data.toList
            · have HN : Hid (R = none) := by have := HB2.out; rw [hok] at this; exact this.symm
              go_wp2_with fail
              refine bodyPost_ret (results_tmp4 rfl _ _ _) rfl ?_
              exact ⟨by rw [HN.out]; rfl, rfl⟩
            have HB3 : Hid (mFrac bd neg i1.data.toList (m1.data.toList.dropWhile nD) (s1.data.toList.dropWhile nE) = R) := by have := HB2.out; rw [hok] at this; exact this
            clear HB2 hok HAI
            obtain ⟨aF, haF⟩ : ∃ aF, allD f1.data.toList = aF := ⟨_, rfl⟩
            have HAF := hidden haF
            clear haF
            go_upto_region 22 with fail
            go_cut [76] (fun t wx => w = wx ∧ t = .bool (decide (0 ≤ idt) && !aF))
            case first => as_aux_lemma =>
              by_cases h0 : 0 ≤ idt
              · go_wp2_with (go_at_call 25; refine (CF.out _).mono ?_; rintro e w' ⟨rfl, hw'⟩; subst w'; rw [HAF.out])
                go_meet
                case rel => exact ⟨rfl, by simp [h0]⟩
              · have hd : decide (0 ≤ idt) = false := decide_eq_false h0
                go_wp2_with (go_at_call 25; refine (CF.out _).mono ?_; rintro e w' ⟨rfl, hw'⟩; subst w'; rw [HAF.out])
                go_meet
                case rel => exact ⟨rfl, by simp [hd]⟩
            case rest =>
              obtain ⟨rfl, rfl⟩ := hcut
              have HF4 := hidden (mfrac_cases HB3.out HFL.out HAF.out)
              clear HB3 HFL HAF CI CF HIL HM
              cases hbad : (decide (0 ≤ idt) && !aF)
              rotate_left
              · have HN : Hid (R = none) := HF4.out.1 hbad
                clear HF4
                go_wp2_with fail
                refine bodyPost_ret (results_tmp4 rfl _ _ _) rfl ?_
                exact ⟨by rw [HN.out]; rfl, rfl⟩
              have HME : Hid (mExp bd neg i1.data.toList f1.data.toList (s1.data.toList.dropWhile nE) = R) := HF4.out.2 hbad
              clear HF4
              go_upto_if 77 with fail
              go_cut [9, 15, 16] (fun x v n wx => w = wx ∧ ∃ e4 : Int, v = .int .i64 e4 ∧ -2097152 ≤ e4 ∧ e4 ≤ 2097152 ∧ fin neg i1.data.toList f1.data.toList e4 = R)
              case first => as_aux_lemma =>
                cases hasE
                · have K : Hid (fin neg i1.data.toList f1.data.toList 0 = R) := by
                    have h1 := HME.out
                    rcases HX.out with ⟨_, h⟩ | ⟨h, _⟩
                    · rw [h] at h1; exact h1
                    · simp at h
                  go_wp2
                  go_meet
                  case rel => exact ⟨rfl, 0, rfl, by omega, by omega, K.out⟩
                · obtain ⟨c, hc⟩ : ∃ c, s1.data.toList.dropWhile nE = c :: x1.data.toList := by
                    rcases HX.out with ⟨h, _⟩ | ⟨_, h⟩
                    · simp at h
                    · exact h
                  have HM2 : Hid ((if allD (exSign x1.data.toList).2 = true then fin neg i1.data.toList f1.data.toList (sgnE (exSign x1.data.toList).1 (satM bd (exSign x1.data.toList).2)) else none) = R) := by
                    have := HME.out
                    rw [hc] at this
                    exact this
                  clear hc HME HX
                  go_upto_region 27 with fail
                  go_cut [90] (fun t wx => w = wx ∧ t = .bool (hdIs (fun c => c == 43 || c == 45) (x1.data.toList.drop 0)))
                  case first => as_aux_lemma =>
                    by_cases h0 : 0 < x1.size
                    · have e := hidden (hd_in (fun c => c == 43 || c == 45) x1 (0) h0)
                      have HEA : Hid (((x1[0].toNat : Int) == 43) = (x1[0] == 43)) := u8_beq x1[0] 43
                      have HEB : Hid (((x1[0].toNat : Int) == 45) = (x1[0] == 45)) := u8_beq x1[0] 45
                      cases h1 : ((x1[0].toNat : Int) == 43)
                      · go_wp2
                        go_meet
                        case rel => exact ⟨rfl, by rw [e.out, ← HEA.out, ← HEB.out, h1]; rfl⟩
                      · go_wp2
                        go_meet
                        case rel => exact ⟨rfl, by rw [e.out, ← HEA.out, h1]; rfl⟩
                    · have e := hidden (hd_out (fun c => c == 43 || c == 45) x1 (0) (by omega))
                      go_wp2
                      go_meet
                      case rel => exact ⟨rfl, by rw [e.out]⟩
                  case rest =>
                    obtain ⟨rfl, rfl⟩ := hcut
                    go_upto_if 90 with fail
                    go_cut [9, 16] (fun x n wx => w = wx ∧ ∃ (x2 : ByteArray) (en : Bool), x = .string x2 ∧ n = .bool en ∧ x2.size ≤ s.size ∧ exSign x1.data.toList = (en, x2.data.toList))
                    case first => as_aux_lemma =>
                      cases hx : hdIs (fun c => c == 43 || c == 45) (x1.data.toList.drop 0)
                      · have K2 := hidden (exsign_plain hx)
                        go_wp2
                        go_meet
                        case rel => exact ⟨rfl, x1, false, rfl, rfl, hx1, K2.out⟩
                      · have K2 := hidden (exsign_cut hx)
                        have h0 : 0 < x1.size := by have := K2.out.1; rw [size_of_toList] at this; exact this
                        have e := hidden (hd_in (· == 45) x1 0 h0)
                        have HEB : Hid (((x1[0].toNat : Int) == 45) = (x1[0] == 45)) := u8_beq x1[0] 45
                        go_wp2
                        go_meet
                        case rel => exact ⟨rfl, _, _, rfl, rfl, by rw [ByteArray.size_extract]; omega, by rw [extract_end, HEB.out, ← e.out]; exact K2.out.2⟩
                    case rest =>
                      obtain ⟨rfl, x2, en, rfl, rfl, hx2, hes⟩ := hcut
                      have hx2' : x2.size ≤ 1048576 := by omega
                      have HM3 : Hid ((if allD x2.data.toList = true then fin neg i1.data.toList f1.data.toList (sgnE en (satM bd x2.data.toList)) else none) = R) := by
                        have := HM2.out
                        rw [hes] at this
                        exact this
                      clear HM2 hes
                      have CX := hidden (fun w => allDigits_any x2 w hx2')
                      have hbd := HBD.out.symm
                      have hbdN : (s.size : Int) + 1048576 ≤ 2097152 := by omega
                      cases hax : allD x2.data.toList
                      · have HN : Hid (R = none) := by have := HM3.out; rw [hax] at this; exact this.symm
                        have HAX := hidden hax
                        clear HM3 hax
                        go_wp2_with (go_at_call 25; refine (CX.out _).mono ?_; rintro e w' ⟨rfl, hw'⟩; subst w'; rw [HAX.out])
                        refine bodyPost_ret (results_tmp4 rfl _ _ _) rfl ?_
                        exact ⟨by rw [HN.out]; rfl, rfl⟩
                      · have HM4 : Hid (fin neg i1.data.toList f1.data.toList (sgnE en (satM bd x2.data.toList)) = R) := by have := HM3.out; rw [hax] at this; exact this
                        have HAX := hidden hax
                        have hdg := ((allD_iff _).1 hax).2
                        obtain ⟨sv, hsv⟩ : ∃ sv, satM bd x2.data.toList = sv := ⟨_, rfl⟩
                        have hsb := satF_bounds bd hbd0 _ hdg
                        rw [sat_eq bd hbd0 (by omega) _ hdg, hsv] at hsb
                        have HSV := hidden hsv
                        have CS := hidden (fun w => saturated_any x2 bd w hx2' hbd0 (by omega) hdg)
                        clear HM3 hax hdg hsv
                        cases en
                        · go_wp2_with (first | (go_at_call 25; refine (CX.out _).mono ?_; rintro e w' ⟨rfl, hw'⟩; subst w'; rw [HAX.out]) | (go_at_call 26; refine (CS.out _).mono ?_; rintro e w' ⟨rfl, hw'⟩; subst w'; rw [HSV.out]))
                          go_meet
                          case rel => exact ⟨rfl, sv, rfl, by omega, by omega, by have := HM4.out; rw [HSV.out] at this; exact this⟩
                        · go_wp2_with (first | (go_at_call 25; refine (CX.out _).mono ?_; rintro e w' ⟨rfl, hw'⟩; subst w'; rw [HAX.out]) | (go_at_call 26; refine (CS.out _).mono ?_; rintro e w' ⟨rfl, hw'⟩; subst w'; rw [HSV.out]))
                          go_meet
                          case rel => exact ⟨rfl, -sv, rfl, by omega, by omega, by have := HM4.out; rw [HSV.out] at this; exact this⟩
              case rest =>
                obtain ⟨rfl, e4, rfl, he40, he41, hfin⟩ := hcut
                have HK := hidden hfin
                clear hfin HME HX
                obtain ⟨al, hal⟩ : ∃ al, i1 ++ f1 = al := ⟨_, rfl⟩
                have HAL : Hid (al.data.toList = i1.data.toList ++ f1.data.toList) := by show _ = _; rw [← hal, cat_toList]
                have hals : al.size ≤ 2097152 := by rw [← hal, ByteArray.size_append]; omega
                go_wp2
                go_loop [18] (fun v => ∃ k : Nat, k ≤ al.size ∧ v = .int .i64 (k : Int) ∧ lz (al.data.toList.drop k) = lz al.data.toList) (fun v => al.size - (intOf v).toNat)
                case atStart => exact ⟨0, Nat.zero_le _, rfl, rfl⟩
                case round =>
                  obtain ⟨k, hk, rfl, hrest⟩ := hrel
                  have HX := hidden hrest
                  clear hrest
                  by_cases hz : ∃ h : k < al.size, al[k] = 48
                  · obtain ⟨hlt, h48⟩ := hz
                    have hb48 : ((al[k].toNat : Int) == 48) = true := by rw [h48]; rfl
                    have HD := hidden (drop_at al k hlt)
                    have H48 := hidden h48
                    clear h48
                    go_wp2
                    go_round
                    case rel =>
                      refine ⟨k + 1, by omega, by go_num, ?_⟩
                      have := HX.out
                      rw [HD.out, H48.out, lz_yes] at this
                      exact this
                    case measure => simp [intOf]; omega
                  · obtain ⟨z, hzz⟩ : ∃ z, al.extract k al.size = z := ⟨_, rfl⟩
                    have HZ : Hid (z.data.toList = lz (i1.data.toList ++ f1.data.toList)) := by
                      show z.data.toList = _
                      rw [← hzz, extract_end, ← HAL.out, ← HX.out]
                      by_cases hlt : k < al.size
                      · rw [drop_at al k hlt]
                        exact (lz_no (fun e => hz ⟨hlt, e⟩)).symm
                      · rw [drop_end al k (by omega)]; rfl
                    have hzs : z.size ≤ 2097152 := by rw [← hzz, ByteArray.size_extract]; omega
                    by_cases hlt : k < al.size
                    · have hb48 : ((al[k].toNat : Int) == 48) = false := by
                        rw [beq_eq_false_iff_ne]
                        intro e
                        exact hz ⟨hlt, UInt8.toNat_inj.1 (by show al[k].toNat = 48; omega)⟩
                      clear hz HX
                      go_wp2
                      as_aux_lemma =>
                        go_loop [19] (fun v => ∃ k2 : Nat, k2 ≤ z.size ∧ v = .int .i64 (k2 : Int) ∧ rz (z.data.toList.take (z.size - k2)) = rz z.data.toList) (fun v => z.size - (intOf v).toNat)
                        case atStart => exact ⟨0, Nat.zero_le _, rfl, by rw [Nat.sub_zero, List.take_of_length_le (by rw [size_of_toList]; exact Nat.le_refl _)]⟩
                        case round =>
                          obtain ⟨k2, hk2, rfl, hrz⟩ := hrel
                          have HRZ := hidden hrz
                          clear hrz
                          by_cases hz2 : ∃ h : z.size - 1 - k2 < z.size, k2 < z.size ∧ z[z.size - 1 - k2] = 48
                          · obtain ⟨hlt, hkl, h48⟩ := hz2
                            have hb48 : ((z[z.size - 1 - k2].toNat : Int) == 48) = true := by rw [h48]; rfl
                            have H48 := hidden h48
                            have HT := hidden (take_last z (z.size - 1 - k2) hlt)
                            clear h48
                            go_wp2
                            go_round
                            case rel =>
                              refine ⟨k2 + 1, by omega, by go_num, ?_⟩
                              have h1 := HRZ.out
                              have e1 : z.size - k2 = z.size - 1 - k2 + 1 := by omega
                              have e2 : z.size - (k2 + 1) = z.size - 1 - k2 := by omega
                              rw [e1, HT.out, H48.out, rz_zero] at h1
                              rw [e2]; exact h1
                            case measure => simp [intOf]; omega
                          · have HE2 : Hid (rz z.data.toList = z.data.toList.take (z.size - k2)) := by
                              show rz z.data.toList = _
                              rw [← HRZ.out]
                              by_cases hkl : k2 < z.size
                              · have e1 : z.size - k2 = z.size - 1 - k2 + 1 := by omega
                                rw [e1, take_last z (z.size - 1 - k2) (by omega)]
                                exact rz_keep _ (fun e => hz2 ⟨by omega, hkl, e⟩)
                              · have e1 : z.size - k2 = 0 := by omega
                                rw [e1, List.take_zero]; rfl
                            have HC : Hid ((z.extract 0 (z.size - k2)).data.toList = rz z.data.toList) := by
                              show _ = _
                              rw [Lib.extract_data, List.drop_zero, Nat.sub_zero, HE2.out]
                            have HFIN : Hid (R = some (neg, (z.extract 0 (z.size - k2)).data.toList, e4 - (f1.size : Int) + (k2 : Int))) := by
                              show R = _
                              have h1 := HK.out
                              unfold fin at h1
                              rw [← HZ.out] at h1
                              have hl : (rz z.data.toList).length = z.size - k2 := by rw [HE2.out, List.length_take, size_of_toList]; omega
                              rw [← h1, HC.out, hl, size_of_toList, size_of_toList]
                              have e1 : e4 - (f1.size : Int) + ((z.size : Int) - ((z.size - k2 : Nat) : Int)) = e4 - (f1.size : Int) + (k2 : Int) := by omega
                              rw [e1]
                            by_cases hkl : k2 < z.size
                            · have hb48 : ((z[z.size - 1 - k2].toNat : Int) == 48) = false := by
                                rw [beq_eq_false_iff_ne]
                                intro e
                                exact hz2 ⟨by omega, hkl, UInt8.toNat_inj.1 (by show z[z.size - 1 - k2].toNat = 48; omega)⟩
                              clear hz2
                              go_wp2
                              refine bodyPost_ret (results_tmp4 rfl _ _ _) rfl ?_
                              exact ⟨by rw [HFIN.out]; exact ⟨_, rfl, rfl⟩, rfl⟩
                            · clear hz2
                              go_wp2
                              refine bodyPost_ret (results_tmp4 rfl _ _ _) rfl ?_
                              exact ⟨by rw [HFIN.out]; exact ⟨_, rfl, rfl⟩, rfl⟩
                    · clear hz HX
                      go_wp2
                      as_aux_lemma =>
                        go_loop [19] (fun v => ∃ k2 : Nat, k2 ≤ z.size ∧ v = .int .i64 (k2 : Int) ∧ rz (z.data.toList.take (z.size - k2)) = rz z.data.toList) (fun v => z.size - (intOf v).toNat)
                        case atStart => exact ⟨0, Nat.zero_le _, rfl, by rw [Nat.sub_zero, List.take_of_length_le (by rw [size_of_toList]; exact Nat.le_refl _)]⟩
                        case round =>
                          obtain ⟨k2, hk2, rfl, hrz⟩ := hrel
                          have HRZ := hidden hrz
                          clear hrz
                          by_cases hz2 : ∃ h : z.size - 1 - k2 < z.size, k2 < z.size ∧ z[z.size - 1 - k2] = 48
                          · obtain ⟨hlt, hkl, h48⟩ := hz2
                            have hb48 : ((z[z.size - 1 - k2].toNat : Int) == 48) = true := by rw [h48]; rfl
                            have H48 := hidden h48
                            have HT := hidden (take_last z (z.size - 1 - k2) hlt)
                            clear h48
                            go_wp2
                            go_round
                            case rel =>
                              refine ⟨k2 + 1, by omega, by go_num, ?_⟩
                              have h1 := HRZ.out
                              have e1 : z.size - k2 = z.size - 1 - k2 + 1 := by omega
                              have e2 : z.size - (k2 + 1) = z.size - 1 - k2 := by omega
                              rw [e1, HT.out, H48.out, rz_zero] at h1
                              rw [e2]; exact h1
                            case measure => simp [intOf]; omega
                          · have HE2 : Hid (rz z.data.toList = z.data.toList.take (z.size - k2)) := by
                              show rz z.data.toList = _
                              rw [← HRZ.out]
                              by_cases hkl : k2 < z.size
                              · have e1 : z.size - k2 = z.size - 1 - k2 + 1 := by omega
                                rw [e1, take_last z (z.size - 1 - k2) (by omega)]
                                exact rz_keep _ (fun e => hz2 ⟨by omega, hkl, e⟩)
                              · have e1 : z.size - k2 = 0 := by omega
                                rw [e1, List.take_zero]; rfl
                            have HC : Hid ((z.extract 0 (z.size - k2)).data.toList = rz z.data.toList) := by
                              show _ = _
                              rw [Lib.extract_data, List.drop_zero, Nat.sub_zero, HE2.out]
                            have HFIN : Hid (R = some (neg, (z.extract 0 (z.size - k2)).data.toList, e4 - (f1.size : Int) + (k2 : Int))) := by
                              show R = _
                              have h1 := HK.out
                              unfold fin at h1
                              rw [← HZ.out] at h1
                              have hl : (rz z.data.toList).length = z.size - k2 := by rw [HE2.out, List.length_take, size_of_toList]; omega
                              rw [← h1, HC.out, hl, size_of_toList, size_of_toList]
                              have e1 : e4 - (f1.size : Int) + ((z.size : Int) - ((z.size - k2 : Nat) : Int)) = e4 - (f1.size : Int) + (k2 : Int) := by omega
                              rw [e1]
                            by_cases hkl : k2 < z.size
                            · have hb48 : ((z[z.size - 1 - k2].toNat : Int) == 48) = false := by
                                rw [beq_eq_false_iff_ne]
                                intro e
                                exact hz2 ⟨by omega, hkl, UInt8.toNat_inj.1 (by show z[z.size - 1 - k2].toNat = 48; omega)⟩
                              clear hz2
                              go_wp2
                              refine bodyPost_ret (results_tmp4 rfl _ _ _) rfl ?_
                              exact ⟨by rw [HFIN.out]; exact ⟨_, rfl, rfl⟩, rfl⟩
                            · clear hz2
                              go_wp2
                              refine bodyPost_ret (results_tmp4 rfl _ _ _) rfl ?_
                              exact ⟨by rw [HFIN.out]; exact ⟨_, rfl, rfl⟩, rfl⟩
end Go.Proofs.Qxb6605313a
