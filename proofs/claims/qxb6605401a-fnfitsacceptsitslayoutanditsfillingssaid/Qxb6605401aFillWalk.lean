/-
  'FnFitsAcceptsItsLayoutAndItsFillings' (function 4).
-/
import Derived.Test.Qxb6605401aFillParts
namespace Go.Proofs.Qxb6605401a
open Go.RowKit
set_option linter.unusedVariables false

/-- The loop that fills: after k rounds. -/
def Filled (w wr : World) (lay : ByteArray) (k : Nat) : Prop := ∃ zs, Row wr w.heap.size w.heap.size lay.size zs ∧ Below w.heap.size w wr ∧ ∀ j, j < k → admB ((zs.getD j 0).toNat : Int) ((bts lay).getD j 0) = true

theorem Filled.step {w wr : World} {lay : ByteArray} {k : Nat} (h : Filled w wr lay k) (hk : k < lay.size) (v : Int) (h0 : 0 ≤ v) (h1 : v ≤ 255) (ha : admB v (lay[k].toNat : Int) = true) :
    Filled w (wr.setCell ⟨w.heap.size, k, none⟩ (.int .u8 v)) lay (k + 1) := by
  obtain ⟨zs, hr, hb, hall⟩ := h
  refine ⟨_, hr.set k v h0 h1, hb.setCell (Nat.le_refl _) _, fun j hj => ?_⟩
  have hl := hr.1
  by_cases e : j = k
  · subst e
    have : (zs.set j (UInt8.ofNat v.toNat)).getD j 0 = UInt8.ofNat v.toNat := by simp [List.getD, show j < zs.length by omega]
    rw [this, byte_of v h0 h1, bts_at lay j hk]; exact ha
  · have : (zs.set k (UInt8.ofNat v.toNat)).getD j 0 = zs.getD j 0 := by simp [List.getD, show ¬ k = j by omega]
    rw [this]; exact hall j (by omega)

theorem adm_self (c : Int) : admB c c = true := by unfold admB; simp; omega
theorem fit_self (s : ByteArray) : fitL (bts s) (bts s) = true := (fitL_iff _ _).2 ⟨rfl, fun i hi => adm_self _⟩

theorem fit_longer (G X lay : ByteArray) (h : G.size + X.size ≠ lay.size) : fitL (bts (G ++ X)) (bts lay) = false :=
  fitL_ne (by rw [length_bts, length_bts, ByteArray.size_append]; exact h)

set_option maxHeartbeats 1000000 in
set_option maxRecDepth 100000 in
theorem fill_go (lay fill : ByteArray) (w : World) (h1 : lay.size ≤ 65536) (h2 : fill.size ≤ 65536) :
    Calls Try.prog 4 #[.string lay, .string fill] w fun e w' => e = .returned (.bool true) ∧ Below w.heap.size w w' := by
  obtain ⟨i0, hi, hz0, hz1, hz2⟩ := info_parts Try.info5
  have Hi : Hid (Try.prog.info? 5 = some i0) := hi
  have Hz0 : Hid (i0.zero = some (.int .u8 0)) := hz0
  have Hz1 : Hid (i0.size = 1) := hz1
  have Hz2 : Hid (i0.bytes = 1) := hz2
  clear hi hz0 hz1 hz2
  go_enter Try.func4, Try.ntmps4
  go_wp2_with (first | (go_at_call 8; refine (bytes8 lay fill _ (by omega)).mono ?_; rintro e w' ⟨rfl, hw'⟩; subst w') | (at_make; refine wpList_make_full _ rfl _ _ 23 rfl w.heap.size 5 i0 (.int .u8 0) 1 Try.underlying23 Hi.out Hz0.out Hz1.out _ _ _ _ lay.size rfl rfl (by omega) (by omega) (by rw [Hz2.out]; omega) (by unfold maxLen; omega) (Nat.le_refl _) ?_))
  intro w1 hown1 hgrow1
  have hb1 : Below w.heap.size w w1 := (Below.refl _ _).grown hgrow1 (Nat.le_refl _) (fun k h => by simp at h)
  have hf0 : Filled w w1 lay 0 := by
    obtain ⟨zs, hr⟩ := Row.made hown1
    exact ⟨zs, hr, hb1, fun j hj => by omega⟩
  clear hown1 hgrow1 hb1
  go_wp2
  go_loopw [7, 8, 9] (fun i _ _ wr => ∃ k : Nat, k ≤ lay.size ∧ i = .int .i64 k ∧ Filled w wr lay k) (fun i _ _ _ => lay.size - (intOf i).toNat)
  case atStart => exact ⟨0, Nat.zero_le _, rfl, hf0⟩
  case round =>
    clear hf0 w1
    obtain ⟨k, hk, rfl, hfil⟩ := hrel
    have HF : Hid (Filled w wr lay k) := hfil
    by_cases hlt : k < lay.size
    · obtain ⟨zs, hrow, hb, _⟩ := hfil
      have hcell := hrow.cell k hlt
      have hfro := hrow.frozen k
      clear hrow hb
      by_cases hfl : k < fill.size
      · have hmod : (0 : Int) ≤ (fill[k].toNat : Int) % 10 ∧ (fill[k].toNat : Int) % 10 ≤ 9 := by omega
        go_wp2
        all_goals
          go_roundw
          case rel => exact ⟨k + 1, by omega, by go_num, HF.out.step hlt _ (by omega) (by have := UInt8.toNat_lt lay[k]; omega) (by go_light; unfold admB; simp_all; try omega)⟩
          case measure => simp [intOf]; omega
      · go_wp2
        all_goals
          go_roundw
          case rel => exact ⟨k + 1, by omega, by go_num, HF.out.step hlt _ (by omega) (by have := UInt8.toNat_lt lay[k]; omega) (by go_light; unfold admB; simp_all; try omega)⟩
          case measure => simp [intOf]; omega
    · obtain ⟨zs, hrow, hb, hall⟩ := hfil
      obtain ⟨G, hG⟩ : ∃ G : ByteArray, G = ⟨zs.toArray⟩ := ⟨_, rfl⟩
      have hcv : (convert 23 9 (.slice (some ⟨w.heap.size, 0, none⟩) lay.size lay.size)).run Try.prog wr = .ok (.string G) wr := by rw [hG]; exact hrow.str lay.size
      have hGs : G.size = lay.size := by rw [hG, ← hrow.1]; simp [ByteArray.size]
      have fA : fitL (bts lay) (bts lay) = true := fit_self lay
      have fB : fitL (bts G) (bts lay) = true := by
        refine (fitL_iff _ _).2 ⟨by rw [length_bts, length_bts, hGs], fun i hi => ?_⟩
        rw [length_bts] at hi
        rw [hG, bts_mk_at]; exact hall i (by omega)
      have HA : Hid (fitL (bts lay) (bts lay) = true) := fA
      have HB : Hid (fitL (bts G) (bts lay) = true) := fB
      have HGz : Hid (G = ⟨zs.toArray⟩) := hG
      have HALL : Hid (∀ j, j < lay.size → admB ((zs.getD j 0).toNat : Int) ((bts lay).getD j 0) = true) := fun j hj => hall j (by omega)
      have HROW : Hid (Row wr w.heap.size w.heap.size lay.size zs) := hrow
      clear fA fB hG hall hrow HF
      go_wp2_with fail
      refine (zzfits lay lay _ (by unfold maxLen; omega) (by unfold maxLen; omega)).mono ?_
      rintro e w' ⟨rfl, hw'⟩
      subst w'
      rw [HA.out]
      go_wp2_with fail
      refine (zzfits G lay _ (by unfold maxLen; omega) (by unfold maxLen; omega)).mono ?_
      rintro e w' ⟨rfl, hw'⟩
      subst w'
      rw [HB.out]
      go_wp2_with fail
      refine (zzfits _ lay _ ?hbig ?hlay).mono ?_
      case hbig => rw [ByteArray.size_append, hGs]; unfold maxLen; show _ + 1 ≤ _; omega
      case hlay => unfold maxLen; omega
      rintro e w' ⟨rfl, hw'⟩
      subst w'
      rw [fit_longer G _ lay (by rw [hGs]; show _ + 1 ≠ _; omega)]
      by_cases hn : lay.size = 0
      · have hn0 : ((lay.size : Int) == 0) = true := beq_iff_eq.2 (by omega)
        go_wp2
        go_ret
        exact ⟨rfl, hb⟩
      · have hn0 : ((lay.size : Int) == 0) = false := beq_eq_false_iff_ne.2 (by omega)
        have hpos : 0 < lay.size := by omega
        clear hn
        go_wp2_with fail
        refine (zzfits _ lay _ ?hbig ?hlay).mono ?_
        case hbig => rw [ByteArray.size_extract]; unfold maxLen; omega
        case hlay => unfold maxLen; omega
        rintro e w' ⟨rfl, hw'⟩
        subst w'
        rw [fitL_ne (b := bts lay) (by rw [length_bts, length_bts, ByteArray.size_extract]; omega)]
        by_cases hf2 : 2 ≤ fill.size
        · have i0' : (0 : Int) < (fill.size : Int) := by omega
          have i1 : (1 : Int) < (fill.size : Int) := by omega
          go_wp2
          have j0 : 0 < fill.size := by omega
          have j1 : 1 < fill.size := by omega
          go_quiet (fail)
          have HB0 : Hid (Below w.heap.size w (wr.drewN nq)) := below_drewN hb nq
          have HROW0 : Hid (Row (wr.drewN nq) w.heap.size w.heap.size lay.size zs) := HROW.out
          go_wp2_with (at_make; refine wpList_make_full _ rfl _ _ 23 rfl w.heap.size 5 i0 (.int .u8 0) 1 Try.underlying23 Hi.out Hz0.out Hz1.out _ _ _ _ lay.size rfl rfl (by omega) (by omega) (by rw [Hz2.out]; omega) (by unfold maxLen; omega) (by simpa using hb.size) ?_)
          intro w3 hown3 hg3
          have hb3 := HB0.out.grown hg3 HB0.out.size (fun k h => by simp at h)
          have hrowG := HROW0.out.grown hg3 (by simp)
          have hex := Row.made hown3
          clear hown3 hg3 hcv
          obtain ⟨x, hx⟩ : ∃ x : Int, x = (bits BinOp.or IntKind.i64 (wrap64 (wrap64 (fill[0].toNat : Int) * 256)) (wrap64 (fill[1].toNat : Int))).tmod (lay.size : Int) := ⟨_, rfl⟩
          rw [← hx]
          obtain ⟨kk, hkk, hkl⟩ : ∃ kk : Nat, x = (kk : Int) ∧ kk < lay.size := by rw [hx]; exact place_two fill[0] fill[1] lay.size hpos
          rw [hkk]
          clear hx hkk x
          obtain ⟨bb, hbb⟩ : ∃ bb : Int, bb = (fill[fill.size - 1].toNat : Int) := ⟨_, rfl⟩
          rw [← hbb]
          have hbb0 : 0 ≤ bb := by omega
          have hbb1 : bb ≤ 255 := by rw [hbb]; have := UInt8.toNat_lt fill[fill.size - 1]; omega
          clear hbb
          obtain ⟨g2, hg2⟩ : ∃ g2, g2 = wr.heap.size := ⟨_, rfl⟩
          rw [← hg2]
          rw [← hg2] at hex
          have HEX : Hid (∃ ys, Row w3 w.heap.size g2 lay.size ys ∧ Row w3 w.heap.size w.heap.size lay.size zs ∧ Below w.heap.size w w3 ∧ ∀ j, j < 0 → ys.getD j 0 = zs.getD j 0) := by
            obtain ⟨ys, hys⟩ := hex
            exact ⟨ys, hys, hrowG, hb3, fun j hj => by omega⟩
          have hgg : w.heap.size ≠ g2 := by have := HROW.out.lt; omega
          have hgg2 : w.heap.size ≤ g2 := by rw [hg2]; exact hb.size
          have HZL : Hid (zs.length = lay.size) := HROW.out.1
          clear hex hrowG hb3 HROW0 HB0 HROW hb hg2
          go_wp2
          go_loopw [14] (fun i w4 => ∃ (k2 : Nat) (ys : List UInt8), k2 ≤ lay.size ∧ i = .int .i64 k2 ∧ Row w4 w.heap.size g2 lay.size ys ∧ Row w4 w.heap.size w.heap.size lay.size zs ∧ Below w.heap.size w w4 ∧ ∀ j, j < k2 → ys.getD j 0 = zs.getD j 0) (fun i _ => lay.size - (intOf i).toNat)
          case atStart => obtain ⟨ys, a1, a2, a3, a4⟩ := HEX.out; exact ⟨0, ys, Nat.zero_le _, rfl, a1, a2, a3, a4⟩
          case round =>
            clear HEX
            obtain ⟨k2, ys, hk2, rfl, hy, hzr, hb4, heq⟩ := hrel
            by_cases hk2l : k2 < lay.size
            · have hc1 := hzr.cell k2 hk2l
              have hc2 := hy.cell k2 hk2l
              have hf2' := hy.frozen k2
              have HN : Hid (∃ ys', Row (wr.setCell ⟨g2, k2, none⟩ (.int .u8 ((zs.getD k2 0).toNat : Int))) w.heap.size g2 lay.size ys' ∧ Row (wr.setCell ⟨g2, k2, none⟩ (.int .u8 ((zs.getD k2 0).toNat : Int))) w.heap.size w.heap.size lay.size zs ∧ Below w.heap.size w (wr.setCell ⟨g2, k2, none⟩ (.int .u8 ((zs.getD k2 0).toNat : Int))) ∧ ∀ j, j < k2 + 1 → ys'.getD j 0 = zs.getD j 0) :=
                copied hy hzr hb4 heq hk2l hgg hgg2
              clear hy hzr hb4 heq
              go_wp2
              go_roundw
              case rel => obtain ⟨ys', a1, a2, a3, a4⟩ := HN.out; exact ⟨k2 + 1, ys', by omega, by go_num, a1, a2, a3, a4⟩
              case measure => simp [intOf]; omega
            · obtain rfl : ys = zs := same_of hy.1 HZL.out (fun j hj => heq j (by omega))
              have hc2 := hy.cell kk hkl
              have hf2' := hy.frozen kk
              obtain ⟨S, hS⟩ : ∃ S : ByteArray, S = ⟨(ys.set kk (UInt8.ofNat bb.toNat)).toArray⟩ := ⟨_, rfl⟩
              have hrow' := hy.set kk bb hbb0 hbb1
              have hcv : ∀ nq, (convert 23 9 (.slice (some ⟨g2, 0, none⟩) lay.size lay.size)).run Try.prog ((wr.setCell ⟨g2, kk, none⟩ (.int .u8 bb)).drewN nq) = .ok (.string S) ((wr.setCell ⟨g2, kk, none⟩ (.int .u8 bb)).drewN nq) := by
                intro nq
                rw [hS]
                exact Row.str (wr := (wr.setCell ⟨g2, kk, none⟩ (.int .u8 bb)).drewN nq) (B := w.heap.size) hrow' lay.size
              have hb5 : Below w.heap.size w (wr.setCell ⟨g2, kk, none⟩ (.int .u8 bb)) := hb4.setCell hgg2 _
              have hSl : S.size ≤ maxLen := by rw [hS]; show (ys.set kk _).toArray.size ≤ _; rw [List.size_toArray, List.length_set, HZL.out]; unfold maxLen; omega
              have c6 : ∀ w, Calls Try.prog 6 #[.string S, .string lay] w fun e w' => e = .returned (.bool (admB bb (lay[kk].toNat : Int))) ∧ w' = w := by
                intro w
                rw [← fit_set ys lay kk bb hbb0 hbb1 HZL.out hkl HALL.out, ← hS]
                exact zzfits S lay w hSl (by unfold maxLen; omega)
              have C6 : Hid _ := c6
              clear c6 hSl hS hrow' hy hzr hb4 heq HALL HZL HA HB HGz
              go_wp2
              go_quiet (first | (go_at_call 6; exact Calls.quiet_of_same (C6.out _)) | (go_at_call 9; exact Calls.quiet_of_same (admits_any _ _ _)))
              go_wp2
              go_ret
              exact ⟨by simp, below_drewN hb5 _⟩
        · by_cases hf1 : fill.size = 1
          · have hf1' : ((fill.size : Int) == 1) = true := beq_iff_eq.2 (by omega)
            have i0' : (0 : Int) < (fill.size : Int) := by omega
            have j0 : 0 < fill.size := by omega
            have HF1 : Hid (fill.size = 1) := hf1
            clear hf1
            have HB0 : Hid (Below w.heap.size w wr) := hb
            have HROW0 : Hid (Row wr w.heap.size w.heap.size lay.size zs) := HROW.out
            go_wp2_with (at_make; refine wpList_make_full _ rfl _ _ 23 rfl w.heap.size 5 i0 (.int .u8 0) 1 Try.underlying23 Hi.out Hz0.out Hz1.out _ _ _ _ lay.size rfl rfl (by omega) (by omega) (by rw [Hz2.out]; omega) (by unfold maxLen; omega) (by simpa using hb.size) ?_)
            intro w3 hown3 hg3
            have hb3 := HB0.out.grown hg3 HB0.out.size (fun k h => by simp at h)
            have hrowG := HROW0.out.grown hg3 (by simp)
            have hex := Row.made hown3
            clear hown3 hg3 hcv
            obtain ⟨x, hx⟩ : ∃ x : Int, x = (wrap64 (fill[0].toNat : Int)).tmod (lay.size : Int) := ⟨_, rfl⟩
            rw [← hx]
            obtain ⟨kk, hkk, hkl⟩ : ∃ kk : Nat, x = (kk : Int) ∧ kk < lay.size := by rw [hx]; exact place_one fill[0] lay.size hpos
            rw [hkk]
            clear hx hkk x
            obtain ⟨bb, hbb⟩ : ∃ bb : Int, bb = (fill[fill.size - 1].toNat : Int) := ⟨_, rfl⟩
            rw [← hbb]
            have hbb0 : 0 ≤ bb := by omega
            have hbb1 : bb ≤ 255 := by rw [hbb]; have := UInt8.toNat_lt fill[fill.size - 1]; omega
            clear hbb
            obtain ⟨g2, hg2⟩ : ∃ g2, g2 = wr.heap.size := ⟨_, rfl⟩
            rw [← hg2]
            rw [← hg2] at hex
            have HEX : Hid (∃ ys, Row w3 w.heap.size g2 lay.size ys ∧ Row w3 w.heap.size w.heap.size lay.size zs ∧ Below w.heap.size w w3 ∧ ∀ j, j < 0 → ys.getD j 0 = zs.getD j 0) := by
              obtain ⟨ys, hys⟩ := hex
              exact ⟨ys, hys, hrowG, hb3, fun j hj => by omega⟩
            have hgg : w.heap.size ≠ g2 := by have := HROW.out.lt; omega
            have hgg2 : w.heap.size ≤ g2 := by rw [hg2]; exact hb.size
            have HZL : Hid (zs.length = lay.size) := HROW.out.1
            clear hex hrowG hb3 HROW0 HB0 HROW hb hg2
            go_wp2
            go_loopw [14] (fun i w4 => ∃ (k2 : Nat) (ys : List UInt8), k2 ≤ lay.size ∧ i = .int .i64 k2 ∧ Row w4 w.heap.size g2 lay.size ys ∧ Row w4 w.heap.size w.heap.size lay.size zs ∧ Below w.heap.size w w4 ∧ ∀ j, j < k2 → ys.getD j 0 = zs.getD j 0) (fun i _ => lay.size - (intOf i).toNat)
            case atStart => obtain ⟨ys, a1, a2, a3, a4⟩ := HEX.out; exact ⟨0, ys, Nat.zero_le _, rfl, a1, a2, a3, a4⟩
            case round =>
              clear HEX
              obtain ⟨k2, ys, hk2, rfl, hy, hzr, hb4, heq⟩ := hrel
              by_cases hk2l : k2 < lay.size
              · have hc1 := hzr.cell k2 hk2l
                have hc2 := hy.cell k2 hk2l
                have hf2' := hy.frozen k2
                have HN : Hid (∃ ys', Row (wr.setCell ⟨g2, k2, none⟩ (.int .u8 ((zs.getD k2 0).toNat : Int))) w.heap.size g2 lay.size ys' ∧ Row (wr.setCell ⟨g2, k2, none⟩ (.int .u8 ((zs.getD k2 0).toNat : Int))) w.heap.size w.heap.size lay.size zs ∧ Below w.heap.size w (wr.setCell ⟨g2, k2, none⟩ (.int .u8 ((zs.getD k2 0).toNat : Int))) ∧ ∀ j, j < k2 + 1 → ys'.getD j 0 = zs.getD j 0) :=
                  copied hy hzr hb4 heq hk2l hgg hgg2
                clear hy hzr hb4 heq
                go_wp2
                go_roundw
                case rel => obtain ⟨ys', a1, a2, a3, a4⟩ := HN.out; exact ⟨k2 + 1, ys', by omega, by go_num, a1, a2, a3, a4⟩
                case measure => simp [intOf]; omega
              · obtain rfl : ys = zs := same_of hy.1 HZL.out (fun j hj => heq j (by omega))
                have hc2 := hy.cell kk hkl
                have hf2' := hy.frozen kk
                obtain ⟨S, hS⟩ : ∃ S : ByteArray, S = ⟨(ys.set kk (UInt8.ofNat bb.toNat)).toArray⟩ := ⟨_, rfl⟩
                have hrow' := hy.set kk bb hbb0 hbb1
                have hcv : ∀ nq, (convert 23 9 (.slice (some ⟨g2, 0, none⟩) lay.size lay.size)).run Try.prog ((wr.setCell ⟨g2, kk, none⟩ (.int .u8 bb)).drewN nq) = .ok (.string S) ((wr.setCell ⟨g2, kk, none⟩ (.int .u8 bb)).drewN nq) := by
                  intro nq
                  rw [hS]
                  exact Row.str (wr := (wr.setCell ⟨g2, kk, none⟩ (.int .u8 bb)).drewN nq) (B := w.heap.size) hrow' lay.size
                have hb5 : Below w.heap.size w (wr.setCell ⟨g2, kk, none⟩ (.int .u8 bb)) := hb4.setCell hgg2 _
                have hSl : S.size ≤ maxLen := by rw [hS]; show (ys.set kk _).toArray.size ≤ _; rw [List.size_toArray, List.length_set, HZL.out]; unfold maxLen; omega
                have c6 : ∀ w, Calls Try.prog 6 #[.string S, .string lay] w fun e w' => e = .returned (.bool (admB bb (lay[kk].toNat : Int))) ∧ w' = w := by
                  intro w
                  rw [← fit_set ys lay kk bb hbb0 hbb1 HZL.out hkl HALL.out, ← hS]
                  exact zzfits S lay w hSl (by unfold maxLen; omega)
                have C6 : Hid _ := c6
                clear c6 hSl hS hrow' hy hzr hb4 heq HALL HZL HA HB HGz
                go_wp2
                go_quiet (first | (go_at_call 6; exact Calls.quiet_of_same (C6.out _)) | (go_at_call 9; exact Calls.quiet_of_same (admits_any _ _ _)))
                go_wp2
                go_ret
                exact ⟨by simp, below_drewN hb5 _⟩
          · have hf1' : ((fill.size : Int) == 1) = false := beq_eq_false_iff_ne.2 (by omega)
            have HB0 : Hid (Below w.heap.size w wr) := hb
            have HROW0 : Hid (Row wr w.heap.size w.heap.size lay.size zs) := HROW.out
            go_wp2_with (at_make; refine wpList_make_full _ rfl _ _ 23 rfl w.heap.size 5 i0 (.int .u8 0) 1 Try.underlying23 Hi.out Hz0.out Hz1.out _ _ _ _ lay.size rfl rfl (by omega) (by omega) (by rw [Hz2.out]; omega) (by unfold maxLen; omega) (by simpa using hb.size) ?_)
            intro w3 hown3 hg3
            have hb3 := HB0.out.grown hg3 HB0.out.size (fun k h => by simp at h)
            have hrowG := HROW0.out.grown hg3 (by simp)
            have hex := Row.made hown3
            clear hown3 hg3 hcv
            obtain ⟨x, hx⟩ : ∃ x : Int, x = (lay.size : Int) - 1 := ⟨_, rfl⟩
            rw [← hx]
            obtain ⟨kk, hkk, hkl⟩ : ∃ kk : Nat, x = (kk : Int) ∧ kk < lay.size := by rw [hx]; exact ⟨lay.size - 1, by omega, by omega⟩
            rw [hkk]
            clear hx hkk x
            obtain ⟨bb, hbb⟩ : ∃ bb : Int, bb = 120 := ⟨_, rfl⟩
            rw [← hbb]
            have hbb0 : 0 ≤ bb := by omega
            have hbb1 : bb ≤ 255 := by rw [hbb]; omega
            clear hbb
            obtain ⟨g2, hg2⟩ : ∃ g2, g2 = wr.heap.size := ⟨_, rfl⟩
            rw [← hg2]
            rw [← hg2] at hex
            have HEX : Hid (∃ ys, Row w3 w.heap.size g2 lay.size ys ∧ Row w3 w.heap.size w.heap.size lay.size zs ∧ Below w.heap.size w w3 ∧ ∀ j, j < 0 → ys.getD j 0 = zs.getD j 0) := by
              obtain ⟨ys, hys⟩ := hex
              exact ⟨ys, hys, hrowG, hb3, fun j hj => by omega⟩
            have hgg : w.heap.size ≠ g2 := by have := HROW.out.lt; omega
            have hgg2 : w.heap.size ≤ g2 := by rw [hg2]; exact hb.size
            have HZL : Hid (zs.length = lay.size) := HROW.out.1
            clear hex hrowG hb3 HROW0 HB0 HROW hb hg2
            go_wp2
            go_loopw [14] (fun i w4 => ∃ (k2 : Nat) (ys : List UInt8), k2 ≤ lay.size ∧ i = .int .i64 k2 ∧ Row w4 w.heap.size g2 lay.size ys ∧ Row w4 w.heap.size w.heap.size lay.size zs ∧ Below w.heap.size w w4 ∧ ∀ j, j < k2 → ys.getD j 0 = zs.getD j 0) (fun i _ => lay.size - (intOf i).toNat)
            case atStart => obtain ⟨ys, a1, a2, a3, a4⟩ := HEX.out; exact ⟨0, ys, Nat.zero_le _, rfl, a1, a2, a3, a4⟩
            case round =>
              clear HEX
              obtain ⟨k2, ys, hk2, rfl, hy, hzr, hb4, heq⟩ := hrel
              by_cases hk2l : k2 < lay.size
              · have hc1 := hzr.cell k2 hk2l
                have hc2 := hy.cell k2 hk2l
                have hf2' := hy.frozen k2
                have HN : Hid (∃ ys', Row (wr.setCell ⟨g2, k2, none⟩ (.int .u8 ((zs.getD k2 0).toNat : Int))) w.heap.size g2 lay.size ys' ∧ Row (wr.setCell ⟨g2, k2, none⟩ (.int .u8 ((zs.getD k2 0).toNat : Int))) w.heap.size w.heap.size lay.size zs ∧ Below w.heap.size w (wr.setCell ⟨g2, k2, none⟩ (.int .u8 ((zs.getD k2 0).toNat : Int))) ∧ ∀ j, j < k2 + 1 → ys'.getD j 0 = zs.getD j 0) :=
                  copied hy hzr hb4 heq hk2l hgg hgg2
                clear hy hzr hb4 heq
                go_wp2
                go_roundw
                case rel => obtain ⟨ys', a1, a2, a3, a4⟩ := HN.out; exact ⟨k2 + 1, ys', by omega, by go_num, a1, a2, a3, a4⟩
                case measure => simp [intOf]; omega
              · obtain rfl : ys = zs := same_of hy.1 HZL.out (fun j hj => heq j (by omega))
                have hc2 := hy.cell kk hkl
                have hf2' := hy.frozen kk
                obtain ⟨S, hS⟩ : ∃ S : ByteArray, S = ⟨(ys.set kk (UInt8.ofNat bb.toNat)).toArray⟩ := ⟨_, rfl⟩
                have hrow' := hy.set kk bb hbb0 hbb1
                have hcv : ∀ nq, (convert 23 9 (.slice (some ⟨g2, 0, none⟩) lay.size lay.size)).run Try.prog ((wr.setCell ⟨g2, kk, none⟩ (.int .u8 bb)).drewN nq) = .ok (.string S) ((wr.setCell ⟨g2, kk, none⟩ (.int .u8 bb)).drewN nq) := by
                  intro nq
                  rw [hS]
                  exact Row.str (wr := (wr.setCell ⟨g2, kk, none⟩ (.int .u8 bb)).drewN nq) (B := w.heap.size) hrow' lay.size
                have hb5 : Below w.heap.size w (wr.setCell ⟨g2, kk, none⟩ (.int .u8 bb)) := hb4.setCell hgg2 _
                have hSl : S.size ≤ maxLen := by rw [hS]; show (ys.set kk _).toArray.size ≤ _; rw [List.size_toArray, List.length_set, HZL.out]; unfold maxLen; omega
                have c6 : ∀ w, Calls Try.prog 6 #[.string S, .string lay] w fun e w' => e = .returned (.bool (admB bb (lay[kk].toNat : Int))) ∧ w' = w := by
                  intro w
                  rw [← fit_set ys lay kk bb hbb0 hbb1 HZL.out hkl HALL.out, ← hS]
                  exact zzfits S lay w hSl (by unfold maxLen; omega)
                have C6 : Hid _ := c6
                clear c6 hSl hS hrow' hy hzr hb4 heq HALL HZL HA HB HGz
                go_wp2
                go_quiet (first | (go_at_call 6; exact Calls.quiet_of_same (C6.out _)) | (go_at_call 9; exact Calls.quiet_of_same (admits_any _ _ _)))
                go_wp2
                go_ret
                exact ⟨by simp, below_drewN hb5 _⟩

set_option maxRecDepth 100000 in
theorem fill_any (t l : ByteArray) (w : World) (ht : t.size ≤ maxLen) (hl : l.size ≤ maxLen) :
    Calls Try.prog 4 #[.string t, .string l] w fun e w' => e = .returned (.bool true) ∧ Below w.heap.size w w' := by
  have ht' := ht
  have hl' := hl
  unfold maxLen at ht' hl'
  by_cases h1 : t.size ≤ 65536
  · by_cases h2 : l.size ≤ 65536
    · exact fill_go t l w h1 h2
    · by_cases h : t.size + l.size ≤ 1048576
      · go_enter Try.func4, Try.ntmps4
        go_wp2_with (go_at_call 8; refine (bytes8 t l _ h).mono ?_; rintro e w' ⟨rfl, rfl⟩)
        go_ret
        exact ⟨rfl, Below.refl _ _⟩
      · go_enter Try.func4, Try.ntmps4
        go_wp2_with (go_at_call 8; refine (bytes8_no t l _ ht hl (by omega)).mono ?_; rintro e w' ⟨rfl, rfl⟩)
        go_ret
        exact ⟨rfl, Below.refl _ _⟩
  · by_cases h : t.size + l.size ≤ 1048576
    · go_enter Try.func4, Try.ntmps4
      go_wp2_with (go_at_call 8; refine (bytes8 t l _ h).mono ?_; rintro e w' ⟨rfl, rfl⟩)
      go_ret
      exact ⟨rfl, Below.refl _ _⟩
    · go_enter Try.func4, Try.ntmps4
      go_wp2_with (go_at_call 8; refine (bytes8_no t l _ ht hl (by omega)).mono ?_; rintro e w' ⟨rfl, rfl⟩)
      go_ret
      exact ⟨rfl, Below.refl _ _⟩

end Go.Proofs.Qxb6605401a
