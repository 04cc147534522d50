/-
  THE WALK OF '(*valueEnd).scan' (function 27).
-/
import Derived.Test.Qxb6605313aProg
import Derived.Test.Qxb6605313aScanPlain
import Derived.WalkKit
import Derived.WalkSpells
import Derived.WalkLawsBesides
import Derived.Below
namespace Go.Proofs.Qxb6605313a
open Go.RowKit
set_option linter.unusedVariables false

/-- The three fields of a valueEnd at block g. -/
structure VE (w : World) (g : Nat) (d : Int) (s e : Bool) : Prop where
  c0 : w.cell? ⟨g, 0, none⟩ = some (.int .i64 d)
  c1 : w.cell? ⟨g, 1, none⟩ = some (.bool s)
  c2 : w.cell? ⟨g, 2, none⟩ = some (.bool e)
  f0 : w.frozen? ⟨g, 0, none⟩ = false
  f1 : w.frozen? ⟨g, 1, none⟩ = false
  f2 : w.frozen? ⟨g, 2, none⟩ = false



theorem VE.set0 {w : World} {g : Nat} {d : Int} {s e : Bool} (h : VE w g d s e) (d' : Int) : VE (w.setCell ⟨g, 0, none⟩ (.int .i64 d')) g d' s e :=
  ⟨World.cell?_setCell_same _ _ _ h.c0, (World.cell?_setCell_other _ _ _ _ (by simp)).trans h.c1, (World.cell?_setCell_other _ _ _ _ (by simp)).trans h.c2,
   (World.frozen?_setCell _ _ _ _).trans h.f0, (World.frozen?_setCell _ _ _ _).trans h.f1, (World.frozen?_setCell _ _ _ _).trans h.f2⟩
theorem VE.set1 {w : World} {g : Nat} {d : Int} {s e : Bool} (h : VE w g d s e) (s' : Bool) : VE (w.setCell ⟨g, 1, none⟩ (.bool s')) g d s' e :=
  ⟨(World.cell?_setCell_other _ _ _ _ (by simp)).trans h.c0, World.cell?_setCell_same _ _ _ h.c1, (World.cell?_setCell_other _ _ _ _ (by simp)).trans h.c2,
   (World.frozen?_setCell _ _ _ _).trans h.f0, (World.frozen?_setCell _ _ _ _).trans h.f1, (World.frozen?_setCell _ _ _ _).trans h.f2⟩
theorem VE.set2 {w : World} {g : Nat} {d : Int} {s e : Bool} (h : VE w g d s e) (e' : Bool) : VE (w.setCell ⟨g, 2, none⟩ (.bool e')) g d s e' :=
  ⟨(World.cell?_setCell_other _ _ _ _ (by simp)).trans h.c0, (World.cell?_setCell_other _ _ _ _ (by simp)).trans h.c1, World.cell?_setCell_same _ _ _ h.c2,
   (World.frozen?_setCell _ _ _ _).trans h.f0, (World.frozen?_setCell _ _ _ _).trans h.f1, (World.frozen?_setCell _ _ _ _).trans h.f2⟩

/-- How a return is closed. -/
theorem fin_ret {R : Nat × Bool × Int × Bool × Bool} {k : Nat} {en : Bool} {d : Int} {s e : Bool} {g : Nat} {w w' : World} {x : Int} (hR : R = (k, en, d, s, e)) (hx : x = (k : Int)) (hv : VE w' g d s e) (hb : Below g w w') :
    Ending.returned (.tuple #[.int .i64 x, .bool en]) = .returned (.tuple #[.int .i64 R.1, .bool R.2.1]) ∧ VE w' g R.2.2.1 R.2.2.2.1 R.2.2.2.2 ∧ Below g w w' := by
  subst hR; subst hx; exact ⟨rfl, hv, hb⟩

set_option maxHeartbeats 1000000 in
set_option maxRecDepth 100000 in
theorem scan_row (g : Nat) (b off len cap : Nat) (zs : List Int) (d0 : Int) (s0 e0 : Bool) (w : World) (hb : b < g) (hlen : len ≤ 1048576) (hz : zs.length = len)
    (hc : ∀ k, k < len → w.cell? ⟨b, off + k, none⟩ = some (.int .u8 (zs.getD k 0))) (hv : VE w g d0 s0 e0) (R : Nat × Bool × Int × Bool × Bool) (hR : scanL zs 0 d0 s0 e0 = R) :
    Calls Try.prog 27 #[.pointer (some ⟨g, 0, none⟩), .slice (some ⟨b, off, none⟩) len cap] w fun e w' =>
      e = .returned (.tuple #[.int .i64 R.1, .bool R.2.1]) ∧ VE w' g R.2.2.1 R.2.2.2.1 R.2.2.2.2 ∧ Below g w w' := by
  have HZ : Hid (zs.length = len) := hz
  have HC : Hid (∀ k, k < len → w.cell? ⟨b, off + k, none⟩ = some (.int .u8 (zs.getD k 0))) := hc
  have HR : Hid (scanL zs 0 d0 s0 e0 = R) := hR
  have HV : Hid (VE w g d0 s0 e0) := hv
  clear hz hc hR hv
  go_enter Try.func27, Try.ntmps27
  go_wp2
  go_loopw [6] (fun i wr => ∃ (k : Nat) (d : Int) (s e : Bool), k ≤ len ∧ i = .int .i64 k ∧ VE wr g d s e ∧ Below g w wr ∧ scanAt zs k d s e = R) (fun i _ => len - (intOf i).toNat)
  case atStart => exact ⟨0, d0, s0, e0, Nat.zero_le _, rfl, HV.out, Below.refl _ _, HR.out⟩
  case round =>
    obtain ⟨k, d, s, e, hk, rfl, hve, hbel, hrest⟩ := hrel
    have HRest : Hid (scanAt zs k d s e = R) := hrest
    clear hrest
    have HVE : Hid (VE wr g d s e) := hve
    obtain ⟨c0, c1, c2, f0, f1, f2⟩ := hve
    by_cases hlt : k < len
    · obtain ⟨c, hc⟩ : ∃ c, c = zs.getD k 0 := ⟨_, rfl⟩
      have hcell : wr.cell? ⟨b, off + k, none⟩ = some (.int .u8 c) := by rw [hbel.cell (by exact hb), hc]; exact HC.out k hlt
      have HCD : Hid (c = zs.getD k 0) := hc
      clear hc
      have hkz : Hid (k < zs.length) := by have := HZ.out; show k < zs.length; omega
      cases s
      · go_wp2
        all_goals first
          | (go_roundw
             case rel =>
               first
                 | exact ⟨k + 1, d, true, e, by omega, by go_num, HVE.out.set1 _, hbel.setCell (Nat.le_refl _) _, (st_quote hkz.out HCD.out (by assumption)).symm.trans HRest.out⟩
                 | exact ⟨k + 1, _, false, e, by omega, by go_num, HVE.out.set0 _, hbel.setCell (Nat.le_refl _) _, (st_open1 hkz.out HCD.out (by assumption) (by assumption)).symm.trans HRest.out⟩
                 | exact ⟨k + 1, _, false, e, by omega, by go_num, HVE.out.set0 _, hbel.setCell (Nat.le_refl _) _, (st_open2 hkz.out HCD.out (by assumption) (by assumption)).symm.trans HRest.out⟩
                 | exact ⟨k + 1, _, false, e, by omega, by go_num, HVE.out.set0 _, hbel.setCell (Nat.le_refl _) _, (st_close1 hkz.out HCD.out (by assumption) (by assumption)).symm.trans HRest.out⟩
                 | exact ⟨k + 1, _, false, e, by omega, by go_num, HVE.out.set0 _, hbel.setCell (Nat.le_refl _) _, (st_close2 hkz.out HCD.out (by assumption) (by assumption)).symm.trans HRest.out⟩
                 | exact ⟨k + 1, d, false, e, by omega, by go_num, HVE.out, hbel, (st_inner hkz.out HCD.out (by simp only [*]; simp) (by assumption)).symm.trans HRest.out⟩
                 | exact ⟨k + 1, d, false, e, by omega, by go_num, HVE.out, hbel, (st_plain hkz.out HCD.out (by assumption) (by assumption) (by assumption) (by assumption) (by assumption) (by assumption) (by assumption) (by assumption) (by assumption)).symm.trans HRest.out⟩
             case measure => simp [intOf]; omega)
          | (go_ret2
             first
               | exact fin_ret (HRest.out.symm.trans (st_done1 hkz.out HCD.out (by assumption) (by assumption))) (by omega) (HVE.out.set0 _) (hbel.setCell (Nat.le_refl _) _)
               | exact fin_ret (HRest.out.symm.trans (st_done2 hkz.out HCD.out (by assumption) (by assumption))) (by omega) (HVE.out.set0 _) (hbel.setCell (Nat.le_refl _) _)
               | exact fin_ret (HRest.out.symm.trans (st_space hkz.out HCD.out (by simp only [*]; simp) (by assumption))) (by omega) HVE.out hbel)
      · cases e
        · go_wp2
          go_loopw [6] (fun i wi => ∃ (j : Nat), k ≤ j ∧ j ≤ len ∧ i = .int .i64 j ∧ wi = wr ∧ scanAt zs j d true false = R) (fun i _ => len - (intOf i).toNat)
          case atStart => exact ⟨k, Nat.le_refl _, hk, rfl, rfl, HRest.out⟩
          case round =>
            obtain ⟨j, hkj, hjl, rfl, rfl, hrest2⟩ := hrel
            have HRest2 : Hid (scanAt zs j d true false = R) := hrest2
            clear hrest2 hcell
            by_cases hjt : j < len
            · obtain ⟨c', hc'⟩ : ∃ c', c' = zs.getD j 0 := ⟨_, rfl⟩
              have hcell' : wr.cell? ⟨b, off + j, none⟩ = some (.int .u8 c') := by rw [hbel.cell (by exact hb), hc']; exact HC.out j hjt
              have HCD' : Hid (c' = zs.getD j 0) := hc'
              clear hc'
              have hjz : Hid (j < zs.length) := by have := HZ.out; show j < zs.length; omega
              have HVE' : ∀ x : Bool, Hid (VE ((wr.setCell ⟨g, 2, none⟩ (.bool x)).setCell ⟨g, 1, none⟩ (.bool x)) g d x x) := fun x => (HVE.out.set2 x).set1 x
              have HBel' : ∀ x : Bool, Hid (Below g w ((wr.setCell ⟨g, 2, none⟩ (.bool x)).setCell ⟨g, 1, none⟩ (.bool x))) := fun x => (hbel.setCell (Nat.le_refl _) _).setCell (Nat.le_refl _) _
              go_wp2
              · go_roundw
                case rel =>
                  have hq : c' = 34 := by assumption
                  exact ⟨j + 1, d, false, false, by omega, by go_num, (HVE' false).out, (HBel' false).out, (st_shut hjz.out HCD'.out (by simp [hq])).symm.trans HRest2.out⟩
                case measure => simp [intOf]; omega
              · go_roundw
                case rel =>
                  have hq : (c' != 34) = true ∧ (c' != 92) = true := by assumption
                  exact ⟨j + 1, by omega, by omega, by go_num, trivial, (st_in hjz.out HCD'.out hq.1 hq.2).symm.trans HRest2.out⟩
                case measure => simp [intOf]; omega
              · go_roundw
                case rel =>
                  have hq1 : ¬ c' = 34 := by assumption
                  have hq : (c' != 34) = false ∨ (c' != 92) = false := by assumption
                  have h92 : (c' == 92) = true := by simp at hq ⊢; omega
                  rw [h92]
                  exact ⟨j + 1, d, true, true, by omega, by go_num, (HVE' true).out, (HBel' true).out, (st_back hjz.out HCD'.out h92).symm.trans HRest2.out⟩
                case measure => simp [intOf]; omega
            · go_wp2
              go_ret2
              exact fin_ret (HRest2.out.symm.trans (scanAt_end zs j d true false (by have := HZ.out; omega))) (by omega) HVE.out hbel
        · go_wp2
          go_roundw
          case rel => exact ⟨k + 1, d, true, false, by omega, by go_num, HVE.out.set2 _, hbel.setCell (Nat.le_refl _) _, (st_esc hkz.out).symm.trans HRest.out⟩
          case measure => simp [intOf]; omega
    · go_wp2
      go_ret2
      exact fin_ret (HRest.out.symm.trans (scanAt_end zs k d s e (by have := HZ.out; omega))) (by omega) HVE.out hbel
end Go.Proofs.Qxb6605313a
