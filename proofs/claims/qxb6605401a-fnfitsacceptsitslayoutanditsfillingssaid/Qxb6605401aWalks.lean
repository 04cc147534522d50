/-
  THE WALKS: 'fits' (10), 'ZZfits' (6), 'zzAdmits' (9), 'zzFitsModel' (7), the bounds (5, 8).
-/
import Derived.Test.Qxb6605401aProg
import Derived.Test.Qxb6605401aPlain
import Derived.WalkKit
import Derived.WalkSpells
import Derived.WalkLawsBesides
import Derived.Below
import Derived.Deep.Light
import Derived.BigQuiet
import Derived.Deep.QuietTactic
namespace Go.Proofs.Qxb6605401a
open Go.RowKit
set_option linter.unusedVariables false

theorem bts_at (s : ByteArray) (k : Nat) (h : k < s.size) : (bts s).getD k 0 = (s[k].toNat : Int) := by
  have h' : k < s.data.toList.length := by simpa using h
  simp [bts, List.getD, h, ByteArray.getElem_eq_getElem_data]
theorem length_bts (s : ByteArray) : (bts s).length = s.size := by simp [bts]

theorem ret_bool {a b : Bool} {w : World} (h : a = b) : Ending.returned (.bool a) = .returned (.bool b) ∧ w = w := by rw [h]; exact ⟨rfl, rfl⟩

theorem admits_any (c l : Int) (w : World) : Calls Try.prog 9 #[.int .u8 c, .int .u8 l] w fun e w' => e = .returned (.bool (admB c l)) ∧ w' = w := by
  go_enter Try.func9, Try.ntmps9
  go_wp2
  all_goals
    go_ret
    refine ret_bool ?_
    go_light
    rw [Bool.eq_iff_iff]
    unfold admB
    simp_all
    try omega

set_option maxHeartbeats 400000 in
theorem fits_any (t l : ByteArray) (w : World) (ht : t.size ≤ maxLen) (hl : l.size ≤ maxLen) : Calls Try.prog 10 #[.string t, .string l] w fun e w' => e = .returned (.bool (fitL (bts t) (bts l))) ∧ w' = w := by
  unfold maxLen at ht hl
  by_cases hne : t.size = l.size
  · have hb : ((t.size : Int) != (l.size : Int)) = false := by simp; omega
    have HNE : Hid (t.size = l.size) := hne
    obtain ⟨R, hR⟩ : ∃ R, fitL (bts t) (bts l) = R := ⟨_, rfl⟩
    rw [hR]
    have HR : Hid (fitL (bts t) (bts l) = R) := hR
    clear hR hne
    go_enter Try.func10, Try.ntmps10
    go_wp2
    go_loop [5, 6, 14] (fun _ _ i => ∃ k : Nat, k ≤ l.size ∧ i = .int .i64 k ∧ ∀ j, j < k → admB ((bts t).getD j 0) ((bts l).getD j 0) = true) (fun _ _ i => l.size - (intOf i).toNat)
    case atStart => exact ⟨0, Nat.zero_le _, rfl, fun j hj => by omega⟩
    case round =>
      obtain ⟨k, hk, rfl, hall⟩ := hrel
      have HA : Hid (∀ j, j < k → admB ((bts t).getD j 0) ((bts l).getD j 0) = true) := hall
      clear hall
      by_cases hlt : k < l.size
      · have hlt2 : k < t.size := by have := HNE.out; omega
        have hyes : Hid (admB (t[k].toNat : Int) (l[k].toNat : Int) = true → ∀ j, j < k + 1 → admB ((bts t).getD j 0) ((bts l).getD j 0) = true) := by
          intro h j hj
          by_cases e : j = k
          · subst e; rw [bts_at t j hlt2, bts_at l j hlt]; exact h
          · exact HA.out j (by omega)
        have hno : Hid (admB (t[k].toNat : Int) (l[k].toNat : Int) = false → R = false) := by
          intro h
          rw [← HR.out]
          refine fitL_miss (i := k) (by rw [length_bts]; exact hlt) ?_
          rw [bts_at t k hlt2, bts_at l k hlt]; exact h
        go_wp2
        all_goals first
          | (go_round
             case rel => exact ⟨k + 1, by omega, by go_num, hyes.out (by go_light; unfold admB; simp_all; try omega)⟩
             case measure => simp [intOf]; omega)
          | (go_ret
             exact ret_bool (hno.out (by go_light; unfold admB; simp_all; try omega)).symm)
      · go_wp2
        go_ret
        refine ret_bool ?_
        rw [← HR.out]
        refine ((fitL_iff _ _).2 ⟨by rw [length_bts, length_bts]; exact HNE.out, fun i hi => HA.out i ?_⟩).symm
        rw [length_bts] at hi; omega
  · have hb : ((t.size : Int) != (l.size : Int)) = true := by simp; omega
    have hf : fitL (bts t) (bts l) = false := fitL_ne (by rw [length_bts, length_bts]; exact hne)
    rw [hf]
    clear hf hne
    go_enter Try.func10, Try.ntmps10
    go_wp2
    go_ret
    exact ⟨rfl, rfl⟩

theorem zzfits (t l : ByteArray) (w : World) (ht : t.size ≤ maxLen) (hl : l.size ≤ maxLen) : Calls Try.prog 6 #[.string t, .string l] w fun e w' => e = .returned (.bool (fitL (bts t) (bts l))) ∧ w' = w := by
  go_enter Try.func6, Try.ntmps6
  go_wp2_with (go_at_call 10; refine (fits_any t l _ ht hl).mono ?_; rintro e w' ⟨rfl, rfl⟩)
  go_ret
  exact ⟨rfl, rfl⟩

theorem bytes5 (t l : ByteArray) (w : World) (h : t.size + l.size ≤ 1048576) : Calls Try.prog 5 #[.string t, .string l] w fun e w' => e = .returned (.bool true) ∧ w' = w := by
  go_enter Try.func5, Try.ntmps5
  go_wp2
  go_ret
  exact ⟨rfl, rfl⟩
theorem bytes5_no (t l : ByteArray) (w : World) (ht : t.size ≤ maxLen) (hl : l.size ≤ maxLen) (h : 1048576 < t.size + l.size) : Calls Try.prog 5 #[.string t, .string l] w fun e w' => e = .returned (.bool false) ∧ w' = w := by
  unfold maxLen at ht hl
  go_enter Try.func5, Try.ntmps5
  go_wp2
  all_goals (go_ret; exact ⟨rfl, rfl⟩)
theorem bytes8 (t l : ByteArray) (w : World) (h : t.size + l.size ≤ 1048576) : Calls Try.prog 8 #[.string t, .string l] w fun e w' => e = .returned (.bool true) ∧ w' = w := by
  go_enter Try.func8, Try.ntmps8
  go_wp2
  go_ret
  exact ⟨rfl, rfl⟩
theorem bytes8_no (t l : ByteArray) (w : World) (ht : t.size ≤ maxLen) (hl : l.size ≤ maxLen) (h : 1048576 < t.size + l.size) : Calls Try.prog 8 #[.string t, .string l] w fun e w' => e = .returned (.bool false) ∧ w' = w := by
  unfold maxLen at ht hl
  go_enter Try.func8, Try.ntmps8
  go_wp2
  all_goals (go_ret; exact ⟨rfl, rfl⟩)

set_option maxHeartbeats 400000 in
theorem model_any (t l : ByteArray) (w : World) (ht : t.size ≤ maxLen) (hl : l.size ≤ maxLen) : Calls Try.prog 7 #[.string t, .string l] w fun e w' => e = .returned (.bool (fitL (bts t) (bts l))) ∧ Below w.heap.size w w' := by
  unfold maxLen at ht hl
  by_cases hne : t.size = l.size
  · have hb : ((t.size : Int) != (l.size : Int)) = false := by simp; omega
    have HNE : Hid (t.size = l.size) := hne
    obtain ⟨R, hR⟩ : ∃ R, fitL (bts t) (bts l) = R := ⟨_, rfl⟩
    rw [hR]
    have HR : Hid (fitL (bts t) (bts l) = R) := hR
    clear hR hne
    go_enter Try.func7, Try.ntmps7
    go_wp2
    go_loopw [5] (fun i wr => ∃ k : Nat, k ≤ t.size ∧ i = .int .i64 k ∧ (∀ j, k ≤ j → j < t.size → admB ((bts t).getD j 0) ((bts l).getD j 0) = true) ∧ Below w.heap.size w wr) (fun i _ => (intOf i).toNat)
    case atStart => exact ⟨t.size, Nat.le_refl _, rfl, fun j h1 h2 => by omega, Below.refl _ _⟩
    case round =>
      obtain ⟨k', hk, rfl, hall, hbel⟩ := hrel
      have HA : Hid (∀ j, k' ≤ j → j < t.size → admB ((bts t).getD j 0) ((bts l).getD j 0) = true) := hall
      clear hall
      by_cases hlt : 0 < k'
      · obtain ⟨k, rfl⟩ : ∃ k, k' = k + 1 := ⟨k' - 1, by omega⟩
        have hkl : (k : Int) < (l.size : Int) := by have := HNE.out; omega
        have hkt : (k : Int) < (t.size : Int) := by omega
        have hkt' : k < t.size := by omega
        have hkl' : k < l.size := by omega
        have hyes : Hid (admB (t[k].toNat : Int) (l[k].toNat : Int) = true → ∀ j, k ≤ j → j < t.size → admB ((bts t).getD j 0) ((bts l).getD j 0) = true) := by
          intro h j hj hj2
          by_cases e : j = k
          · subst e; rw [bts_at t j hkt', bts_at l j hkl']; exact h
          · exact HA.out j (by omega) hj2
        have hno : Hid (admB (t[k].toNat : Int) (l[k].toNat : Int) = false → R = false) := by
          intro h
          rw [← HR.out]
          refine fitL_miss (i := k) (by rw [length_bts]; exact hkl') ?_
          rw [bts_at t k hkt', bts_at l k hkl']; exact h
        obtain ⟨x, hx⟩ : ∃ x, admB (t[k].toNat : Int) (l[k].toNat : Int) = x := ⟨_, rfl⟩
        have HX : Hid (admB (t[k].toNat : Int) (l[k].toNat : Int) = x) := hx
        clear hx
        go_wp2
        go_quiet ((go_at_call 9; exact Calls.quiet_of_same (admits_any _ _ _)))
        rw [HX.out]
        cases x
        · go_wp2
          go_ret
          exact ⟨(ret_bool (w := w) (hno.out HX.out).symm).1, below_drewN hbel _⟩
        · go_wp2
          go_roundw
          case rel => exact ⟨k, by omega, rfl, hyes.out HX.out, below_drewN hbel _⟩
          case measure => simp [intOf]
      · go_wp2
        go_ret
        refine ⟨(ret_bool (w := w) ?_).1, hbel⟩
        rw [← HR.out]
        refine ((fitL_iff _ _).2 ⟨by rw [length_bts, length_bts]; exact HNE.out, fun i hi => HA.out i (by omega) ?_⟩).symm
        rw [length_bts] at hi; have := HNE.out; omega
  · have hb : ((t.size : Int) != (l.size : Int)) = true := by simp; omega
    have hf : fitL (bts t) (bts l) = false := fitL_ne (by rw [length_bts, length_bts]; exact hne)
    rw [hf]
    clear hf hne
    go_enter Try.func7, Try.ntmps7
    go_wp2
    go_ret
    exact ⟨rfl, Below.refl _ _⟩
end Go.Proofs.Qxb6605401a
