/-
  'slices.Grow' (26) AT A SLICE WITHOUT SPARE ROOM: after the guide's own contract of slices.Grow.
-/
import Derived.Test.Qxb6003656aCommon
import Derived.Lib.AppendZerosOnto
import Derived.Lib.Walk
import Derived.Lib.SliceRun
namespace Go.Proofs.Qxb6003656a
open Go.RowKit Go.Lib
set_option linter.unusedVariables false
set_option linter.unusedSimpArgs false

set_option maxHeartbeats 2000000 in
set_option maxRecDepth 100000 in
theorem grow_zero (a : Option Addr) (l : Nat) (w : World) (hl : l ≤ 1048576) :
    Calls Try.prog 26 #[.slice a l l, .int .i64 0] w fun e w' => e = .returned (.slice a l l) ∧ w' = w := by
  go_enter Try.func26, Try.ntmps26
  go_wp2
  go_ret
  exact ⟨rfl, rfl⟩

set_option maxHeartbeats 4000000 in
set_option maxRecDepth 100000 in
theorem grow_walk (base : Option Addr) (l n G : Nat) (X : Array Value) (w : World) (hl : l ≤ 1048576) (hn : 0 < n) (hn2 : n ≤ 1048576) (hnil : base = none → l = 0) (hGn : l + n ≤ G) (hG63 : G ≤ 9223372036854775807)
    (hrz : ∀ ty, (Builtin.append_ #[22, 3] ty #[.slice base l l, .int .i64 (n : Int)]).run Try.prog w = .ok (.slice (some ⟨w.heap.size, 0, none⟩) (l + n) G) (w.drew.alloc (.cells X 3))) :
    Calls Try.prog 26 #[.slice base l l, .int .i64 (n : Int)] w fun e w' => e = .returned (.slice (some ⟨w.heap.size, 0, none⟩) l G) ∧ w' = w.drew.alloc (.cells X 3) := by
  go_enter Try.func26, Try.ntmps26
  cases base with
  | none =>
    have h0 := hnil rfl
    subst h0
    go_wp2_with (at_builtin; refine Lib.wpList_append_run _ rfl _ _ _ _ rfl _ _ rfl rfl _ _ (hrz _) ?_)
    all_goals (go_ret; exact ⟨rfl, rfl⟩)
  | some a =>
    obtain ⟨ab, ao, asp⟩ := a
    go_wp2_with (at_builtin; refine Lib.wpList_append_run _ rfl _ _ _ _ rfl _ _ rfl rfl _ _ (hrz _) ?_)
    all_goals (go_ret; exact ⟨rfl, rfl⟩)

theorem grow_some (base : Option Addr) (l n : Nat) (zs : List Int) (w : World) (hl : l ≤ 1048576) (hn : 0 < n) (hn2 : n ≤ 1048576) (hin : ComesIn .i64 w base l l zs) :
    Calls Try.prog 26 #[.slice base l l, .int .i64 (n : Int)] w fun e w' => ∃ v, e = .returned v ∧ Ow 3 .i64 w' w.heap.size v zs ∧ Below w.heap.size w w' := by
  obtain ⟨i0, hi0, hz0, hs1, hby⟩ := info_parts Try.info3
  have hcl : (ncells .i64 zs).length = l := by rw [length_ncells]; exact hin.2.1
  have hnil : base = none → l = 0 := fun h => (hin.1 h).1
  have hold : (Builtin.firstCells i0.size l (.slice base l l)).run Try.prog w.drew = .ok (ncells .i64 zs).toArray w.drew := by
    rw [hs1]
    cases base with
    | none =>
      have h0 := hnil rfl
      subst h0
      have hc0 : ncells .i64 zs = [] := List.length_eq_zero_iff.1 hcl
      rw [hc0]
      exact run_firstCells_none w.drew 1 0 0 0
    | some a => exact run_firstCells_some w.drew 1 l a l l _ (by omega) (fun j v hj => hin.2.cells j v hj)
  have hGn : l + n ≤ grownCap w (l + n) l 3 := grownCap_ge w _ _ _
  have hG63 := grownCap_le_maxLen w (l + n) l 3 (by unfold maxLen; omega)
  have hrz : ∀ ty, (Builtin.append_ #[22, 3] ty #[.slice base l l, .int .i64 (n : Int)]).run Try.prog w =
      .ok (.slice (some ⟨w.heap.size, 0, none⟩) (l + n) (grownCap w (l + n) l 3)) (w.drew.alloc (.cells ((ncells .i64 zs).toArray ++ Builtin.zeroCells (Value.cells (.int .i64 0)) n ++ Builtin.zeroCells (Value.cells (.int .i64 0)) (grownCap w (l + n) l 3 - (l + n))) 3)) := fun ty =>
    Lib.run_append_grow_zeros w 22 3 ty 3 i0 (.int .i64 0) .i64 .i64 Try.underlying22 Try.underlying3 hi0 hz0 base l l _ hold n hn (by omega) (by omega) (by omega) (by rw [hby]; omega) (growslice_fits (by omega) (by rw [hby]; omega))
  refine (grow_walk base l n _ _ w hl hn hn2 hnil hGn (by unfold maxLen at hG63; omega) hrz).mono ?_
  rintro e w' ⟨rfl, rfl⟩
  refine ⟨_, rfl, ⟨by rw [length_ncells]; omega, .inr ⟨w.heap.size, _, _, ?_, Nat.le_refl _, heap_alloc_new w.drew _, ?_, hG63, ?_, ?_⟩⟩, (Below.refl _ _).drew.alloc (Nat.le_refl _) _⟩
  · rw [hin.2.1]
  · rw [hin.2.1]; omega
  · simp only [Array.size_append, List.size_toArray, size_zeroCells, hcl]
    have e1 : (Value.cells (.int .i64 0)).size = 1 := rfl
    rw [e1]; omega
  · rw [hin.2.1, Nat.mul_one, Array.toList_append, Array.toList_append, List.append_assoc]
    simp only [List.toList_toArray]
    rw [← hcl]; exact List.take_left
end Go.Proofs.Qxb6003656a
