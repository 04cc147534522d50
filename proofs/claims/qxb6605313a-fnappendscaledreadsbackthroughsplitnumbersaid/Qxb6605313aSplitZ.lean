/-
  'ZZSplitNumber' (function 13) BY CONTRACT.
-/
import Derived.Test.Qxb6605313aSplitWalk
namespace Go.Proofs.Qxb6605313a
open Go.RowKit
set_option linter.unusedVariables false
set_option linter.unusedSimpArgs false

theorem bytes_eq {a b : ByteArray} (h : a.data.toList = b.data.toList) : a = b := by
  obtain ⟨⟨l⟩⟩ := a
  obtain ⟨⟨m⟩⟩ := b
  simp at h
  rw [h]

theorem zzsplit_none (s : ByteArray) (w : World) (hs : s.size ≤ 1048576) (hR : sAll ((s.size : Int) + 1048576) s.data.toList = none) :
    Calls Try.prog 13 #[.string s] w fun e w' => e = .returned (.tuple #[.bool false, .string ⟨#[]⟩, .int .i64 0, .bool false]) ∧ Below w.heap.size w w' := by
  have C : Hid (∀ w, Calls Try.prog 23 #[.string s] w fun e w' => e = .returned (.tuple #[.bool false, .string ⟨#[]⟩, .int .i64 0, .bool false]) ∧ Below w.heap.size w w') := by
    intro w
    refine (split_any s w hs).mono ?_
    rintro e w' ⟨h, hb⟩
    rw [hR] at h
    exact ⟨h, hb⟩
  clear hR
  go_enter Try.func13, Try.ntmps13
  go_wp2_with fail
  refine (C.out _).mono ?_
  rintro e w' ⟨rfl, hb⟩
  go_wp2
  refine bodyPost_ret (results_tmp4 rfl _ _ _) rfl ?_
  exact ⟨rfl, hb⟩

theorem zzsplit_some (s : ByteArray) (w : World) (hs : s.size ≤ 1048576) (neg : Bool) (L : List UInt8) (x : Int) (hR : sAll ((s.size : Int) + 1048576) s.data.toList = some (neg, L, x)) :
    Calls Try.prog 13 #[.string s] w fun e w' => e = .returned (.tuple #[.bool neg, .string ⟨L.toArray⟩, .int .i64 x, .bool true]) ∧ Below w.heap.size w w' := by
  obtain ⟨t, ht⟩ : ∃ t : ByteArray, t = ⟨L.toArray⟩ := ⟨_, rfl⟩
  rw [← ht]
  have C : Hid (∀ w, Calls Try.prog 23 #[.string s] w fun e w' => e = .returned (.tuple #[.bool neg, .string t, .int .i64 x, .bool true]) ∧ Below w.heap.size w w') := by
    intro w
    refine (split_any s w hs).mono ?_
    rintro e w' ⟨h, hb⟩
    rw [hR] at h
    obtain ⟨t', h1, h2⟩ := h
    have : t' = t := bytes_eq (by rw [h1, ht])
    rw [this] at h2
    exact ⟨h2, hb⟩
  clear hR ht
  go_enter Try.func13, Try.ntmps13
  go_wp2_with fail
  refine (C.out _).mono ?_
  rintro e w' ⟨rfl, hb⟩
  go_wp2
  refine bodyPost_ret (results_tmp4 rfl _ _ _) rfl ?_
  exact ⟨rfl, hb⟩
end Go.Proofs.Qxb6605313a
