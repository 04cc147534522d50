/-
  'FnSplitNumberMatchesGrammarModel' (function 5).
-/
import Derived.Test.Qxb6605313aSplitZ
import Derived.Test.Qxb6605313aNumModel
namespace Go.Proofs.Qxb6605313a
open Go.RowKit
set_option linter.unusedVariables false
set_option linter.unusedSimpArgs false

theorem bytes16 (s : ByteArray) (w : World) (h : s.size ≤ 1048576) : Calls Try.prog 16 #[.string s] w fun e w' => e = .returned (.bool true) ∧ w' = w := by
  go_enter Try.func16, Try.ntmps16
  go_wp2
  go_ret
  exact ⟨rfl, rfl⟩
theorem bytes16_no (s : ByteArray) (w : World) (hm : s.size ≤ maxLen) (h : 1048576 < s.size) : Calls Try.prog 16 #[.string s] w fun e w' => e = .returned (.bool false) ∧ w' = w := by
  unfold maxLen at hm
  go_enter Try.func16, Try.ntmps16
  go_wp2
  go_ret
  exact ⟨rfl, rfl⟩

set_option maxHeartbeats 400000 in
theorem gram_any (s : ByteArray) (w : World) (hm : s.size ≤ maxLen) :
    Calls Try.prog 5 #[.string s] w fun e w' => e = .returned (.bool true) ∧ Below w.heap.size w w' := by
  by_cases h : s.size ≤ 1048576
  · have hlaw := all_eq ((s.size : Int) + 1048576) (by omega) (by omega) s.data.toList
    cases hR : sAll ((s.size : Int) + 1048576) s.data.toList with
    | none =>
      have C13 := hidden (fun w => zzsplit_none s w h hR)
      have C17 : Hid (∀ w, Calls Try.prog 17 #[.string s] w fun e w' => e = .returned (.tuple #[.bool false, .string ⟨#[]⟩, .int .i64 0, .bool false]) ∧ w' = w) := by
        intro w
        refine (numModel_any s w h).mono ?_
        rintro e w' ⟨h1, hb⟩
        rw [← hlaw, hR] at h1
        exact ⟨h1, hb⟩
      clear hR hlaw
      go_enter Try.func5, Try.ntmps5
      go_wp2_with (go_at_call 16; refine (bytes16 s _ h).mono ?_; rintro e w' ⟨rfl, hw'⟩; subst w')
      refine (C13.out _).mono ?_
      rintro e w1 ⟨rfl, hb⟩
      go_wp2_with fail
      refine (C17.out _).mono ?_
      rintro e w2 ⟨rfl, rfl⟩
      go_wp2
      go_ret
      exact ⟨by simp, hb⟩
    | some r =>
      obtain ⟨neg, L, x⟩ := r
      obtain ⟨t, ht⟩ : ∃ t : ByteArray, t = ⟨L.toArray⟩ := ⟨_, rfl⟩
      have C13 : Hid (∀ w, Calls Try.prog 13 #[.string s] w fun e w' => e = .returned (.tuple #[.bool neg, .string t, .int .i64 x, .bool true]) ∧ Below w.heap.size w w') := by
        intro w; rw [ht]; exact zzsplit_some s w h neg L x hR
      have C17 : Hid (∀ w, Calls Try.prog 17 #[.string s] w fun e w' => e = .returned (.tuple #[.bool neg, .string t, .int .i64 x, .bool true]) ∧ w' = w) := by
        intro w
        refine (numModel_any s w h).mono ?_
        rintro e w' ⟨h1, hb⟩
        rw [← hlaw, hR] at h1
        obtain ⟨t', g1, g2⟩ := h1
        have : t' = t := bytes_eq (by rw [g1, ht])
        rw [this] at g2
        exact ⟨g2, hb⟩
      clear hR hlaw ht
      go_enter Try.func5, Try.ntmps5
      go_wp2_with (go_at_call 16; refine (bytes16 s _ h).mono ?_; rintro e w' ⟨rfl, hw'⟩; subst w')
      refine (C13.out _).mono ?_
      rintro e w1 ⟨rfl, hb⟩
      go_wp2_with fail
      refine (C17.out _).mono ?_
      rintro e w2 ⟨rfl, rfl⟩
      go_wp2
      go_ret
      exact ⟨by simp, hb⟩
  · go_enter Try.func5, Try.ntmps5
    go_wp2_with (go_at_call 16; refine (bytes16_no s _ hm (by omega)).mono ?_; rintro e w' ⟨rfl, rfl⟩)
    go_ret
    exact ⟨rfl, Below.refl _ _⟩
end Go.Proofs.Qxb6605313a
