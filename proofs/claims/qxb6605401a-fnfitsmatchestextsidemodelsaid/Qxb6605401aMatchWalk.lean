/-
  'FnFitsMatchesTextSideModel' (function 3).
-/
import Derived.Test.Qxb6605401aWalks
namespace Go.Proofs.Qxb6605401a
open Go.RowKit
set_option linter.unusedVariables false

set_option maxHeartbeats 400000 in
theorem match_any (t l : ByteArray) (w : World) (ht : t.size ≤ maxLen) (hl : l.size ≤ maxLen) :
    Calls Try.prog 3 #[.string t, .string l] w fun e w' => e = .returned (.bool true) ∧ Below w.heap.size w w' := by
  have ht' := ht
  have hl' := hl
  unfold maxLen at ht' hl'
  by_cases h : t.size + l.size ≤ 1048576
  · obtain ⟨R, hR⟩ : ∃ R, fitL (bts t) (bts l) = R := ⟨_, rfl⟩
    have c6 : ∀ w, Calls Try.prog 6 #[.string t, .string l] w fun e w' => e = .returned (.bool R) ∧ w' = w := by intro w; rw [← hR]; exact zzfits t l w ht hl
    have c7 : ∀ w, Calls Try.prog 7 #[.string t, .string l] w fun e w' => e = .returned (.bool R) ∧ Below w.heap.size w w' := by intro w; rw [← hR]; exact model_any t l w ht hl
    have C6 : Hid _ := c6
    have C7 : Hid _ := c7
    clear c6 c7 hR
    by_cases h1 : t.size ≤ 65536
    · by_cases h2 : l.size ≤ 65536
      · go_enter Try.func3, Try.ntmps3
        go_wp2_with (go_at_call 5; refine (bytes5 t l _ h).mono ?_; rintro e w' ⟨rfl, hw'⟩; subst w')
        refine (C6.out _).mono ?_
        rintro e w' ⟨rfl, hw'⟩
        subst w'
        go_wp2_with fail
        refine (C7.out _).mono ?_
        rintro e w1 ⟨rfl, hb⟩
        go_wp2
        go_ret
        exact ⟨by simp, hb⟩
      · go_enter Try.func3, Try.ntmps3
        go_wp2_with (go_at_call 5; refine (bytes5 t l _ h).mono ?_; rintro e w' ⟨rfl, rfl⟩)
        go_ret
        exact ⟨rfl, Below.refl _ _⟩
    · go_enter Try.func3, Try.ntmps3
      go_wp2_with (go_at_call 5; refine (bytes5 t l _ h).mono ?_; rintro e w' ⟨rfl, rfl⟩)
      go_ret
      exact ⟨rfl, Below.refl _ _⟩
  · go_enter Try.func3, Try.ntmps3
    go_wp2_with (go_at_call 5; refine (bytes5_no t l _ ht hl (by omega)).mono ?_; rintro e w' ⟨rfl, rfl⟩)
    go_ret
    exact ⟨rfl, Below.refl _ _⟩
end Go.Proofs.Qxb6605401a
