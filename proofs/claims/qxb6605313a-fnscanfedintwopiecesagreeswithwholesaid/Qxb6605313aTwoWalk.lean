/-
  THE WALK OF 'FnScanFedInTwoPiecesAgreesWithWhole' (function 7).
-/
import Derived.Test.Qxb6605313aClone
import Derived.Test.Qxb6605313aScanZ
namespace Go.Proofs.Qxb6605313a
open Go.RowKit
set_option linter.unusedVariables false

theorem two_no (a0 : Int) (a1 a2 : Bool) (a3 : Option Addr) (len3 cap3 : Nat) (a4 : Option Addr) (len4 cap4 : Nat) (w : World) (h : 1048576 < len3 + len4) :
    Calls Try.prog 7 #[.int .i64 a0, .bool a1, .bool a2, .slice a3 len3 cap3, .slice a4 len4 cap4] w fun e w' => e = .returned (.bool true) ∧ Below w.heap.size w w' := by
  go_enter Try.func7, Try.ntmps7
  go_wp2_with (go_at_call 21; refine (bytes21_no _ _ _ _ _ _ _ _ _ _ h).mono ?_; rintro e w' ⟨rfl, rfl⟩)
  go_ret
  exact ⟨rfl, Below.refl _ _⟩

set_option maxHeartbeats 1000000 in
set_option maxRecDepth 100000 in
theorem two_ends (a0 : Int) (a1 a2 : Bool) (a3 : Option Addr) (len3 cap3 : Nat) (z3 : List Int) (a4 : Option Addr) (len4 cap4 : Nat) (z4 : List Int) (w : World) (h : len3 + len4 ≤ 1048576)
    (h3 : ComesIn w a3 len3 cap3 z3) (h4 : ComesIn w a4 len4 cap4 z4) (n : Nat) (d : Int) (s e : Bool) (hR1 : scanL z3 0 a0 a1 a2 = (n, true, d, s, e)) (hR : scanL (z3 ++ z4) 0 a0 a1 a2 = (n, true, d, s, e)) :
    Calls Try.prog 7 #[.int .i64 a0, .bool a1, .bool a2, .slice a3 len3 cap3, .slice a4 len4 cap4] w fun e w' => e = .returned (.bool true) ∧ Below w.heap.size w w' := by
  have HR1 : Hid (scanL z3 0 a0 a1 a2 = (n, true, d, s, e)) := hR1
  have HR : Hid (scanL (z3 ++ z4) 0 a0 a1 a2 = (n, true, d, s, e)) := hR
  clear hR1 hR
  obtain ⟨i0, hi, hz0, hz1, hz2⟩ := info_parts Try.info5
  have Hi : Hid (Try.prog.info? 5 = some i0) := hi
  have Hz0 : Hid (i0.zero = some (.int .u8 0)) := hz0
  have Hz1 : Hid (i0.size = 1) := hz1
  have Hz2 : Hid (i0.bytes = 1) := hz2
  clear hi hz0 hz1 hz2
  have hl3 : len3 ≤ 1048576 := by omega
  have hl4 : len4 ≤ 1048576 := by omega
  go_enter Try.func7, Try.ntmps7
  go_wp2_with (go_at_call 21; refine (bytes21 _ _ _ _ _ _ _ _ _ _ h).mono ?_; rintro e w' ⟨rfl, hw'⟩; subst w')
  refine (clone_reads a3 len3 cap3 z3 _ hl3 h3).mono ?_
  rintro e w1 ⟨a3', rfl, ho3, hc3, hb1⟩
  have h4' := h4.below hb1
  go_wp2_with fail
  refine (clone_reads a4 len4 cap4 z4 _ hl4 h4').mono ?_
  rintro e w2 ⟨a4', rfl, ho4, hc4, hb2⟩
  have hc3' := hc3.below hb2
  have hb12 := hb1.trans (hb2.mono hb1.size)
  clear h3 h4 h4' ho3 ho4 hc3 hb1 hb2
  go_wp2_with (at_make; refine wpList_make_own _ rfl _ _ 22 rfl w2.heap.size 5 i0 (.int .u8 0) 1 Try.underlying22 Hi.out Hz0.out Hz1.out _ _ _ (len3 + len4) rfl rfl (by omega) (by rw [Hz2.out]; omega) (by unfold maxLen; omega) (Nat.le_refl _) ?_)
  intro w3 hown3 hg3
  have hb3 := (Below.refl w2.heap.size w2).grown hg3 (Nat.le_refl _) (fun k h => by simp at h)
  have hr3 : Reads w3 w2.heap.size a3' len3 z3 := hc3'.2.below hb3
  clear hg3
  go_wp2_with (at_builtin; refine wpList_append_fits_any _ rfl (.tmp 60) (.tmp 61) 22 rfl w2.heap.size 5 i0 1 Try.underlying22 Hi.out Hz1.out w2.heap.size 0 (len3 + len4) [] rfl hown3 a3' len3 len3 (bcells z3) rfl ?_ ?_ ?_ ?_ ?_ ?_)
  · rw [length_bcells, hr3.1, Nat.mul_one]
  · exact hc3'.1
  · rintro ad rfl; exact hr3.cells
  · exact bcells_oneCell _
  · omega
  intro w4 hown4 hg4
  have hb4 := hb3.grown hg4 hb3.size (fun k h => by simp at h; omega)
  have hr4 : Reads w4 w2.heap.size a4' len4 z4 := hc4.2.below hb4
  clear hg4 hown3 hb3 hr3
  go_wp2_with (at_builtin; refine wpList_append_fits_any _ rfl (.tmp 63) (.tmp 64) 22 rfl w2.heap.size 5 i0 1 Try.underlying22 Hi.out Hz1.out w2.heap.size len3 (len3 + len4) (bcells z3) rfl hown4 a4' len4 len4 (bcells z4) rfl ?_ ?_ ?_ ?_ ?_ ?_)
  · rw [length_bcells, hr4.1, Nat.mul_one]
  · exact hc4.1
  · rintro ad rfl; exact hr4.cells
  · exact bcells_oneCell _
  · omega
  intro w5 hown5 hg5
  have hb5 := hb4.grown hg5 hb4.size (fun k h => by simp at h; omega)
  have hw : Reads w5 w5.heap.size (some ⟨w2.heap.size, 0, none⟩) (len3 + len4) (z3 ++ z4) := by
    have e3 := hc3'.2.1
    have e4 := hc4.2.1
    have ho : Owns w5 w2.heap.size (.slice (some ⟨w2.heap.size, 0, none⟩) (len3 + len4) (len3 + len4)) (z3 ++ z4) := by
      show World.ownsRow _ _ _ _ _ _ _
      rw [bcells_append, List.length_append, e3, e4]; exact hown5
    obtain ⟨a2, cap2, he, hn, hr, _, _⟩ := ho.reads
    simp only [Value.slice.injEq] at he
    obtain ⟨rfl, hl, rfl⟩ := he
    rw [hl]; exact hr
  have hr3 : Reads w5 w5.heap.size a3' len3 z3 := (hc3'.2.below hb5).mono hb5.size
  have hr4 : Reads w5 w5.heap.size a4' len4 z4 := (hc4.2.below hb5).mono hb5.size
  have hb : Below w.heap.size w w5 := hb12.trans (hb5.mono hb12.size)
  clear hown4 hg5 hb4 hown5 hb5 hb12 hc4 hc3'
  go_wp2_with fail
  refine (zzscan_at a0 a1 a2 _ _ _ (z3 ++ z4) _ h hw _ _ _ _ _ HR.out).mono ?_
  rintro e w6 ⟨rfl, hb6⟩
  have hr3' := (hr3.below hb6).mono hb6.size
  have hr4' := (hr4.below hb6).mono hb6.size
  have hb' := hb.trans (hb6.mono hb.size)
  clear hr3 hr4 hw hb hb6 HR
  go_wp2_with fail
  refine (zzscan_at a0 a1 a2 _ _ _ z3 _ hl3 hr3' _ _ _ _ _ HR1.out).mono ?_
  rintro e w7 ⟨rfl, hb7⟩
  have hb'' := hb'.trans (hb7.mono hb'.size)
  clear hr3' hr4' hb' hb7 HR1
  go_wp2
  go_ret
  exact ⟨by simp, hb''⟩

set_option maxHeartbeats 1000000 in
set_option maxRecDepth 100000 in
theorem two_goes (a0 : Int) (a1 a2 : Bool) (a3 : Option Addr) (len3 cap3 : Nat) (z3 : List Int) (a4 : Option Addr) (len4 cap4 : Nat) (z4 : List Int) (w : World) (h : len3 + len4 ≤ 1048576)
    (h3 : ComesIn w a3 len3 cap3 z3) (h4 : ComesIn w a4 len4 cap4 z4) (n1 : Nat) (d1 : Int) (s1 e1 : Bool) (hR1 : scanL z3 0 a0 a1 a2 = (n1, false, d1, s1, e1)) (n2 : Nat) (en : Bool) (d : Int) (s e : Bool) (hR2 : scanL z4 0 d1 s1 e1 = (n2, en, d, s, e)) (hn2 : n2 ≤ len4) (hR : scanL (z3 ++ z4) 0 a0 a1 a2 = (len3 + n2, en, d, s, e)) :
    Calls Try.prog 7 #[.int .i64 a0, .bool a1, .bool a2, .slice a3 len3 cap3, .slice a4 len4 cap4] w fun e w' => e = .returned (.bool true) ∧ Below w.heap.size w w' := by
  have HR1 : Hid (scanL z3 0 a0 a1 a2 = (n1, false, d1, s1, e1)) := hR1
  have HR2 : Hid (scanL z4 0 d1 s1 e1 = (n2, en, d, s, e)) := hR2
  have HR : Hid (scanL (z3 ++ z4) 0 a0 a1 a2 = (len3 + n2, en, d, s, e)) := hR
  clear hR1 hR hR2
  obtain ⟨i0, hi, hz0, hz1, hz2⟩ := info_parts Try.info5
  have Hi : Hid (Try.prog.info? 5 = some i0) := hi
  have Hz0 : Hid (i0.zero = some (.int .u8 0)) := hz0
  have Hz1 : Hid (i0.size = 1) := hz1
  have Hz2 : Hid (i0.bytes = 1) := hz2
  clear hi hz0 hz1 hz2
  have hl3 : len3 ≤ 1048576 := by omega
  have hl4 : len4 ≤ 1048576 := by omega
  go_enter Try.func7, Try.ntmps7
  go_wp2_with (go_at_call 21; refine (bytes21 _ _ _ _ _ _ _ _ _ _ h).mono ?_; rintro e w' ⟨rfl, hw'⟩; subst w')
  refine (clone_reads a3 len3 cap3 z3 _ hl3 h3).mono ?_
  rintro e w1 ⟨a3', rfl, ho3, hc3, hb1⟩
  have h4' := h4.below hb1
  go_wp2_with fail
  refine (clone_reads a4 len4 cap4 z4 _ hl4 h4').mono ?_
  rintro e w2 ⟨a4', rfl, ho4, hc4, hb2⟩
  have hc3' := hc3.below hb2
  have hb12 := hb1.trans (hb2.mono hb1.size)
  clear h3 h4 h4' ho3 ho4 hc3 hb1 hb2
  go_wp2_with (at_make; refine wpList_make_own _ rfl _ _ 22 rfl w2.heap.size 5 i0 (.int .u8 0) 1 Try.underlying22 Hi.out Hz0.out Hz1.out _ _ _ (len3 + len4) rfl rfl (by omega) (by rw [Hz2.out]; omega) (by unfold maxLen; omega) (Nat.le_refl _) ?_)
  intro w3 hown3 hg3
  have hb3 := (Below.refl w2.heap.size w2).grown hg3 (Nat.le_refl _) (fun k h => by simp at h)
  have hr3 : Reads w3 w2.heap.size a3' len3 z3 := hc3'.2.below hb3
  clear hg3
  go_wp2_with (at_builtin; refine wpList_append_fits_any _ rfl (.tmp 60) (.tmp 61) 22 rfl w2.heap.size 5 i0 1 Try.underlying22 Hi.out Hz1.out w2.heap.size 0 (len3 + len4) [] rfl hown3 a3' len3 len3 (bcells z3) rfl ?_ ?_ ?_ ?_ ?_ ?_)
  · rw [length_bcells, hr3.1, Nat.mul_one]
  · exact hc3'.1
  · rintro ad rfl; exact hr3.cells
  · exact bcells_oneCell _
  · omega
  intro w4 hown4 hg4
  have hb4 := hb3.grown hg4 hb3.size (fun k h => by simp at h; omega)
  have hr4 : Reads w4 w2.heap.size a4' len4 z4 := hc4.2.below hb4
  clear hg4 hown3 hb3 hr3
  go_wp2_with (at_builtin; refine wpList_append_fits_any _ rfl (.tmp 63) (.tmp 64) 22 rfl w2.heap.size 5 i0 1 Try.underlying22 Hi.out Hz1.out w2.heap.size len3 (len3 + len4) (bcells z3) rfl hown4 a4' len4 len4 (bcells z4) rfl ?_ ?_ ?_ ?_ ?_ ?_)
  · rw [length_bcells, hr4.1, Nat.mul_one]
  · exact hc4.1
  · rintro ad rfl; exact hr4.cells
  · exact bcells_oneCell _
  · omega
  intro w5 hown5 hg5
  have hb5 := hb4.grown hg5 hb4.size (fun k h => by simp at h; omega)
  have hw : Reads w5 w5.heap.size (some ⟨w2.heap.size, 0, none⟩) (len3 + len4) (z3 ++ z4) := by
    have e3 := hc3'.2.1
    have e4 := hc4.2.1
    have ho : Owns w5 w2.heap.size (.slice (some ⟨w2.heap.size, 0, none⟩) (len3 + len4) (len3 + len4)) (z3 ++ z4) := by
      show World.ownsRow _ _ _ _ _ _ _
      rw [bcells_append, List.length_append, e3, e4]; exact hown5
    obtain ⟨a2, cap2, he, hn, hr, _, _⟩ := ho.reads
    simp only [Value.slice.injEq] at he
    obtain ⟨rfl, hl, rfl⟩ := he
    rw [hl]; exact hr
  have hr3 : Reads w5 w5.heap.size a3' len3 z3 := (hc3'.2.below hb5).mono hb5.size
  have hr4 : Reads w5 w5.heap.size a4' len4 z4 := (hc4.2.below hb5).mono hb5.size
  have hb : Below w.heap.size w w5 := hb12.trans (hb5.mono hb12.size)
  clear hown4 hg5 hb4 hown5 hb5 hb12 hc4 hc3'
  go_wp2_with fail
  refine (zzscan_at a0 a1 a2 _ _ _ (z3 ++ z4) _ h hw _ _ _ _ _ HR.out).mono ?_
  rintro e w6 ⟨rfl, hb6⟩
  have hr3' := (hr3.below hb6).mono hb6.size
  have hr4' := (hr4.below hb6).mono hb6.size
  have hb' := hb.trans (hb6.mono hb.size)
  clear hr3 hr4 hw hb hb6 HR
  go_wp2_with fail
  refine (zzscan_at a0 a1 a2 _ _ _ z3 _ hl3 hr3' _ _ _ _ _ HR1.out).mono ?_
  rintro e w7 ⟨rfl, hb7⟩
  have hr4'' := (hr4'.below hb7).mono hb7.size
  have hb'' := hb'.trans (hb7.mono hb'.size)
  clear hr3' hr4' hb' hb7 HR1
  go_wp2_with fail
  refine (zzscan_at d1 s1 e1 _ _ _ z4 _ hl4 hr4'' _ _ _ _ _ HR2.out).mono ?_
  rintro e w8 ⟨rfl, hb8⟩
  have hb9 := hb''.trans (hb8.mono hb''.size)
  clear hr4'' hb'' hb8 HR2
  go_wp2
  go_ret
  exact ⟨by simp, hb9⟩

theorem two_any (a0 : Int) (a1 a2 : Bool) (a3 : Option Addr) (len3 cap3 : Nat) (z3 : List Int) (a4 : Option Addr) (len4 cap4 : Nat) (z4 : List Int) (w : World)
    (h3 : ComesIn w a3 len3 cap3 z3) (h4 : ComesIn w a4 len4 cap4 z4) :
    Calls Try.prog 7 #[.int .i64 a0, .bool a1, .bool a2, .slice a3 len3 cap3, .slice a4 len4 cap4] w fun e w' => e = .returned (.bool true) ∧ Below w.heap.size w w' := by
  by_cases h : len3 + len4 ≤ 1048576
  · obtain ⟨⟨n1, en1, d1, s1, e1⟩, hR1⟩ : ∃ R, scanL z3 0 a0 a1 a2 = R := ⟨_, rfl⟩
    cases en1
    · obtain ⟨⟨n2, en, d, s, e⟩, hR2⟩ : ∃ R, scanL z4 0 d1 s1 e1 = R := ⟨_, rfl⟩
      have hle := (scanL_le z4 0 d1 s1 e1).1
      rw [hR2] at hle
      have hg := scanL_goes z3 z4 a0 a1 a2 (by rw [hR1])
      simp only [hR1, hR2, h3.2.1] at hg
      exact two_goes a0 a1 a2 a3 len3 cap3 z3 a4 len4 cap4 z4 w h h3 h4 n1 d1 s1 e1 hR1 n2 en d s e hR2 (by have := h4.2.1; simp at hle; omega) hg
    · exact two_ends a0 a1 a2 a3 len3 cap3 z3 a4 len4 cap4 z4 w h h3 h4 n1 d1 s1 e1 hR1 (by rw [scanL_ends _ _ _ _ _ (by rw [hR1])]; exact hR1)
  · exact two_no a0 a1 a2 a3 len3 cap3 a4 len4 cap4 w (by omega)
end Go.Proofs.Qxb6605313a
