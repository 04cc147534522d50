/-
  'zzCloneBytes' (function 9) BY CONTRACT.
-/
import Derived.Test.Qxb6605313aCommon
namespace Go.Proofs.Qxb6605313a
open Go.RowKit
set_option linter.unusedVariables false

theorem clone_none (w : World) : Calls Try.prog 9 #[.slice none 0 0] w fun e w' => e = .returned (.slice none 0 0) ∧ w' = w := by
  have q := fun (w : World) (a : Option Addr) (n c n' c' : Nat) => Lib.run_eql_slice_nil (P := Try.prog) w 22 5 a n c n' c' Try.underlying22
  go_enter Try.func9, Try.ntmps9
  go_wp2
  go_ret
  exact ⟨rfl, rfl⟩

set_option maxHeartbeats 400000 in
theorem clone_some (x : Addr) (len cap : Nat) (zs : List Int) (w : World) (hlen : len ≤ 1048576) (hr : Reads w w.heap.size (some x) len zs) :
    Calls Try.prog 9 #[.slice (some x) len cap] w fun e w' => e = .returned (.slice (some ⟨w.heap.size, 0, none⟩) len len) ∧ Owns w' w.heap.size (.slice (some ⟨w.heap.size, 0, none⟩) len len) zs ∧ Below w.heap.size w w' := by
  obtain ⟨i0, hi, hz0, hz1, hz2⟩ := info_parts Try.info5
  have q := fun (w : World) (a : Option Addr) (n c n' c' : Nat) => Lib.run_eql_slice_nil (P := Try.prog) w 22 5 a n c n' c' Try.underlying22
  have HR : Hid (Reads w w.heap.size (some x) len zs) := hr
  clear hr
  have Hi : Hid (Try.prog.info? 5 = some i0) := hi
  have Hz0 : Hid (i0.zero = some (.int .u8 0)) := hz0
  have Hz1 : Hid (i0.size = 1) := hz1
  have Hz2 : Hid (i0.bytes = 1) := hz2
  clear hi hz0 hz1 hz2
  go_enter Try.func9, Try.ntmps9
  go_wp2_with (at_make; refine wpList_make_full _ rfl _ _ 22 rfl w.heap.size 5 i0 (.int .u8 0) 1 Try.underlying22 Hi.out Hz0.out Hz1.out _ _ _ _ len rfl rfl (by omega) (by omega) (by rw [Hz2.out]; omega) (by unfold maxLen; omega) (Nat.le_refl _) ?_)
  intro w1 hown1 hgrow1
  obtain ⟨cur, hg1, hcur⟩ : ∃ cur : List Value, w1.heap[w.heap.size]? = some (.cells cur.toArray 5 (0, 0)) ∧ cur.length = len := by
    rcases hown1.2 with ⟨h, _⟩ | ⟨g, cap', cur, h, _, hg, _, _, hcs, _⟩
    · simp at h
    · simp only [Value.slice.injEq, Option.some.injEq, Addr.mk.injEq, and_true, true_and] at h
      obtain ⟨rfl, rfl⟩ := h
      exact ⟨cur.toList, by simpa using hg, by simpa using hcs⟩
  have hb1 : Below w.heap.size w w1 := (Below.refl _ _).grown hgrow1 (Nat.le_refl _) (fun k h => by simp at h)
  have hr1 : Reads w1 w.heap.size (some x) len zs := HR.out.below hb1
  have HG1 : Hid (w1.heap[w.heap.size]? = some (.cells cur.toArray 5 (0, 0))) := hg1
  have HC1 : Hid (cur.length = len) := hcur
  clear hown1 hgrow1 hg1 hcur
  go_wp2_with (refine wpList_copy_splice rfl (.tmp 9) (.tmp 10) 22 22 rfl 5 Try.underlying22 (by kernel_rfl) _ _ _ _ _ _ rfl rfl w.heap.size 0 cur 5 HG1.out (bcells zs) ?_ ?_ ?_ (bcells_oneCell zs) w.heap.size w hb1 (Nat.le_refl _) ?_)
  · rw [length_bcells, hr1.1]; simp
  · intro _; exact hr1.cells
  · rw [length_bcells, hr1.1, HC1.out]; omega
  intro w2 hg2 hb2
  go_wp2
  go_ret
  refine ⟨rfl, ⟨by rw [length_bcells]; omega, .inr ⟨w.heap.size, len, _, by rw [hr1.1], Nat.le_refl _, hg2.out, ?_, ?_, ?_, ?_⟩⟩, hb2⟩
  · rw [hr1.1]; exact Nat.le_refl _
  · unfold maxLen; omega
  · have h1 := HC1.out
    have h2 := hr1.1
    rw [List.size_toArray, length_splice _ _ _ (by rw [length_bcells]; omega)]; omega
  · have h1 := HC1.out
    have h2 := hr1.1
    have h3 : (bcells zs).length = len := by rw [length_bcells]; exact h2
    simp only [splice, List.take_zero, List.nil_append, Nat.zero_add, Nat.mul_one, h2, h3]
    rw [List.drop_eq_nil_of_le (by omega), List.append_nil, ← h3]
    simp
/-- A slice of bytes that came in. -/
def ComesIn (w : World) (a : Option Addr) (len cap : Nat) (zs : List Int) : Prop := (a = none → len = 0 ∧ cap = 0) ∧ Reads w w.heap.size a len zs

theorem ComesIn.below {w w' : World} {a : Option Addr} {len cap : Nat} {zs : List Int} (h : ComesIn w a len cap zs) (hb : Below w.heap.size w w') : ComesIn w' a len cap zs :=
  ⟨h.1, (h.2.below hb).mono hb.size⟩

theorem clone_any (a : Option Addr) (len cap : Nat) (zs : List Int) (w : World) (hlen : len ≤ 1048576) (h : ComesIn w a len cap zs) :
    Calls Try.prog 9 #[.slice a len cap] w fun e w' => ∃ a', e = .returned (.slice a' len len) ∧ Owns w' w.heap.size (.slice a' len len) zs ∧ Below w.heap.size w w' := by
  cases a with
  | none =>
    obtain ⟨rfl, rfl⟩ := h.1 rfl
    obtain rfl : zs = [] := List.eq_nil_of_length_eq_zero h.2.1
    refine (clone_none w).mono ?_
    rintro e w' ⟨rfl, rfl⟩
    exact ⟨none, rfl, Owns.nil _ _, Below.refl _ _⟩
  | some x =>
    refine (clone_some x len cap zs w hlen h.2).mono ?_
    rintro e w' ⟨rfl, ho, hb⟩
    exact ⟨_, rfl, ho, hb⟩

/-- The same, told as a slice that can be read. -/
theorem clone_reads (a : Option Addr) (len cap : Nat) (zs : List Int) (w : World) (hlen : len ≤ 1048576) (h : ComesIn w a len cap zs) :
    Calls Try.prog 9 #[.slice a len cap] w fun e w' => ∃ a', e = .returned (.slice a' len len) ∧ Owns w' w.heap.size (.slice a' len len) zs ∧ ComesIn w' a' len len zs ∧ Below w.heap.size w w' := by
  refine (clone_any a len cap zs w hlen h).mono ?_
  rintro e w' ⟨a', rfl, ho, hb⟩
  obtain ⟨a2, cap2, he, hn, hr, _, _⟩ := ho.reads
  simp only [Value.slice.injEq] at he
  obtain ⟨rfl, hl, rfl⟩ := he
  exact ⟨a', rfl, ho, ⟨fun h' => ⟨by rw [hl]; exact (hn h').1, (hn h').2⟩, by rw [hl]; exact hr⟩, hb⟩

/-! ### The bounds on lengths, laid by program -/
theorem bytes8 (a : Option Addr) (len cap : Nat) (v d : Int) (w : World) (h : len ≤ 1048576) : Calls Try.prog 8 #[.slice a len cap, .int .i64 v, .int .i64 d] w fun e w' => e = .returned (.bool true) ∧ w' = w := by
  go_enter Try.func8, Try.ntmps8
  go_wp2
  go_ret
  exact ⟨rfl, rfl⟩
theorem bytes8_no (a : Option Addr) (len cap : Nat) (v d : Int) (w : World) (h : 1048576 < len) : Calls Try.prog 8 #[.slice a len cap, .int .i64 v, .int .i64 d] w fun e w' => e = .returned (.bool false) ∧ w' = w := by
  go_enter Try.func8, Try.ntmps8
  go_wp2
  go_ret
  exact ⟨rfl, rfl⟩
theorem bytes12 (a : Option Addr) (len cap : Nat) (v d : Int) (w : World) (h : len ≤ 1048576) : Calls Try.prog 12 #[.slice a len cap, .int .i64 v, .int .i64 d] w fun e w' => e = .returned (.bool true) ∧ w' = w := by
  go_enter Try.func12, Try.ntmps12
  go_wp2
  go_ret
  exact ⟨rfl, rfl⟩
theorem bytes12_no (a : Option Addr) (len cap : Nat) (v d : Int) (w : World) (h : 1048576 < len) : Calls Try.prog 12 #[.slice a len cap, .int .i64 v, .int .i64 d] w fun e w' => e = .returned (.bool false) ∧ w' = w := by
  go_enter Try.func12, Try.ntmps12
  go_wp2
  go_ret
  exact ⟨rfl, rfl⟩
theorem bytes18 (d : Int) (s e : Bool) (a : Option Addr) (len cap : Nat) (w : World) (h : len ≤ 1048576) : Calls Try.prog 18 #[.int .i64 d, .bool s, .bool e, .slice a len cap] w fun e w' => e = .returned (.bool true) ∧ w' = w := by
  go_enter Try.func18, Try.ntmps18
  go_wp2
  go_ret
  exact ⟨rfl, rfl⟩
theorem bytes18_no (d : Int) (s e : Bool) (a : Option Addr) (len cap : Nat) (w : World) (h : 1048576 < len) : Calls Try.prog 18 #[.int .i64 d, .bool s, .bool e, .slice a len cap] w fun e w' => e = .returned (.bool false) ∧ w' = w := by
  go_enter Try.func18, Try.ntmps18
  go_wp2
  go_ret
  exact ⟨rfl, rfl⟩
theorem bytes21 (d : Int) (s e : Bool) (a b : Option Addr) (la ca lb cb : Nat) (w : World) (h : la + lb ≤ 1048576) : Calls Try.prog 21 #[.int .i64 d, .bool s, .bool e, .slice a la ca, .slice b lb cb] w fun e w' => e = .returned (.bool true) ∧ w' = w := by
  go_enter Try.func21, Try.ntmps21
  go_wp2
  go_ret
  exact ⟨rfl, rfl⟩
theorem bytes21_no (d : Int) (s e : Bool) (a b : Option Addr) (la ca lb cb : Nat) (w : World) (h : 1048576 < la + lb) : Calls Try.prog 21 #[.int .i64 d, .bool s, .bool e, .slice a la ca, .slice b lb cb] w fun e w' => e = .returned (.bool false) ∧ w' = w := by
  go_enter Try.func21, Try.ntmps21
  go_wp2
  all_goals (go_ret; exact ⟨rfl, rfl⟩)

end Go.Proofs.Qxb6605313a
