/-
  'ZZScan' (function 19) BY CONTRACT.
-/
import Derived.Test.Qxb6605313aCommon
import Derived.Test.Qxb6605313aScanWalk
import Derived.BigQuiet
import Derived.Deep.QuietTactic
namespace Go.Proofs.Qxb6605313a
open Go.RowKit
set_option linter.unusedVariables false

set_option maxHeartbeats 400000 in
set_option maxRecDepth 100000 in
theorem scan_empty (g : Nat) (a : Option Addr) (cap : Nat) (d0 : Int) (s0 e0 : Bool) (w : World) (hv : VE w g d0 s0 e0) :
    Calls Try.prog 27 #[.pointer (some ⟨g, 0, none⟩), .slice a 0 cap] w fun e w' =>
      e = .returned (.tuple #[.int .i64 0, .bool false]) ∧ w' = w := by
  go_enter Try.func27, Try.ntmps27
  go_wp2
  go_loopw [6] (fun i wr => i = .int .i64 0 ∧ wr = w) (fun i _ => 0)
  case atStart => exact ⟨rfl, rfl⟩
  case round =>
    obtain ⟨rfl, rfl⟩ := hrel
    go_wp2
    go_ret2
    exact ⟨rfl, rfl⟩

theorem scan_any (g : Nat) (a : Option Addr) (len cap : Nat) (zs : List Int) (d0 : Int) (s0 e0 : Bool) (w : World) (hlen : len ≤ 1048576) (hr : Reads w g a len zs) (hv : VE w g d0 s0 e0) (R : Nat × Bool × Int × Bool × Bool) (hR : scanL zs 0 d0 s0 e0 = R) :
    Calls Try.prog 27 #[.pointer (some ⟨g, 0, none⟩), .slice a len cap] w fun e w' =>
      e = .returned (.tuple #[.int .i64 R.1, .bool R.2.1]) ∧ VE w' g R.2.2.1 R.2.2.2.1 R.2.2.2.2 ∧ Below g w w' := by
  rcases hr.2 with rfl | ⟨b, off, rfl, hb, hc⟩
  · obtain rfl : zs = [] := List.eq_nil_of_length_eq_zero hr.1
    subst hR
    refine (scan_empty g a cap d0 s0 e0 w hv).mono ?_
    rintro e w' ⟨rfl, rfl⟩
    exact ⟨rfl, hv, Below.refl _ _⟩
  · exact scan_row g b off len cap zs d0 s0 e0 w hb hlen hr.1 hc hv _ hR

theorem results_tmp5 {fn : Func} {t u v x y : Tmp} (h : fn.results = #[.tmp t, .tmp u, .tmp v, .tmp x, .tmp y]) (tmps : Array Value) (P : Program) (w : World) :
    (results fn tmps).run P w = .ok (.tuple #[tmps.getD t undef, tmps.getD u undef, tmps.getD v undef, tmps.getD x undef, tmps.getD y undef]) w := by
  simp [results, h]

/-- What ZZScan hands back, as values. -/
def scanOut (R : Nat × Bool × Int × Bool × Bool) : Value := .tuple #[.int .i64 R.1, .bool R.2.1, .int .i64 R.2.2.1, .bool R.2.2.2.1, .bool R.2.2.2.2]

theorem VE_new (w : World) (d : Int) (s e : Bool) : VE (w.alloc (.cells #[.int .i64 d, .bool s, .bool e] 41)) w.heap.size d s e := by
  refine ⟨?_, ?_, ?_, ?_, ?_, ?_⟩ <;> simp

set_option maxHeartbeats 400000 in
set_option maxRecDepth 100000 in
theorem zzscan (d : Int) (s e : Bool) (a : Option Addr) (len cap : Nat) (zs : List Int) (w : World) (hlen : len ≤ 1048576) (hr : Reads w w.heap.size a len zs) :
    Calls Try.prog 19 #[.int .i64 d, .bool s, .bool e, .slice a len cap] w fun x w' =>
      x = .returned (scanOut (scanL zs 0 d s e)) ∧ Below w.heap.size w w' := by
  have HV := VE_new w d s e
  have HB : Below w.heap.size w (w.alloc (.cells #[.int .i64 d, .bool s, .bool e] 41)) := (Below.refl _ _).alloc (Nat.le_refl _) _
  have HR : Reads (w.alloc (.cells #[.int .i64 d, .bool s, .bool e] 41)) w.heap.size a len zs := hr.below HB
  obtain ⟨R, hR⟩ : ∃ R, scanL zs 0 d s e = R := ⟨_, rfl⟩
  rw [hR]
  have HRR : Hid (scanL zs 0 d s e = R) := hR
  clear hR hr
  go_enter Try.func19, Try.ntmps19
  go_wp2_with fail
  refine (scan_any w.heap.size a len cap zs d s e _ hlen HR HV R HRR.out).mono ?_
  rintro x w1 ⟨rfl, ⟨c0, c1, c2, f0, f1, f2⟩, hb1⟩
  have hb2 := HB.trans hb1
  clear HR HV HB HRR hb1
  go_wp2
  go_quiet (fail)
  go_wp2
  refine bodyPost_ret (results_tmp5 rfl _ _ _) rfl ?_
  exact ⟨rfl, below_drewN hb2 _⟩
/-- The same, its results by name. -/
theorem zzscan_at (d : Int) (s e : Bool) (a : Option Addr) (len cap : Nat) (zs : List Int) (w : World) (hlen : len ≤ 1048576) (hr : Reads w w.heap.size a len zs) (n : Nat) (en : Bool) (d' : Int) (s' e' : Bool) (hR : scanL zs 0 d s e = (n, en, d', s', e')) :
    Calls Try.prog 19 #[.int .i64 d, .bool s, .bool e, .slice a len cap] w fun x w' =>
      x = .returned (.tuple #[.int .i64 n, .bool en, .int .i64 d', .bool s', .bool e']) ∧ Below w.heap.size w w' := by
  refine (zzscan d s e a len cap zs w hlen hr).mono ?_
  rintro x w' ⟨rfl, hb⟩
  rw [hR]
  exact ⟨rfl, hb⟩
end Go.Proofs.Qxb6605313a
