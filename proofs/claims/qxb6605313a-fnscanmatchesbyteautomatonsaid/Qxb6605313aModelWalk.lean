/-
  'zzScanModel' (function 20) AND 'FnScanMatchesByteAutomaton' (function 6).
-/
import Derived.Test.Qxb6605313aClone
import Derived.Test.Qxb6605313aScanZ
import Derived.Deep.Light
namespace Go.Proofs.Qxb6605313a
open Go.RowKit
set_option linter.unusedVariables false

theorem fin_model {R : Nat × Bool × Int × Bool × Bool} {k : Nat} {en : Bool} {d : Int} {s e : Bool} {w : World} {x : Int} (hR : R = (k, en, d, s, e)) (hx : x = (k : Int)) :
    Ending.returned (.tuple #[.int .i64 x, .bool en, .int .i64 d, .bool s, .bool e]) = .returned (scanOut R) ∧ w = w := by
  subst hR; subst hx; exact ⟨rfl, rfl⟩

set_option maxHeartbeats 1000000 in
set_option maxRecDepth 100000 in
theorem model_row (b off len cap : Nat) (zs : List Int) (d0 : Int) (s0 e0 : Bool) (w : World) (hlen : len ≤ 1048576) (hz : zs.length = len)
    (hc : ∀ k, k < len → w.cell? ⟨b, off + k, none⟩ = some (.int .u8 (zs.getD k 0))) (R : Nat × Bool × Int × Bool × Bool) (hR : scanL zs 0 d0 s0 e0 = R) :
    Calls Try.prog 20 #[.int .i64 d0, .bool s0, .bool e0, .slice (some ⟨b, off, none⟩) len cap] w fun e w' =>
      e = .returned (scanOut R) ∧ w' = w := by
  have HZ : Hid (zs.length = len) := hz
  have HC : Hid (∀ k, k < len → w.cell? ⟨b, off + k, none⟩ = some (.int .u8 (zs.getD k 0))) := hc
  have HR : Hid (scanL zs 0 d0 s0 e0 = R) := hR
  clear hz hc hR
  go_enter Try.func20, Try.ntmps20
  go_wp2
  go_loop [0, 1, 2, 13] (fun vd vs ve i => ∃ (k : Nat) (d : Int) (s e : Bool), k ≤ len ∧ i = .int .i64 k ∧ vd = .int .i64 d ∧ vs = .bool s ∧ ve = .bool e ∧ scanAt zs k d s e = R) (fun _ _ _ i => len - (intOf i).toNat)
  case atStart => exact ⟨0, d0, s0, e0, Nat.zero_le _, rfl, rfl, rfl, rfl, HR.out⟩
  case round =>
    obtain ⟨k, d, s, e, hk, rfl, rfl, rfl, rfl, hrest⟩ := hrel
    have HRest : Hid (scanAt zs k d s e = R) := hrest
    clear hrest
    by_cases hlt : k < len
    · obtain ⟨c, hc⟩ : ∃ c, c = zs.getD k 0 := ⟨_, rfl⟩
      have hcell : w.cell? ⟨b, off + k, none⟩ = some (.int .u8 c) := by rw [hc]; exact HC.out k hlt
      have HCD : Hid (c = zs.getD k 0) := hc
      clear hc
      have hkz : Hid (k < zs.length) := by have := HZ.out; show k < zs.length; omega
      have hst := scanAt_step zs k d s e c hkz.out HCD.out
      rw [HRest.out] at hst
      have HST := hst
      have HS : Hid (R = _) := HST
      clear hst HST HRest HCD
      cases s
      · go_wp2
        all_goals first
          | (go_round
             case rel =>
               refine ⟨k + 1, _, _, _, by omega, by go_num, rfl, rfl, rfl, ?_⟩
               rw [HS.out]; clear HS; go_light; simp_all; try (intro hx; exfalso; omega)
             case measure => simp [intOf]; omega)
          | (refine bodyPost_ret (results_tmp5 rfl _ _ _) rfl ?_
             first
               | (refine fin_model (k := k + 1) ?_ (by omega); rw [HS.out]; clear HS; go_light; simp_all; done)
               | (refine fin_model (k := k) ?_ (by omega); rw [HS.out]; clear HS; go_light; simp_all; done))
      · cases e
        · go_wp2
          all_goals
             go_round
             case rel =>
               refine ⟨k + 1, _, _, _, by omega, by go_num, rfl, rfl, rfl, ?_⟩
               rw [HS.out]; clear HS; go_light; simp_all
             case measure => simp [intOf]; omega
        · go_wp2
          go_round
          case rel =>
            refine ⟨k + 1, _, _, _, by omega, by go_num, rfl, rfl, rfl, ?_⟩
            rw [HS.out]; clear HS; go_light; simp_all
          case measure => simp [intOf]; omega
    · go_wp2
      refine bodyPost_ret (results_tmp5 rfl _ _ _) rfl ?_
      exact fin_model (k := k) (HRest.out.symm.trans (scanAt_end zs k d s e (by have := HZ.out; omega))) (by omega)

set_option maxHeartbeats 400000 in
set_option maxRecDepth 100000 in
theorem model_empty (a : Option Addr) (cap : Nat) (d0 : Int) (s0 e0 : Bool) (w : World) :
    Calls Try.prog 20 #[.int .i64 d0, .bool s0, .bool e0, .slice a 0 cap] w fun e w' =>
      e = .returned (.tuple #[.int .i64 0, .bool false, .int .i64 d0, .bool s0, .bool e0]) ∧ w' = w := by
  go_enter Try.func20, Try.ntmps20
  go_wp2
  go_loop [0, 1, 2, 13] (fun vd vs ve i => i = .int .i64 0 ∧ vd = .int .i64 d0 ∧ vs = .bool s0 ∧ ve = .bool e0) (fun _ _ _ i => 0)
  case atStart => exact ⟨rfl, rfl, rfl, rfl⟩
  case round =>
    obtain ⟨rfl, rfl, rfl, rfl⟩ := hrel
    go_wp2
    refine bodyPost_ret (results_tmp5 rfl _ _ _) rfl ?_
    exact ⟨rfl, rfl⟩

theorem model_at (d : Int) (s e : Bool) (a : Option Addr) (len cap : Nat) (zs : List Int) (w : World) (B : Nat) (hlen : len ≤ 1048576) (hr : Reads w B a len zs) (n : Nat) (en : Bool) (d' : Int) (s' e' : Bool) (hR : scanL zs 0 d s e = (n, en, d', s', e')) :
    Calls Try.prog 20 #[.int .i64 d, .bool s, .bool e, .slice a len cap] w fun x w' =>
      x = .returned (.tuple #[.int .i64 n, .bool en, .int .i64 d', .bool s', .bool e']) ∧ w' = w := by
  rcases hr.2 with rfl | ⟨b, off, rfl, hb, hc⟩
  · obtain rfl : zs = [] := List.eq_nil_of_length_eq_zero hr.1
    simp only [scanL, Prod.mk.injEq] at hR
    obtain ⟨rfl, rfl, rfl, rfl, rfl⟩ := hR
    exact model_empty a cap d s e w
  · exact model_row b off len cap zs d s e w hlen hr.1 hc _ hR

set_option maxHeartbeats 400000 in
set_option maxRecDepth 100000 in
theorem auto_any (d : Int) (s e : Bool) (a : Option Addr) (len cap : Nat) (zs : List Int) (w : World) (h3 : ComesIn w a len cap zs) :
    Calls Try.prog 6 #[.int .i64 d, .bool s, .bool e, .slice a len cap] w fun x w' => x = .returned (.bool true) ∧ Below w.heap.size w w' := by
  by_cases h : len ≤ 1048576
  · obtain ⟨⟨n, en, d', s', e'⟩, hR⟩ : ∃ R, scanL zs 0 d s e = R := ⟨_, rfl⟩
    have HR : Hid (scanL zs 0 d s e = (n, en, d', s', e')) := hR
    clear hR
    go_enter Try.func6, Try.ntmps6
    go_wp2_with (go_at_call 18; refine (bytes18 _ _ _ _ _ _ _ h).mono ?_; rintro x w' ⟨rfl, hw'⟩; subst w')
    refine (clone_reads a len cap zs _ h h3).mono ?_
    rintro x w1 ⟨a', rfl, ho, hc, hb1⟩
    clear h3 ho
    go_wp2_with fail
    refine (zzscan_at d s e _ _ _ zs _ h hc.2 _ _ _ _ _ HR.out).mono ?_
    rintro x w2 ⟨rfl, hb2⟩
    have hr := hc.2.below hb2
    have hb := hb1.trans (hb2.mono hb1.size)
    clear hc hb1 hb2
    go_wp2_with fail
    refine (model_at d s e _ _ _ zs _ _ h hr _ _ _ _ _ HR.out).mono ?_
    rintro x w3 ⟨rfl, rfl⟩
    clear hr HR
    go_wp2
    go_ret
    exact ⟨by simp, hb⟩
  · go_enter Try.func6, Try.ntmps6
    go_wp2_with (go_at_call 18; refine (bytes18_no _ _ _ _ _ _ _ (by omega)).mono ?_; rintro x w' ⟨rfl, rfl⟩)
    go_ret
    exact ⟨rfl, Below.refl _ _⟩
end Go.Proofs.Qxb6605313a
