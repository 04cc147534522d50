/-
  'serialOrder' WITHOUT SLOTS; 'ZZserialOrder' (9) BY CONTRACT.
-/
import Derived.Test.Qxb6003656aOrder
namespace Go.Proofs.Qxb6003656a
open Go.RowKit
set_option linter.unusedVariables false
set_option linter.unusedSimpArgs false

set_option maxHeartbeats 1000000 in
set_option maxRecDepth 100000 in
theorem order_zero (a : Option Addr) (len : Nat) (sa : Option Addr) (sc : Nat) (w : World) (hlen : len ≤ 70000) :
    Calls Try.prog 23 #[.slice a len len, .slice sa 0 sc] w fun e w' => e = .returned (.slice a len len) ∧ w' = w := by
  have CG := toHid (grow_zero a len w (by omega))
  go_enter Try.func23, Try.ntmps23
  go_wp2_with (go_at_call 26; refine CG.out.mono ?_; rintro e w1 ⟨rfl, hw1⟩; subst w1)
  go_loop [0, 5, 6, 18] (fun v _ _ i => v = .slice a len len ∧ i = .int .i64 0) (fun _ _ _ _ => 0)
  case atStart => exact ⟨rfl, rfl⟩
  case round =>
    obtain ⟨rfl, rfl⟩ := hrel
    go_wp2
    go_loop [0, 7] (fun v i => v = .slice a len len ∧ i = .int .i64 (-1)) (fun _ _ => 0)
    case atStart => exact ⟨rfl, rfl⟩
    case round =>
      obtain ⟨rfl, rfl⟩ := hrel
      go_wp2
      go_loop [0, 8, 9, 48] (fun v _ _ i => v = .slice a len len ∧ i = .int .i64 0) (fun _ _ _ _ => 0)
      case atStart => exact ⟨rfl, rfl⟩
      case round =>
        obtain ⟨rfl, rfl⟩ := hrel
        go_wp2
        go_loop [0, 10, 11, 62] (fun v _ _ i => v = .slice a len len ∧ i = .int .i64 0) (fun _ _ _ _ => 0)
        case atStart => exact ⟨rfl, rfl⟩
        case round =>
          obtain ⟨rfl, rfl⟩ := hrel
          go_wp2
          go_ret
          exact ⟨rfl, rfl⟩

/-- serialOrder, at whatever number of slots: what is handed back can be read. -/
theorem order_any (a : Option Addr) (len : Nat) (zs : List Int) (sa : Option Addr) (n sc : Nat) (ss : List Int) (w : World) (hlen : len ≤ 70000) (hn : n ≤ 70000) (hin : ComesIn .i64 w a len len zs) (hs : Rd .u8 w w.heap.size sa n ss) :
    Calls Try.prog 23 #[.slice a len len, .slice sa n sc] w fun e w' => ∃ ag cap, e = .returned (.slice ag (len + (ord ss).length) cap) ∧ Rd .i64 w' w'.heap.size ag (len + (ord ss).length) (zs ++ ni (ord ss)) ∧ Below w.heap.size w w' := by
  by_cases hn0 : 0 < n
  · rcases hs.2 with h0 | ⟨sb, off, rfl, hsb, hc⟩
    · omega
    · refine (order_some a len zs sb off n sc ss w hlen hn0 hn hin hs.1 hsb hc).mono ?_
      rintro e w' ⟨v, rfl, ho, hb⟩
      obtain ⟨a2, cap, rfl, _, hr, _, _⟩ := ho.reads
      have hl : (zs ++ ni (ord ss)).length = len + (ord ss).length := by rw [List.length_append, ni_length, hin.2.1]
      rw [hl] at hr
      exact ⟨a2, cap, by rw [hl], hr, hb⟩
  · obtain rfl : n = 0 := by omega
    obtain rfl : ss = [] := List.eq_nil_of_length_eq_zero hs.1
    refine (order_zero a len sa sc w hlen).mono ?_
    rintro e w' ⟨rfl, rfl⟩
    have e0 : ord [] = [] := rfl
    rw [e0]
    exact ⟨a, len, rfl, by simpa [ni] using hin.2, Below.refl _ _⟩

set_option maxHeartbeats 1000000 in
set_option maxRecDepth 100000 in
theorem zzorder (a : Option Addr) (len : Nat) (zs : List Int) (sa : Option Addr) (n sc : Nat) (ss : List Int) (w : World) (hlen : len ≤ 70000) (hn : n ≤ 70000) (hin : ComesIn .i64 w a len len zs) (hs : Rd .u8 w w.heap.size sa n ss) :
    Calls Try.prog 9 #[.slice a len len, .slice sa n sc] w fun e w' => ∃ ag cap, e = .returned (.slice ag (len + (ord ss).length) cap) ∧ Rd .i64 w' w'.heap.size ag (len + (ord ss).length) (zs ++ ni (ord ss)) ∧ Below w.heap.size w w' := by
  obtain ⟨i0, hi, hz0, hz1, hz2⟩ := info_parts Try.info46
  have Hi := toHid hi
  have Hz0 := toHid hz0
  have Hz1 := toHid hz1
  have Hz2 := toHid hz2
  have HIN := toHid hin
  have HS := toHid hs
  clear hi hz0 hz1 hz2 hin hs
  obtain ⟨O, hO⟩ : ∃ O, O = ord ss := ⟨_, rfl⟩
  rw [← hO]
  have HOO := toHid hO
  clear hO
  go_enter Try.func9, Try.ntmps9
  go_wp2_with (at_make; refine wpList_make_full _ rfl _ _ 45 rfl w.heap.size 46 i0 (.int .u8 0) 1 Try.underlying45 Hi.out Hz0.out Hz1.out _ _ _ _ n rfl rfl (by omega) (by omega) (by rw [Hz2.out]; omega) (by unfold maxLen; omega) (Nat.le_refl _) ?_)
  intro w1 hown1 hgrow1
  have hb1 : Below w.heap.size w w1 := (Below.refl _ _).grown hgrow1 (Nat.le_refl _) (fun k h => by simp at h)
  have HE : Hid (∃ ys, Row 46 .u8 w1 w.heap.size w.heap.size n ys) := Row.made hown1
  clear hown1 hgrow1
  go_wp2
  go_loopw [6] (fun i wr => ∃ (k : Nat) (ys : List Int), k ≤ n ∧ i = .int .i64 (k : Int) ∧ Row 46 .u8 wr w.heap.size w.heap.size n ys ∧ Below w.heap.size w wr ∧ ∀ j, j < k → ys.getD j 0 = ss.getD j 0) (fun i _ => n - (intOf i).toNat)
  case atStart => obtain ⟨ys, hys⟩ := HE.out; exact ⟨0, ys, Nat.zero_le _, rfl, hys, hb1, fun j hj => by omega⟩
  case round =>
    clear HE hb1
    obtain ⟨k, ys, hk, rfl, hrow, hbel, heq⟩ := hrel
    have HROW := toHid hrow
    have HEQ := toHid heq
    clear heq
    by_cases hlt : k < n
    · obtain ⟨b, off, rfl, hbB, hc⟩ := (HS.out.below hbel).cellAt hlt
      have hc2 := hrow.cell k hlt
      have hf2 := hrow.frozen k
      clear hrow
      go_wp2
      go_roundw
      case rel =>
        refine ⟨k + 1, _, by omega, by go_num, HROW.out.set k _, hbel.setCell (Nat.le_refl _) _, fun j hj => ?_⟩
        have hl := HROW.out.1
        by_cases e : j = k
        · subst e; rw [getD_set_self (by omega)]; simp [List.getD]
        · rw [getD_set_other (by omega)]; exact HEQ.out j (by omega)
      case measure => simp [intOf]; omega
    · have HY : Hid (ys = ss) := same_of HROW.out.1 HS.out.1 (fun j hj => HEQ.out j (by omega))
      have hrd : Rd .u8 wr wr.heap.size (some ⟨w.heap.size, 0, none⟩) n ss := by
        obtain ⟨a2, cap2, he, hn', hrd, _, _⟩ := HROW.out.ow.reads
        simp only [Value.slice.injEq] at he
        obtain ⟨rfl, hl, rfl⟩ := he
        rw [← HY.out]; rw [hl]; exact hrd
      have C23 := toHid (order_any a len zs _ n n ss wr hlen hn (HIN.out.below hbel) hrd)
      rw [← HOO.out] at C23
      clear hrow hrd
      go_wp2_with fail
      refine C23.out.mono ?_
      rintro e w2 ⟨ag, cap2, rfl, hr2, hb2⟩
      have HR2 := toHid hr2
      have hbf := hbel.trans (hb2.mono hbel.size)
      clear hr2 C23
      go_wp2
      go_ret
      exact ⟨ag, cap2, rfl, HR2.out, hbf⟩
end Go.Proofs.Qxb6003656a
