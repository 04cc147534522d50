/-
  THE WALK OF 'appendScaled' (function 22).
-/
import Derived.Test.Qxb6605313aDecWalk
import Derived.Test.Qxb6605313aClone
import Derived.ArgAppend
namespace Go.Proofs.Qxb6605313a
open Go.RowKit
set_option linter.unusedVariables false
set_option linter.unusedSimpArgs false

/-- The array 'text' at block g: from place i on it holds T. -/
def Buf (wr : World) (g i : Nat) (T : List UInt8) : Prop := T.length + i = 21 ∧ ∃ (cur : Array Value) (t : TypeId), wr.heap[g]? = some (.cells cur t (0, 0)) ∧ cur.size = 21 ∧ cur.toList.drop i = bcells (ints T)

theorem Buf.cell {wr : World} {g i : Nat} {T : List UInt8} (h : Buf wr g i T) (j : Nat) (hj : j < 21) : ∃ v, wr.cell? ⟨g, j, none⟩ = some v := by
  obtain ⟨_, cur, t, hg, hs, _⟩ := h
  rw [cell_of_row wr g j cur t (0, 0) hg]
  exact ⟨cur[j], by simp [hs, hj]⟩
theorem Buf.frozen {wr : World} {g i : Nat} {T : List UInt8} (h : Buf wr g i T) (j : Nat) : wr.frozen? ⟨g, j, none⟩ = false := by
  obtain ⟨_, cur, t, hg, hs, _⟩ := h
  exact frozen_of_row wr g j cur t hg
theorem Buf.put {wr : World} {g i : Nat} {T : List UInt8} (h : Buf wr g (i + 1) T) (c : UInt8) (x : Int) (hx : x = (c.toNat : Int)) : Buf (wr.setCell ⟨g, i, none⟩ (.int .u8 x)) g i (c :: T) := by
  obtain ⟨hl, cur, t, hg, hs, hd⟩ := h
  refine ⟨by simp; omega, cur.setIfInBounds i (.int .u8 x), t, heap_setCell_same wr g i cur t _ hg, by simpa using hs, ?_⟩
  have hi : i < cur.toList.length := by simp [hs]; omega
  rw [Array.toList_setIfInBounds]
  have e : (cur.toList.set i (.int .u8 x)).drop i = .int .u8 x :: cur.toList.drop (i + 1) := by
    rw [List.drop_eq_getElem_cons (by simpa using hi), List.getElem_set_self, List.drop_set_of_lt (by omega)]
  rw [e, hd, hx]
  simp [bcells, ints]
theorem Buf.src {wr : World} {g i : Nat} {T : List UInt8} (h : Buf wr g i T) : ∀ j u, (bcells (ints T))[j]? = some u → wr.cell? ((⟨g, i, none⟩ : Addr).add j) = some u := by
  obtain ⟨hl, cur, t, hg, hs, hd⟩ := h
  intro j u hu
  rw [Addr.add_lit, cell_of_row wr g (i + j) cur t (0, 0) hg]
  rw [← hd, List.getElem?_drop] at hu
  simpa using hu

theorem own_mono {w : World} {B B' : Nat} {e : TypeId} {size : Nat} {v : Value} {n : Nat} {xs : List Value} (h : w.ownsRow B' e size v n xs) (hB : B ≤ B') : w.ownsRow B e size v n xs := by
  refine ⟨h.1, ?_⟩
  rcases h.2 with h2 | ⟨g, cap, cur, hv, hg, r⟩
  · exact .inl h2
  · exact .inr ⟨g, cap, cur, hv, Nat.le_trans hB hg, r⟩

theorem toHid {p : Prop} (h : p) : Hid p := h

/-- 'text[i:]'. -/
theorem text_from (g i : Nat) (hi : i < 21) (l : Int) (hl : l = (i : Int)) (ML : Nat) (hML : ML = 21 - i) (W : World) :
    (Instr.sliceAt 44 (.pointer (some ⟨g, 0, none⟩)) (some (.int .i64 l)) none none).run Try.prog W = .ok (.slice (some ⟨g, i, none⟩) ML ML) W := by
  subst hML
  have e1 : Try.prog.arrayLen 44 = 21 := by kernel_rfl
  have e2 : Try.prog.underlying 44 = some (.array (Try.prog.arrayLen 44) (Try.prog.elem 44)) := by kernel_rfl
  have e3 : ∀ W, (sizeOf (Try.prog.elem 44)).run Try.prog W = .ok 1 W := fun W => by kernel_rfl
  subst hl
  rw [run_sliceAt_array_l (P := Try.prog) W 44 ⟨g, 0, none⟩ e2 .i64 (i : Int) (by omega) (by rw [e1]; omega), e3, e1]
  have hne : ¬ 21 = i := by omega
  simp [Result.andThen, slicedAt, hne, Addr.add_lit]

/-- The text behind the digits ahead of the point. -/
def tailL (d m : Nat) : List UInt8 := if 0 < d then 46 :: digL d m else []

set_option maxHeartbeats 1000000 in
theorem appendScaled_any (a : Option Addr) (len : Nat) (zs : List Int) (v : Int) (d : Nat) (w : World) (hlen : len ≤ 1048576) (hin : ComesIn w a len len zs) (h0 : -9223372036854775808 ≤ v) (h1 : v ≤ 9223372036854775807) (hd : d ≤ 18) :
    Calls Try.prog 22 #[.slice a len len, .int .i64 v, .int .i64 (d : Int)] w fun e w' => ∃ (v' : Value) (n : Nat), e = .returned v' ∧ IsNd (v.natAbs / 10 ^ d) n ∧ Owns w' w.heap.size v' (zs ++ ints (fixedL (decide (v < 0)) n d v.natAbs)) ∧ Below w.heap.size w w' := by
  obtain ⟨i0, hi, hz0, hz1, hz2⟩ := info_parts Try.info5
  have Hi : Hid (Try.prog.info? 5 = some i0) := hi
  have Hz0 : Hid (i0.zero = some (.int .u8 0)) := hz0
  have Hz1 : Hid (i0.size = 1) := hz1
  have Hz2 : Hid (i0.bytes = 1) := hz2
  clear hi hz0 hz1 hz2
  obtain ⟨m, hm⟩ : ∃ m, m = v.natAbs := ⟨_, rfl⟩
  rw [← hm]
  have HM : Hid (m = v.natAbs) := hm
  have hmle : m ≤ 9223372036854775808 := by omega
  clear hm
  go_enter Try.func22, Try.ntmps22
  go_wp2_with (go_at_call 28; refine (magnitude_any v _ h0 h1).mono ?_; rintro e w' ⟨rfl, hw'⟩; subst w'; rw [← HM.out])
  go_loopw [8, 9, 13] (fun vi vm vk wr => ∃ k i q : Nat, k ≤ d ∧ i + k = 21 ∧ vk = .int .i64 (k : Int) ∧ vi = .int .i64 (i : Int) ∧ vm = .int .u64 (q : Int) ∧ q = m / 10 ^ k ∧ Buf wr w.heap.size i (digL k m) ∧ Below w.heap.size w wr) (fun _ _ k _ => d - (intOf k).toNat)
  case atStart =>
    refine ⟨0, 21, m, Nat.zero_le _, rfl, rfl, rfl, rfl, by simp, ⟨rfl, _, 44, heap_alloc_new w _, rfl, rfl⟩, (Below.refl _ _).alloc (Nat.le_refl _) _⟩
  case round =>
    obtain ⟨k, i, q, hk, hik, rfl, rfl, rfl, hq, hbuf, hbel⟩ := hrel
    have HQ : Hid (q = m / 10 ^ k) := hq
    have hqm : q ≤ 9223372036854775808 := by rw [hq]; have := Nat.div_le_self m (10 ^ k); omega
    have HBuf : Hid (Buf wr w.heap.size i (digL k m)) := hbuf
    clear hq
    by_cases hlt : k < d
    · obtain ⟨i', rfl⟩ : ∃ i', i = i' + 1 := ⟨i - 1, by omega⟩
      obtain ⟨c0, hc0⟩ := hbuf.cell i' (by omega)
      have hf0 := hbuf.frozen i'
      have hi21 : i' < 21 := by omega
      clear hbuf
      go_wp2
      go_roundw
      case rel =>
        refine ⟨k + 1, i', q / 10, by omega, by omega, by go_num, by go_num, by go_num, ?_, ?_, hbel.setCell (Nat.le_refl _) _⟩
        · rw [HQ.out, Nat.div_div_eq_div_mul, Nat.pow_succ]
        · rw [← digL_step, ← HQ.out]
          exact HBuf.out.put _ _ (by rw [dg_int _ (by omega)]; omega)
      case measure => simp [intOf]; omega
    · obtain rfl : k = d := by omega
      have HQQ : Hid (q = m / 10 ^ k) := HQ.out
      obtain ⟨n0, hn0, hn0r⟩ := room (d := k) (q := q) hmle hd HQ.out
      have HN0 : Hid (IsNd q n0) := hn0
      clear hn0
      by_cases hd0 : 0 < k
      · obtain ⟨i', rfl⟩ : ∃ i', i = i' + 1 := ⟨i - 1, by omega⟩
        obtain ⟨c0, hc0⟩ := hbuf.cell i' (by omega)
        have hf0 := hbuf.frozen i'
        have hi21 : i' < 21 := by omega
        obtain ⟨i00, hi00⟩ : ∃ i00, i00 = i' := ⟨_, rfl⟩
        have HBuf2 : Hid (Buf (wr.setCell ⟨w.heap.size, i', none⟩ (.int .u8 46)) w.heap.size i' ([] ++ tailL k m)) := by
          show Buf _ _ _ _
          have := hbuf.put 46 46 rfl
          simpa [tailL, hd0] using this
        have HBel2 : Hid (Below w.heap.size w (wr.setCell ⟨w.heap.size, i', none⟩ (.int .u8 46))) := hbel.setCell (Nat.le_refl _) _
        have hnr : n0 + 1 ≤ i' := by omega
        clear hbuf hbel HBuf hn0r hlt hk
        go_wp2
        go_loopw [8, 9] (fun vi vm wr => ∃ k2 i2 q2 : Nat, i2 + k2 = i' ∧ vi = .int .i64 (i2 : Int) ∧ vm = .int .u64 (q2 : Int) ∧ q2 = q / 10 ^ k2 ∧ (k2 = 0 ∨ q2 ≠ 0) ∧ Buf wr w.heap.size i2 (digL k2 q ++ tailL k m) ∧ Below w.heap.size w wr) (fun _ q _ => (intOf q).toNat)
        case atStart => exact ⟨0, i', q, by omega, rfl, rfl, by simp, .inl rfl, HBuf2.out, HBel2.out⟩
        case round =>
          clear HBuf2 HBel2
          obtain ⟨k2, i2, q2, hi2, rfl, rfl, hq2, hk2, hbuf3, hbel3⟩ := hrel
          have hk2n : k2 < n0 := by
            rcases hk2 with rfl | hk2
            · exact HN0.out.1
            · rw [hq2] at hk2; exact HN0.out.below hk2
          have hq2m : q2 ≤ 9223372036854775808 := by rw [hq2]; have := Nat.div_le_self q (10 ^ k2); omega
          have hroom : 2 ≤ i2 := by omega
          obtain ⟨j, rfl⟩ : ∃ j, i2 = j + 2 := ⟨i2 - 2, by omega⟩
          have HQ2 : Hid (q2 = q / 10 ^ k2) := hq2
          have HK2 : Hid (k2 = 0 ∨ q2 ≠ 0) := hk2
          have HBuf3 : Hid (Buf wr w.heap.size (j + 2) (digL k2 q ++ tailL k m)) := hbuf3
          obtain ⟨c0, hc0⟩ := hbuf3.cell (j + 1) (by omega)
          have hf0 := hbuf3.frozen (j + 1)
          have hj21 : j + 1 < 21 := by omega
          have hput := HBuf3.out.put (i := j + 1) (dg (q2 % 10)) (48 + (q2 : Int) % 10) (by rw [dg_int _ (by omega)]; omega)
          have HPut : Hid (Buf (wr.setCell ⟨w.heap.size, j + 1, none⟩ (.int .u8 (48 + (q2 : Int) % 10))) w.heap.size (j + 1) (digL (k2 + 1) q ++ tailL k m)) := by
            show Buf _ _ _ _
            rw [← digL_step, ← HQ2.out]; exact hput
          have HBel3 : Hid (Below w.heap.size w (wr.setCell ⟨w.heap.size, j + 1, none⟩ (.int .u8 (48 + (q2 : Int) % 10)))) := hbel3.setCell (Nat.le_refl _) _
          clear hbuf3 hbel3 hq2 hk2 hput
          cases hz : ((q2 : Int) / 10 == 0)
          · go_wp2
            go_roundw
            case rel =>
              refine ⟨k2 + 1, j + 1, q2 / 10, by omega, by go_num, by go_num, ?_, .inr ?_, HPut.out, HBel3.out⟩
              · rw [HQ2.out, Nat.div_div_eq_div_mul, Nat.pow_succ]
              · intro h; simp at hz; omega
            case measure => simp [intOf]; simp at hz; omega
          · have HN1 : Hid (IsNd q (k2 + 1)) := by
              refine nd_stop ?_ ?_
              · rw [← HQ2.out]; exact HK2.out
              · rw [← HQ2.out]; simp at hz; omega
            by_cases hv : v < 0
            · obtain ⟨c1, hc1⟩ := HPut.out.cell j (by omega)
              have hf1 := HPut.out.frozen j
              have hput := HPut.out.put (i := j) 45 45 rfl
              have HFin : Hid (Buf ((wr.setCell ⟨w.heap.size, j + 1, none⟩ (.int .u8 (48 + (q2 : Int) % 10))).setCell ⟨w.heap.size, j, none⟩ (.int .u8 45)) w.heap.size j (fixedL true (k2 + 1) k m)) := by
                show Buf _ _ _ _
                have e : fixedL true (k2 + 1) k m = 45 :: (digL (k2 + 1) q ++ tailL k m) := by rw [HQQ.out]; simp [fixedL, body, tailL]
                rw [e]; exact hput
              have HBF : Hid (Below w.heap.size w ((wr.setCell ⟨w.heap.size, j + 1, none⟩ (.int .u8 (48 + (q2 : Int) % 10))).setCell ⟨w.heap.size, j, none⟩ (.int .u8 45))) := HBel3.out.setCell (Nat.le_refl _) _
              clear hput
              obtain ⟨ML, hML⟩ : ∃ ML, ML = 21 - j := ⟨_, rfl⟩
              have hsl := fun W => text_from w.heap.size j (by omega) ((j : Int) + 2 - 1 - 1) (by omega) ML hML W
              have HML : Hid (ML = 21 - j) := hML
              have hml0 : 0 < ML := by omega
              have hml1 : ML ≤ 21 := by omega
              clear hML
              have S1 : Hid (a = none → len = 0 ∧ len = 0) := hin.1
              have S2 : Hid ((bcells zs).length = len * 1) := by show _ = _; rw [length_bcells, hin.2.1]; omega
              have S3 := toHid (fun b (hab : a = some b) => by subst hab; exact (hin.2.below HBF.out).cells : ∀ b, a = some b → ∀ j u, (bcells zs)[j]? = some u → World.cell? _ (b.add j) = some u)
              have S4 : Hid ((bcells (ints (fixedL true (k2 + 1) k m))).length = ML * 1) := by show _ = _; have := HFin.out.1; have := HML.out; rw [length_bcells, ints_length]; omega
              have S5 := toHid HFin.out.src
              go_wp2_with (at_builtin; refine wpList_append_grows _ rfl (.tmp 50) (.tmp 52) 22 rfl 5 i0 (.int .u8 0) 1 1 Try.underlying22 Hi.out Hz0.out Hz1.out Hz2.out rfl (by decide) a len len (bcells zs) rfl S1.out S2.out S3.out ⟨w.heap.size, j, none⟩ ML ML (bcells (ints (fixedL true (k2 + 1) k m))) rfl S4.out S5.out (bcells_oneCell _) (by omega) (by unfold maxLen; omega) (by omega) ?_)
              intro v' w5 hown5 hg5
              have hb5 := HBF.out.grown hg5 HBF.out.size (fun k h => by simp at h)
              have HO : Hid (Owns w5 w.heap.size v' (zs ++ ints (fixedL true (k2 + 1) k m))) := by
                show World.ownsRow _ _ _ _ _ _ _
                have hl := HFin.out.1
                have hml := HML.out
                have e : (zs ++ ints (fixedL true (k2 + 1) k m)).length = len + ML := by rw [List.length_append, ints_length, hin.2.1]; omega
                rw [bcells_append, e]
                exact own_mono hown5 (by simpa using HBF.out.size)
              go_wp2
              go_ret
              exact ⟨v', k2 + 1, rfl, by rw [← HQQ.out]; exact HN1.out, (by rw [show decide (v < 0) = true from by simp [hv]]; exact HO.out), hb5⟩
            · have HFin : Hid (Buf (wr.setCell ⟨w.heap.size, j + 1, none⟩ (.int .u8 (48 + (q2 : Int) % 10))) w.heap.size (j + 1) (fixedL false (k2 + 1) k m)) := by
                show Buf _ _ _ _
                have e : fixedL false (k2 + 1) k m = digL (k2 + 1) q ++ tailL k m := by rw [HQQ.out]; simp [fixedL, body, tailL]
                rw [e]; exact HPut.out
              have HBF := HBel3
              obtain ⟨ML, hML⟩ : ∃ ML, ML = 21 - (j + 1) := ⟨_, rfl⟩
              have hsl := fun W => text_from w.heap.size (j + 1) (by omega) ((j : Int) + 2 - 1) (by omega) ML hML W
              have HML : Hid (ML = 21 - (j + 1)) := hML
              have hml0 : 0 < ML := by omega
              have hml1 : ML ≤ 21 := by omega
              clear hML
              have S1 : Hid (a = none → len = 0 ∧ len = 0) := hin.1
              have S2 : Hid ((bcells zs).length = len * 1) := by show _ = _; rw [length_bcells, hin.2.1]; omega
              have S3 := toHid (fun b (hab : a = some b) => by subst hab; exact (hin.2.below HBF.out).cells : ∀ b, a = some b → ∀ j u, (bcells zs)[j]? = some u → World.cell? _ (b.add j) = some u)
              have S4 : Hid ((bcells (ints (fixedL false (k2 + 1) k m))).length = ML * 1) := by show _ = _; have := HFin.out.1; have := HML.out; rw [length_bcells, ints_length]; omega
              have S5 := toHid HFin.out.src
              go_wp2_with (at_builtin; refine wpList_append_grows _ rfl (.tmp 50) (.tmp 52) 22 rfl 5 i0 (.int .u8 0) 1 1 Try.underlying22 Hi.out Hz0.out Hz1.out Hz2.out rfl (by decide) a len len (bcells zs) rfl S1.out S2.out S3.out ⟨w.heap.size, (j + 1), none⟩ ML ML (bcells (ints (fixedL false (k2 + 1) k m))) rfl S4.out S5.out (bcells_oneCell _) (by omega) (by unfold maxLen; omega) (by omega) ?_)
              intro v' w5 hown5 hg5
              have hb5 := HBF.out.grown hg5 HBF.out.size (fun k h => by simp at h)
              have HO : Hid (Owns w5 w.heap.size v' (zs ++ ints (fixedL false (k2 + 1) k m))) := by
                show World.ownsRow _ _ _ _ _ _ _
                have hl := HFin.out.1
                have hml := HML.out
                have e : (zs ++ ints (fixedL false (k2 + 1) k m)).length = len + ML := by rw [List.length_append, ints_length, hin.2.1]; omega
                rw [bcells_append, e]
                exact own_mono hown5 (by simpa using HBF.out.size)
              go_wp2
              go_ret
              exact ⟨v', k2 + 1, rfl, by rw [← HQQ.out]; exact HN1.out, (by rw [show decide (v < 0) = false from by simp [hv]]; exact HO.out), hb5⟩
      · have HBuf2 : Hid (Buf wr w.heap.size i ([] ++ tailL k m)) := by
          show Buf _ _ _ _
          have e0 : k = 0 := by omega
          have := hbuf
          rw [e0] at this ⊢
          exact this
        have HBel2 : Hid (Below w.heap.size w wr) := hbel
        have hnr : n0 + 1 ≤ i := by omega
        clear hbuf hbel HBuf hn0r hlt hk
        go_wp2
        go_loopw [8, 9] (fun vi vm wr => ∃ k2 i2 q2 : Nat, i2 + k2 = i ∧ vi = .int .i64 (i2 : Int) ∧ vm = .int .u64 (q2 : Int) ∧ q2 = q / 10 ^ k2 ∧ (k2 = 0 ∨ q2 ≠ 0) ∧ Buf wr w.heap.size i2 (digL k2 q ++ tailL k m) ∧ Below w.heap.size w wr) (fun _ q _ => (intOf q).toNat)
        case atStart => exact ⟨0, i, q, by omega, rfl, rfl, by simp, .inl rfl, HBuf2.out, HBel2.out⟩
        case round =>
          clear HBuf2 HBel2
          obtain ⟨k2, i2, q2, hi2, rfl, rfl, hq2, hk2, hbuf3, hbel3⟩ := hrel
          have hk2n : k2 < n0 := by
            rcases hk2 with rfl | hk2
            · exact HN0.out.1
            · rw [hq2] at hk2; exact HN0.out.below hk2
          have hq2m : q2 ≤ 9223372036854775808 := by rw [hq2]; have := Nat.div_le_self q (10 ^ k2); omega
          have hroom : 2 ≤ i2 := by omega
          obtain ⟨j, rfl⟩ : ∃ j, i2 = j + 2 := ⟨i2 - 2, by omega⟩
          have HQ2 : Hid (q2 = q / 10 ^ k2) := hq2
          have HK2 : Hid (k2 = 0 ∨ q2 ≠ 0) := hk2
          have HBuf3 : Hid (Buf wr w.heap.size (j + 2) (digL k2 q ++ tailL k m)) := hbuf3
          obtain ⟨c0, hc0⟩ := hbuf3.cell (j + 1) (by omega)
          have hf0 := hbuf3.frozen (j + 1)
          have hj21 : j + 1 < 21 := by omega
          have hput := HBuf3.out.put (i := j + 1) (dg (q2 % 10)) (48 + (q2 : Int) % 10) (by rw [dg_int _ (by omega)]; omega)
          have HPut : Hid (Buf (wr.setCell ⟨w.heap.size, j + 1, none⟩ (.int .u8 (48 + (q2 : Int) % 10))) w.heap.size (j + 1) (digL (k2 + 1) q ++ tailL k m)) := by
            show Buf _ _ _ _
            rw [← digL_step, ← HQ2.out]; exact hput
          have HBel3 : Hid (Below w.heap.size w (wr.setCell ⟨w.heap.size, j + 1, none⟩ (.int .u8 (48 + (q2 : Int) % 10)))) := hbel3.setCell (Nat.le_refl _) _
          clear hbuf3 hbel3 hq2 hk2 hput
          cases hz : ((q2 : Int) / 10 == 0)
          · go_wp2
            go_roundw
            case rel =>
              refine ⟨k2 + 1, j + 1, q2 / 10, by omega, by go_num, by go_num, ?_, .inr ?_, HPut.out, HBel3.out⟩
              · rw [HQ2.out, Nat.div_div_eq_div_mul, Nat.pow_succ]
              · intro h; simp at hz; omega
            case measure => simp [intOf]; simp at hz; omega
          · have HN1 : Hid (IsNd q (k2 + 1)) := by
              refine nd_stop ?_ ?_
              · rw [← HQ2.out]; exact HK2.out
              · rw [← HQ2.out]; simp at hz; omega
            by_cases hv : v < 0
            · obtain ⟨c1, hc1⟩ := HPut.out.cell j (by omega)
              have hf1 := HPut.out.frozen j
              have hput := HPut.out.put (i := j) 45 45 rfl
              have HFin : Hid (Buf ((wr.setCell ⟨w.heap.size, j + 1, none⟩ (.int .u8 (48 + (q2 : Int) % 10))).setCell ⟨w.heap.size, j, none⟩ (.int .u8 45)) w.heap.size j (fixedL true (k2 + 1) k m)) := by
                show Buf _ _ _ _
                have e : fixedL true (k2 + 1) k m = 45 :: (digL (k2 + 1) q ++ tailL k m) := by rw [HQQ.out]; simp [fixedL, body, tailL]
                rw [e]; exact hput
              have HBF : Hid (Below w.heap.size w ((wr.setCell ⟨w.heap.size, j + 1, none⟩ (.int .u8 (48 + (q2 : Int) % 10))).setCell ⟨w.heap.size, j, none⟩ (.int .u8 45))) := HBel3.out.setCell (Nat.le_refl _) _
              clear hput
              obtain ⟨ML, hML⟩ : ∃ ML, ML = 21 - j := ⟨_, rfl⟩
              have hsl := fun W => text_from w.heap.size j (by omega) ((j : Int) + 2 - 1 - 1) (by omega) ML hML W
              have HML : Hid (ML = 21 - j) := hML
              have hml0 : 0 < ML := by omega
              have hml1 : ML ≤ 21 := by omega
              clear hML
              have S1 : Hid (a = none → len = 0 ∧ len = 0) := hin.1
              have S2 : Hid ((bcells zs).length = len * 1) := by show _ = _; rw [length_bcells, hin.2.1]; omega
              have S3 := toHid (fun b (hab : a = some b) => by subst hab; exact (hin.2.below HBF.out).cells : ∀ b, a = some b → ∀ j u, (bcells zs)[j]? = some u → World.cell? _ (b.add j) = some u)
              have S4 : Hid ((bcells (ints (fixedL true (k2 + 1) k m))).length = ML * 1) := by show _ = _; have := HFin.out.1; have := HML.out; rw [length_bcells, ints_length]; omega
              have S5 := toHid HFin.out.src
              go_wp2_with (at_builtin; refine wpList_append_grows _ rfl (.tmp 50) (.tmp 52) 22 rfl 5 i0 (.int .u8 0) 1 1 Try.underlying22 Hi.out Hz0.out Hz1.out Hz2.out rfl (by decide) a len len (bcells zs) rfl S1.out S2.out S3.out ⟨w.heap.size, j, none⟩ ML ML (bcells (ints (fixedL true (k2 + 1) k m))) rfl S4.out S5.out (bcells_oneCell _) (by omega) (by unfold maxLen; omega) (by omega) ?_)
              intro v' w5 hown5 hg5
              have hb5 := HBF.out.grown hg5 HBF.out.size (fun k h => by simp at h)
              have HO : Hid (Owns w5 w.heap.size v' (zs ++ ints (fixedL true (k2 + 1) k m))) := by
                show World.ownsRow _ _ _ _ _ _ _
                have hl := HFin.out.1
                have hml := HML.out
                have e : (zs ++ ints (fixedL true (k2 + 1) k m)).length = len + ML := by rw [List.length_append, ints_length, hin.2.1]; omega
                rw [bcells_append, e]
                exact own_mono hown5 (by simpa using HBF.out.size)
              go_wp2
              go_ret
              exact ⟨v', k2 + 1, rfl, by rw [← HQQ.out]; exact HN1.out, (by rw [show decide (v < 0) = true from by simp [hv]]; exact HO.out), hb5⟩
            · have HFin : Hid (Buf (wr.setCell ⟨w.heap.size, j + 1, none⟩ (.int .u8 (48 + (q2 : Int) % 10))) w.heap.size (j + 1) (fixedL false (k2 + 1) k m)) := by
                show Buf _ _ _ _
                have e : fixedL false (k2 + 1) k m = digL (k2 + 1) q ++ tailL k m := by rw [HQQ.out]; simp [fixedL, body, tailL]
                rw [e]; exact HPut.out
              have HBF := HBel3
              obtain ⟨ML, hML⟩ : ∃ ML, ML = 21 - (j + 1) := ⟨_, rfl⟩
              have hsl := fun W => text_from w.heap.size (j + 1) (by omega) ((j : Int) + 2 - 1) (by omega) ML hML W
              have HML : Hid (ML = 21 - (j + 1)) := hML
              have hml0 : 0 < ML := by omega
              have hml1 : ML ≤ 21 := by omega
              clear hML
              have S1 : Hid (a = none → len = 0 ∧ len = 0) := hin.1
              have S2 : Hid ((bcells zs).length = len * 1) := by show _ = _; rw [length_bcells, hin.2.1]; omega
              have S3 := toHid (fun b (hab : a = some b) => by subst hab; exact (hin.2.below HBF.out).cells : ∀ b, a = some b → ∀ j u, (bcells zs)[j]? = some u → World.cell? _ (b.add j) = some u)
              have S4 : Hid ((bcells (ints (fixedL false (k2 + 1) k m))).length = ML * 1) := by show _ = _; have := HFin.out.1; have := HML.out; rw [length_bcells, ints_length]; omega
              have S5 := toHid HFin.out.src
              go_wp2_with (at_builtin; refine wpList_append_grows _ rfl (.tmp 50) (.tmp 52) 22 rfl 5 i0 (.int .u8 0) 1 1 Try.underlying22 Hi.out Hz0.out Hz1.out Hz2.out rfl (by decide) a len len (bcells zs) rfl S1.out S2.out S3.out ⟨w.heap.size, (j + 1), none⟩ ML ML (bcells (ints (fixedL false (k2 + 1) k m))) rfl S4.out S5.out (bcells_oneCell _) (by omega) (by unfold maxLen; omega) (by omega) ?_)
              intro v' w5 hown5 hg5
              have hb5 := HBF.out.grown hg5 HBF.out.size (fun k h => by simp at h)
              have HO : Hid (Owns w5 w.heap.size v' (zs ++ ints (fixedL false (k2 + 1) k m))) := by
                show World.ownsRow _ _ _ _ _ _ _
                have hl := HFin.out.1
                have hml := HML.out
                have e : (zs ++ ints (fixedL false (k2 + 1) k m)).length = len + ML := by rw [List.length_append, ints_length, hin.2.1]; omega
                rw [bcells_append, e]
                exact own_mono hown5 (by simpa using HBF.out.size)
              go_wp2
              go_ret
              exact ⟨v', k2 + 1, rfl, by rw [← HQQ.out]; exact HN1.out, (by rw [show decide (v < 0) = false from by simp [hv]]; exact HO.out), hb5⟩
end Go.Proofs.Qxb6605313a
