/-
  WHAT THE WALKS OF THIS SEAT SHARE; 'zzRank' (10), 'zzKey' (11), the bounds (7), 'zzCloneInts' (8).
-/
import Derived.Test.Qxb6003656aProg
import Derived.Test.Qxb6003656aPlain
import Derived.WalkKit
import Derived.WalkSpells
import Derived.WalkLawsBesides
import Derived.Below
import Derived.Laws.CopyOwn
import Derived.Deep.Light
namespace Go.Proofs.Qxb6003656a
open Go.RowKit
set_option linter.unusedVariables false
set_option linter.unusedSimpArgs false

theorem Try.info3 : (Try.prog.info? 3).map (fun i => (i.zero, i.size, i.bytes)) = some (some (.int .i64 0), 1, 8) := by kernel_rfl
theorem Try.info5 : (Try.prog.info? 5).map (fun i => (i.zero, i.size, i.bytes)) = some (some (.int .u8 0), 1, 1) := by kernel_rfl
theorem Try.info46 : (Try.prog.info? 46).map (fun i => (i.zero, i.size, i.bytes)) = some (some (.int .u8 0), 1, 1) := by kernel_rfl

theorem toHid {p : Prop} (h : p) : Hid p := h

/-- A slice of numbers of kind k, read: 'zs' are its elements; it lies below block B. -/
def Rd (k : IntKind) (w : World) (B : Nat) (a : Option Addr) (len : Nat) (zs : List Int) : Prop :=
  zs.length = len ∧ (len = 0 ∨ ∃ b off, a = some ⟨b, off, none⟩ ∧ b < B ∧ ∀ j, j < len → w.cell? ⟨b, off + j, none⟩ = some (.int k (zs.getD j 0)))
section
variable {k : IntKind} {w w' : World} {B B' : Nat} {a : Option Addr} {len : Nat} {zs : List Int}
theorem Rd.below (h : Rd k w B a len zs) (hb : Below B w w') : Rd k w' B a len zs := by
  refine ⟨h.1, ?_⟩
  rcases h.2 with h0 | ⟨b, off, ha, hlt, hc⟩
  · exact .inl h0
  · exact .inr ⟨b, off, ha, hlt, fun j hj => (hb.cell (by exact hlt)).trans (hc j hj)⟩
theorem Rd.mono (h : Rd k w B a len zs) (hB : B ≤ B') : Rd k w B' a len zs := by
  refine ⟨h.1, ?_⟩
  rcases h.2 with h0 | ⟨b, off, ha, hlt, hc⟩
  · exact .inl h0
  · exact .inr ⟨b, off, ha, by omega, hc⟩
theorem Rd.drewN (h : Rd k w B a len zs) (q : Nat) : Rd k (w.drewN q) B a len zs := h
theorem Rd.cellAt (h : Rd k w B a len zs) {j : Nat} (hj : j < len) : ∃ b off, a = some ⟨b, off, none⟩ ∧ b < B ∧ w.cell? ⟨b, off + j, none⟩ = some (.int k (zs.getD j 0)) := by
  rcases h.2 with h0 | ⟨b, off, ha, hb, hc⟩
  · omega
  · exact ⟨b, off, ha, hb, hc j hj⟩
end

/-- Numbers as cells. -/
def ncells (k : IntKind) (zs : List Int) : List Value := zs.map (Value.int k)
theorem length_ncells (k : IntKind) (zs : List Int) : (ncells k zs).length = zs.length := by simp [ncells]
theorem ncells_append (k : IntKind) (a b : List Int) : ncells k (a ++ b) = ncells k a ++ ncells k b := by simp [ncells]
theorem ncells_oneCell (k : IntKind) (zs : List Int) : ∀ u ∈ ncells k zs, u.oneCell' = true := ints_oneCell _ _

theorem Rd.cells {k : IntKind} {w : World} {B : Nat} {ad : Addr} {len : Nat} {zs : List Int} (h : Rd k w B (some ad) len zs) : ∀ j u, (ncells k zs)[j]? = some u → w.cell? (ad.add j) = some u := by
  intro j u hu
  have hj : j < zs.length := by have := (List.getElem?_eq_some_iff.1 hu).1; simpa [ncells] using this
  have hl := h.1
  rcases h.2 with h0 | ⟨b, off, ha, hlt, hc⟩
  · omega
  · obtain rfl := Option.some.inj ha
    rw [Addr.add_lit, hc j (by omega), ← hu]
    simp [ncells, List.getD, hj]

/-- What the call owns: numbers of kind k, element type e. -/
def Ow (e : TypeId) (k : IntKind) (w : World) (B : Nat) (v : Value) (zs : List Int) : Prop := w.ownsRow B e 1 v zs.length (ncells k zs)
section
variable {e : TypeId} {k : IntKind} {w w' : World} {B : Nat} {v : Value} {zs : List Int}
theorem Ow.below (h : Ow e k w B v zs) (hb : Below w.heap.size w w') : Ow e k w' B v zs :=
  World.ownsRow.kept (row := none) h ⟨hb.os, hb.tape, hb.output, hb.size, fun j hj _ => hb.block j hj⟩ (by cases hv : v.ownBlock <;> simp)
theorem Ow.reads (h : Ow e k w B v zs) : ∃ a cap, v = .slice a zs.length cap ∧ (a = none → zs.length = 0 ∧ cap = 0) ∧ Rd k w w.heap.size a zs.length zs ∧ zs.length ≤ cap ∧ cap ≤ maxLen := by
  rcases h.2 with ⟨rfl, h0⟩ | ⟨g, cap, cur, rfl, hB, hg, hnc, hcm, hcs, htake⟩
  · exact ⟨none, 0, by rw [h0], fun _ => ⟨h0, rfl⟩, ⟨rfl, .inl h0⟩, by omega, by simp [maxLen]⟩
  · refine ⟨some ⟨g, 0, none⟩, cap, rfl, fun h => by simp at h, ⟨rfl, .inr ⟨g, 0, rfl, (Array.getElem?_eq_some_iff.1 hg).1, fun j hj => ?_⟩⟩, hnc, hcm⟩
    have := World.ownsRow.cellAt h j (by omega)
    rw [Nat.zero_add, this]
    simp [ncells, List.getD, hj]
end

/-- A slice that came in. -/
def ComesIn (k : IntKind) (w : World) (a : Option Addr) (len cap : Nat) (zs : List Int) : Prop := (a = none → len = 0 ∧ cap = 0) ∧ Rd k w w.heap.size a len zs
theorem ComesIn.below {k : IntKind} {w w' : World} {a : Option Addr} {len cap : Nat} {zs : List Int} (h : ComesIn k w a len cap zs) (hb : Below w.heap.size w w') : ComesIn k w' a len cap zs :=
  ⟨h.1, (h.2.below hb).mono hb.size⟩

/-- A row of n numbers of the call's own at block g. -/
def Row (e : TypeId) (k : IntKind) (wr : World) (B g n : Nat) (zs : List Int) : Prop := zs.length = n ∧ wr.ownsRow B e 1 (.slice (some ⟨g, 0, none⟩) n n) n (ncells k zs)
section
variable {e : TypeId} {k : IntKind} {wr w' : World} {B g n : Nat} {zs : List Int}
theorem Row.cell (h : Row e k wr B g n zs) (j : Nat) (hj : j < n) : wr.cell? ⟨g, j, none⟩ = some (.int k (zs.getD j 0)) := by
  have hl := h.1
  rw [World.ownsRow.cellAt h.2 j (by omega)]
  simp [ncells, List.getD, show j < zs.length by omega]
theorem Row.frozen (h : Row e k wr B g n zs) (j : Nat) : wr.frozen? ⟨g, j, none⟩ = false := World.ownsRow.frozenAt h.2 j
theorem Row.set (h : Row e k wr B g n zs) (j : Nat) (v : Int) : Row e k (wr.setCell ⟨g, j, none⟩ (.int k v)) B g n (zs.set j v) := by
  refine ⟨by rw [List.length_set]; exact h.1, ?_⟩
  have := (World.ownsRow.stored h.2 j (.int k v)).1
  have e2 : ncells k (zs.set j v) = (ncells k zs).set j (.int k v) := by unfold ncells; rw [List.map_set]
  rw [e2]; exact this
theorem Row.made {w w1 : World} (h : w1.ownsRow B e 1 (.slice (some ⟨w.heap.size, 0, none⟩) n n) n (madeCells #[.int k 0] n).toList) : ∃ zs, Row e k w1 B w.heap.size n zs := by
  refine ⟨List.replicate n 0, by simp, ?_⟩
  have e2 : (madeCells #[.int k 0] n).toList = ncells k (List.replicate n 0) := by
    apply List.ext_getElem?
    intro i
    simp [madeCells, ncells, Nat.mod_one]
    by_cases hi : i < n
    · simp [hi]
    · simp [hi]
  rw [← e2]; exact h
theorem Row.ow (h : Row e k wr B g n zs) : Ow e k wr B (.slice (some ⟨g, 0, none⟩) n n) zs := by
  show World.ownsRow _ _ _ _ _ _ _
  rw [h.1]; exact h.2
end

theorem getD_set_self {l : List Int} {k : Nat} {v : Int} (h : k < l.length) : (l.set k v).getD k 0 = v := by simp [List.getD, h]
theorem getD_set_other {l : List Int} {k j : Nat} {v : Int} (h : ¬ k = j) : (l.set k v).getD j 0 = l.getD j 0 := by simp [List.getD, h]
theorem same_of {ys zs : List Int} {n : Nat} (hy : ys.length = n) (hz : zs.length = n) (h : ∀ j, j < n → ys.getD j 0 = zs.getD j 0) : ys = zs := by
  apply List.ext_getElem (by omega)
  intro i h1 h2
  have := h i (by omega)
  simpa [List.getD, h1, h2] using this

/-! ### The small callees -/
theorem rank_any (c : Int) (w : World) : Calls Try.prog 10 #[.int .u8 c] w fun e w' => e = .returned (.int .i64 (rk c)) ∧ w' = w := by
  unfold rk
  by_cases h2 : c = 2
  · subst h2
    go_enter Try.func10, Try.ntmps10
    go_wp2
    go_ret
    exact ⟨rfl, rfl⟩
  · by_cases h3 : c = 3
    · subst h3
      go_enter Try.func10, Try.ntmps10
      go_wp2
      go_ret
      exact ⟨rfl, rfl⟩
    · by_cases h0 : c = 0
      · subst h0
        go_enter Try.func10, Try.ntmps10
        go_wp2
        go_ret
        exact ⟨rfl, rfl⟩
      · by_cases h4 : c = 4
        · subst h4
          go_enter Try.func10, Try.ntmps10
          go_wp2
          go_ret
          exact ⟨rfl, rfl⟩
        · have b2 : (c == 2) = false := beq_eq_false_iff_ne.2 h2
          have b3 : (c == 3) = false := beq_eq_false_iff_ne.2 h3
          have b0 : (c == 0) = false := beq_eq_false_iff_ne.2 h0
          have b4 : (c == 4) = false := beq_eq_false_iff_ne.2 h4
          rw [if_neg h2, if_neg h3, if_neg h0, if_neg h4]
          clear h2 h3 h0 h4
          go_enter Try.func10, Try.ntmps10
          go_wp2
          go_ret
          exact ⟨rfl, rfl⟩
theorem key_any (r i : Int) (w : World) (h0 : 0 ≤ i) (h1 : i ≤ 1048576) : Calls Try.prog 11 #[.int .i64 r, .int .i64 i] w fun e w' => e = .returned (.int .i64 (ky r i)) ∧ w' = w := by
  unfold ky
  by_cases h : r = 1
  · subst h
    go_enter Try.func11, Try.ntmps11
    go_wp2
    go_ret
    exact ⟨rfl, rfl⟩
  · have b : (r == 1) = false := beq_eq_false_iff_ne.2 h
    rw [if_neg h]
    clear h
    go_enter Try.func11, Try.ntmps11
    go_wp2
    go_ret
    exact ⟨rfl, rfl⟩
theorem bytes7 (a b : Option Addr) (la ca lb cb : Nat) (w : World) (h : la + lb ≤ 1048576) : Calls Try.prog 7 #[.slice a la ca, .slice b lb cb] w fun e w' => e = .returned (.bool true) ∧ w' = w := by
  go_enter Try.func7, Try.ntmps7
  go_wp2
  go_ret
  exact ⟨rfl, rfl⟩
theorem bytes7_no (a b : Option Addr) (la ca lb cb : Nat) (w : World) (h : 1048576 < la + lb) : Calls Try.prog 7 #[.slice a la ca, .slice b lb cb] w fun e w' => e = .returned (.bool false) ∧ w' = w := by
  go_enter Try.func7, Try.ntmps7
  go_wp2
  all_goals (go_ret; exact ⟨rfl, rfl⟩)

/-! ### 'zzCloneInts' -/
theorem clone_none (w : World) : Calls Try.prog 8 #[.slice none 0 0] w fun e w' => e = .returned (.slice none 0 0) ∧ w' = w := by
  have q := fun (w : World) (a : Option Addr) (n c n' c' : Nat) => Lib.run_eql_slice_nil (P := Try.prog) w 22 3 a n c n' c' Try.underlying22
  go_enter Try.func8, Try.ntmps8
  go_wp2
  go_ret
  exact ⟨rfl, rfl⟩

set_option maxHeartbeats 400000 in
theorem clone_some (x : Addr) (len cap : Nat) (zs : List Int) (w : World) (hlen : len ≤ 1048576) (hr : Rd .i64 w w.heap.size (some x) len zs) :
    Calls Try.prog 8 #[.slice (some x) len cap] w fun e w' => e = .returned (.slice (some ⟨w.heap.size, 0, none⟩) len len) ∧ Row 3 .i64 w' w.heap.size w.heap.size len zs ∧ Below w.heap.size w w' := by
  obtain ⟨i0, hi, hz0, hz1, hz2⟩ := info_parts Try.info3
  have q := fun (w : World) (a : Option Addr) (n c n' c' : Nat) => Lib.run_eql_slice_nil (P := Try.prog) w 22 3 a n c n' c' Try.underlying22
  have HR := toHid hr
  have HZ := toHid hr.1
  have Hi := toHid hi
  have Hz0 := toHid hz0
  have Hz1 := toHid hz1
  have Hz2 := toHid hz2
  clear hi hz0 hz1 hz2 hr
  go_enter Try.func8, Try.ntmps8
  go_wp2_with (at_make; refine wpList_make_full _ rfl _ _ 22 rfl w.heap.size 3 i0 (.int .i64 0) 1 Try.underlying22 Hi.out Hz0.out Hz1.out _ _ _ _ len rfl rfl (by omega) (by omega) (by rw [Hz2.out]; omega) (by unfold maxLen; omega) (Nat.le_refl _) ?_)
  intro w1 hown1 hgrow1
  have hb1 : Below w.heap.size w w1 := (Below.refl _ _).grown hgrow1 (Nat.le_refl _) (fun k h => by simp at h)
  have HE : Hid (∃ ys, Row 3 .i64 w1 w.heap.size w.heap.size len ys) := Row.made hown1
  clear hown1 hgrow1 q
  go_wp2
  go_loopw [4] (fun i wr => ∃ (k : Nat) (ys : List Int), k ≤ len ∧ i = .int .i64 (k : Int) ∧ Row 3 .i64 wr w.heap.size w.heap.size len ys ∧ Below w.heap.size w wr ∧ ∀ j, j < k → ys.getD j 0 = zs.getD j 0) (fun i _ => len - (intOf i).toNat)
  case atStart => obtain ⟨ys, hys⟩ := HE.out; exact ⟨0, ys, Nat.zero_le _, rfl, hys, hb1, fun j hj => by omega⟩
  case round =>
    clear HE hb1
    obtain ⟨k, ys, hk, rfl, hrow, hbel, heq⟩ := hrel
    have HROW := toHid hrow
    have HEQ := toHid heq
    clear heq
    by_cases hlt : k < len
    · obtain ⟨b, off, hx, hbB, hc⟩ := (HR.out.below hbel).cellAt hlt
      obtain rfl := Option.some.inj hx
      have hc2 := hrow.cell k hlt
      have hf2 := hrow.frozen k
      clear hrow hx
      go_wp2
      go_roundw
      case rel =>
        refine ⟨k + 1, _, by omega, by go_num, HROW.out.set k _, hbel.setCell (Nat.le_refl _) _, fun j hj => ?_⟩
        have hl := HROW.out.1
        by_cases e : j = k
        · subst e; rw [getD_set_self (by omega)]; simp [List.getD]
        · rw [getD_set_other (by omega)]; exact HEQ.out j (by omega)
      case measure => simp [intOf]; omega
    · have HY : Hid (ys = zs) := same_of HROW.out.1 HZ.out (fun j hj => HEQ.out j (by omega))
      clear hrow
      go_wp2
      go_ret
      exact ⟨rfl, by rw [← HY.out]; exact HROW.out, hbel⟩

theorem clone_any (a : Option Addr) (len cap : Nat) (zs : List Int) (w : World) (hlen : len ≤ 1048576) (h : ComesIn .i64 w a len cap zs) :
    Calls Try.prog 8 #[.slice a len cap] w fun e w' => ∃ a', e = .returned (.slice a' len len) ∧ ComesIn .i64 w' a' len len zs ∧ Below w.heap.size w w' := by
  cases a with
  | none =>
    obtain ⟨rfl, rfl⟩ := h.1 rfl
    refine (clone_none w).mono ?_
    rintro e w' ⟨rfl, rfl⟩
    exact ⟨none, rfl, h, Below.refl _ _⟩
  | some x =>
    refine (clone_some x len cap zs w hlen h.2).mono ?_
    rintro e w' ⟨rfl, hr, hb⟩
    obtain ⟨a2, cap2, he, hn, hrd, _, _⟩ := hr.ow.reads
    simp only [Value.slice.injEq] at he
    obtain ⟨rfl, hl, rfl⟩ := he
    exact ⟨_, rfl, ⟨fun h' => ⟨by rw [hl]; exact (hn h').1, (hn h').2⟩, by rw [hl]; exact hrd⟩, hb⟩

end Go.Proofs.Qxb6003656a
