/-
  WHAT THE WALK OF 'FnFitsAcceptsItsLayoutAndItsFillings' WANTS OF BYTES IN MEMORY.
-/
import Derived.Test.Qxb6605401aWalks
import Derived.Laws.IdiomStrings
namespace Go.Proofs.Qxb6605401a
open Go.RowKit
set_option linter.unusedVariables false

theorem Try.info5 : (Try.prog.info? 5).map (fun i => (i.zero, i.size, i.bytes)) = some (some (.int .u8 0), 1, 1) := by kernel_rfl

/-- Bytes as cells. -/
def ucells (l : List UInt8) : List Value := l.map fun b => .int .u8 (b.toNat : Int)
theorem length_ucells (l : List UInt8) : (ucells l).length = l.length := by simp [ucells]

/-- A row of n bytes of the call's own at block g. -/
def Row (wr : World) (B g n : Nat) (zs : List UInt8) : Prop := zs.length = n ∧ wr.ownsRow B 5 1 (.slice (some ⟨g, 0, none⟩) n n) n (ucells zs)

theorem Row.cell {wr : World} {B g n : Nat} {zs : List UInt8} (h : Row wr B g n zs) (k : Nat) (hk : k < n) : wr.cell? ⟨g, k, none⟩ = some (.int .u8 ((zs.getD k 0).toNat : Int)) := by
  have hl := h.1
  rw [World.ownsRow.cellAt h.2 k (by omega)]
  simp [ucells, List.getD, show k < zs.length by omega]

theorem Row.frozen {wr : World} {B g n : Nat} {zs : List UInt8} (h : Row wr B g n zs) (k : Nat) : wr.frozen? ⟨g, k, none⟩ = false := World.ownsRow.frozenAt h.2 k

theorem Row.lt {wr : World} {B g n : Nat} {zs : List UInt8} (h : Row wr B g n zs) : B ≤ g ∧ g < wr.heap.size := World.ownsRow.lt h.2 g rfl

theorem byte_of (v : Int) (h0 : 0 ≤ v) (h1 : v ≤ 255) : ((UInt8.ofNat v.toNat).toNat : Int) = v := by
  rw [UInt8.toNat_ofNat']; omega

theorem Row.set {wr : World} {B g n : Nat} {zs : List UInt8} (h : Row wr B g n zs) (k : Nat) (v : Int) (h0 : 0 ≤ v) (h1 : v ≤ 255) :
    Row (wr.setCell ⟨g, k, none⟩ (.int .u8 v)) B g n (zs.set k (UInt8.ofNat v.toNat)) := by
  refine ⟨by rw [List.length_set]; exact h.1, ?_⟩
  have := (World.ownsRow.stored h.2 k (.int .u8 v)).1
  have e : ucells (zs.set k (UInt8.ofNat v.toNat)) = (ucells zs).set k (.int .u8 v) := by
    unfold ucells
    rw [List.map_set, byte_of v h0 h1]
  rw [e]; exact this

/-- The row stays while blocks other than hers are written. -/
theorem Row.grown {wr w' : World} {B g n : Nat} {zs : List UInt8} {row : Option Nat} (h : Row wr B g n zs) (hg : wr.grownBy w' row) (hne : some g ≠ row) : Row w' B g n zs :=
  ⟨h.1, World.ownsRow.kept h.2 hg (.inr hne)⟩
theorem Row.below {wr w' : World} {B g n : Nat} {zs : List UInt8} (h : Row wr B g n zs) (hb : Below wr.heap.size wr w') : Row w' B g n zs :=
  h.grown (row := none) ⟨hb.os, hb.tape, hb.output, hb.size, fun k hk _ => hb.block k hk⟩ (by simp)
theorem Row.setOther {wr : World} {B g n : Nat} {zs : List UInt8} (h : Row wr B g n zs) (g' k : Nat) (hne : g ≠ g') (u : Value) : Row (wr.setCell ⟨g', k, none⟩ u) B g n zs :=
  h.grown (row := some g') ⟨rfl, rfl, rfl, by simp, fun j _ hj => Below.heap_setCell _ _ _ _ (fun e => hj (by simp [e]))⟩ (by simpa using hne)

/-- What 'make' lays. -/
theorem Row.made {w w1 : World} {B n : Nat} (h : w1.ownsRow B 5 1 (.slice (some ⟨w.heap.size, 0, none⟩) n n) n (madeCells #[.int .u8 0] n).toList) : ∃ zs, Row w1 B w.heap.size n zs := by
  refine ⟨List.replicate n 0, by simp, ?_⟩
  have e : (madeCells #[.int .u8 0] n).toList = ucells (List.replicate n 0) := by
    apply List.ext_getElem?
    intro i
    simp [madeCells, ucells, Nat.mod_one]
    by_cases hi : i < n
    · simp [hi]
    · simp [hi]
  rw [← e]; exact h

/-- 'string(good)'. -/
theorem Row.str {wr : World} {B g n : Nat} {zs : List UInt8} (h : Row wr B g n zs) (c : Nat) : (convert 23 9 (.slice (some ⟨g, 0, none⟩) n c)).run Try.prog wr = .ok (.string ⟨zs.toArray⟩) wr := by
  have hl := h.1
  subst hl
  refine run_convert_bytes_back wr 23 9 5 ⟨g, 0, none⟩ c zs Try.underlying23 Try.underlying5 Try.underlying9 (fun j hj => ?_)
  rw [Addr.add_lit, Nat.zero_add, h.cell j hj]
  simp [List.getD, hj]

theorem bts_mk (zs : List UInt8) : bts ⟨zs.toArray⟩ = zs.map fun c => (c.toNat : Int) := by simp [bts]
theorem bts_mk_at (zs : List UInt8) (j : Nat) : (bts ⟨zs.toArray⟩).getD j 0 = ((zs.getD j 0).toNat : Int) := by
  rw [bts_mk]
  by_cases h : j < zs.length
  · simp [List.getD, h]
  · simp [List.getD, h]

/-! ### The place that is changed -/
theorem wrap64_small (n : Int) (h0 : 0 ≤ n) (h1 : n < 9223372036854775808) : wrap64 n = n := by unfold wrap64; omega
theorem i64_or_nat (a b : Nat) (ha : a < 65536) (hb : b < 65536) : bits .or .i64 (a : Int) (b : Int) = ((a ||| b : Nat) : Int) := by
  have hx : a ||| b < 2 ^ 16 := Nat.or_lt_two_pow (by omega) (by omega)
  show IntKind.i64.wrap ((BitVec.ofInt 64 (a : Int) ||| BitVec.ofInt 64 (b : Int)).toNat : Int) = _
  have e1 : (BitVec.ofInt 64 (a : Int)).toNat = a := by rw [BitVec.ofInt_natCast, BitVec.toNat_ofNat]; exact Nat.mod_eq_of_lt (by omega)
  have e2 : (BitVec.ofInt 64 (b : Int)).toNat = b := by rw [BitVec.ofInt_natCast, BitVec.toNat_ofNat]; exact Nat.mod_eq_of_lt (by omega)
  rw [BitVec.toNat_or, e1, e2]
  exact IntWalk.i64_in _ (by omega)
theorem place_of (x : Int) (n : Nat) (h0 : 0 ≤ x) (hn : 0 < n) : ∃ k : Nat, x.tmod (n : Int) = (k : Int) ∧ k < n := by
  rw [Int.tmod_eq_emod_of_nonneg h0]
  have h1 := Int.emod_nonneg x (b := (n : Int)) (by omega)
  have h2 := Int.emod_lt_of_pos x (b := (n : Int)) (by omega)
  exact ⟨(x % (n : Int)).toNat, by omega, by omega⟩

theorem place_one (a : UInt8) (n : Nat) (hn : 0 < n) : ∃ k : Nat, (wrap64 (a.toNat : Int)).tmod (n : Int) = (k : Int) ∧ k < n := by
  have := UInt8.toNat_lt a
  rw [IntWalk.wrap64_in _ (by omega)]
  exact place_of _ n (by omega) hn
theorem place_two (a b : UInt8) (n : Nat) (hn : 0 < n) : ∃ k : Nat, (bits BinOp.or IntKind.i64 (wrap64 (wrap64 (a.toNat : Int) * 256)) (wrap64 (b.toNat : Int))).tmod (n : Int) = (k : Int) ∧ k < n := by
  have ha := UInt8.toNat_lt a
  have hb := UInt8.toNat_lt b
  rw [IntWalk.wrap64_in (a.toNat : Int) (by omega), IntWalk.wrap64_in (b.toNat : Int) (by omega), IntWalk.wrap64_in ((a.toNat : Int) * 256) (by omega)]
  have e : (a.toNat : Int) * 256 = ((a.toNat * 256 : Nat) : Int) := by omega
  rw [e, i64_or_nat _ _ (by omega) (by omega)]
  exact place_of _ n (by omega) hn

/-- One round of the copying loop. -/
theorem copied {w wr : World} {B g1 g2 n : Nat} {ys zs : List UInt8} {k : Nat} (hy : Row wr B g2 n ys) (hz : Row wr B g1 n zs) (hb : Below B w wr) (heq : ∀ j, j < k → ys.getD j 0 = zs.getD j 0) (hk : k < n) (hne : g1 ≠ g2) (hB : B ≤ g2) :
    ∃ ys', Row (wr.setCell ⟨g2, k, none⟩ (.int .u8 ((zs.getD k 0).toNat : Int))) B g2 n ys' ∧ Row (wr.setCell ⟨g2, k, none⟩ (.int .u8 ((zs.getD k 0).toNat : Int))) B g1 n zs ∧
      Below B w (wr.setCell ⟨g2, k, none⟩ (.int .u8 ((zs.getD k 0).toNat : Int))) ∧ ∀ j, j < k + 1 → ys'.getD j 0 = zs.getD j 0 := by
  have h255 := UInt8.toNat_lt (zs.getD k 0)
  refine ⟨_, hy.set k _ (by omega) (by omega), hz.setOther g2 k hne _, hb.setCell hB _, fun j hj => ?_⟩
  have hl := hy.1
  by_cases e : j = k
  · subst e
    have : (ys.set j (UInt8.ofNat ((zs.getD j 0).toNat : Int).toNat)).getD j 0 = zs.getD j 0 := by simp [List.getD, show j < ys.length by omega]
    exact this
  · have : (ys.set k (UInt8.ofNat ((zs.getD k 0).toNat : Int).toNat)).getD j 0 = ys.getD j 0 := by simp [List.getD, show ¬ k = j by omega]
    rw [this]; exact heq j (by omega)

theorem same_of {ys zs : List UInt8} {n : Nat} (hy : ys.length = n) (hz : zs.length = n) (h : ∀ j, j < n → ys.getD j 0 = zs.getD j 0) : ys = zs := by
  apply List.ext_getElem (by omega)
  intro i h1 h2
  have := h i (by omega)
  simpa [List.getD, h1, h2] using this

/-- One byte is changed: the text fits just if that byte is admitted. -/
theorem fit_set (zs : List UInt8) (lay : ByteArray) (k : Nat) (v : Int) (h0 : 0 ≤ v) (h1 : v ≤ 255) (hl : zs.length = lay.size) (hk : k < lay.size) (hall : ∀ j, j < lay.size → admB ((zs.getD j 0).toNat : Int) ((bts lay).getD j 0) = true) :
    fitL (bts ⟨(zs.set k (UInt8.ofNat v.toNat)).toArray⟩) (bts lay) = admB v (lay[k].toNat : Int) := by
  have hs : ((zs.set k (UInt8.ofNat v.toNat)).getD k 0) = UInt8.ofNat v.toNat := by simp [List.getD, show k < zs.length by omega]
  cases ha : admB v (lay[k].toNat : Int)
  · refine fitL_miss (i := k) (by rw [length_bts]; exact hk) ?_
    rw [bts_mk_at, hs, byte_of v h0 h1, bts_at lay k hk]; exact ha
  · refine (fitL_iff _ _).2 ⟨by rw [length_bts lay, bts_mk, List.length_map, List.length_set]; exact hl, fun j hj => ?_⟩
    rw [length_bts] at hj
    rw [bts_mk_at]
    by_cases e : j = k
    · subst e; rw [hs, byte_of v h0 h1, bts_at lay j hk]; exact ha
    · have : (zs.set k (UInt8.ofNat v.toNat)).getD j 0 = zs.getD j 0 := by simp [List.getD, show ¬ k = j by omega]
      rw [this]; exact hall j hj

end Go.Proofs.Qxb6605401a
