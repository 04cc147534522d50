/-
  WHAT THE WALKS OF THIS SEAT SHARE: reading bytes; what is owned; 'zzCloneBytes' (function 9).
-/
import Derived.Test.Qxb6605313aProg
import Derived.WalkKit
import Derived.WalkSpells
import Derived.WalkLawsBesides
import Derived.Below
import Derived.Laws.CopyOwn
import Derived.Laws.AppendOwnNone
namespace Go.Proofs.Qxb6605313a
open Go.RowKit
set_option linter.unusedVariables false

theorem Try.info5 : (Try.prog.info? 5).map (fun i => (i.zero, i.size, i.bytes)) = some (some (.int .u8 0), 1, 1) := by kernel_rfl

/-- A slice of bytes, read: 'zs' are its elements; it lies below block B. -/
def Reads (w : World) (B : Nat) (a : Option Addr) (len : Nat) (zs : List Int) : Prop :=
  zs.length = len ∧ (len = 0 ∨ ∃ b off, a = some ⟨b, off, none⟩ ∧ b < B ∧ ∀ k, k < len → w.cell? ⟨b, off + k, none⟩ = some (.int .u8 (zs.getD k 0)))

theorem Reads.below {w w' : World} {B : Nat} {a : Option Addr} {len : Nat} {zs : List Int} (h : Reads w B a len zs) (hb : Below B w w') : Reads w' B a len zs := by
  refine ⟨h.1, ?_⟩
  rcases h.2 with h0 | ⟨b, off, ha, hlt, hc⟩
  · exact .inl h0
  · exact .inr ⟨b, off, ha, hlt, fun k hk => (hb.cell (by exact hlt)).trans (hc k hk)⟩

theorem Reads.mono {w : World} {B B' : Nat} {a : Option Addr} {len : Nat} {zs : List Int} (h : Reads w B a len zs) (hB : B ≤ B') : Reads w B' a len zs := by
  refine ⟨h.1, ?_⟩
  rcases h.2 with h0 | ⟨b, off, ha, hlt, hc⟩
  · exact .inl h0
  · exact .inr ⟨b, off, ha, by omega, hc⟩

/-- The bytes as cells. -/
def bcells (zs : List Int) : List Value := zs.map (Value.int .u8)
theorem length_bcells (zs : List Int) : (bcells zs).length = zs.length := by simp [bcells]
theorem bcells_append (a b : List Int) : bcells (a ++ b) = bcells a ++ bcells b := by simp [bcells]

/-- What the call owns. -/
def Owns (w : World) (B : Nat) (v : Value) (zs : List Int) : Prop := w.ownsRow B 5 1 v zs.length (bcells zs)

theorem Owns.below {w w' : World} {B : Nat} {v : Value} {zs : List Int} (h : Owns w B v zs) (hb : Below w.heap.size w w') : Owns w' B v zs :=
  World.ownsRow.kept (row := none) h ⟨hb.os, hb.tape, hb.output, hb.size, fun k hk _ => hb.block k hk⟩ (by cases hv : v.ownBlock <;> simp)

theorem Owns.nil (w : World) (B : Nat) : Owns w B (.slice none 0 0) [] := World.ownsRow_nil _ _ _ _

/-- What is owned is a slice that can be read. -/
theorem Owns.reads {w : World} {B : Nat} {v : Value} {zs : List Int} (h : Owns w B v zs) :
    ∃ a cap, v = .slice a zs.length cap ∧ (a = none → zs.length = 0 ∧ cap = 0) ∧ Reads w w.heap.size a zs.length zs ∧ zs.length ≤ cap ∧ cap ≤ maxLen := by
  rcases h.2 with ⟨rfl, h0⟩ | ⟨g, cap, cur, rfl, hB, hg, hnc, hcm, hcs, htake⟩
  · exact ⟨none, 0, by rw [h0], fun _ => ⟨h0, rfl⟩, ⟨rfl, .inl h0⟩, by omega, by simp [maxLen]⟩
  · refine ⟨some ⟨g, 0, none⟩, cap, rfl, fun h => by simp at h, ⟨rfl, .inr ⟨g, 0, rfl, (Array.getElem?_eq_some_iff.1 hg).1, fun k hk => ?_⟩⟩, hnc, hcm⟩
    have := World.ownsRow.cellAt h k (by omega)
    rw [Nat.zero_add, this]
    simp [bcells, List.getD, hk]

theorem bcells_oneCell (zs : List Int) : ∀ u ∈ bcells zs, u.oneCell' = true := ints_oneCell _ _

/-- The cells of a read slice, for the laws on append and copy. -/
theorem Reads.cells {w : World} {B : Nat} {ad : Addr} {len : Nat} {zs : List Int} (h : Reads w B (some ad) len zs) : ∀ j u, (bcells zs)[j]? = some u → w.cell? (ad.add j) = some u := by
  intro j u hu
  have hj : j < zs.length := by have := (List.getElem?_eq_some_iff.1 hu).1; simpa [bcells] using this
  have hl := h.1
  rcases h.2 with h0 | ⟨b, off, ha, hlt, hc⟩
  · omega
  · obtain rfl := Option.some.inj ha
    rw [Addr.add_lit, hc j (by omega), ← hu]
    simp [bcells, List.getD, hj]

end Go.Proofs.Qxb6605313a
