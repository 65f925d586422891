/-
  Small laws on rows of bytes in memory, for the walk of the law 'FnBlockCommentEndContext'.
-/
import Derived.Test.Qxb6619678aNestedWalk
import Derived.Test.Qxb6619678aCtx
namespace Go.Proofs.Qxb6619678a
open Go.RowKit Go.WideShapes Scan

/-- The bytes as cells. -/
def cellsOf (z : List Int) : List Value := z.map (Value.int .u8)
theorem cellsOf_length (z : List Int) : (cellsOf z).length = z.length := by simp [cellsOf]
theorem cellsOf_app (a b : List Int) : cellsOf (a ++ b) = cellsOf a ++ cellsOf b := by simp [cellsOf]
theorem cellsOf_one (z : List Int) : ∀ u ∈ cellsOf z, u.oneCell' = true := ints_oneCell .u8 z

/-- A slice that came in: its elements lie where its address says. -/
def Came (w : World) (ao : Option Addr) (n c : Nat) (z : List Int) : Prop :=
  z.length = n ∧ (ao = none → n = 0 ∧ c = 0) ∧ ∀ ad, ao = some ad → ∀ j u, (cellsOf z)[j]? = some u → w.cell? (ad.add j) = some u
theorem Came.later {w w' : World} {ao : Option Addr} {n c : Nat} {z : List Int} (h : Came w ao n c z) (hb : Below w.heap.size w w') : ∀ ad, ao = some ad → ∀ j u, (cellsOf z)[j]? = some u → w'.cell? (ad.add j) = some u := by
  intro ad had j u hu
  have hc := h.2.2 ad had j u hu
  rw [hb.cell (World.block_lt_of_cell? w _ hc)]
  exact hc

/-- A row that the call itself made. -/
def Made (w : World) (g : Nat) (z : List Int) : Prop := w.heap[g]? = some (.cells (cellsOf z).toArray 5 (0, 0))
theorem Made.kept {w w' : World} {g : Nat} {row : Option Nat} {z : List Int} (h : Made w g z) (hg : w.grownBy w' row) (hne : some g ≠ row) : Made w' g z := by
  unfold Made at *
  rw [hg.block g (Array.getElem?_eq_some_iff.1 h).1 hne]
  exact h
theorem Made.lt {w : World} {g : Nat} {z : List Int} (h : Made w g z) : g < w.heap.size := (Array.getElem?_eq_some_iff.1 h).1
theorem Made.cells {w : World} {g : Nat} {z : List Int} (h : Made w g z) : ∀ j u, (cellsOf z)[j]? = some u → w.cell? ((⟨g, 0, none⟩ : Addr).add j) = some u := by
  intro j u hu
  rw [add_plain, Nat.zero_add, cell_of_row w g j _ 5 (0, 0) h]
  simpa using hu
theorem Made.reads {w : World} {g : Nat} {z : List Int} (h : Made w g z) : ∀ k, k < z.length → w.cell? ⟨g, 0 + k, none⟩ = some (.int .u8 (z.getD k 0)) := by
  intro k hk
  rw [Nat.zero_add, cell_of_row w g k _ 5 (0, 0) h]
  simp [cellsOf, hk]
theorem Made.of_copy {w : World} {g len : Nat} {L : List Value} {z : List Int} (h : Hid (w.heap[g]? = some (.cells (splice L 0 (cellsOf z)).toArray 5 (0, 0)))) (hL : L.length = len) (hz : z.length = len) : Made w g z := by
  have := h.out
  rwa [splice_all L (cellsOf z) (by rw [cellsOf_length]; omega)] at this

/-- What is owned, read. -/
theorem owned_reads {w : World} {base g n cap : Nat} {z : List Int} (h : w.ownsRow base 5 1 (.slice (some ⟨g, 0, none⟩) n cap) n (cellsOf z)) : ∀ k, k < z.length → w.cell? ⟨g, 0 + k, none⟩ = some (.int .u8 (z.getD k 0)) := by
  intro k hk
  have hn : z.length = n := by have := h.1; rw [cellsOf_length] at this; omega
  rw [Nat.zero_add, h.cellAt k (by omega)]
  simp [cellsOf, hk]

end Go.Proofs.Qxb6619678a
