/-
  Slices of bytes that came in or were made; the walk of 'zzCat' (function 13).
-/
import Derived.Test.Qxb6617244aExp
import Derived.OwnWalk
namespace Go.Proofs.Qxb6617244a
open Go.RowKit Go.WideShapes
set_option linter.unusedVariables false

theorem Try.info5 : (Try.prog.info? 5).map (fun i => (i.zero, i.size, i.bytes)) = some (some (.int .u8 0), 1, 1) := by kernel_rfl

/-- The bytes as cells. -/
def cellsOf (z : List Int) : List Value := z.map (Value.int .u8)
theorem cellsOf_length (z : List Int) : (cellsOf z).length = z.length := by simp [cellsOf]
theorem cellsOf_app (a b : List Int) : cellsOf (a ++ b) = cellsOf a ++ cellsOf b := by simp [cellsOf]
theorem cellsOf_one (z : List Int) : ∀ u ∈ cellsOf z, u.oneCell' = true := ints_oneCell .u8 z

/-- A slice value, its elements where its address says; nil or not. -/
def Came (w : World) (ao : Option Addr) (n c : Nat) (z : List Int) : Prop :=
  z.length = n ∧ (ao = none → n = 0 ∧ c = 0) ∧ ∀ ad, ao = some ad → ∀ j u, (cellsOf z)[j]? = some u → w.cell? (ad.add j) = some u
theorem Came.later {w w' : World} {ao : Option Addr} {n c : Nat} {z : List Int} (h : Came w ao n c z) (hb : Below w.heap.size w w') : ∀ ad, ao = some ad → ∀ j u, (cellsOf z)[j]? = some u → w'.cell? (ad.add j) = some u := by
  intro ad had j u hu
  have hc := h.2.2 ad had j u hu
  rw [hb.cell (World.block_lt_of_cell? w _ hc)]
  exact hc
theorem Came.mono {w w' : World} {ao : Option Addr} {n c : Nat} {z : List Int} (h : Came w ao n c z) (hb : Below w.heap.size w w') : Came w' ao n c z := ⟨h.1, h.2.1, h.later hb⟩
/-- One that has an element has an address in memory, and the element lies there. -/
theorem Came.at {w : World} {ao : Option Addr} {n c : Nat} {z : List Int} (h : Came w ao n c z) (hn : 0 < n) : ∃ b o, ao = some ⟨b, o, none⟩ ∧ ∀ k, k < n → w.cell? ⟨b, o + k, none⟩ = some (.int .u8 (z.getD k 0)) := by
  have hz := h.1
  cases ao with
  | none => have := (h.2.1 rfl).1; omega
  | some ad =>
    obtain ⟨b, o, sp⟩ := ad
    have h0 := h.2.2 _ rfl 0 (.int .u8 (z.getD 0 0)) (by simp [cellsOf, show 0 < z.length by omega])
    obtain rfl : sp = none := by simpa [Addr.add] using World.cell?_spot h0
    refine ⟨b, o, rfl, fun k hk => ?_⟩
    rw [← add_plain]
    exact h.2.2 _ rfl k _ (by simp [cellsOf, show k < z.length by omega])
theorem Came.reads {w : World} {g n c : Nat} {z : List Int} (h : Came w (some ⟨g, 0, none⟩) n c z) : ∀ k, k < n → w.cell? ⟨g, k, none⟩ = some (.int .u8 (z.getD k 0)) := by
  intro k hk
  have hz := h.1
  have := h.2.2 _ rfl k (.int .u8 (z.getD k 0)) (by simp [cellsOf, show k < z.length by omega])
  rwa [add_plain, Nat.zero_add] at this
theorem came_owned {w : World} {base g n cap : Nat} {z : List Int} (h : w.ownsRow base 5 1 (.slice (some ⟨g, 0, none⟩) n cap) n (cellsOf z)) : Came w (some ⟨g, 0, none⟩) n cap z := by
  have hn : z.length = n := by have := h.1; rw [cellsOf_length] at this; omega
  exact ⟨hn, fun h => by (cases h), fun ad had => by obtain rfl := Option.some.inj had; exact h.cells rfl⟩

set_option maxHeartbeats 400000 in
theorem cat_any (ao bo : Option Addr) (n c m d : Nat) (x y : List Int) (w : World) (hn : n ≤ 1099511627776) (hm : m ≤ 1099511627776) (hx : Came w ao n c x) (hy : Came w bo m d y) :
    Calls Try.prog 13 #[.slice ao n c, .slice bo m d] w fun e w' => ∃ g, e = .returned (.slice (some ⟨g, 0, none⟩) (n + m) (n + m)) ∧ Came w' (some ⟨g, 0, none⟩) (n + m) (n + m) (x ++ y) ∧ Below w.heap.size w w' := by
  obtain ⟨i0, hi, hz0, hz1, hz2⟩ := info_parts Try.info5
  have HX : Hid (x.length = n) := hx.1
  have HY : Hid (y.length = m) := hy.1
  go_enter Try.func13, Try.ntmps13
  go_wp2_with (first | (at_make; go_must (refine wpList_make_own _ rfl _ (.tmp 10) 22 rfl w.heap.size 5 i0 (.int .u8 0) 1 Try.underlying22 hi hz0 hz1 .i64 .i64 _ (n + m) rfl rfl (by omega) (by rw [hz2]; omega) (by unfold maxLen; omega) (Nat.le_refl _) ?_; intro w1 O1 g1; have B1 := (Below.refl w.heap.size w).grown g1 (Nat.le_refl _) (by simp); clear g1)) | (at_builtin; first | (refine wpList_append_fits_any _ rfl (.tmp 12) (.tmp 13) 22 rfl w.heap.size 5 i0 1 Try.underlying22 hi hz1 w.heap.size 0 (n + m) _ rfl O1 ao n c (cellsOf x) rfl (by rw [cellsOf_length, HX.out]; omega) hx.2.1 (hx.later B1) (cellsOf_one _) (by omega) ?_; intro w2 O2 g2; have B2 := B1.grown g2 B1.size (by intro k hk; simp at hk; omega); clear g2 O1 B1; simp only [Nat.zero_add, List.nil_append] at O2) | (refine wpList_append_fits_any _ rfl (.tmp 15) (.tmp 16) 22 rfl w.heap.size 5 i0 1 Try.underlying22 hi hz1 w.heap.size n (n + m) _ rfl O2 bo m d (cellsOf y) rfl (by rw [cellsOf_length, HY.out]; omega) hy.2.1 (hy.later B2) (cellsOf_one _) (by omega) ?_; intro w3 O3 g3; have B3 := B2.grown g3 B2.size (by intro k hk; simp at hk; omega); clear g3 O2 B2; rw [← cellsOf_app] at O3)))
  go_ret
  exact ⟨_, rfl, came_owned O3, B3⟩
end Go.Proofs.Qxb6617244a
