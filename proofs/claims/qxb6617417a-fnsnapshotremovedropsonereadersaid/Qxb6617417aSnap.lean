/-
  The list of snapshots in memory: its struct, its map, its entries; what a store, a delete does to it. And laws at the operation for the map's delete and len.
-/
import Derived.Test.Qxb6617417aMake
namespace Go.Proofs.Qxb6617417a
open Go.RowKit Go.Maps
set_option linter.unusedVariables false

/-- A function of entries, turned at one. -/
def setN (g : Nat → Int) (i : Nat) (v : Int) : Nat → Int := fun j => if j = i then v else g j
theorem setN_same (g : Nat → Int) (i : Nat) (v : Int) : setN g i v i = v := by simp [setN]
theorem setN_other (g : Nat → Int) (i j : Nat) (v : Int) (h : j ≠ i) : setN g i v j = g j := by simp [setN, h]

/-- The whole list: struct L, map bm, entries in the blocks from base on. -/
def Snap (W : World) (L bm m base n : Nat) (f : Int → Option Nat) (c : Nat) (old new : Int) (r o nw : Nat → Int) : Prop :=
  Lst W L bm old new ∧ MapIs W bm m f c ∧ (∀ j, j < n → Ent W (base + j) (r j) (o j) (nw j)) ∧ L < base ∧ bm < base ∧ L ≠ bm

section
variable {W W' : World} {L bm m base n c : Nat} {f : Int → Option Nat} {old new : Int} {r o nw : Nat → Int}

theorem Lst.free (h : Lst W L bm old new) (i : Nat) : W.frozen? ⟨L, i, none⟩ = false := frozen_of_row W L i _ 43 h
theorem Ent.free {b : Nat} {x y z : Int} (h : Ent W b x y z) (i : Nat) : W.frozen? ⟨b, i, none⟩ = false := frozen_of_row W b i _ 46 h
theorem Lst.set_other (h : Lst W L bm old new) {b i : Nat} (hb : L ≠ b) (v : Value) : Lst (W.setCell ⟨b, i, none⟩ v) L bm old new := (heap_setCell_other W ⟨b, i, none⟩ L v hb).trans h
theorem Ent.set_other {b : Nat} {x y z : Int} (h : Ent W b x y z) {b' i : Nat} (hb : b ≠ b') (v : Value) : Ent (W.setCell ⟨b', i, none⟩ v) b x y z := (heap_setCell_other W ⟨b', i, none⟩ b v hb).trans h
theorem Ent.set0 {b : Nat} {x y z : Int} (h : Ent W b x y z) (v : Int) : Ent (W.setCell ⟨b, 0, none⟩ (.int .i64 v)) b v y z := by
  unfold Ent; rw [heap_setCell_same W b 0 _ 46 _ h]; rfl
theorem Ent.set1 {b : Nat} {x y z : Int} (h : Ent W b x y z) (v : Int) : Ent (W.setCell ⟨b, 1, none⟩ (.int .u64 v)) b x v z := by
  unfold Ent; rw [heap_setCell_same W b 1 _ 46 _ h]; rfl
theorem Ent.set2 {b : Nat} {x y z : Int} (h : Ent W b x y z) (v : Int) : Ent (W.setCell ⟨b, 2, none⟩ (.int .u64 v)) b x y v := by
  unfold Ent; rw [heap_setCell_same W b 2 _ 46 _ h]; rfl
theorem Lst.set1 (h : Lst W L bm old new) (v : Int) : Lst (W.setCell ⟨L, 1, none⟩ (.int .u64 v)) L bm v new := by
  unfold Lst; rw [heap_setCell_same W L 1 _ 43 _ h]; rfl
theorem Lst.set2 (h : Lst W L bm old new) (v : Int) : Lst (W.setCell ⟨L, 2, none⟩ (.int .u64 v)) L bm old v := by
  unfold Lst; rw [heap_setCell_same W L 2 _ 43 _ h]; rfl

/-- An entry's count is stored. -/
theorem Snap.setR (h : Snap W L bm m base n f c old new r o nw) {i : Nat} (hi : i < n) (v : Int) : Snap (W.setCell ⟨base + i, 0, none⟩ (.int .i64 v)) L bm m base n f c old new (setN r i v) o nw := by
  obtain ⟨h1, h2, h3, h4, h5, h6⟩ := h
  refine ⟨h1.set_other (by omega) _, h2.setCell (by show bm ≠ base + i; omega) _, fun j hj => ?_, h4, h5, h6⟩
  by_cases e : j = i
  · subst e; rw [setN_same]; exact (h3 j hj).set0 v
  · rw [setN_other _ _ _ _ e]; exact (h3 j hj).set_other (by omega) _
theorem Snap.setO (h : Snap W L bm m base n f c old new r o nw) {i : Nat} (hi : i < n) (v : Int) : Snap (W.setCell ⟨base + i, 1, none⟩ (.int .u64 v)) L bm m base n f c old new r (setN o i v) nw := by
  obtain ⟨h1, h2, h3, h4, h5, h6⟩ := h
  refine ⟨h1.set_other (by omega) _, h2.setCell (by show bm ≠ base + i; omega) _, fun j hj => ?_, h4, h5, h6⟩
  by_cases e : j = i
  · subst e; rw [setN_same]; exact (h3 j hj).set1 v
  · rw [setN_other _ _ _ _ e]; exact (h3 j hj).set_other (by omega) _
theorem Snap.setNw (h : Snap W L bm m base n f c old new r o nw) {i : Nat} (hi : i < n) (v : Int) : Snap (W.setCell ⟨base + i, 2, none⟩ (.int .u64 v)) L bm m base n f c old new r o (setN nw i v) := by
  obtain ⟨h1, h2, h3, h4, h5, h6⟩ := h
  refine ⟨h1.set_other (by omega) _, h2.setCell (by show bm ≠ base + i; omega) _, fun j hj => ?_, h4, h5, h6⟩
  by_cases e : j = i
  · subst e; rw [setN_same]; exact (h3 j hj).set2 v
  · rw [setN_other _ _ _ _ e]; exact (h3 j hj).set_other (by omega) _
theorem Snap.setOld (h : Snap W L bm m base n f c old new r o nw) (v : Int) : Snap (W.setCell ⟨L, 1, none⟩ (.int .u64 v)) L bm m base n f c v new r o nw := by
  obtain ⟨h1, h2, h3, h4, h5, h6⟩ := h
  exact ⟨h1.set1 v, h2.setCell (fun e => h6 e.symm) _, fun j hj => (h3 j hj).set_other (by omega) _, h4, h5, h6⟩
theorem Snap.setNew (h : Snap W L bm m base n f c old new r o nw) (v : Int) : Snap (W.setCell ⟨L, 2, none⟩ (.int .u64 v)) L bm m base n f c old v r o nw := by
  obtain ⟨h1, h2, h3, h4, h5, h6⟩ := h
  exact ⟨h1.set2 v, h2.setCell (fun e => h6 e.symm) _, fun j hj => (h3 j hj).set_other (by omega) _, h4, h5, h6⟩
theorem Snap.drewN (h : Snap W L bm m base n f c old new r o nw) (k : Nat) : Snap (W.drewN k) L bm m base n f c old new r o nw := h
theorem Snap.drew (h : Snap W L bm m base n f c old new r o nw) : Snap W.drew L bm m base n f c old new r o nw := h
theorem Snap.turned (h : Snap W L bm m base n f c old new r o nw) {f' : Int → Option Nat} {c' : Nat} (hm : MapIs W' bm m f' c') (ht : W.mapTurned W' bm) : Snap W' L bm m base n f' c' old new r o nw := by
  obtain ⟨h1, h2, h3, h4, h5, h6⟩ := h
  exact ⟨h1.kept ht.grown (by simpa using h6), hm, fun j hj => (h3 j hj).kept ht.grown (by simp; omega), h4, h5, h6⟩
end

section
variable {P : Program} (w : World) {ops : Array Oper} {rest : List Oper} {o : Oper} {a : Act} {Q : Exit → Act → World → Prop}
theorem wpList_delete_map (hg : o.guard = none) (m x : Operand) (hop : o.op = Op.call { callee := Callee.builtin Builtin.delete, args := #[m, x], argTypes := #[41, 24] })
    (bm n c : Nat) (f : Int → Option Nat) (k : Int) (hm : a.eval m = .map (some bm)) (h : MapIs w bm n f c) (hx : a.eval x = .int .u64 k) (hk : KeyOk k) (hs : (f k).isSome = true)
    (hK : ∀ w', MapIs w' bm n (upd f k none) (c - 1) → w.mapTurned w' bm → wpList Try.prog ops Q rest (a.put o.dst (.tuple #[])) w') :
    wpList Try.prog ops Q (o :: rest) a w := by
  refine wpList_plain hg fun K' hK' => ?_
  obtain ⟨w', hrun, r1, r2⟩ := h.drop hk hs o.type
  unfold Oper.wp
  simp [execOp, hop, resolve, invoke, builtin, hm, hx, hrun, Result.andThen]
  exact hK' _ _ (hK w' r1 r2)
theorem wpList_len_map (hg : o.guard = none) (m : Operand) (hop : o.op = Op.call { callee := Callee.builtin Builtin.len, args := #[m], argTypes := #[41] })
    (bm n c : Nat) (f : Int → Option Nat) (hm : a.eval m = .map (some bm)) (h : MapIs w bm n f c)
    (hK : wpList Try.prog ops Q rest (a.put o.dst (.int .i64 c)) w) :
    wpList Try.prog ops Q (o :: rest) a w := by
  refine wpList_plain hg fun K' hK' => ?_
  unfold Oper.wp
  simp [execOp, hop, resolve, invoke, builtin, hm, h.len o.type, Result.andThen]
  exact hK' _ _ hK
end
end Go.Proofs.Qxb6617417a
