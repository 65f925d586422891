/-
  The walks of '(*snapshotList).remove' (function 29), a theorem a way, and of its exported name (function 17).
-/
import Derived.Test.Qxb6617417aSnap
namespace Go.Proofs.Qxb6617417a
open Go.RowKit Go.Maps
set_option linter.unusedVariables false
set_option maxRecDepth 100000

section
variable {L bm m base n c : Nat} {f : Int → Option Nat} {old new : Int} {r o nw : Nat → Int} {W : World} {ts : Int} {i0 B : Nat}

/-- A reader is left. -/
theorem remove_keep (S : Snap W L bm m base n f c old new r o nw) (hk : KeyOk ts) (hi : i0 < n) (hf : f ts = some (base + i0)) (h2 : 2 ≤ r i0) (h3 : r i0 ≤ 9223372036854775807) (hB : B ≤ base) :
    Calls Try.prog 29 #[.pointer (some ⟨L, 0, none⟩), .int .u64 ts] W fun e w' => e = .returned (.tuple #[]) ∧ Snap w' L bm m base n f c old new (setN r i0 (r i0 - 1)) o nw ∧ Below B W w' := by
  have S1 := S.setR hi (r i0 - 1)
  have B1 : Below B W (W.setCell ⟨base + i0, 0, none⟩ (.int .i64 (r i0 - 1))) := (Below.refl _ _).setCell (by show B ≤ base + i0; omega) _
  have hl0 := S.2.1.lookup hk
  rw [hf] at hl0
  have hl : (Instr.lookup 41 (.map (some bm)) (.int .u64 ts) false).run Try.prog W = .ok (.pointer (some ⟨base + i0, 0, none⟩)) W := hl0
  obtain ⟨cl, _, _⟩ := S.1.cells
  obtain ⟨e0, _, _⟩ := (S.2.2.1 i0 hi).cells
  have g0 := (S.2.2.1 i0 hi).free 0
  obtain ⟨r0, hr0⟩ : ∃ x, x = r i0 := ⟨_, rfl⟩
  rw [← hr0] at S1 B1 e0 h2 h3
  rw [← hr0]
  have HS1 : Hid (Snap (W.setCell ⟨base + i0, 0, none⟩ (.int .i64 (r0 - 1))) L bm m base n f c old new (setN r i0 (r0 - 1)) o nw) := S1
  have HB1 : Hid (Below B W (W.setCell ⟨base + i0, 0, none⟩ (.int .i64 (r0 - 1)))) := B1
  clear S hl0 hf S1 B1 hr0
  go_enter Try.func29, Try.ntmps29
  go_wp2_with fail
  refine bodyPost_ret (results_none rfl _ _ _) rfl ?_
  exact ⟨rfl, HS1.out, HB1.out⟩

/-- The last snapshot leaves: the list is empty. -/
theorem remove_last (S : Snap W L bm m base n f c old new r o nw) (hk : KeyOk ts) (hi : i0 < n) (hf : f ts = some (base + i0)) (h1 : r i0 = 1) (hB : B ≤ base) (hBm : B ≤ bm) (hBL : B ≤ L) (hBW : B ≤ W.heap.size) (hc : c - 1 = 0) :
    Calls Try.prog 29 #[.pointer (some ⟨L, 0, none⟩), .int .u64 ts] W fun e w' => e = .returned (.tuple #[]) ∧ Snap w' L bm m base n (upd f ts none) (c - 1) old new (setN r i0 0) o nw ∧ Below B W w' := by
  have Sd := S.setR hi 0
  have Bd : Below B W (W.setCell ⟨base + i0, 0, none⟩ (.int .i64 0)) := (Below.refl _ _).setCell (by show B ≤ base + i0; omega) _
  have hl0 := S.2.1.lookup hk
  rw [hf] at hl0
  have hl : (Instr.lookup 41 (.map (some bm)) (.int .u64 ts) false).run Try.prog W = .ok (.pointer (some ⟨base + i0, 0, none⟩)) W := hl0
  have cl := S.1.cells.1
  have e0 := (S.2.2.1 i0 hi).cells.1
  rw [h1] at e0
  have g0 := (S.2.2.1 i0 hi).free 0
  have cd := Sd.1.cells.1
  have HSd : Hid (Snap (W.setCell ⟨base + i0, 0, none⟩ (.int .i64 0)) L bm m base n f c old new (setN r i0 0) o nw) := Sd
  have HBd : Hid (Below B W (W.setCell ⟨base + i0, 0, none⟩ (.int .i64 0))) := Bd
  have HF : Hid ((f ts).isSome = true) := by rw [hf]; rfl
  clear S hl0 hf Sd Bd h1
  go_enter Try.func29, Try.ntmps29
  go_wp2_with (first | (at_delete; go_must (refine wpList_delete_map _ rfl (.tmp 26) (.tmp 27) rfl bm m c f ts rfl HSd.out.2.1 rfl hk HF.out ?_; intro w1 M1 T1; have S1 := HSd.out.turned M1 T1; have B1 := HBd.out.grown T1.grown (Nat.le_trans hBW HBd.out.size) (by intro k hk; simp at hk; omega); have cl1 := S1.1.cells.1; have MM : Hid (MapIs w1 bm m (upd f ts none) (c - 1)) := M1;  clear M1 T1)) | (at_len; go_must (refine wpList_len_map _ rfl (.tmp 62) rfl bm m (c - 1) (upd f ts none) rfl MM.out ?_)))
  go_end0
  exact ⟨rfl, S1, B1⟩

/-- The oldest leaves. -/
theorem remove_oldest (S : Snap W L bm m base n f c old new r o nw) (hk : KeyOk ts) (hi : i0 < n) (hf : f ts = some (base + i0)) (h1 : r i0 = 1) (hB : B ≤ base) (hBm : B ≤ bm) (hBL : B ≤ L) (hBW : B ≤ W.heap.size) (hc : 2 ≤ c) (ho : (ts == old) = true) :
    Calls Try.prog 29 #[.pointer (some ⟨L, 0, none⟩), .int .u64 ts] W fun e w' => e = .returned (.tuple #[]) ∧ Snap w' L bm m base n (upd f ts none) (c - 1) (nw i0) new (setN r i0 0) o nw ∧ Below B W w' := by
  have Sd := S.setR hi 0
  have Bd : Below B W (W.setCell ⟨base + i0, 0, none⟩ (.int .i64 0)) := (Below.refl _ _).setCell (by show B ≤ base + i0; omega) _
  have hl0 := S.2.1.lookup hk
  rw [hf] at hl0
  have hl : (Instr.lookup 41 (.map (some bm)) (.int .u64 ts) false).run Try.prog W = .ok (.pointer (some ⟨base + i0, 0, none⟩)) W := hl0
  have cl := S.1.cells.1
  have e0 := (S.2.2.1 i0 hi).cells.1
  rw [h1] at e0
  have g0 := (S.2.2.1 i0 hi).free 0
  have cd := Sd.1.cells.1
  have HSd : Hid (Snap (W.setCell ⟨base + i0, 0, none⟩ (.int .i64 0)) L bm m base n f c old new (setN r i0 0) o nw) := Sd
  have HBd : Hid (Below B W (W.setCell ⟨base + i0, 0, none⟩ (.int .i64 0))) := Bd
  have HF : Hid ((f ts).isSome = true) := by rw [hf]; rfl
  clear S hl0 hf Sd Bd h1
  go_enter Try.func29, Try.ntmps29
  go_wp2_with (first | (at_delete; go_must (refine wpList_delete_map _ rfl (.tmp 26) (.tmp 27) rfl bm m c f ts rfl HSd.out.2.1 rfl hk HF.out ?_; intro w1 M1 T1; have S1 := HSd.out.turned M1 T1; have B1 := HBd.out.grown T1.grown (Nat.le_trans hBW HBd.out.size) (by intro k hk; simp at hk; omega); have cl1 := S1.1.cells.1; have MM : Hid (MapIs w1 bm m (upd f ts none) (c - 1)) := M1; have cl2 := S1.1.cells.2.1; have cn := (S1.2.2.1 i0 hi).cells.2.2; have gl := S1.1.free 1; clear M1 T1)) | (at_len; go_must (refine wpList_len_map _ rfl (.tmp 62) rfl bm m (c - 1) (upd f ts none) rfl MM.out ?_)))
  go_end0
  exact ⟨rfl, S1.setOld _, B1.setCell hBL _⟩

/-- The newest leaves. -/
theorem remove_newest (S : Snap W L bm m base n f c old new r o nw) (hk : KeyOk ts) (hi : i0 < n) (hf : f ts = some (base + i0)) (h1 : r i0 = 1) (hB : B ≤ base) (hBm : B ≤ bm) (hBL : B ≤ L) (hBW : B ≤ W.heap.size) (hc : 2 ≤ c) (ho : (ts == old) = false) (hn : (ts == new) = true) :
    Calls Try.prog 29 #[.pointer (some ⟨L, 0, none⟩), .int .u64 ts] W fun e w' => e = .returned (.tuple #[]) ∧ Snap w' L bm m base n (upd f ts none) (c - 1) old (o i0) (setN r i0 0) o nw ∧ Below B W w' := by
  have Sd := S.setR hi 0
  have Bd : Below B W (W.setCell ⟨base + i0, 0, none⟩ (.int .i64 0)) := (Below.refl _ _).setCell (by show B ≤ base + i0; omega) _
  have hl0 := S.2.1.lookup hk
  rw [hf] at hl0
  have hl : (Instr.lookup 41 (.map (some bm)) (.int .u64 ts) false).run Try.prog W = .ok (.pointer (some ⟨base + i0, 0, none⟩)) W := hl0
  have cl := S.1.cells.1
  have e0 := (S.2.2.1 i0 hi).cells.1
  rw [h1] at e0
  have g0 := (S.2.2.1 i0 hi).free 0
  have cd := Sd.1.cells.1
  have HSd : Hid (Snap (W.setCell ⟨base + i0, 0, none⟩ (.int .i64 0)) L bm m base n f c old new (setN r i0 0) o nw) := Sd
  have HBd : Hid (Below B W (W.setCell ⟨base + i0, 0, none⟩ (.int .i64 0))) := Bd
  have HF : Hid ((f ts).isSome = true) := by rw [hf]; rfl
  clear S hl0 hf Sd Bd h1
  go_enter Try.func29, Try.ntmps29
  go_wp2_with (first | (at_delete; go_must (refine wpList_delete_map _ rfl (.tmp 26) (.tmp 27) rfl bm m c f ts rfl HSd.out.2.1 rfl hk HF.out ?_; intro w1 M1 T1; have S1 := HSd.out.turned M1 T1; have B1 := HBd.out.grown T1.grown (Nat.le_trans hBW HBd.out.size) (by intro k hk; simp at hk; omega); have cl1 := S1.1.cells.1; have MM : Hid (MapIs w1 bm m (upd f ts none) (c - 1)) := M1; have cl2 := S1.1.cells.2.1; have cl3 := S1.1.cells.2.2; have co := (S1.2.2.1 i0 hi).cells.2.1; have gl := S1.1.free 2; clear M1 T1)) | (at_len; go_must (refine wpList_len_map _ rfl (.tmp 62) rfl bm m (c - 1) (upd f ts none) rfl MM.out ?_)))
  go_end0
  exact ⟨rfl, S1.setNew _, B1.setCell hBL _⟩
end
end Go.Proofs.Qxb6617417a
