/-
  The walk of '(*snapshotList).remove' (function 29) where a snapshot in the middle leaves: its neighbours are linked to each other, in one statement that draws its order.
-/
import Derived.Test.Qxb6617417aRemove
namespace Go.Proofs.Qxb6617417a
open Go.RowKit Go.Maps
set_option linter.unusedVariables false
set_option maxRecDepth 100000

section
variable {L bm m base n c : Nat} {f : Int → Option Nat} {old new : Int} {r o nw : Nat → Int} {W : World} {ts oo nn : Int} {i0 ia ib B : Nat}

/-- What the statement reads, out of the list's state. -/
theorem mid_of (S : Snap W L bm m base n f c old new r o nw) (eo : o i0 = oo) (en : nw i0 = nn) (ko : KeyOk oo) (kn : KeyOk nn) (fo : f oo = some (base + ia)) (fn : f nn = some (base + ib)) (hi : i0 < n) :
    W.cell? ⟨L, 0, none⟩ = some (.map (some bm)) ∧ W.cell? ⟨base + i0, 1, none⟩ = some (.int .u64 oo) ∧ W.cell? ⟨base + i0, 2, none⟩ = some (.int .u64 nn) ∧ (Instr.lookup 41 (.map (some bm)) (.int .u64 oo) false).run Try.prog W = .ok (.pointer (some ⟨base + ia, 0, none⟩)) W ∧ (Instr.lookup 41 (.map (some bm)) (.int .u64 nn) false).run Try.prog W = .ok (.pointer (some ⟨base + ib, 0, none⟩)) W := by
  obtain ⟨_, c1, c2⟩ := (S.2.2.1 i0 hi).cells
  rw [eo] at c1
  rw [en] at c2
  have l1 := S.2.1.lookup ko
  have l2 := S.2.1.lookup kn
  rw [fo] at l1
  rw [fn] at l2
  exact ⟨S.1.cells.1, c1, c2, l1, l2⟩

theorem mid_all (S : Snap W L bm m base n f c old new r o nw) (eo : Hid (o i0 = oo)) (en : Hid (nw i0 = nn)) (ko : KeyOk oo) (kn : KeyOk nn) (fo : Hid (f oo = some (base + ia))) (fn : Hid (f nn = some (base + ib))) (hi : i0 < n) (hia : ia < n) (hib : ib < n) (hna : i0 ≠ ia) (hnb : i0 ≠ ib) (hab : ia ≠ ib) :
    Hid (W.drew.cell? ⟨L, 0, none⟩ = some (.map (some bm)) ∧ W.drew.cell? ⟨base + i0, 1, none⟩ = some (.int .u64 oo) ∧ W.drew.cell? ⟨base + i0, 2, none⟩ = some (.int .u64 nn) ∧ (Instr.lookup 41 (.map (some bm)) (.int .u64 oo) false).run Try.prog W.drew = .ok (.pointer (some ⟨base + ia, 0, none⟩)) W.drew ∧ (Instr.lookup 41 (.map (some bm)) (.int .u64 nn) false).run Try.prog W.drew = .ok (.pointer (some ⟨base + ib, 0, none⟩)) W.drew) ∧
    Hid ((W.setCell ⟨base + ia, 2, none⟩ (.int .u64 nn)).drew.cell? ⟨L, 0, none⟩ = some (.map (some bm)) ∧ (W.setCell ⟨base + ia, 2, none⟩ (.int .u64 nn)).drew.cell? ⟨base + i0, 1, none⟩ = some (.int .u64 oo) ∧ (W.setCell ⟨base + ia, 2, none⟩ (.int .u64 nn)).drew.cell? ⟨base + i0, 2, none⟩ = some (.int .u64 nn) ∧ (Instr.lookup 41 (.map (some bm)) (.int .u64 oo) false).run Try.prog (W.setCell ⟨base + ia, 2, none⟩ (.int .u64 nn)).drew = .ok (.pointer (some ⟨base + ia, 0, none⟩)) (W.setCell ⟨base + ia, 2, none⟩ (.int .u64 nn)).drew ∧ (Instr.lookup 41 (.map (some bm)) (.int .u64 nn) false).run Try.prog (W.setCell ⟨base + ia, 2, none⟩ (.int .u64 nn)).drew = .ok (.pointer (some ⟨base + ib, 0, none⟩)) (W.setCell ⟨base + ia, 2, none⟩ (.int .u64 nn)).drew) ∧
    Hid ((W.setCell ⟨base + ib, 1, none⟩ (.int .u64 oo)).drew.cell? ⟨L, 0, none⟩ = some (.map (some bm)) ∧ (W.setCell ⟨base + ib, 1, none⟩ (.int .u64 oo)).drew.cell? ⟨base + i0, 1, none⟩ = some (.int .u64 oo) ∧ (W.setCell ⟨base + ib, 1, none⟩ (.int .u64 oo)).drew.cell? ⟨base + i0, 2, none⟩ = some (.int .u64 nn) ∧ (Instr.lookup 41 (.map (some bm)) (.int .u64 oo) false).run Try.prog (W.setCell ⟨base + ib, 1, none⟩ (.int .u64 oo)).drew = .ok (.pointer (some ⟨base + ia, 0, none⟩)) (W.setCell ⟨base + ib, 1, none⟩ (.int .u64 oo)).drew ∧ (Instr.lookup 41 (.map (some bm)) (.int .u64 nn) false).run Try.prog (W.setCell ⟨base + ib, 1, none⟩ (.int .u64 oo)).drew = .ok (.pointer (some ⟨base + ib, 0, none⟩)) (W.setCell ⟨base + ib, 1, none⟩ (.int .u64 oo)).drew) ∧
    Hid (((W.setCell ⟨base + ia, 2, none⟩ (.int .u64 nn)).setCell ⟨base + ib, 1, none⟩ (.int .u64 oo)).drew.cell? ⟨L, 0, none⟩ = some (.map (some bm)) ∧ ((W.setCell ⟨base + ia, 2, none⟩ (.int .u64 nn)).setCell ⟨base + ib, 1, none⟩ (.int .u64 oo)).drew.cell? ⟨base + i0, 1, none⟩ = some (.int .u64 oo) ∧ ((W.setCell ⟨base + ia, 2, none⟩ (.int .u64 nn)).setCell ⟨base + ib, 1, none⟩ (.int .u64 oo)).drew.cell? ⟨base + i0, 2, none⟩ = some (.int .u64 nn) ∧ (Instr.lookup 41 (.map (some bm)) (.int .u64 oo) false).run Try.prog ((W.setCell ⟨base + ia, 2, none⟩ (.int .u64 nn)).setCell ⟨base + ib, 1, none⟩ (.int .u64 oo)).drew = .ok (.pointer (some ⟨base + ia, 0, none⟩)) ((W.setCell ⟨base + ia, 2, none⟩ (.int .u64 nn)).setCell ⟨base + ib, 1, none⟩ (.int .u64 oo)).drew ∧ (Instr.lookup 41 (.map (some bm)) (.int .u64 nn) false).run Try.prog ((W.setCell ⟨base + ia, 2, none⟩ (.int .u64 nn)).setCell ⟨base + ib, 1, none⟩ (.int .u64 oo)).drew = .ok (.pointer (some ⟨base + ib, 0, none⟩)) ((W.setCell ⟨base + ia, 2, none⟩ (.int .u64 nn)).setCell ⟨base + ib, 1, none⟩ (.int .u64 oo)).drew) ∧
    Hid (((W.setCell ⟨base + ib, 1, none⟩ (.int .u64 oo)).setCell ⟨base + ia, 2, none⟩ (.int .u64 nn)).drew.cell? ⟨L, 0, none⟩ = some (.map (some bm)) ∧ ((W.setCell ⟨base + ib, 1, none⟩ (.int .u64 oo)).setCell ⟨base + ia, 2, none⟩ (.int .u64 nn)).drew.cell? ⟨base + i0, 1, none⟩ = some (.int .u64 oo) ∧ ((W.setCell ⟨base + ib, 1, none⟩ (.int .u64 oo)).setCell ⟨base + ia, 2, none⟩ (.int .u64 nn)).drew.cell? ⟨base + i0, 2, none⟩ = some (.int .u64 nn) ∧ (Instr.lookup 41 (.map (some bm)) (.int .u64 oo) false).run Try.prog ((W.setCell ⟨base + ib, 1, none⟩ (.int .u64 oo)).setCell ⟨base + ia, 2, none⟩ (.int .u64 nn)).drew = .ok (.pointer (some ⟨base + ia, 0, none⟩)) ((W.setCell ⟨base + ib, 1, none⟩ (.int .u64 oo)).setCell ⟨base + ia, 2, none⟩ (.int .u64 nn)).drew ∧ (Instr.lookup 41 (.map (some bm)) (.int .u64 nn) false).run Try.prog ((W.setCell ⟨base + ib, 1, none⟩ (.int .u64 oo)).setCell ⟨base + ia, 2, none⟩ (.int .u64 nn)).drew = .ok (.pointer (some ⟨base + ib, 0, none⟩)) ((W.setCell ⟨base + ib, 1, none⟩ (.int .u64 oo)).setCell ⟨base + ia, 2, none⟩ (.int .u64 nn)).drew) ∧
    Hid (Snap ((W.setCell ⟨base + ia, 2, none⟩ (.int .u64 nn)).setCell ⟨base + ib, 1, none⟩ (.int .u64 oo)).drew L bm m base n f c old new r (setN o ib oo) (setN nw ia nn)) ∧
    Hid (Snap ((W.setCell ⟨base + ib, 1, none⟩ (.int .u64 oo)).setCell ⟨base + ia, 2, none⟩ (.int .u64 nn)).drew L bm m base n f c old new r (setN o ib oo) (setN nw ia nn)) := by
  have e1 : setN o ib oo i0 = oo := by rw [setN_other _ _ _ _ hnb]; exact eo.out
  have e2 : setN nw ia nn i0 = nn := by rw [setN_other _ _ _ _ hna]; exact en.out
  have SA := S.setNw hia nn
  have SB := S.setO hib oo
  exact ⟨mid_of S.drew eo.out en.out ko kn fo.out fn.out hi, mid_of SA.drew eo.out e2 ko kn fo.out fn.out hi, mid_of SB.drew e1 en.out ko kn fo.out fn.out hi, mid_of (SA.setO hib oo).drew e1 e2 ko kn fo.out fn.out hi,
    mid_of (SB.setNw hia nn).drew e1 e2 ko kn fo.out fn.out hi, (SA.setO hib oo).drew, (SB.setNw hia nn).drew⟩

set_option maxHeartbeats 2000000 in
/-- A snapshot in the middle leaves. -/
theorem remove_middle (S : Snap W L bm m base n f c old new r o nw) (hk : KeyOk ts) (hi : i0 < n) (hf : f ts = some (base + i0)) (h1 : r i0 = 1) (hB : B ≤ base) (hBm : B ≤ bm) (hBL : B ≤ L) (hBW : B ≤ W.heap.size)
    (hc : 2 ≤ c) (ho : (ts == old) = false) (hn : (ts == new) = false) (eo0 : o i0 = oo) (en0 : nw i0 = nn) (ko : KeyOk oo) (kn : KeyOk nn) (no : oo ≠ ts) (nn' : nn ≠ ts) (fo0 : f oo = some (base + ia)) (fn0 : f nn = some (base + ib)) (hia : ia < n) (hib : ib < n) (hna : i0 ≠ ia) (hnb : i0 ≠ ib) (hab : ia ≠ ib) :
    Calls Try.prog 29 #[.pointer (some ⟨L, 0, none⟩), .int .u64 ts] W fun e w' => e = .returned (.tuple #[]) ∧ Snap w' L bm m base n (upd f ts none) (c - 1) old new (setN r i0 0) (setN o ib oo) (setN nw ia nn) ∧ Below B W w' := by
  have eo : Hid (o i0 = oo) := eo0
  have en : Hid (nw i0 = nn) := en0
  have fo : Hid (upd f ts none oo = some (base + ia)) := by rw [upd_other _ _ _ _ no]; exact fo0
  have fn : Hid (upd f ts none nn = some (base + ib)) := by rw [upd_other _ _ _ _ nn']; exact fn0
  clear eo0 en0 fo0 fn0 no nn'
  have Sd := S.setR hi 0
  have Bd : Below B W (W.setCell ⟨base + i0, 0, none⟩ (.int .i64 0)) := (Below.refl _ _).setCell (by show B ≤ base + i0; omega) _
  have hl0 := S.2.1.lookup hk
  rw [hf] at hl0
  have hl : (Instr.lookup 41 (.map (some bm)) (.int .u64 ts) false).run Try.prog W = .ok (.pointer (some ⟨base + i0, 0, none⟩)) W := hl0
  have cl := S.1.cells.1
  have e0 := (S.2.2.1 i0 hi).cells.1
  rw [h1] at e0
  have g0 := (S.2.2.1 i0 hi).free 0
  have cd := Sd.1.cells.1
  have HSd : Hid (Snap (W.setCell ⟨base + i0, 0, none⟩ (.int .i64 0)) L bm m base n f c old new (setN r i0 0) o nw) := Sd
  have HBd : Hid (Below B W (W.setCell ⟨base + i0, 0, none⟩ (.int .i64 0))) := Bd
  have HF : Hid ((f ts).isSome = true) := by rw [hf]; rfl
  clear S hl0 hf Sd Bd h1
  go_enter Try.func29, Try.ntmps29
  go_wp2_with (first | (at_delete; go_must (refine wpList_delete_map _ rfl (.tmp 26) (.tmp 27) rfl bm m c f ts rfl HSd.out.2.1 rfl hk HF.out ?_; intro w1 M1 T1; have S1 := HSd.out.turned M1 T1; have B1 := HBd.out.grown T1.grown (Nat.le_trans hBW HBd.out.size) (by intro k hk; simp at hk; omega); have cl1 := S1.1.cells.1; have MM : Hid (MapIs w1 bm m (upd f ts none) (c - 1)) := M1; have cl2 := S1.1.cells.2.1; have cl3 := S1.1.cells.2.2; obtain ⟨co, cn⟩ := (S1.2.2.1 i0 hi).cells.2; have ca := (S1.2.2.1 ia hia).cells.2.2; have cb := (S1.2.2.1 ib hib).cells.2.1; have ga := (S1.2.2.1 ia hia).free 2; have gb := (S1.2.2.1 ib hib).free 1; obtain ⟨H0, HA, HB, HAB, HBA, RAB, RBA⟩ := mid_all S1 eo en ko kn fo fn hi hia hib hna hnb hab; rw [eo.out] at co; rw [en.out] at cn; clear M1 T1)) | (at_len; go_must (refine wpList_len_map _ rfl (.tmp 62) rfl bm m (c - 1) (upd f ts none) rfl MM.out ?_)))
  clear MM HSd HBd HF
  have hS1 : Hid (Snap w1 L bm m base n (upd f ts none) (c - 1) old new (setN r i0 0) o nw) := S1
  clear S1
  go_region_held3 (fun w' => w'.cell? ⟨L, 0, none⟩ = some (.map (some bm)) ∧ w'.cell? ⟨base + i0, 1, none⟩ = some (.int .u64 oo) ∧ w'.cell? ⟨base + i0, 2, none⟩ = some (.int .u64 nn) ∧ (Instr.lookup 41 (.map (some bm)) (.int .u64 oo) false).run Try.prog w' = .ok (.pointer (some ⟨base + ia, 0, none⟩)) w' ∧ (Instr.lookup 41 (.map (some bm)) (.int .u64 nn) false).run Try.prog w' = .ok (.pointer (some ⟨base + ib, 0, none⟩)) w') (first | exact H0.out | exact HA.out | exact HB.out | exact HAB.out | exact HBA.out) (fail)
  all_goals
    go_wp2_with fail
    go_end0
    first | exact ⟨rfl, RAB.out, ((B1.setCell (show B ≤ base + ia by omega) _).setCell (show B ≤ base + ib by omega) _).drew⟩ | exact ⟨rfl, RBA.out, ((B1.setCell (show B ≤ base + ib by omega) _).setCell (show B ≤ base + ia by omega) _).drew⟩
end
end Go.Proofs.Qxb6617417a
