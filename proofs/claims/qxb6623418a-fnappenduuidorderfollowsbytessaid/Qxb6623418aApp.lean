/-
  The walk of 'AppendUUID' (function 6).
-/
import Derived.Test.Qxb6623418aClone
import Derived.Deep.RegionLawGrows
import Derived.Maps.AppendAt
namespace Go.Proofs.Qxb6623418a
open Go.RowKit Go.WideShapes Cmp
set_option linter.unusedVariables false

/-- append on a row of the call's own, as one step of a region that draws its order. -/
theorem step_append_own {P : Program} {ops : Array Oper} {o : Oper} {a : Act} {w : World} {K : Act → World → Prop} {Q : Exit → Act → World → Prop} {E : Prop} (hgd : o.guard = none) (s x : Operand) (t : TypeId)
    (ho : o.op = .call { callee := .builtin .append, args := #[s, x], argTypes := #[t, t] })
    (base : Nat) (e : TypeId) (i : TypeInfo) (z : Value) (size bytes : Nat) (ht : P.underlying t = some (.slice e)) (hi : P.info? e = some i) (hz : i.zero = some z)
    (hsize : i.size = size) (hby : i.bytes = bytes) (hzs : z.cells.size = size) (hsz : 0 < size)
    (v : Value) (n : Nat) (xs : List Value) (hs : a.eval s = v) (hown : w.ownsRow base e size v n xs)
    (ad : Addr) (m c : Nat) (news : List Value) (hx : a.eval x = .slice (some ad) m c) (hl : news.length = m * size) (hnews : ∀ j u, news[j]? = some u → w.cell? (ad.add j) = some u) (h1 : ∀ u ∈ news, u.oneCell' = true)
    (h63 : n + m ≤ maxLen) (hbytes : (n + m) * bytes ≤ 140737488355328) (hbase : base ≤ w.heap.size)
    (h : ∀ v' w', w'.ownsRow base e size v' (n + m) (xs ++ news) → w.grownBy w' v.ownBlock → K (a.put o.dst v') w') :
    if Region.wanted o (yielded ops a.tmps) = true then Oper.wp P o a w K Q else E := by
  have hw : Region.wanted o (yielded ops a.tmps) = true := by simp [Region.wanted, hgd]
  rw [if_pos hw]
  exact wp_append_own w s x t ho base e i z size bytes ht hi hz hsize hby hzs hsz v n xs hs hown ad m c news hx hl hnews h1 h63 hbytes hbase fun v' w' h2 h3 _ => h v' w' h2 h3

/-- A slice value, its elements where its address says; nil or not. -/
def Came (w : World) (ao : Option Addr) (n c : Nat) (z : List Int) : Prop :=
  z.length = n ∧ (ao = none → n = 0 ∧ c = 0) ∧ ∀ ad, ao = some ad → ∀ j u, (cellsOf z)[j]? = some u → w.cell? (ad.add j) = some u
theorem Came.later {w w' : World} {ao : Option Addr} {n c : Nat} {z : List Int} (h : Came w ao n c z) (hb : Below w.heap.size w w') : ∀ ad, ao = some ad → ∀ j u, (cellsOf z)[j]? = some u → w'.cell? (ad.add j) = some u := by
  intro ad had j u hu
  have hc := h.2.2 ad had j u hu
  rw [hb.cell (World.block_lt_of_cell? w _ hc)]
  exact hc

theorem row_kept {w w' : World} {t : TypeId} {g : Nat} {z : List Int} (h : Box t w g z) (hg : w.grownBy w' none) : Box t w' g z := (hg.block g h.lt (by simp)).trans h
theorem box_cells {t : TypeId} {w : World} {g : Nat} {z : List Int} (h : Box t w g z) : ∀ j u, (cellsOf z)[j]? = some u → w.cell? ((⟨g, 0, none⟩ : Addr).add j) = some u := by
  intro j u hu
  rw [add_plain, Nat.zero_add, cell_of_row w g j _ t (0, 0) h]
  simpa [arrOf] using hu

/-- The second append's end: what is owned, and that nothing old has turned. -/
theorem app_end {w wx w1 w2 : World} {v1 v2 : Value} {n : Nat} {z u : List Int} (bx : Below w.heap.size w wx) (O1 : w1.ownsRow wx.heap.size 5 1 v1 (n + 1) (cellsOf z ++ cellsOf [48])) (G1 : wx.grownBy w1 none) (G2 : w1.grownBy w2 v1.ownBlock)
    (O2 : w2.ownsRow wx.heap.size 5 1 v2 (n + 1 + 16) (cellsOf z ++ cellsOf [48] ++ cellsOf u)) :
    ∃ g cap, v2 = .slice (some ⟨g, 0, none⟩) (n + 17) cap ∧ w.heap.size ≤ g ∧ w2.ownsRow w.heap.size 5 1 (.slice (some ⟨g, 0, none⟩) (n + 17) cap) (n + 17) (cellsOf (z ++ 48 :: u)) ∧ Below w.heap.size w w2 := by
  have e : cellsOf z ++ cellsOf [48] ++ cellsOf u = cellsOf (z ++ 48 :: u) := by simp [cellsOf]
  rw [e] at O2
  have b1 : Below w.heap.size w w1 := bx.grown G1 bx.size (by simp)
  have b2 : Below w.heap.size w w2 := b1.grown G2 b1.size (fun k hk => by have := O1.lt k hk; have := bx.size; omega)
  rcases O2.2 with ⟨_, h0⟩ | ⟨g, cap, cur, hv, hg, r⟩
  · omega
  · refine ⟨g, cap, hv, Nat.le_trans bx.size hg, ?_, b2⟩
    have h1 := O2.1
    exact ⟨h1, .inr ⟨g, cap, cur, rfl, Nat.le_trans bx.size hg, r⟩⟩

set_option maxHeartbeats 1000000 in
theorem app_any (ao : Option Addr) (n : Nat) (z u : List Int) (w : World) (hn : n ≤ 1099511627776) (hu : u.length = 16) (hc : Came w ao n n z) :
    Calls Try.prog 6 #[.slice ao n n, .agg (arrOf u)] w fun e w' => ∃ g cap, e = .returned (.slice (some ⟨g, 0, none⟩) (n + 17) cap) ∧ w.heap.size ≤ g ∧
      w'.ownsRow w.heap.size 5 1 (.slice (some ⟨g, 0, none⟩) (n + 17) cap) (n + 17) (cellsOf (z ++ 48 :: u)) ∧ Below w.heap.size w w' := by
  obtain ⟨i0, hi, hz0, hz1, hz2⟩ := info_parts Try.info5
  have HU : Hid (u.length = 16) := hu
  have BX : Hid (Below w.heap.size w ((w.alloc (.cells (arrOf u) 27)).alloc (.cells #[.int .u8 48] 5)).drew) := (((Below.refl _ _).alloc (Nat.le_refl _) _).alloc (by simp) _).drew
  have H1 : Hid (∀ ad, ao = some ad → ∀ j u', (cellsOf z)[j]? = some u' → ((w.alloc (.cells (arrOf u) 27)).alloc (.cells #[.int .u8 48] 5)).drew.cell? (ad.add j) = some u') := hc.later BX.out
  have H2 : Hid (∀ j u', (cellsOf [48])[j]? = some u' → ((w.alloc (.cells (arrOf u) 27)).alloc (.cells #[.int .u8 48] 5)).drew.cell? ((⟨w.heap.size + 1, 0, none⟩ : Addr).add j) = some u') := by
    have := cell_one_new (w.alloc (.cells (arrOf u) 27)) (.int .u8 48) 5
    rw [World.size_alloc] at this
    exact this
  have H3 : Hid (Box 27 ((w.alloc (.cells (arrOf u) 27)).alloc (.cells #[.int .u8 48] 5)).drew w.heap.size u) := heap_alloc2_old _ _ _
  have HC : Hid (Came w ao n n z) := hc
  clear hu hc
  go_enter Try.func6, Try.ntmps6
  go_wp2
  go_region_law (first | (refine step_append_grows rfl (.tmp 5) (.tmp 6) 22 rfl 5 i0 (.int .u8 0) 1 1 Try.underlying22 hi hz0 hz1 hz2 rfl (by decide) ao n n (cellsOf z) (by simp [Act.eval]) HC.out.2.1 (by rw [cellsOf_length, HC.out.1]; omega) H1.out ⟨w.heap.size + 1, 0, none⟩ 1 1 (cellsOf [48]) (by simp [Act.eval]) rfl H2.out (cellsOf_one _) (by omega) (by unfold maxLen; omega) (by omega) ?_; intro v1 w1 O1 G1; have B1 : Box 27 w1 w.heap.size u := row_kept H3.out G1) | (refine step_append_own rfl (.tmp 7) (.tmp 8) 22 rfl _ 5 i0 (.int .u8 0) 1 1 Try.underlying22 hi hz0 hz1 hz2 rfl (by decide) v1 (n + 1) _ (by simp [Act.eval]) O1 ⟨w.heap.size, 0, none⟩ 16 16 (cellsOf u) (by simp [Act.eval]) (by rw [cellsOf_length, HU.out]) (box_cells B1) (cellsOf_one _) (by unfold maxLen; omega) (by omega) G1.size ?_; intro v2 w2 O2 G2))
  obtain ⟨g, cap, rfl, hg, hown, hbel⟩ := app_end BX.out O1 G1 G2 O2
  go_wp2
  go_ret
  exact ⟨g, cap, rfl, hg, hown, hbel⟩
end Go.Proofs.Qxb6623418a
