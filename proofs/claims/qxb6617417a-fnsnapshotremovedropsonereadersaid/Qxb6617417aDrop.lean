/-
  The walk of 'snapModelDrop' (function 16).
-/
import Derived.Test.Qxb6617417aSnap
import Derived.Test.Qxb6617417aPlain
import Derived.OwnWalk
import Derived.Maps.AppendAt
namespace Go.Proofs.Qxb6617417a
open Go.RowKit Go.Maps Plain
set_option linter.unusedVariables false
set_option maxRecDepth 100000

theorem Try.info24 : (Try.prog.info? 24).map (fun i => (i.zero, i.size, i.bytes)) = some (some (.int .u64 0), 1, 8) := by kernel_rfl
theorem Try.info3 : (Try.prog.info? 3).map (fun i => (i.zero, i.size, i.bytes)) = some (some (.int .i64 0), 1, 8) := by kernel_rfl

def cellsOf (q : IntKind) (z : List Int) : List Value := z.map (Value.int q)
theorem cellsOf_length (q : IntKind) (z : List Int) : (cellsOf q z).length = z.length := by simp [cellsOf]
theorem cellsOf_app (q : IntKind) (a b : List Int) : cellsOf q (a ++ b) = cellsOf q a ++ cellsOf q b := by simp [cellsOf]
theorem cellsOf_one (q : IntKind) (z : List Int) : ∀ u ∈ cellsOf q z, u.oneCell' = true := ints_oneCell q z
theorem owned_row {q : IntKind} {e : TypeId} {w : World} {base g n cap : Nat} {z : List Int} (h : w.ownsRow base e 1 (.slice (some ⟨g, 0, none⟩) n cap) n (cellsOf q z)) : Row q w g 0 z := by
  intro k hk
  have hn : z.length = n := by have := h.1; rw [cellsOf_length] at this; omega
  rw [Nat.zero_add, h.cellAt k (by omega)]
  simp [cellsOf, hk]

/-- What the loop has gathered after k rounds: two rows of one length. -/
def Two (w : World) (n g1 g2 : Nat) (ts : Int) (K R : List Int) (k l : Nat) (wr : World) : Prop :=
  l = (dK ts (K.take k) (R.take k)).length ∧ l ≤ k ∧ g1 ≠ g2 ∧ w.heap.size ≤ g1 ∧ w.heap.size ≤ g2 ∧ Below w.heap.size w wr ∧
  wr.ownsRow w.heap.size 24 1 (.slice (some ⟨g1, 0, none⟩) l n) l (cellsOf .u64 (dK ts (K.take k) (R.take k))) ∧
  wr.ownsRow w.heap.size 3 1 (.slice (some ⟨g2, 0, none⟩) l n) l (cellsOf .i64 (dR ts (K.take k) (R.take k)))

theorem Two.gone {w wr : World} {n g1 g2 k l : Nat} {ts : Int} {K R : List Int} (h : Two w n g1 g2 ts K R k l wr) (hK : k < K.length) (hR : k < R.length) (e : oneK ts (K.getD k 0) (R.getD k 0) = [] ∧ oneR ts (K.getD k 0) (R.getD k 0) = []) : Two w n g1 g2 ts K R (k + 1) l wr := by
  obtain ⟨h1, h2, h3, h4, h5, h6, h7, h8⟩ := h
  unfold Two
  rw [dK_step ts K R k hK hR, dR_step ts K R k hK hR, e.1, e.2, List.append_nil, List.append_nil]
  exact ⟨h1, by omega, h3, h4, h5, h6, h7, h8⟩
theorem Two.more {w w2 : World} {n g1 g2 k l : Nat} {ts a b : Int} {K R : List Int} (h1 : l = (dK ts (K.take k) (R.take k)).length) (h2 : l ≤ k) (h3 : g1 ≠ g2) (h4 : w.heap.size ≤ g1) (h5 : w.heap.size ≤ g2) (hK : k < K.length) (hR : k < R.length) (e : oneK ts (K.getD k 0) (R.getD k 0) = [a] ∧ oneR ts (K.getD k 0) (R.getD k 0) = [b]) (hb : Below w.heap.size w w2)
    (O1 : w2.ownsRow w.heap.size 24 1 (.slice (some ⟨g1, 0, none⟩) (l + 1) n) (l + 1) (cellsOf .u64 (dK ts (K.take k) (R.take k)) ++ cellsOf .u64 [a]))
    (O2 : w2.ownsRow w.heap.size 3 1 (.slice (some ⟨g2, 0, none⟩) (l + 1) n) (l + 1) (cellsOf .i64 (dR ts (K.take k) (R.take k)) ++ cellsOf .i64 [b])) : Two w n g1 g2 ts K R (k + 1) (l + 1) w2 := by
  unfold Two
  rw [dK_step ts K R k hK hR, dR_step ts K R k hK hR, e.1, e.2]
  rw [← cellsOf_app] at O1 O2
  exact ⟨by simp; omega, by omega, h3, h4, h5, hb, O1, O2⟩

set_option maxHeartbeats 4000000 in
theorem drop_any (b0 o0 c0 b1 o1 c1 n : Nat) (K R : List Int) (ts : Int) (w : World) (hK : K.length = n) (hR : R.length = n) (hn : n ≤ 32768) (rK : Row .u64 w b0 o0 K) (rR : Row .i64 w b1 o1 R) (hpos : ∀ i, i < n → 1 ≤ R.getD i 0) (hmax : ∀ i, i < n → R.getD i 0 ≤ 9223372036854775807) :
    Calls Try.prog 16 #[.slice (some ⟨b0, o0, none⟩) n c0, .slice (some ⟨b1, o1, none⟩) n c1, .int .u64 ts] w
      fun e w' => ∃ g1 g2 l, e = .returned (.tuple #[.slice (some ⟨g1, 0, none⟩) l n, .slice (some ⟨g2, 0, none⟩) l n]) ∧ Two w n g1 g2 ts K R n l w' := by
  obtain ⟨i0, hi, hz0, hz1, hz2⟩ := info_parts Try.info24
  obtain ⟨i3, hi3, hy0, hy1, hy2⟩ := info_parts Try.info3
  have HK : Hid (K.length = n) := hK
  have HR : Hid (R.length = n) := hR
  have RK : Hid (Row .u64 w b0 o0 K) := rK
  have RR : Hid (Row .i64 w b1 o1 R) := rR
  have HP : Hid (∀ i, i < n → 1 ≤ R.getD i 0) := hpos
  have HM : Hid (∀ i, i < n → R.getD i 0 ≤ 9223372036854775807) := hmax
  clear hK hR rK rR hpos hmax
  go_enter Try.func16, Try.ntmps16
  go_wp2_with (at_make; first | (refine wpList_make_own _ rfl _ (.tmp 15) 22 rfl w.heap.size 24 i0 (.int .u64 0) 1 Try.underlying22 hi hz0 hz1 .i64 .i64 _ n rfl rfl rfl (by rw [hz2]; omega) (by unfold maxLen; omega) (Nat.le_refl _) ?_; intro w1 O1 G1; have B1 := (Below.refl w.heap.size w).grown G1 (Nat.le_refl _) (by simp); have L1 := O1.lt _ rfl; clear G1) | (refine wpList_make_own _ rfl _ (.tmp 17) 23 rfl w.heap.size 3 i3 (.int .i64 0) 1 Try.underlying23 hi3 hy0 hy1 .i64 .i64 _ n rfl rfl rfl (by rw [hy2]; omega) (by unfold maxLen; omega) B1.size ?_; intro w2 O2 G2; have O1' := O1.kept G2 (.inr (by simp [Value.ownBlock])); have B2 := B1.grown G2 B1.size (by simp); clear G2 O1))
  have T0 : Two w n w.heap.size w1.heap.size ts K R 0 0 w2 := ⟨by simp [dK_nil], Nat.le_refl _, by omega, Nat.le_refl _, B1.size, B2, by simpa [dK_nil, cellsOf] using O1', by simpa [dR_nil, cellsOf] using O2⟩
  obtain ⟨g2, hg2⟩ : ∃ g2, g2 = w1.heap.size := ⟨_, rfl⟩
  rw [← hg2] at T0
  rw [← hg2]
  clear hg2 O1' O2 B1 B2 L1
  go_loopw [9, 10, 11] (fun v1 v2 i wr => ∃ k l : Nat, k ≤ n ∧ i = .int .i64 k ∧ v1 = .slice (some ⟨w.heap.size, 0, none⟩) l n ∧ v2 = .slice (some ⟨g2, 0, none⟩) l n ∧ Two w n w.heap.size g2 ts K R k l wr) (fun _ _ i _ => n - (intOf i).toNat)
  case atStart => exact ⟨0, 0, Nat.zero_le _, rfl, rfl, rfl, T0⟩
  case round =>
    obtain ⟨k, l, hk, rfl, rfl, rfl, TK⟩ := hrel
    clear T0
    by_cases hlt : k < n
    · obtain ⟨kk, ekk⟩ : ∃ x, x = K.getD k 0 := ⟨_, rfl⟩
      obtain ⟨rr, err⟩ : ∃ x, x = R.getD k 0 := ⟨_, rfl⟩
      have hBK := TK.2.2.2.2.2.1
      have ck : wr.cell? ⟨b0, o0 + k, none⟩ = some (.int .u64 kk) := by rw [ekk]; exact (RK.out.below hBK) k (by rw [HK.out]; exact hlt)
      have cr : wr.cell? ⟨b1, o1 + k, none⟩ = some (.int .i64 rr) := by rw [err]; exact (RR.out.below hBK) k (by rw [HR.out]; exact hlt)
      have r1 : 1 ≤ rr := by rw [err]; exact HP.out k hlt
      have r2 : rr ≤ 9223372036854775807 := by rw [err]; exact HM.out k hlt
      have hkK : Hid (k < K.length) := by rw [HK.out]; exact hlt
      have hkR : Hid (k < R.length) := by rw [HR.out]; exact hlt
      have EK : Hid (kk = K.getD k 0) := ekk
      have ER : Hid (rr = R.getD k 0) := err
      clear ekk err
      obtain ⟨t1, t2, t3, t4, t5, t6, t7, t8⟩ := TK
      have T1 : Hid (l = (dK ts (K.take k) (R.take k)).length) := t1
      have T3 : Hid (w.heap.size ≠ g2) := t3
      by_cases e : kk = ts
      · have e' : (kk == ts) = true := by simpa using e
        by_cases hz : rr - 1 = 0
        · have hz' : (rr - 1 == 0) = true := by simpa using hz
          have TN : Hid (Two w n w.heap.size g2 ts K R (k + 1) l wr) := Two.gone ⟨t1, t2, t3, t4, t5, t6, t7, t8⟩ hkK.out hkR.out (by rw [← EK.out, ← ER.out]; exact one_gone ts kk rr e hz)
          clear e hz t1 t3 t7 t8
          go_wp2_with fail
          go_roundw
          case rel => exact ⟨k + 1, l, by omega, by go_num, rfl, rfl, TN.out⟩
          case measure => simp [intOf]; omega
        · have hz' : (rr - 1 == 0) = false := by simpa using hz
          have ON : Hid (oneK ts (K.getD k 0) (R.getD k 0) = [kk] ∧ oneR ts (K.getD k 0) (R.getD k 0) = [rr - 1]) := by rw [← EK.out, ← ER.out]; exact one_less ts kk rr e hz
          clear e hz t1 t3
          go_wp2_with (at_builtin; first | (refine wpList_append_fits _ rfl (.tmp 38) (.tmp 43) 22 rfl w.heap.size 24 i0 1 Try.underlying22 hi hz1 w.heap.size l n _ rfl (t7.alloc _) ⟨wr.heap.size, 0, none⟩ 1 1 (cellsOf .u64 [kk]) rfl rfl (cell_one_new _ _ _) (cellsOf_one _ _) (by omega) ?_; intro wa OA ga; have BA := (t6.alloc t6.size _).grown ga (by simp; have := t6.size; omega) (by intro k hk; simp at hk; omega); have OB := (t8.alloc (.cells #[.int .u64 kk] 24)).kept ga (.inr (by simp [Value.ownBlock]; exact fun h => T3.out h.symm)); clear ga t7 t8) | (refine wpList_append_fits _ rfl (.tmp 45) (.tmp 47) 23 rfl w.heap.size 3 i3 1 Try.underlying23 hi3 hy1 g2 l n _ rfl (OB.alloc _) ⟨wa.heap.size, 0, none⟩ 1 1 (cellsOf .i64 [rr - 1]) rfl rfl (cell_one_new _ _ _) (cellsOf_one _ _) (by omega) ?_; intro wb OB' gb; have BB := (BA.alloc BA.size _).grown gb (by simp; have := BA.size; omega) (by intro k hk; simp at hk; omega); have OA' := (OA.alloc (.cells #[.int .i64 (rr - 1)] 3)).kept gb (.inr (by simp [Value.ownBlock]; exact fun h => T3.out h)); clear gb OB OA BA))
          go_roundw
          case rel => exact ⟨k + 1, l + 1, by omega, by go_num, rfl, rfl, Two.more T1.out t2 T3.out t4 t5 hkK.out hkR.out ON.out BB OA' OB'⟩
          case measure => simp [intOf]; omega
      · have e' : (kk == ts) = false := by simpa using e
        have ON : Hid (oneK ts (K.getD k 0) (R.getD k 0) = [kk] ∧ oneR ts (K.getD k 0) (R.getD k 0) = [rr]) := by rw [← EK.out, ← ER.out]; exact one_keep ts kk rr e
        clear e t1 t3
        go_wp2_with (at_builtin; first | (refine wpList_append_fits _ rfl (.tmp 38) (.tmp 43) 22 rfl w.heap.size 24 i0 1 Try.underlying22 hi hz1 w.heap.size l n _ rfl (t7.alloc _) ⟨wr.heap.size, 0, none⟩ 1 1 (cellsOf .u64 [kk]) rfl rfl (cell_one_new _ _ _) (cellsOf_one _ _) (by omega) ?_; intro wa OA ga; have BA := (t6.alloc t6.size _).grown ga (by simp; have := t6.size; omega) (by intro k hk; simp at hk; omega); have OB := (t8.alloc (.cells #[.int .u64 kk] 24)).kept ga (.inr (by simp [Value.ownBlock]; exact fun h => T3.out h.symm)); clear ga t7 t8) | (refine wpList_append_fits _ rfl (.tmp 45) (.tmp 47) 23 rfl w.heap.size 3 i3 1 Try.underlying23 hi3 hy1 g2 l n _ rfl (OB.alloc _) ⟨wa.heap.size, 0, none⟩ 1 1 (cellsOf .i64 [rr]) rfl rfl (cell_one_new _ _ _) (cellsOf_one _ _) (by omega) ?_; intro wb OB' gb; have BB := (BA.alloc BA.size _).grown gb (by simp; have := BA.size; omega) (by intro k hk; simp at hk; omega); have OA' := (OA.alloc (.cells #[.int .i64 rr] 3)).kept gb (.inr (by simp [Value.ownBlock]; exact fun h => T3.out h)); clear gb OB OA BA))
        go_roundw
        case rel => exact ⟨k + 1, l + 1, by omega, by go_num, rfl, rfl, Two.more T1.out t2 T3.out t4 t5 hkK.out hkR.out ON.out BB OA' OB'⟩
        case measure => simp [intOf]; omega
    · obtain rfl : k = n := by omega
      go_wp2_with fail
      go_ret2
      exact ⟨_, _, l, rfl, TK⟩
end Go.Proofs.Qxb6617417a
