/-
  The walk of the law 'FnSnapshotRemoveDropsOneReader' (function 4).
-/
import Derived.Test.Qxb6617417aLaw1
import Derived.Laws.CopyOwn
namespace Go.Proofs.Qxb6617417a
open Go.RowKit Go.Maps Go.WideShapes Plain
set_option linter.unusedVariables false
set_option maxRecDepth 100000

theorem Try.size24 : (Try.prog.info? 24).map (·.size) = some 1 := by kernel_rfl
theorem Try.size3 : (Try.prog.info? 3).map (·.size) = some 1 := by kernel_rfl

set_option maxHeartbeats 1000000 in
/-- A length that the law passes over. -/
theorem early (a0 a1 a2 a3 : Option Addr) (l0 c0 l1 c1 l2 c2 l3 c3 : Nat) (old new ts : Int) (w : World) (m0 : l0 ≤ maxLen) (m1 : l1 ≤ maxLen) (m2 : l2 ≤ maxLen) (m3 : l3 ≤ maxLen) (h : 32768 < l0 ∨ 32768 < l1 ∨ 32768 < l2 ∨ 32768 < l3) :
    Calls Try.prog 4 #[.slice a0 l0 c0, .slice a1 l1 c1, .slice a2 l2 c2, .slice a3 l3 c3, .int .u64 old, .int .u64 new, .int .u64 ts] w fun e w' => e = .returned (.bool true) ∧ w = w' := by
  unfold maxLen at m0 m1 m2 m3
  by_cases b0 : 32768 < l0
  · clear h
    go_enter Try.func4, Try.ntmps4
    go_wp2
    all_goals (go_ret; exact ⟨rfl, rfl⟩)
  by_cases b1 : 32768 < l1
  · clear h
    go_enter Try.func4, Try.ntmps4
    go_wp2
    all_goals (go_ret; exact ⟨rfl, rfl⟩)
  by_cases b2 : 32768 < l2
  · clear h
    go_enter Try.func4, Try.ntmps4
    go_wp2
    all_goals (go_ret; exact ⟨rfl, rfl⟩)
  · have b3 : 32768 < l3 := by omega
    clear h
    go_enter Try.func4, Try.ntmps4
    go_wp2
    all_goals (go_ret; exact ⟨rfl, rfl⟩)

/-- The lengths part. -/
theorem early_part (a0 a1 a2 a3 : Option Addr) (l0 c0 l1 c1 l2 c2 l3 c3 : Nat) (old new ts : Int) (w : World) (m0 : l0 ≤ 32768) (m1 : l1 ≤ 32768) (m2 : l2 ≤ 32768) (m3 : l3 ≤ 32768) (h : ¬ (l1 = l0 ∧ l2 = l0 ∧ l3 = l0)) :
    Calls Try.prog 4 #[.slice a0 l0 c0, .slice a1 l1 c1, .slice a2 l2 c2, .slice a3 l3 c3, .int .u64 old, .int .u64 new, .int .u64 ts] w fun e w' => e = .returned (.bool true) ∧ w = w' := by
  have C9 : Hid (Calls Try.prog 9 #[.slice a0 l0 c0, .slice a1 l1 c1, .slice a2 l2 c2, .slice a3 l3 c3, .int .u64 old, .int .u64 new] w fun e w' => e = .returned (.bool false) ∧ w = w') := wf_len a0 a1 a2 a3 l0 c0 l1 c1 l2 c2 l3 c3 old new w h m0 m1 m2 m3
  clear h
  go_enter Try.func4, Try.ntmps4
  go_wp2_with (go_at_call 14; go_must (refine (bytes14 _ _ _ _ _ _ _ _ _ _ _ _ _ _ _ _ m0 m1 m2 m3).mono ?_; rintro e w' ⟨rfl, rfl⟩))
  refine Calls.mono C9.out ?_
  rintro e w' ⟨rfl, rfl⟩
  go_wp2_with fail
  go_ret
  exact ⟨rfl, rfl⟩

theorem idx_zero (a0 : Option Addr) (c0 : Nat) (ts : Int) (w : World) : Calls Try.prog 15 #[.slice a0 0 c0, .int .u64 ts] w fun e w' => e = .returned (.int .i64 (-1)) ∧ w = w' := by
  go_enter Try.func15, Try.ntmps15
  go_wp2
  refine wp_loop_rounds 1 ?_
  rw [rounds_succ]
  go_wp2
  go_ret
  exact ⟨rfl, rfl⟩

/-- Nothing is held. -/
theorem early_none (a0 a1 a2 a3 : Option Addr) (c0 c1 c2 c3 : Nat) (old new ts : Int) (w : World) :
    Calls Try.prog 4 #[.slice a0 0 c0, .slice a1 0 c1, .slice a2 0 c2, .slice a3 0 c3, .int .u64 old, .int .u64 new, .int .u64 ts] w fun e w' => e = .returned (.bool true) ∧ w = w' := by
  go_enter Try.func4, Try.ntmps4
  go_wp2_with (first | (go_at_call 14; go_must (refine (bytes14 _ _ _ _ _ _ _ _ _ _ _ _ _ _ _ _ (by omega) (by omega) (by omega) (by omega)).mono ?_; rintro e w' ⟨rfl, rfl⟩)) | (go_at_call 9; go_must (refine (wf_zero _ _ _ _ _ _ _ _ _ _ _).mono ?_; rintro e w' ⟨rfl, rfl⟩)) | (go_at_call 15; go_must (refine (idx_zero _ _ _ _).mono ?_; rintro e w' ⟨rfl, rfl⟩)))
  go_ret
  exact ⟨rfl, rfl⟩

/-- What 'make' has laid: a row of so many cells. -/
theorem made_row {e : TypeId} {w w1 : World} {n : Nat} {xs : List Value} (h : w1.ownsRow w.heap.size e 1 (.slice (some ⟨w.heap.size, 0, none⟩) n n) n xs) : ∃ L : List Value, L.length = n ∧ w1.heap[w.heap.size]? = some (.cells L.toArray e (0, 0)) := by
  rcases h.2 with ⟨h', _⟩ | ⟨g, cap, cur, h', _, hg, _, _, hs, _⟩
  · simp at h'
  · simp only [Value.slice.injEq, Option.some.injEq, Addr.mk.injEq, and_true, true_and] at h'
    obtain ⟨rfl, rfl⟩ := h'
    exact ⟨cur.toList, by simpa using hs, by simpa using hg⟩
theorem splice_all {α : Type} (L X : List α) (h : L.length = X.length) : splice L 0 X = X := by
  unfold splice; rw [List.drop_of_length_le (by omega)]; simp
theorem copied_row {q : IntKind} {e : TypeId} {w2 : World} {g len : Nat} {L : List Value} {z : List Int} (HG : Hid (w2.heap[g]? = some (.cells (splice L 0 (cellsOf q z)).toArray e (0, 0)))) (hz : z.length = len) (hL : L.length = len) : Row q w2 g 0 z := by
  intro k hk
  have hg := HG.out
  rw [splice_all L _ (by rw [cellsOf_length]; omega)] at hg
  rw [Nat.zero_add, cell_of_row w2 g k _ e (0, 0) hg]
  simp [cellsOf, hk]
theorem row_cells {q : IntKind} {w : World} {b o : Nat} {z : List Int} (h : Row q w b o z) : ∀ j v, (cellsOf q z)[j]? = some v → w.cell? ((⟨b, o, none⟩ : Addr).add j) = some v := by
  intro j v hv
  have hj : j < z.length := by have := (List.getElem?_eq_some_iff.1 hv).1; rwa [cellsOf_length] at this
  rw [add_plain, h j hj, ← hv]
  simp [cellsOf, hj]

set_option maxHeartbeats 8000000 in
theorem law_any (b0 o0 c0 b1 o1 c1 b2 o2 c2 b3 o3 c3 n : Nat) (K R O N : List Int) (old new ts : Int) (w : World) (hK : K.length = n) (hR : R.length = n) (hO : O.length = n) (hN : N.length = n) (hn : n ≤ 32768) (hp : 0 < n)
    (rK : Row .u64 w b0 o0 K) (rR : Row .i64 w b1 o1 R) (rO : Row .u64 w b2 o2 O) (rN : Row .u64 w b3 o3 N) (hwf : ∀ k, k < n → KeyOk (K.getD k 0)) (hmax : ∀ i, i < n → R.getD i 0 ≤ 9223372036854775807) :
    Calls Try.prog 4 #[.slice (some ⟨b0, o0, none⟩) n c0, .slice (some ⟨b1, o1, none⟩) n c1, .slice (some ⟨b2, o2, none⟩) n c2, .slice (some ⟨b3, o3, none⟩) n c3, .int .u64 old, .int .u64 new, .int .u64 ts] w
      fun e w' => e = .returned (.bool true) ∧ Below w.heap.size w w' := by
  obtain ⟨i0, hi, hz0, hz1, hz2⟩ := info_parts Try.info24
  obtain ⟨i3, hi3, hy0, hy1, hy2⟩ := info_parts Try.info3
  have q22 : ∀ (w : World) (a : Option Addr) (n c n' c' : Nat), (binOp .neq 22 (.slice a n c) (.slice none n' c')).run Try.prog w = .ok (.bool (!a.isNone)) w := fun w a n c n' c' => run_neq_slice_nil_any w _ _ a n c n' c' Try.underlying22
  have q23 : ∀ (w : World) (a : Option Addr) (n c n' c' : Nat), (binOp .neq 23 (.slice a n c) (.slice none n' c')).run Try.prog w = .ok (.bool (!a.isNone)) w := fun w a n c n' c' => run_neq_slice_nil_any w _ _ a n c n' c' Try.underlying23
  have HK : Hid (K.length = n) := hK
  have HR : Hid (R.length = n) := hR
  have HO : Hid (O.length = n) := hO
  have HN : Hid (N.length = n) := hN
  have HW : Hid (∀ k, k < n → KeyOk (K.getD k 0)) := hwf
  have HM : Hid (∀ i, i < n → R.getD i 0 ≤ 9223372036854775807) := hmax
  clear hK hR hO hN hwf hmax
  go_enter Try.func4, Try.ntmps4
  go_wp2_with (go_at_call 14; go_must (refine (bytes14 _ _ _ _ _ _ _ _ _ _ _ _ _ _ _ _ hn hn hn hn).mono ?_; rintro e w' ⟨rfl, rfl⟩))
  refine (wf_some _ _ _ _ _ _ _ _ _ _ _ _ _ K R O N _ _ _ HK.out HR.out HO.out HN.out hn hp rK rR rO rN).mono ?_
  rintro e w1 ⟨b, rfl, hF, q, hw⟩
  have BW1 : Below w.heap.size w w1 := by rw [hw]; exact ⟨rfl, rfl, rfl, Nat.le_refl _, fun _ _ => rfl⟩
  clear hw
  have rK1 := rK.below BW1
  have rR1 := rR.below BW1
  have rO1 := rO.below BW1
  have rN1 := rN.below BW1
  clear rK rR rO rN
  cases b with
  | false =>
    clear hF
    go_wp2_with fail
    go_ret
    exact ⟨rfl, BW1⟩
  | true =>
    have F : Hid (Formed n K R O N old new) := hF rfl
    clear hF
    go_wp2_with fail
    refine (idx_any _ _ _ _ K _ _ HK.out hn rK1).mono ?_
    rintro e w' ⟨x, rfl, hx, rfl⟩
    by_cases hx0 : x < 0
    · clear hx
      go_wp2_with fail
      go_ret
      exact ⟨rfl, BW1⟩
    · obtain ⟨i1, hi1, hts⟩ := hx (by omega)
      have HT : Hid (K.getD i1 0 = ts) := hts
      clear hx hts
      go_wp2_with (first | (at_make; first | (refine wpList_make_full _ rfl (.tmp 58) (.tmp 58) 22 rfl w1.heap.size 24 i0 (.int .u64 0) 1 Try.underlying22 hi hz0 hz1 .i64 .i64 n n n rfl rfl rfl rfl (by rw [hz2]; omega) (by unfold maxLen; omega) (Nat.le_refl _) ?_; intro wa1 Oa ga; obtain ⟨La1, hLl, hL⟩ := made_row Oa; have HLl1 : Hid (La1.length = n) := hLl; have HL1 : Hid (wa1.heap[w1.heap.size]? = some (.cells La1.toArray 24 (0, 0))) := hL; have Ba1 : Below w1.heap.size w1 wa1 := (Below.refl _ _).grown ga (Nat.le_refl _) (by simp); clear hLl hL Oa ga) | (refine wpList_make_full _ rfl (.tmp 67) (.tmp 67) 23 rfl w2.heap.size 3 i3 (.int .i64 0) 1 Try.underlying23 hi3 hy0 hy1 .i64 .i64 n n n rfl rfl rfl rfl (by rw [hy2]; omega) (by unfold maxLen; omega) (Nat.le_refl _) ?_; intro wa2 Oa ga; obtain ⟨La2, hLl, hL⟩ := made_row Oa; have HLl2 : Hid (La2.length = n) := hLl; have HL2 : Hid (wa2.heap[w2.heap.size]? = some (.cells La2.toArray 3 (0, 0))) := hL; have Ba2 : Below w2.heap.size w2 wa2 := (Below.refl _ _).grown ga (Nat.le_refl _) (by simp); clear hLl hL Oa ga) | (refine wpList_make_full _ rfl (.tmp 76) (.tmp 76) 22 rfl w3.heap.size 24 i0 (.int .u64 0) 1 Try.underlying22 hi hz0 hz1 .i64 .i64 n n n rfl rfl rfl rfl (by rw [hz2]; omega) (by unfold maxLen; omega) (Nat.le_refl _) ?_; intro wa3 Oa ga; obtain ⟨La3, hLl, hL⟩ := made_row Oa; have HLl3 : Hid (La3.length = n) := hLl; have HL3 : Hid (wa3.heap[w3.heap.size]? = some (.cells La3.toArray 24 (0, 0))) := hL; have Ba3 : Below w3.heap.size w3 wa3 := (Below.refl _ _).grown ga (Nat.le_refl _) (by simp); clear hLl hL Oa ga) | (refine wpList_make_full _ rfl (.tmp 85) (.tmp 85) 22 rfl w4.heap.size 24 i0 (.int .u64 0) 1 Try.underlying22 hi hz0 hz1 .i64 .i64 n n n rfl rfl rfl rfl (by rw [hz2]; omega) (by unfold maxLen; omega) (Nat.le_refl _) ?_; intro wa4 Oa ga; obtain ⟨La4, hLl, hL⟩ := made_row Oa; have HLl4 : Hid (La4.length = n) := hLl; have HL4 : Hid (wa4.heap[w4.heap.size]? = some (.cells La4.toArray 24 (0, 0))) := hL; have Ba4 : Below w4.heap.size w4 wa4 := (Below.refl _ _).grown ga (Nat.le_refl _) (by simp); clear hLl hL Oa ga)) | (refine wpList_copy_splice rfl (.tmp 60) (.tmp 61) 22 22 rfl 24 Try.underlying22 Try.size24 (some ⟨w1.heap.size, 0, none⟩) (some ⟨b0, o0, none⟩) n n n c0 rfl rfl w1.heap.size 0 La1 24 HL1.out (cellsOf .u64 K) (by rw [cellsOf_length, HK.out]; simp) (fun _ => ⟨rfl, ⟨b0, o0, none⟩, rfl, (row_cells (rK1.below Ba1))⟩) (by rw [cellsOf_length, HK.out, HLl1.out]; omega) (cellsOf_one _ _) w1.heap.size w1 Ba1 (Nat.le_refl _) ?_; intro w2 HG B2; have rK2 : Row .u64 w2 w1.heap.size 0 K := copied_row HG HK.out HLl1.out; have rR2 := rR1.below B2; have rO2 := rO1.below B2; have rN2 := rN1.below B2; have BW2 := BW1.trans (B2.mono BW1.size); clear HG HL1 HLl1 Ba1 B2 BW1 rK1 rR1 rO1 rN1) | (refine wpList_copy_splice rfl (.tmp 69) (.tmp 70) 23 23 rfl 3 Try.underlying23 Try.size3 (some ⟨w2.heap.size, 0, none⟩) (some ⟨b1, o1, none⟩) n n n c1 rfl rfl w2.heap.size 0 La2 3 HL2.out (cellsOf .i64 R) (by rw [cellsOf_length, HR.out]; simp) (fun _ => ⟨rfl, ⟨b1, o1, none⟩, rfl, (row_cells (rR2.below Ba2))⟩) (by rw [cellsOf_length, HR.out, HLl2.out]; omega) (cellsOf_one _ _) w2.heap.size w2 Ba2 (Nat.le_refl _) ?_; intro w3 HG B3; have rR3 : Row .i64 w3 w2.heap.size 0 R := copied_row HG HR.out HLl2.out; have rK3 := rK2.below B3; have rO3 := rO2.below B3; have rN3 := rN2.below B3; have BW3 := BW2.trans (B3.mono BW2.size); clear HG HL2 HLl2 Ba2 B3 BW2 rK2 rR2 rO2 rN2) | (refine wpList_copy_splice rfl (.tmp 78) (.tmp 79) 22 22 rfl 24 Try.underlying22 Try.size24 (some ⟨w3.heap.size, 0, none⟩) (some ⟨b2, o2, none⟩) n n n c2 rfl rfl w3.heap.size 0 La3 24 HL3.out (cellsOf .u64 O) (by rw [cellsOf_length, HO.out]; simp) (fun _ => ⟨rfl, ⟨b2, o2, none⟩, rfl, (row_cells (rO3.below Ba3))⟩) (by rw [cellsOf_length, HO.out, HLl3.out]; omega) (cellsOf_one _ _) w3.heap.size w3 Ba3 (Nat.le_refl _) ?_; intro w4 HG B4; have rO4 : Row .u64 w4 w3.heap.size 0 O := copied_row HG HO.out HLl3.out; have rK4 := rK3.below B4; have rR4 := rR3.below B4; have rN4 := rN3.below B4; have BW4 := BW3.trans (B4.mono BW3.size); clear HG HL3 HLl3 Ba3 B4 BW3 rK3 rR3 rO3 rN3) | (refine wpList_copy_splice rfl (.tmp 87) (.tmp 88) 22 22 rfl 24 Try.underlying22 Try.size24 (some ⟨w4.heap.size, 0, none⟩) (some ⟨b3, o3, none⟩) n n n c3 rfl rfl w4.heap.size 0 La4 24 HL4.out (cellsOf .u64 N) (by rw [cellsOf_length, HN.out]; simp) (fun _ => ⟨rfl, ⟨b3, o3, none⟩, rfl, (row_cells (rN4.below Ba4))⟩) (by rw [cellsOf_length, HN.out, HLl4.out]; omega) (cellsOf_one _ _) w4.heap.size w4 Ba4 (Nat.le_refl _) ?_; intro w5 HG B5; have rN5 : Row .u64 w5 w4.heap.size 0 N := copied_row HG HN.out HLl4.out; have rK5 := rK4.below B5; have rR5 := rR4.below B5; have rO5 := rO4.below B5; have BW5 := BW4.trans (B5.mono BW4.size); clear HG HL4 HLl4 Ba4 B5 BW4 rK4 rR4 rO4 rN4))
      refine (drop_any _ _ _ _ _ _ _ K R _ _ HK.out HR.out hn rK5 rR5 (fun i h => (F.out.1 i h).1) HM.out).mono ?_
      rintro e w6 ⟨g1, g2, l, rfl, T⟩
      have B6 := T.2.2.2.2.2.1
      have rK6 := rK5.below B6
      have rR6 := rR5.below B6
      have rO6 := rO5.below B6
      have rN6 := rN5.below B6
      have BW6 := BW5.trans (B6.mono BW5.size)
      have tK : Row .u64 w6 g1 0 (dK ts K R) := by have := owned_row T.2.2.2.2.2.2.1; rwa [List.take_of_length_le (by rw [HK.out]; omega), List.take_of_length_le (by rw [HR.out]; omega)] at this
      have tR : Row .i64 w6 g2 0 (dR ts K R) := by have := owned_row T.2.2.2.2.2.2.2; rwa [List.take_of_length_le (by rw [HK.out]; omega), List.take_of_length_le (by rw [HR.out]; omega)] at this
      have tl : Hid ((dK ts K R).length = l) := by have := T.1; rw [List.take_of_length_le (by rw [HK.out]; omega), List.take_of_length_le (by rw [HR.out]; omega)] at this; exact this.symm
      have hl : l ≤ n := T.2.1
      clear T B6 rK5 rR5 rO5 rN5 BW5
      go_wp2_with fail
      refine (make_any _ _ _ _ _ _ _ _ _ _ _ _ _ K R O N _ _ _ HK.out HR.out HO.out HN.out (by omega) rK6 rR6 rO6 rN6 HW.out (apart F.out)).mono ?_
      rintro e w7 ⟨rfl, M⟩
      have B7 := M.2.2.2.2
      have hs7 := M.1
      have HS7 : Hid (w7.heap.size = w6.heap.size + 2 + n) := hs7
      have HMd : Hid (Made w6 K R O N old new n w7) := M
      clear hs7 M rK6 rR6 rO6 rN6
      go_wp2_with fail
      refine (zz_remove HMd.out F.out HK.out HR.out HW.out HM.out hi1 HT.out).mono ?_
      rintro e w8 ⟨rfl, hS, B8⟩
      obtain ⟨f', c', old', new', r', oo', nw', hSn, hRp⟩ := hS
      have BR : Below w6.heap.size w6 w8 := B7.trans B8
      have BW8 := BW6.trans (BR.mono BW6.size)
      have C13 : Hid (Calls Try.prog 13 #[.pointer (some ⟨w6.heap.size + 1, 0, none⟩), .slice (some ⟨g1, 0, none⟩) l n, .slice (some ⟨g2, 0, none⟩) l n] w8 fun e w' => e = .returned (.bool true) ∧ ∃ q, w' = w8.drewN q) :=
        rep_any hSn g1 n g2 n l (dK ts K R) (dR ts K R) tl.out (by omega) (tK.below BR) (tR.below BR) hRp
      clear hSn hRp BR B8 B7 BW6 HMd HS7 tK tR
      go_wp2_with fail
      refine Calls.mono C13.out ?_
      rintro e w9 ⟨rfl, q9, hw9⟩
      have BW9 : Below w.heap.size w w9 := by rw [hw9]; exact BW8.trans ⟨rfl, rfl, rfl, Nat.le_refl _, fun _ _ => rfl⟩
      clear hw9
      go_wp2_with fail
      go_ret
      exact ⟨rfl, BW9⟩
end Go.Proofs.Qxb6617417a
