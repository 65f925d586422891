/-
  The walk of the law 'FnBlockCommentEndContext' (function 6).
-/
import Derived.Test.Qxb6619678aOwn
namespace Go.Proofs.Qxb6619678a
open Go.RowKit Go.WideShapes Scan
set_option linter.unusedVariables false
set_option maxRecDepth 100000

theorem bytes14 (a0 a1 a2 : Option Addr) (l0 c0 l1 c1 l2 c2 : Nat) (s : Int) (w : World) (h0 : l0 ≤ 65536) (h1 : l1 ≤ 65536) (h2 : l2 ≤ 65536) :
    Calls Try.prog 14 #[.slice a0 l0 c0, .slice a1 l1 c1, .slice a2 l2 c2, .int .i64 s] w fun e w' => e = .returned (.bool true) ∧ w = w' := by
  go_enter Try.func14, Try.ntmps14
  go_wp2
  go_ret
  exact ⟨rfl, rfl⟩

/-- A start or a length that the law passes over. -/
theorem context_early (a0 a1 a2 : Option Addr) (l0 c0 l1 c1 l2 c2 : Nat) (s : Int) (w : World) (m0 : l0 ≤ maxLen) (m1 : l1 ≤ maxLen) (m2 : l2 ≤ maxLen) (hs1 : -9223372036854775808 ≤ s) (hs2 : s ≤ 9223372036854775807)
    (h : 65536 < l0 ∨ (l0 ≤ 65536 ∧ 65536 < l1) ∨ (l0 ≤ 65536 ∧ l1 ≤ 65536 ∧ 65536 < l2) ∨ (l0 ≤ 65536 ∧ l1 ≤ 65536 ∧ l2 ≤ 65536 ∧ (s < 0 ∨ (0 ≤ s ∧ (l1 : Int) - 2 < s)))) :
    Calls Try.prog 6 #[.slice a0 l0 c0, .slice a1 l1 c1, .slice a2 l2 c2, .int .i64 s] w fun e w' => e = .returned (.bool true) ∧ w = w' := by
  unfold maxLen at m0 m1 m2
  rcases h with h | ⟨h, h'⟩ | ⟨h, h', h''⟩ | ⟨h, h', h'', h3 | ⟨h3, h4⟩⟩
  all_goals
    go_enter Try.func6, Try.ntmps6
    go_wp2
    all_goals
      go_ret
      exact ⟨rfl, rfl⟩

/-- No comment opens there. -/
theorem context_no (a0 a2 : Option Addr) (l0 c0 l2 c2 : Nat) (b off len cap : Nat) (z : List Int) (s : Nat) (w : World) (h0 : l0 ≤ 65536) (hm : len ≤ 65536) (h2 : l2 ≤ 65536) (hs : s + 2 ≤ len) (c0' : w.cell? ⟨b, off + s, none⟩ = some (.int .u8 (z.getD s 0))) (c1' : w.cell? ⟨b, off + (s + 1), none⟩ = some (.int .u8 (z.getD (s + 1) 0)))
    (h : ¬ z[s]?.getD 0 = 47 ∨ (z[s]?.getD 0 = 47 ∧ ¬ z[s + 1]?.getD 0 = 42)) :
    Calls Try.prog 6 #[.slice a0 l0 c0, .slice (some ⟨b, off, none⟩) len cap, .slice a2 l2 c2, .int .i64 s] w fun e w' => e = .returned (.bool true) ∧ w = w' := by
  rcases h with h | ⟨h, h'⟩
  all_goals
    go_enter Try.func6, Try.ntmps6
    go_wp2
    go_ret
    exact ⟨rfl, rfl⟩

theorem ret_dec {p : Prop} [Decidable p] (h : p) : Ending.returned (.bool (decide p)) = .returned (.bool true) := by rw [decide_eq_true h]
theorem closed_length {z : List Int} {len k : Nat} (h : z.length = len) : (z ++ 32 :: closers k).length = len + 1 + 2 * k := by
  simp [closers_length]; omega
theorem closed_value {g : Option Addr} {len c : Nat} (k : Nat) : Value.slice g (len + 1 + 2 * k + 1 + 1) c = .slice g (len + 1 + 2 * (k + 1)) c := by
  rw [show len + 1 + 2 * k + 1 + 1 = len + 1 + 2 * (k + 1) by omega]
theorem closed_owned {w : World} {base len c k : Nat} {g : Option Addr} {z : List Int} (h : w.ownsRow base 5 1 (.slice g (len + 1 + 2 * k + 1 + 1) c) (len + 1 + 2 * k + 1 + 1) (cellsOf (z ++ 32 :: closers k ++ [42] ++ [47]))) :
    w.ownsRow base 5 1 (.slice g (len + 1 + 2 * (k + 1)) c) (len + 1 + 2 * (k + 1)) (cellsOf (z ++ 32 :: closers (k + 1))) := by
  rw [show len + 1 + 2 * (k + 1) = len + 1 + 2 * k + 1 + 1 by omega, closers_snoc]
  simpa using h

set_option maxHeartbeats 4000000 in
theorem context_main (a0 a2 : Option Addr) (l0 c0 l2 c2 : Nat) (zp zq : List Int) (b off len cap : Nat) (z : List Int) (s : Nat) (w : World) (h0 : l0 ≤ 65536) (hm : len ≤ 65536) (h2 : l2 ≤ 65536) (hs : s + 2 ≤ len)
    (P0 : Came w a0 l0 c0 zp) (P1 : Came w (some ⟨b, off, none⟩) len cap z) (P2 : Came w a2 l2 c2 zq) (e0 : z[s]?.getD 0 = 47) (e1 : z[s + 1]?.getD 0 = 42) :
    Calls Try.prog 6 #[.slice a0 l0 c0, .slice (some ⟨b, off, none⟩) len cap, .slice a2 l2 c2, .int .i64 s] w fun e w' => e = .returned (.bool true) ∧ Below w.heap.size w w' := by
  obtain ⟨i0, hi, hz0, hz1, hz2⟩ := info_parts Try.info5
  have q22 : ∀ (w : World) (a : Option Addr) (n c n' c' : Nat), (binOp .neq 22 (.slice a n c) (.slice none n' c')).run Try.prog w = .ok (.bool (!a.isNone)) w := fun w a n c n' c' => run_neq_slice_nil_any w _ _ a n c n' c' Try.underlying22
  have hc : ∀ k, k < len → w.cell? ⟨b, off + k, none⟩ = some (.int .u8 (z.getD k 0)) := by
    intro k hk
    have hz := P1.1
    rw [← add_plain]
    exact P1.2.2 _ rfl k _ (by simp [cellsOf, show k < z.length by omega])
  have cc0 := hc s (by omega)
  have cc1 := hc (s + 1) (by omega)
  have HZ : Hid (z.length = len) := P1.1
  clear hc
  go_enter Try.func6, Try.ntmps6
  go_wp2_with (first | (go_at_call 14; go_must (refine (bytes14 _ _ _ _ _ _ _ _ _ _ _ h0 hm h2).mono ?_; rintro e w' ⟨rfl, rfl⟩)) | (at_make; first | (refine wpList_make_full _ rfl (.tmp 62) (.tmp 62) 22 rfl w.heap.size 5 i0 (.int .u8 0) 1 Try.underlying22 hi hz0 hz1 .i64 .i64 len len len rfl rfl rfl rfl (by rw [hz2]; omega) (by unfold maxLen; omega) (Nat.le_refl _) ?_; intro w1 hown1 hg1; obtain ⟨L, hLl, hL⟩ := made_row hown1; have HLl : Hid (L.length = len) := hLl; have HL : Hid (w1.heap[w.heap.size]? = some (.cells L.toArray 5 (0, 0))) := hL; have B1 : Below w.heap.size w w1 := (Below.refl _ _).grown hg1 (Nat.le_refl _) (by simp); clear hLl hL hown1 hg1) | (refine wpList_make_own _ rfl _ (.tmp 75) 22 rfl w2.heap.size 5 i0 (.int .u8 0) 1 Try.underlying22 hi hz0 hz1 .i64 .i64 _ (l0 + len + l2) rfl rfl (by omega) (by rw [hz2]; omega) (by unfold maxLen; omega) (Nat.le_refl _) ?_; intro w3 O3 g3; have B3 := B2.grown g3 B2.size (by simp); have M3 := M2.kept g3 (by simp); have L3 := g3.size; clear g3 M2)) | (at_builtin; first | (refine wpList_append_fits_any _ rfl (.tmp 77) (.tmp 78) 22 rfl w2.heap.size 5 i0 1 Try.underlying22 hi hz1 w2.heap.size 0 (l0 + len + l2) _ rfl O3 a0 l0 c0 (cellsOf zp) rfl (by rw [cellsOf_length, P0.1]; omega) P0.2.1 (P0.later B3) (cellsOf_one _) (by omega) ?_; intro w4 O4 g4; have B4 := B3.grown g4 (Nat.le_trans B2.size L3) (by intro k hk; simp at hk; have := B2.size; omega); have M4 := M3.kept g4 (by simp; have := M2l; omega); clear g4 M3 O3 B3; simp only [Nat.zero_add, List.nil_append] at O4) | (refine wpList_append_fits _ rfl (.tmp 80) (.tmp 81) 22 rfl w2.heap.size 5 i0 1 Try.underlying22 hi hz1 w2.heap.size l0 (l0 + len + l2) _ rfl O4 ⟨w.heap.size, 0, none⟩ len len (cellsOf z) rfl (by rw [cellsOf_length, HZ.out]; omega) M4.cells (cellsOf_one _) (by omega) ?_; intro w5 O5 g5; have L5 := g5.size; have B5 := B4.grown g5 B4.size (by intro k hk; simp at hk; have := B2.size; omega); have M5 := M4.kept g5 (by simp; have := M2l; omega); clear g5 M4 O4 B4) | (refine wpList_append_fits_any _ rfl (.tmp 83) (.tmp 84) 22 rfl w2.heap.size 5 i0 1 Try.underlying22 hi hz1 w2.heap.size (l0 + len) (l0 + len + l2) _ rfl O5 a2 l2 c2 (cellsOf zq) rfl (by rw [cellsOf_length, P2.1]; omega) P2.2.1 (P2.later B5) (cellsOf_one _) (by omega) ?_; intro w6 O6 g6; have B6 := B5.grown g6 B5.size (by intro k hk; simp at hk; have := B2.size; omega); have M6 := M5.kept g6 (by simp; have := M2l; omega); clear g6 M5 O5 B5; rw [← cellsOf_app, ← cellsOf_app] at O6)) | (refine wpList_copy_splice rfl (.tmp 64) (.tmp 65) 22 22 rfl 5 Try.underlying22 Try.size5 (some ⟨w.heap.size, 0, none⟩) (some ⟨b, off, none⟩) len len len cap rfl rfl w.heap.size 0 L 5 HL.out (cellsOf z) (by rw [cellsOf_length, HZ.out]; simp) (fun _ => ⟨rfl, ⟨b, off, none⟩, rfl, P1.later B1 _ rfl⟩) (by rw [cellsOf_length, HZ.out, HLl.out]; omega) (cellsOf_one _) w.heap.size w B1 (Nat.le_refl _) ?_; intro w2 HG2 B2; have M2 : Made w2 w.heap.size z := Made.of_copy HG2 HLl.out HZ.out; have M2l := M2.lt; clear HG2 HL HLl B1))
  have hzp : zp.length = l0 := P0.1
  have hzq : zq.length = l2 := P2.1
  have hz : z.length = len := HZ.out
  have hlen : (zp ++ z ++ zq).length = l0 + len + l2 := by simp; omega
  have C1 := zz_any w.heap.size 0 len len z s w6 HZ.out (by omega) (by omega) (by have := M6.reads; rwa [HZ.out] at this)
  have C2 := zz_any w2.heap.size 0 (l0 + len + l2) (l0 + len + l2) (zp ++ z ++ zq) (l0 + s) w6 hlen (by omega) (by omega) (by have := owned_reads O6; rwa [hlen] at this)
  rw [show ((l0 + s : Nat) : Int) = (l0 : Int) + s from by omega] at C2
  clear O6 P0 P1 P2
  cases hS : scanAt z s 0 with
  | some e =>
    obtain ⟨j1, j2, _, _⟩ := scanAt_end z _ _ _ (by rw [← scanAt_open z s 0 (by omega) (by rw [List.getD_eq_getElem?_getD]; exact e0) (by rw [List.getD_eq_getElem?_getD]; exact e1)]; exact hS)
    have hS2 := ctx_some zp z zq s e (by omega) hS
    have hS3 := ctx_take z s e hS
    rw [hzp] at hS2
    have C3 := zz_any w.heap.size 0 e len (z.take e) s w6 (by simp; omega) (by omega) (by omega) (by intro k hk; rw [M6.reads k (by omega)]; simp [List.getD_eq_getElem?_getD, hk])
    rw [hS] at C1
    rw [hS2] at C2
    rw [hS3] at C3
    have D1 : Hid (Calls Try.prog 12 #[.slice (some ⟨w.heap.size, 0, none⟩) len len, .int .i64 s] w6 fun e' w' => e' = .returned (.tuple #[.int .i64 e, .bool true]) ∧ w6 = w') := C1
    have D2 : Hid (Calls Try.prog 12 #[.slice (some ⟨w2.heap.size, 0, none⟩) (l0 + len + l2) (l0 + len + l2), .int .i64 ((l0 : Int) + s)] w6 fun e' w' => e' = .returned (.tuple #[.int .i64 ((l0 : Int) + e), .bool true]) ∧ w6 = w') := by
      rw [show (l0 : Int) + e = ((l0 + e : Nat) : Int) from by omega]; exact C2
    have D3 : Hid (Calls Try.prog 12 #[.slice (some ⟨w.heap.size, 0, none⟩) e len, .int .i64 s] w6 fun e' w' => e' = .returned (.tuple #[.int .i64 e, .bool true]) ∧ w6 = w') := C3
    have g1 : s + 4 ≤ e := by omega
    have g2 : e ≤ len := by omega
    clear C1 C2 C3 hS hS2 hS3 j1 j2 hzp hzq hz hlen M6
    refine Calls.mono D1.out ?_
    rintro e' w' ⟨rfl, rfl⟩
    go_wp2_with fail
    refine Calls.mono D2.out ?_
    rintro e' w' ⟨rfl, rfl⟩
    go_wp2_with fail
    refine Calls.mono D3.out ?_
    rintro e' w' ⟨rfl, rfl⟩
    go_wp2_with fail
    go_ret
    exact ⟨rfl, B6⟩
  | none =>
    obtain ⟨e4, hS4, hl4⟩ := ctx_closed z s (by omega) (by rw [List.getD_eq_getElem?_getD]; exact e0) (by rw [List.getD_eq_getElem?_getD]; exact e1) hS
    have hu4 := (scanAt_end _ _ _ _ hS4).2.1
    rw [hz] at hS4 hl4
    simp only [List.length_append, List.length_cons, closers_length, hz] at hu4
    have HS4 : Hid (scanAt (z ++ 32 :: closers (len / 2 + 1)) s 0 = some e4) := hS4
    rw [hS] at C1
    have D1 : Hid (Calls Try.prog 12 #[.slice (some ⟨w.heap.size, 0, none⟩) len len, .int .i64 s] w6 fun e' w' => e' = .returned (.tuple #[.int .i64 0, .bool false]) ∧ w6 = w') := C1
    have D2 : ∃ (E : Int) (K : Bool), Hid (Calls Try.prog 12 #[.slice (some ⟨w2.heap.size, 0, none⟩) (l0 + len + l2) (l0 + len + l2), .int .i64 ((l0 : Int) + s)] w6 fun e' w' => e' = .returned (.tuple #[.int .i64 E, .bool K]) ∧ w6 = w') ∧
        ((K = false ∧ E = 0) ∨ (K = true ∧ (l0 : Int) + len < E ∧ E ≤ (l0 : Int) + len + l2)) := by
      cases hS2 : scanAt (zp ++ z ++ zq) (l0 + s) 0 with
      | none => rw [hS2] at C2; exact ⟨0, false, C2, .inl ⟨rfl, rfl⟩⟩
      | some e2 =>
        have p1 := ctx_none zp z zq s e2 (by omega) hS (by rw [hzp]; exact hS2)
        have p2 := (scanAt_end _ _ _ _ hS2).2.1
        rw [hS2] at C2
        exact ⟨e2, true, C2, .inr ⟨rfl, by omega, by omega⟩⟩
    obtain ⟨E, K, D2, hEK⟩ := D2
    clear C1 C2 hS hS4 hzp hzq hlen cc0 cc1 q22 e0 e1
    refine Calls.mono D1.out ?_
    rintro e' w' ⟨rfl, rfl⟩
    go_wp2_with fail
    refine Calls.mono D2.out ?_
    rintro e' w' ⟨rfl, rfl⟩
    clear D1 D2 hz
    rcases hEK with ⟨rfl, rfl⟩ | ⟨rfl, hE1, hE2⟩
    all_goals
      go_wp2_with (first | (at_make; go_must (refine wpList_make_own _ rfl _ (.tmp 163) 22 rfl w6.heap.size 5 i0 (.int .u8 0) 1 Try.underlying22 hi hz0 hz1 .i64 .i64 _ (len + 1 + 2 * (len / 2 + 1)) rfl rfl (by omega) (by rw [hz2]; omega) (by unfold maxLen; omega) (Nat.le_refl _) ?_; intro w7 O7 g7; have B7 := B6.grown g7 B6.size (by simp); have M7 := M6.kept g7 (by simp); have L6 := B6.size; have M6l := M6.lt; clear g7 M6 B6)) | (at_builtin; first | (refine wpList_append_fits _ rfl (.tmp 165) (.tmp 166) 22 rfl w6.heap.size 5 i0 1 Try.underlying22 hi hz1 w6.heap.size 0 (len + 1 + 2 * (len / 2 + 1)) _ rfl O7 ⟨w.heap.size, 0, none⟩ len len (cellsOf z) rfl (by rw [cellsOf_length, HZ.out]; omega) M7.cells (cellsOf_one _) (by omega) ?_; intro w8 O8 g8; have B8 := B7.grown g8 B7.size (by intro k hk; simp at hk; omega); clear g8 M7 O7 B7; simp only [Nat.zero_add, List.nil_append] at O8) | (refine wpList_append_fits _ rfl (.tmp 168) (.tmp 169) 22 rfl w6.heap.size 5 i0 1 Try.underlying22 hi hz1 w6.heap.size len (len + 1 + 2 * (len / 2 + 1)) _ rfl (O8.alloc _) ⟨w8.heap.size, 0, none⟩ 1 1 (cellsOf [32]) rfl rfl (cell_one_new _ _ _) (cellsOf_one _) (by omega) ?_; intro w9 O9 g9; have B9 := (B8.alloc B8.size _).grown g9 (by simp; have := B8.size; omega) (by intro k hk; simp at hk; omega); clear g9 O8 B8; rw [← cellsOf_app] at O9)))
      go_loopw [18, 19] (fun v kv wr => ∃ k : Nat, k ≤ len / 2 + 1 ∧ kv = .int .i64 k ∧ v = .slice (some ⟨w6.heap.size, 0, none⟩) (len + 1 + 2 * k) (len + 1 + 2 * (len / 2 + 1)) ∧ wr.ownsRow w6.heap.size 5 1 (.slice (some ⟨w6.heap.size, 0, none⟩) (len + 1 + 2 * k) (len + 1 + 2 * (len / 2 + 1))) (len + 1 + 2 * k) (cellsOf (z ++ 32 :: closers k)) ∧ Below w.heap.size w wr) (fun _ kv _ => (len / 2 + 1) - (intOf kv).toNat)
      case atStart => exact ⟨0, Nat.zero_le _, rfl, rfl, O9, B9⟩
      case round =>
        clear O9 B9
        obtain ⟨k, hk, rfl, rfl, OR, BR⟩ := hrel
        by_cases hlt : k < len / 2 + 1
        · go_wp2_with (at_builtin; first | (refine wpList_append_fits _ rfl (.tmp 176) (.tmp 177) 22 rfl w6.heap.size 5 i0 1 Try.underlying22 hi hz1 w6.heap.size (len + 1 + 2 * k) (len + 1 + 2 * (len / 2 + 1)) _ rfl (OR.alloc _) ⟨wr.heap.size, 0, none⟩ 1 1 (cellsOf [42]) rfl rfl (cell_one_new _ _ _) (cellsOf_one _) (by omega) ?_; intro wa OA ga; have BA := (BR.alloc BR.size _).grown ga (by simp; have := BR.size; omega) (by intro k hk; simp at hk; omega); clear ga OR BR; rw [← cellsOf_app] at OA) | (refine wpList_append_fits _ rfl (.tmp 179) (.tmp 180) 22 rfl w6.heap.size 5 i0 1 Try.underlying22 hi hz1 w6.heap.size (len + 1 + 2 * k + 1) (len + 1 + 2 * (len / 2 + 1)) _ rfl (OA.alloc _) ⟨wa.heap.size, 0, none⟩ 1 1 (cellsOf [47]) rfl rfl (cell_one_new _ _ _) (cellsOf_one _) (by omega) ?_; intro wb OB gb; have BB := (BA.alloc BA.size _).grown gb (by simp; have := BA.size; omega) (by intro k hk; simp at hk; omega); clear gb OA BA; rw [← cellsOf_app] at OB))
          go_roundw
          case rel => exact ⟨k + 1, by omega, by go_num, closed_value k, closed_owned OB, BB⟩
          case measure => simp [intOf]; omega
        · obtain rfl : k = len / 2 + 1 := by omega
          have C4 := zz_any w6.heap.size 0 (len + 1 + 2 * (len / 2 + 1)) (len + 1 + 2 * (len / 2 + 1)) (z ++ 32 :: closers (len / 2 + 1)) s wr (closed_length HZ.out) (by omega) (by omega) (by have := owned_reads OR; rwa [closed_length HZ.out] at this)
          rw [HS4.out] at C4
          have D4 : Hid (Calls Try.prog 12 #[.slice (some ⟨w6.heap.size, 0, none⟩) (len + 1 + 2 * (len / 2 + 1)) (len + 1 + 2 * (len / 2 + 1)), .int .i64 s] wr fun e' w' => e' = .returned (.tuple #[.int .i64 e4, .bool true]) ∧ wr = w') := C4
          clear C4 OR
          go_wp2_with fail
          refine Calls.mono D4.out ?_
          rintro e' w' ⟨rfl, rfl⟩
          go_wp2_with fail
          go_ret
          exact ⟨ret_dec (p := (e4 : Int) ≤ (len : Int) + 1 + 2 * ((len : Int) / 2 + 1)) (by omega), BR⟩
end Go.Proofs.Qxb6619678a
