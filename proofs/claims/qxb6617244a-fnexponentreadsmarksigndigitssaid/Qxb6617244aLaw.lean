/-
  The walk of the law 'FnExponentReadsMarkSignDigits' (function 6), past its first tests.
-/
import Derived.Test.Qxb6617244aMain
namespace Go.Proofs.Qxb6617244a
open Go.RowKit Go.WideShapes
set_option linter.unusedVariables false
set_option maxRecDepth 100000

/-- A sign that is none. -/
theorem early_sign (a0 a3 a4 : Option Addr) (b o l0 c0 c2 l3 c3 l4 c4 : Nat) (q : Int) (up : Bool) (mark : Int) (w : World) (h0 : l0 ≤ 262144) (h3 : l3 ≤ 262144) (h4 : l4 ≤ 262144) (k1 : 97 ≤ mark) (k2 : mark ≤ 122)
    (hc : w.cell? ⟨b, o, none⟩ = some (.int .u8 q)) (hq1 : (q != 43) = true) (hq2 : (q != 45) = true) :
    Calls Try.prog 6 #[.slice a0 l0 c0, .bool up, .slice (some ⟨b, o, none⟩) 1 c2, .slice a3 l3 c3, .slice a4 l4 c4, .int .u8 mark] w fun e w' => e = .returned (.bool true) ∧ w = w' := by
  go_enter Try.func6, Try.ntmps6
  go_wp2_with (go_at_call 19; go_must (refine (bytes19 _ _ _ _ _ _ _ _ _ _ _ _ _ _ _ h0 (by omega) h3 h4).mono ?_; rintro e w' ⟨rfl, rfl⟩))
  go_ret
  exact ⟨rfl, rfl⟩

/-- The sign as the walk meets it: none; or one cell that holds one. -/
def SignAt (w : World) (a2 : Option Addr) (l2 : Nat) : Prop := l2 = 0 ∨ (l2 = 1 ∧ ∃ b o, a2 = some ⟨b, o, none⟩ ∧ (w.cell? ⟨b, o, none⟩ = some (.int .u8 43) ∨ w.cell? ⟨b, o, none⟩ = some (.int .u8 45)))

/-- No digits. -/
theorem early_digits (a0 a2 a3 a4 : Option Addr) (l0 c0 l2 c2 c3 l4 c4 : Nat) (up : Bool) (mark : Int) (w : World) (h0 : l0 ≤ 262144) (h4 : l4 ≤ 262144) (k1 : 97 ≤ mark) (k2 : mark ≤ 122) (hs : SignAt w a2 l2) :
    Calls Try.prog 6 #[.slice a0 l0 c0, .bool up, .slice a2 l2 c2, .slice a3 0 c3, .slice a4 l4 c4, .int .u8 mark] w fun e w' => e = .returned (.bool true) ∧ w = w' := by
  rcases hs with rfl | ⟨rfl, b, o, rfl, hc | hc⟩
  all_goals
    go_enter Try.func6, Try.ntmps6
    go_wp2_with (go_at_call 19; go_must (refine (bytes19 _ _ _ _ _ _ _ _ _ _ _ _ _ _ _ h0 (by omega) (by omega) h4).mono ?_; rintro e w' ⟨rfl, rfl⟩))
    go_ret
    exact ⟨rfl, rfl⟩

/-- All that came in and the mark's own slice, in a later world. -/
def Env (w : World) (a0 a2 a3 a4 : Option Addr) (l0 c0 l2 c2 l3 c3 l4 c4 gm : Nat) (zp zg zd zs : List Int) (m : Int) (W : World) : Prop :=
  Came W a0 l0 c0 zp ∧ Came W (some ⟨gm, 0, none⟩) 1 1 [m] ∧ Came W a2 l2 c2 zg ∧ Came W a3 l3 c3 zd ∧ Came W a4 l4 c4 zs ∧ Below w.heap.size w W
theorem Env.mono {w W W' : World} {a0 a2 a3 a4 : Option Addr} {l0 c0 l2 c2 l3 c3 l4 c4 gm : Nat} {zp zg zd zs : List Int} {m : Int} (h : Env w a0 a2 a3 a4 l0 c0 l2 c2 l3 c3 l4 c4 gm zp zg zd zs m W) (hb : Below W.heap.size W W') :
    Env w a0 a2 a3 a4 l0 c0 l2 c2 l3 c3 l4 c4 gm zp zg zd zs m W' :=
  ⟨h.1.mono hb, h.2.1.mono hb, h.2.2.1.mono hb, h.2.2.2.1.mono hb, h.2.2.2.2.1.mono hb, h.2.2.2.2.2.trans (hb.mono h.2.2.2.2.2.size)⟩
theorem Env.start {w : World} {a0 a2 a3 a4 : Option Addr} {l0 c0 l2 c2 l3 c3 l4 c4 : Nat} {zp zg zd zs : List Int} (m : Int) (p0 : Came w a0 l0 c0 zp) (p2 : Came w a2 l2 c2 zg) (p3 : Came w a3 l3 c3 zd) (p4 : Came w a4 l4 c4 zs) :
    Env w a0 a2 a3 a4 l0 c0 l2 c2 l3 c3 l4 c4 w.heap.size zp zg zd zs m (w.alloc (.cells #[.int .u8 m] 5)) := by
  have hb : Below w.heap.size w (w.alloc (.cells #[.int .u8 m] 5)) := (Below.refl _ _).alloc (Nat.le_refl _) _
  refine ⟨p0.mono hb, ⟨rfl, fun h => by (cases h), fun ad had => ?_⟩, p2.mono hb, p3.mono hb, p4.mono hb, hb⟩
  obtain rfl := Option.some.inj had
  exact cell_one_new w (.int .u8 m) 5

set_option maxHeartbeats 8000000 in
theorem law_none (a2 : Option Addr) (a0 a3 a4 : Option Addr) (l0 c0 l2 c2 l3 c3 l4 c4 : Nat) (zp zg zd zs : List Int) (up : Bool) (mark : Int) (w : World) (h0 : l0 ≤ 262144) (h2 : l2 ≤ 1) (h3 : l3 ≤ 262144) (h4 : l4 ≤ 262144) (k1 : 97 ≤ mark) (k2 : mark ≤ 122)
    (p0 : Came w a0 l0 c0 zp) (p2 : Came w a2 l2 c2 zg) (p3 : Came w a3 l3 c3 zd) (p4 : Came w a4 l4 c4 zs) (hg : SignOk zg) (hd : 0 < l3) (t2 : ((l2 : Int) == 1) = false) :
    Calls Try.prog 6 #[.slice a0 l0 c0, .bool up, .slice a2 l2 c2, .slice a3 l3 c3, .slice a4 l4 c4, .int .u8 mark] w fun e w' => e = .returned (.bool true) ∧ Below w.heap.size w w' := by
    have hd0 : ((l3 : Int) == 0) = false := by simp; omega
    obtain ⟨b3, o3, rfl, hcd⟩ := p3.at hd
    have HCD : Hid (∀ k, k < l3 → w.cell? ⟨b3, o3 + k, none⟩ = some (.int .u8 (zd.getD k 0))) := hcd
    have HZP : Hid (zp.length = l0) := p0.1
    have HZG : Hid (zg.length = l2) := p2.1
    have HZD : Hid (zd.length = l3) := p3.1
    have HG : Hid (SignOk zg) := hg
    clear hcd hg
    go_enter Try.func6, Try.ntmps6
    go_wp2_with (go_at_call 19; go_must (refine (bytes19 _ _ _ _ _ _ _ _ _ _ _ _ _ _ _ h0 (by omega) h3 h4).mono ?_; rintro e w' ⟨rfl, rfl⟩))
    go_loop [13] (fun i => ∃ k : Nat, k ≤ l3 ∧ i = .int .i64 k ∧ Hid (∀ q, q < k → 48 ≤ zd[q]?.getD 0 ∧ zd[q]?.getD 0 ≤ 57)) (fun i => l3 - (intOf i).toNat)
    case atStart => exact ⟨0, by omega, rfl, fun q h => by omega⟩
    case round =>
      obtain ⟨k, hk, rfl, HK⟩ := hrel
      by_cases hlt : k < l3
      · have ck := HCD.out k hlt
        by_cases hq : 48 ≤ zd[k]?.getD 0 ∧ zd[k]?.getD 0 ≤ 57
        · obtain ⟨q1, q2⟩ := hq
          go_wp2_with (go_at_call 18; go_must (refine (dec_yes _ _ q1 q2).mono ?_; rintro e w' ⟨rfl, rfl⟩))
          go_round
          case rel => exact ⟨k + 1, by omega, by go_num, fun q h => by by_cases e : q = k; (subst e; exact ⟨q1, q2⟩); exact HK.out q (by omega)⟩
          case measure => simp [intOf]; omega
        · have N : Hid (zd[k]?.getD 0 < 48 ∨ (48 ≤ zd[k]?.getD 0 ∧ 57 < zd[k]?.getD 0)) := by show _ ∨ _; omega
          clear hq
          go_wp2_with (go_at_call 18; go_must (refine (dec_no _ _ N.out).mono ?_; rintro e w' ⟨rfl, rfl⟩))
          go_ret
          exact ⟨rfl, Below.refl _ _⟩
      · have HD : Hid (DigitsOk zd) := ⟨by rw [HZD.out]; exact hd, fun q hq => HK.out q (by rw [HZD.out] at hq; omega)⟩
        clear HK HCD
        by_cases h40 : 0 < l4
        · obtain ⟨b4, o4, rfl, hcs⟩ := p4.at h40
          have cs0 := hcs 0 h40
          rw [Nat.add_zero] at cs0
          clear hcs
          by_cases hq : (48 : Int) ≤ zs[0]?.getD 0 ∧ zs[0]?.getD 0 ≤ 57
          · obtain ⟨q1, q2⟩ := hq
            go_wp2_with (go_at_call 18; go_must (refine (dec_yes _ _ q1 q2).mono ?_; rintro e w' ⟨rfl, rfl⟩))
            go_ret
            exact ⟨rfl, Below.refl _ _⟩
          · have N : Hid (zs[0]?.getD 0 < (48 : Int) ∨ ((48 : Int) ≤ zs[0]?.getD 0 ∧ (57 : Int) < zs[0]?.getD 0)) := by show _ ∨ _; omega
            clear hq
            by_cases s1 : zs[0]?.getD 0 = 43 ∨ zs[0]?.getD 0 = 45
            · rcases s1 with s1 | s1
              all_goals
                go_wp2_with (go_at_call 18; go_must (refine (dec_no _ _ (by omega)).mono ?_; rintro e w' ⟨rfl, rfl⟩))
                go_ret
                exact ⟨rfl, Below.refl _ _⟩
            · have HR : Hid (RestOk zs) := fun _ => ⟨fun h => s1 (.inl h), fun h => s1 (.inr h), N.out⟩
              have n1 : (zs[0]?.getD 0 == 43) = false := by simp; omega
              have n2 : (zs[0]?.getD 0 == 45) = false := by simp; omega
              clear s1
              cases up
              · go_wp2_with (go_at_call 18; go_must (refine (dec_no _ _ N.out).mono ?_; rintro e w' ⟨rfl, rfl⟩))
                have E0 := Env.start mark p0 p2 p3 p4
                clear p0 p2 p3 p4
                refine (cat_any _ _ _ _ _ _ zp [mark] _ (by omega) (by omega) E0.1 E0.2.1).mono ?_
                rintro e w1 ⟨g1, rfl, X1, B1⟩
                have E1 := E0.mono B1
                clear E0 B1
                go_wp2_with fail
                refine (cat_any _ _ _ _ _ _ (zp ++ [mark]) zg _ (by omega) (by omega) X1 E1.2.2.1).mono ?_
                rintro e w2 ⟨g2, rfl, X2, B2⟩
                have E2 := E1.mono B2
                clear E1 B2 X1
                go_wp2_with fail
                refine (cat_any _ _ _ _ _ _ (zp ++ [mark] ++ zg) zd _ (by omega) (by omega) X2 E2.2.2.2.1).mono ?_
                rintro e w3 ⟨g3, rfl, X3, B3⟩
                have E3 := E2.mono B3
                clear E2 B3 X2
                go_wp2_with fail
                refine (cat_any _ _ _ _ _ _ (zp ++ [mark] ++ zg ++ zd) zs _ (by omega) (by omega) X3 E3.2.2.2.2.1).mono ?_
                rintro e w4 ⟨g4, rfl, X4, B4⟩
                have E4 := E3.mono B4
                clear E3 B4 X3
                go_wp2_with fail
                refine (cat_any _ _ _ _ _ _ zp [mark] _ (by omega) (by omega) E4.1 E4.2.1).mono ?_
                rintro e w5 ⟨g5, rfl, Y1, B5⟩
                have E5 := E4.mono B5
                have X4' := X4.mono B5
                clear X4
                clear E4 B5
                go_wp2_with fail
                refine (cat_any _ _ _ _ _ _ (zp ++ [mark]) zg _ (by omega) (by omega) Y1 E5.2.2.1).mono ?_
                rintro e w6 ⟨g6, rfl, Y2, B6⟩
                have E6 := E5.mono B6
                have X4'' := X4'.mono B6
                clear X4'
                clear E5 B6 Y1
                go_wp2_with fail
                refine (cat_any _ _ _ _ _ _ (zp ++ [mark] ++ zg) zs _ (by omega) (by omega) Y2 E6.2.2.2.2.1).mono ?_
                rintro e w7 ⟨g7, rfl, Y3, B7⟩
                have E7 := E6.mono B7
                have X4''' := X4''.mono B7
                clear X4''
                clear E6 B7 Y2
                go_wp2_with fail
                refine (cat_any _ _ _ _ _ _ zp zg _ (by omega) (by omega) E7.1 E7.2.2.1).mono ?_
                rintro e w8 ⟨g8, rfl, Z1, B8⟩
                have E8 := E7.mono B8
                have X4'''' := X4'''.mono B8
                clear X4'''
                have Y3' := Y3.mono B8
                clear Y3
                clear E7 B8
                go_wp2_with fail
                refine (cat_any _ _ _ _ _ _ (zp ++ zg) zd _ (by omega) (by omega) Z1 E8.2.2.2.1).mono ?_
                rintro e w9 ⟨g9, rfl, Z2, B9⟩
                have E9 := E8.mono B9
                have X4''''' := X4''''.mono B9
                clear X4''''
                have Y3'' := Y3'.mono B9
                clear Y3'
                clear E8 B9 Z1
                go_wp2_with fail
                refine (cat_any _ _ _ _ _ _ (zp ++ zg ++ zd) zs _ (by omega) (by omega) Z2 E9.2.2.2.2.1).mono ?_
                rintro e w10 ⟨g10, rfl, Z3, B10⟩
                have E10 := E9.mono B10
                have X4'''''' := X4'''''.mono B10
                clear X4'''''
                have Y3''' := Y3''.mono B10
                clear Y3''
                clear E9 B10 Z2
                have R1 := read_full zp zg zd zs mark mark w10 _ _ _ l0 l2 l3 HZP.out HZG.out HZD.out (by omega) k1 k2 (.inl rfl) HG.out HD.out HR.out X4''''''
                have R2 := read_none zp zg zs mark mark w10 _ _ _ l0 HZP.out (by omega) k1 k2 (.inl rfl) HG.out HR.out Y3'''
                have R3 := read_nomark zp zg zd zs mark w10 _ _ _ l0 HZP.out (by omega) k1 HG.out HD.out Z3
                have BE : Hid (Below w.heap.size w w10) := E10.2.2.2.2.2
                have S1 : Hid (Calls Try.prog 16 #[.slice (some ⟨g4, 0, none⟩) (l0 + 1 + l2 + l3 + l4) (l0 + 1 + l2 + l3 + l4), .int .i64 l0, .int .u8 mark] w10 fun e w' => e = .returned (.int .i64 ((l0 : Int) + 1 + l2 + l3)) ∧ w10 = w') := R1
                have S2 : Hid (Calls Try.prog 16 #[.slice (some ⟨g7, 0, none⟩) (l0 + 1 + l2 + l4) (l0 + 1 + l2 + l4), .int .i64 l0, .int .u8 mark] w10 fun e w' => e = .returned (.int .i64 l0) ∧ w10 = w') := R2
                have S3 : Hid (Calls Try.prog 16 #[.slice (some ⟨g10, 0, none⟩) (l0 + l2 + l3 + l4) (l0 + l2 + l3 + l4), .int .i64 l0, .int .u8 mark] w10 fun e w' => e = .returned (.int .i64 l0) ∧ w10 = w') := R3
                clear R1 R2 R3 E10 X4'''''' Y3''' Z3 HR HD HG HZP HZG HZD
                go_wp2_with fail
                refine Calls.mono S1.out ?_
                rintro e w' ⟨rfl, rfl⟩
                go_wp2_with fail
                refine Calls.mono S2.out ?_
                rintro e w' ⟨rfl, rfl⟩
                go_wp2_with fail
                refine Calls.mono S3.out ?_
                rintro e w' ⟨rfl, rfl⟩
                go_wp2_with fail
                go_ret
                exact ⟨rfl, BE.out⟩
              · go_wp2_with (go_at_call 18; go_must (refine (dec_no _ _ N.out).mono ?_; rintro e w' ⟨rfl, rfl⟩))
                have E0 := Env.start (mark - 32) p0 p2 p3 p4
                clear p0 p2 p3 p4
                refine (cat_any _ _ _ _ _ _ zp [(mark - 32)] _ (by omega) (by omega) E0.1 E0.2.1).mono ?_
                rintro e w1 ⟨g1, rfl, X1, B1⟩
                have E1 := E0.mono B1
                clear E0 B1
                go_wp2_with fail
                refine (cat_any _ _ _ _ _ _ (zp ++ [(mark - 32)]) zg _ (by omega) (by omega) X1 E1.2.2.1).mono ?_
                rintro e w2 ⟨g2, rfl, X2, B2⟩
                have E2 := E1.mono B2
                clear E1 B2 X1
                go_wp2_with fail
                refine (cat_any _ _ _ _ _ _ (zp ++ [(mark - 32)] ++ zg) zd _ (by omega) (by omega) X2 E2.2.2.2.1).mono ?_
                rintro e w3 ⟨g3, rfl, X3, B3⟩
                have E3 := E2.mono B3
                clear E2 B3 X2
                go_wp2_with fail
                refine (cat_any _ _ _ _ _ _ (zp ++ [(mark - 32)] ++ zg ++ zd) zs _ (by omega) (by omega) X3 E3.2.2.2.2.1).mono ?_
                rintro e w4 ⟨g4, rfl, X4, B4⟩
                have E4 := E3.mono B4
                clear E3 B4 X3
                go_wp2_with fail
                refine (cat_any _ _ _ _ _ _ zp [(mark - 32)] _ (by omega) (by omega) E4.1 E4.2.1).mono ?_
                rintro e w5 ⟨g5, rfl, Y1, B5⟩
                have E5 := E4.mono B5
                have X4' := X4.mono B5
                clear X4
                clear E4 B5
                go_wp2_with fail
                refine (cat_any _ _ _ _ _ _ (zp ++ [(mark - 32)]) zg _ (by omega) (by omega) Y1 E5.2.2.1).mono ?_
                rintro e w6 ⟨g6, rfl, Y2, B6⟩
                have E6 := E5.mono B6
                have X4'' := X4'.mono B6
                clear X4'
                clear E5 B6 Y1
                go_wp2_with fail
                refine (cat_any _ _ _ _ _ _ (zp ++ [(mark - 32)] ++ zg) zs _ (by omega) (by omega) Y2 E6.2.2.2.2.1).mono ?_
                rintro e w7 ⟨g7, rfl, Y3, B7⟩
                have E7 := E6.mono B7
                have X4''' := X4''.mono B7
                clear X4''
                clear E6 B7 Y2
                go_wp2_with fail
                refine (cat_any _ _ _ _ _ _ zp zg _ (by omega) (by omega) E7.1 E7.2.2.1).mono ?_
                rintro e w8 ⟨g8, rfl, Z1, B8⟩
                have E8 := E7.mono B8
                have X4'''' := X4'''.mono B8
                clear X4'''
                have Y3' := Y3.mono B8
                clear Y3
                clear E7 B8
                go_wp2_with fail
                refine (cat_any _ _ _ _ _ _ (zp ++ zg) zd _ (by omega) (by omega) Z1 E8.2.2.2.1).mono ?_
                rintro e w9 ⟨g9, rfl, Z2, B9⟩
                have E9 := E8.mono B9
                have X4''''' := X4''''.mono B9
                clear X4''''
                have Y3'' := Y3'.mono B9
                clear Y3'
                clear E8 B9 Z1
                go_wp2_with fail
                refine (cat_any _ _ _ _ _ _ (zp ++ zg ++ zd) zs _ (by omega) (by omega) Z2 E9.2.2.2.2.1).mono ?_
                rintro e w10 ⟨g10, rfl, Z3, B10⟩
                have E10 := E9.mono B10
                have X4'''''' := X4'''''.mono B10
                clear X4'''''
                have Y3''' := Y3''.mono B10
                clear Y3''
                clear E9 B10 Z2
                have R1 := read_full zp zg zd zs (mark - 32) mark w10 _ _ _ l0 l2 l3 HZP.out HZG.out HZD.out (by omega) k1 k2 (.inr rfl) HG.out HD.out HR.out X4''''''
                have R2 := read_none zp zg zs (mark - 32) mark w10 _ _ _ l0 HZP.out (by omega) k1 k2 (.inr rfl) HG.out HR.out Y3'''
                have R3 := read_nomark zp zg zd zs mark w10 _ _ _ l0 HZP.out (by omega) k1 HG.out HD.out Z3
                have BE : Hid (Below w.heap.size w w10) := E10.2.2.2.2.2
                have S1 : Hid (Calls Try.prog 16 #[.slice (some ⟨g4, 0, none⟩) (l0 + 1 + l2 + l3 + l4) (l0 + 1 + l2 + l3 + l4), .int .i64 l0, .int .u8 mark] w10 fun e w' => e = .returned (.int .i64 ((l0 : Int) + 1 + l2 + l3)) ∧ w10 = w') := R1
                have S2 : Hid (Calls Try.prog 16 #[.slice (some ⟨g7, 0, none⟩) (l0 + 1 + l2 + l4) (l0 + 1 + l2 + l4), .int .i64 l0, .int .u8 mark] w10 fun e w' => e = .returned (.int .i64 l0) ∧ w10 = w') := R2
                have S3 : Hid (Calls Try.prog 16 #[.slice (some ⟨g10, 0, none⟩) (l0 + l2 + l3 + l4) (l0 + l2 + l3 + l4), .int .i64 l0, .int .u8 mark] w10 fun e w' => e = .returned (.int .i64 l0) ∧ w10 = w') := R3
                clear R1 R2 R3 E10 X4'''''' Y3''' Z3 HR HD HG HZP HZG HZD
                go_wp2_with fail
                refine Calls.mono S1.out ?_
                rintro e w' ⟨rfl, rfl⟩
                go_wp2_with fail
                refine Calls.mono S2.out ?_
                rintro e w' ⟨rfl, rfl⟩
                go_wp2_with fail
                refine Calls.mono S3.out ?_
                rintro e w' ⟨rfl, rfl⟩
                go_wp2_with fail
                go_ret
                exact ⟨rfl, BE.out⟩
        · have HR : Hid (RestOk zs) := fun h => by rw [p4.1] at h; exact absurd h h40
          cases up
          · go_wp2_with fail
            have E0 := Env.start mark p0 p2 p3 p4
            clear p0 p2 p3 p4
            refine (cat_any _ _ _ _ _ _ zp [mark] _ (by omega) (by omega) E0.1 E0.2.1).mono ?_
            rintro e w1 ⟨g1, rfl, X1, B1⟩
            have E1 := E0.mono B1
            clear E0 B1
            go_wp2_with fail
            refine (cat_any _ _ _ _ _ _ (zp ++ [mark]) zg _ (by omega) (by omega) X1 E1.2.2.1).mono ?_
            rintro e w2 ⟨g2, rfl, X2, B2⟩
            have E2 := E1.mono B2
            clear E1 B2 X1
            go_wp2_with fail
            refine (cat_any _ _ _ _ _ _ (zp ++ [mark] ++ zg) zd _ (by omega) (by omega) X2 E2.2.2.2.1).mono ?_
            rintro e w3 ⟨g3, rfl, X3, B3⟩
            have E3 := E2.mono B3
            clear E2 B3 X2
            go_wp2_with fail
            refine (cat_any _ _ _ _ _ _ (zp ++ [mark] ++ zg ++ zd) zs _ (by omega) (by omega) X3 E3.2.2.2.2.1).mono ?_
            rintro e w4 ⟨g4, rfl, X4, B4⟩
            have E4 := E3.mono B4
            clear E3 B4 X3
            go_wp2_with fail
            refine (cat_any _ _ _ _ _ _ zp [mark] _ (by omega) (by omega) E4.1 E4.2.1).mono ?_
            rintro e w5 ⟨g5, rfl, Y1, B5⟩
            have E5 := E4.mono B5
            have X4' := X4.mono B5
            clear X4
            clear E4 B5
            go_wp2_with fail
            refine (cat_any _ _ _ _ _ _ (zp ++ [mark]) zg _ (by omega) (by omega) Y1 E5.2.2.1).mono ?_
            rintro e w6 ⟨g6, rfl, Y2, B6⟩
            have E6 := E5.mono B6
            have X4'' := X4'.mono B6
            clear X4'
            clear E5 B6 Y1
            go_wp2_with fail
            refine (cat_any _ _ _ _ _ _ (zp ++ [mark] ++ zg) zs _ (by omega) (by omega) Y2 E6.2.2.2.2.1).mono ?_
            rintro e w7 ⟨g7, rfl, Y3, B7⟩
            have E7 := E6.mono B7
            have X4''' := X4''.mono B7
            clear X4''
            clear E6 B7 Y2
            go_wp2_with fail
            refine (cat_any _ _ _ _ _ _ zp zg _ (by omega) (by omega) E7.1 E7.2.2.1).mono ?_
            rintro e w8 ⟨g8, rfl, Z1, B8⟩
            have E8 := E7.mono B8
            have X4'''' := X4'''.mono B8
            clear X4'''
            have Y3' := Y3.mono B8
            clear Y3
            clear E7 B8
            go_wp2_with fail
            refine (cat_any _ _ _ _ _ _ (zp ++ zg) zd _ (by omega) (by omega) Z1 E8.2.2.2.1).mono ?_
            rintro e w9 ⟨g9, rfl, Z2, B9⟩
            have E9 := E8.mono B9
            have X4''''' := X4''''.mono B9
            clear X4''''
            have Y3'' := Y3'.mono B9
            clear Y3'
            clear E8 B9 Z1
            go_wp2_with fail
            refine (cat_any _ _ _ _ _ _ (zp ++ zg ++ zd) zs _ (by omega) (by omega) Z2 E9.2.2.2.2.1).mono ?_
            rintro e w10 ⟨g10, rfl, Z3, B10⟩
            have E10 := E9.mono B10
            have X4'''''' := X4'''''.mono B10
            clear X4'''''
            have Y3''' := Y3''.mono B10
            clear Y3''
            clear E9 B10 Z2
            have R1 := read_full zp zg zd zs mark mark w10 _ _ _ l0 l2 l3 HZP.out HZG.out HZD.out (by omega) k1 k2 (.inl rfl) HG.out HD.out HR.out X4''''''
            have R2 := read_none zp zg zs mark mark w10 _ _ _ l0 HZP.out (by omega) k1 k2 (.inl rfl) HG.out HR.out Y3'''
            have R3 := read_nomark zp zg zd zs mark w10 _ _ _ l0 HZP.out (by omega) k1 HG.out HD.out Z3
            have BE : Hid (Below w.heap.size w w10) := E10.2.2.2.2.2
            have S1 : Hid (Calls Try.prog 16 #[.slice (some ⟨g4, 0, none⟩) (l0 + 1 + l2 + l3 + l4) (l0 + 1 + l2 + l3 + l4), .int .i64 l0, .int .u8 mark] w10 fun e w' => e = .returned (.int .i64 ((l0 : Int) + 1 + l2 + l3)) ∧ w10 = w') := R1
            have S2 : Hid (Calls Try.prog 16 #[.slice (some ⟨g7, 0, none⟩) (l0 + 1 + l2 + l4) (l0 + 1 + l2 + l4), .int .i64 l0, .int .u8 mark] w10 fun e w' => e = .returned (.int .i64 l0) ∧ w10 = w') := R2
            have S3 : Hid (Calls Try.prog 16 #[.slice (some ⟨g10, 0, none⟩) (l0 + l2 + l3 + l4) (l0 + l2 + l3 + l4), .int .i64 l0, .int .u8 mark] w10 fun e w' => e = .returned (.int .i64 l0) ∧ w10 = w') := R3
            clear R1 R2 R3 E10 X4'''''' Y3''' Z3 HR HD HG HZP HZG HZD
            go_wp2_with fail
            refine Calls.mono S1.out ?_
            rintro e w' ⟨rfl, rfl⟩
            go_wp2_with fail
            refine Calls.mono S2.out ?_
            rintro e w' ⟨rfl, rfl⟩
            go_wp2_with fail
            refine Calls.mono S3.out ?_
            rintro e w' ⟨rfl, rfl⟩
            go_wp2_with fail
            go_ret
            exact ⟨rfl, BE.out⟩
          · go_wp2_with fail
            have E0 := Env.start (mark - 32) p0 p2 p3 p4
            clear p0 p2 p3 p4
            refine (cat_any _ _ _ _ _ _ zp [(mark - 32)] _ (by omega) (by omega) E0.1 E0.2.1).mono ?_
            rintro e w1 ⟨g1, rfl, X1, B1⟩
            have E1 := E0.mono B1
            clear E0 B1
            go_wp2_with fail
            refine (cat_any _ _ _ _ _ _ (zp ++ [(mark - 32)]) zg _ (by omega) (by omega) X1 E1.2.2.1).mono ?_
            rintro e w2 ⟨g2, rfl, X2, B2⟩
            have E2 := E1.mono B2
            clear E1 B2 X1
            go_wp2_with fail
            refine (cat_any _ _ _ _ _ _ (zp ++ [(mark - 32)] ++ zg) zd _ (by omega) (by omega) X2 E2.2.2.2.1).mono ?_
            rintro e w3 ⟨g3, rfl, X3, B3⟩
            have E3 := E2.mono B3
            clear E2 B3 X2
            go_wp2_with fail
            refine (cat_any _ _ _ _ _ _ (zp ++ [(mark - 32)] ++ zg ++ zd) zs _ (by omega) (by omega) X3 E3.2.2.2.2.1).mono ?_
            rintro e w4 ⟨g4, rfl, X4, B4⟩
            have E4 := E3.mono B4
            clear E3 B4 X3
            go_wp2_with fail
            refine (cat_any _ _ _ _ _ _ zp [(mark - 32)] _ (by omega) (by omega) E4.1 E4.2.1).mono ?_
            rintro e w5 ⟨g5, rfl, Y1, B5⟩
            have E5 := E4.mono B5
            have X4' := X4.mono B5
            clear X4
            clear E4 B5
            go_wp2_with fail
            refine (cat_any _ _ _ _ _ _ (zp ++ [(mark - 32)]) zg _ (by omega) (by omega) Y1 E5.2.2.1).mono ?_
            rintro e w6 ⟨g6, rfl, Y2, B6⟩
            have E6 := E5.mono B6
            have X4'' := X4'.mono B6
            clear X4'
            clear E5 B6 Y1
            go_wp2_with fail
            refine (cat_any _ _ _ _ _ _ (zp ++ [(mark - 32)] ++ zg) zs _ (by omega) (by omega) Y2 E6.2.2.2.2.1).mono ?_
            rintro e w7 ⟨g7, rfl, Y3, B7⟩
            have E7 := E6.mono B7
            have X4''' := X4''.mono B7
            clear X4''
            clear E6 B7 Y2
            go_wp2_with fail
            refine (cat_any _ _ _ _ _ _ zp zg _ (by omega) (by omega) E7.1 E7.2.2.1).mono ?_
            rintro e w8 ⟨g8, rfl, Z1, B8⟩
            have E8 := E7.mono B8
            have X4'''' := X4'''.mono B8
            clear X4'''
            have Y3' := Y3.mono B8
            clear Y3
            clear E7 B8
            go_wp2_with fail
            refine (cat_any _ _ _ _ _ _ (zp ++ zg) zd _ (by omega) (by omega) Z1 E8.2.2.2.1).mono ?_
            rintro e w9 ⟨g9, rfl, Z2, B9⟩
            have E9 := E8.mono B9
            have X4''''' := X4''''.mono B9
            clear X4''''
            have Y3'' := Y3'.mono B9
            clear Y3'
            clear E8 B9 Z1
            go_wp2_with fail
            refine (cat_any _ _ _ _ _ _ (zp ++ zg ++ zd) zs _ (by omega) (by omega) Z2 E9.2.2.2.2.1).mono ?_
            rintro e w10 ⟨g10, rfl, Z3, B10⟩
            have E10 := E9.mono B10
            have X4'''''' := X4'''''.mono B10
            clear X4'''''
            have Y3''' := Y3''.mono B10
            clear Y3''
            clear E9 B10 Z2
            have R1 := read_full zp zg zd zs (mark - 32) mark w10 _ _ _ l0 l2 l3 HZP.out HZG.out HZD.out (by omega) k1 k2 (.inr rfl) HG.out HD.out HR.out X4''''''
            have R2 := read_none zp zg zs (mark - 32) mark w10 _ _ _ l0 HZP.out (by omega) k1 k2 (.inr rfl) HG.out HR.out Y3'''
            have R3 := read_nomark zp zg zd zs mark w10 _ _ _ l0 HZP.out (by omega) k1 HG.out HD.out Z3
            have BE : Hid (Below w.heap.size w w10) := E10.2.2.2.2.2
            have S1 : Hid (Calls Try.prog 16 #[.slice (some ⟨g4, 0, none⟩) (l0 + 1 + l2 + l3 + l4) (l0 + 1 + l2 + l3 + l4), .int .i64 l0, .int .u8 mark] w10 fun e w' => e = .returned (.int .i64 ((l0 : Int) + 1 + l2 + l3)) ∧ w10 = w') := R1
            have S2 : Hid (Calls Try.prog 16 #[.slice (some ⟨g7, 0, none⟩) (l0 + 1 + l2 + l4) (l0 + 1 + l2 + l4), .int .i64 l0, .int .u8 mark] w10 fun e w' => e = .returned (.int .i64 l0) ∧ w10 = w') := R2
            have S3 : Hid (Calls Try.prog 16 #[.slice (some ⟨g10, 0, none⟩) (l0 + l2 + l3 + l4) (l0 + l2 + l3 + l4), .int .i64 l0, .int .u8 mark] w10 fun e w' => e = .returned (.int .i64 l0) ∧ w10 = w') := R3
            clear R1 R2 R3 E10 X4'''''' Y3''' Z3 HR HD HG HZP HZG HZD
            go_wp2_with fail
            refine Calls.mono S1.out ?_
            rintro e w' ⟨rfl, rfl⟩
            go_wp2_with fail
            refine Calls.mono S2.out ?_
            rintro e w' ⟨rfl, rfl⟩
            go_wp2_with fail
            refine Calls.mono S3.out ?_
            rintro e w' ⟨rfl, rfl⟩
            go_wp2_with fail
            go_ret
            exact ⟨rfl, BE.out⟩

end Go.Proofs.Qxb6617244a
