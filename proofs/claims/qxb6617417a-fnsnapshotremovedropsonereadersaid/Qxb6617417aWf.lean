/-
  The walks of 'snapWellFormed' (function 9) and 'snapIndex' (function 15).
-/
import Derived.Test.Qxb6617417aSnap
namespace Go.Proofs.Qxb6617417a
open Go.RowKit Go.Maps
set_option linter.unusedVariables false
set_option maxRecDepth 100000

/-- One entry as it should be. -/
def Good (n : Nat) (K R O N : List Int) (i : Nat) : Prop :=
  1 ≤ R.getD i 0 ∧ (0 < i → K.getD (i - 1) 0 < K.getD i 0 ∧ O.getD i 0 = K.getD (i - 1) 0) ∧ (i + 1 < n → N.getD i 0 = K.getD (i + 1) 0)
/-- What 'snapWellFormed' has seen where it says yes. -/
def Formed (n : Nat) (K R O N : List Int) (old new : Int) : Prop := (∀ i, i < n → Good n K R O N i) ∧ (0 < n → old = K.getD 0 0 ∧ new = K.getD (n - 1) 0)

theorem drewn2 (w : World) (a b : Nat) : ∃ m, (w.drewN a).drewN b = w.drewN m := ⟨a + b, by simp [World.drewN, Nat.add_assoc]⟩
theorem drewn3 (w : World) (a b c : Nat) : ∃ m, ((w.drewN a).drewN b).drewN c = w.drewN m := ⟨a + b + c, by simp [World.drewN, Nat.add_assoc]⟩
theorem drewn4 (w : World) (a b c d : Nat) : ∃ m, (((w.drewN a).drewN b).drewN c).drewN d = w.drewN m := ⟨a + b + c + d, by simp [World.drewN, Nat.add_assoc]⟩

/-- The lengths part. -/
theorem wf_len (a0 a1 a2 a3 : Option Addr) (l0 c0 l1 c1 l2 c2 l3 c3 : Nat) (old new : Int) (w : World) (h : ¬ (l1 = l0 ∧ l2 = l0 ∧ l3 = l0)) (m0 : l0 ≤ 32768) (m1 : l1 ≤ 32768) (m2 : l2 ≤ 32768) (m3 : l3 ≤ 32768) :
    Calls Try.prog 9 #[.slice a0 l0 c0, .slice a1 l1 c1, .slice a2 l2 c2, .slice a3 l3 c3, .int .u64 old, .int .u64 new] w fun e w' => e = .returned (.bool false) ∧ w = w' := by
  by_cases e1 : l1 = l0
  · by_cases e2 : l2 = l0
    · have e3 : ¬ l3 = l0 := fun e => h ⟨e1, e2, e⟩
      clear h
      have b1 : ((l1 : Int) != (l0 : Int)) = false := by simp; omega
      have b2 : ((l2 : Int) != (l0 : Int)) = false := by simp; omega
      have b3 : ((l3 : Int) != (l0 : Int)) = true := by simp; omega
      clear e1 e2 e3
      go_enter Try.func9, Try.ntmps9
      go_wp2
      go_ret
      exact ⟨rfl, rfl⟩
    · have b1 : ((l1 : Int) != (l0 : Int)) = false := by simp; omega
      have b2 : ((l2 : Int) != (l0 : Int)) = true := by simp; omega
      clear e1 e2 h
      go_enter Try.func9, Try.ntmps9
      go_wp2
      go_ret
      exact ⟨rfl, rfl⟩
  · have b1 : ((l1 : Int) != (l0 : Int)) = true := by simp; omega
    clear e1 h
    go_enter Try.func9, Try.ntmps9
    go_wp2
    go_ret
    exact ⟨rfl, rfl⟩

/-- Nothing at all. -/
theorem wf_zero (a0 a1 a2 a3 : Option Addr) (c0 c1 c2 c3 : Nat) (old new : Int) (w : World) :
    Calls Try.prog 9 #[.slice a0 0 c0, .slice a1 0 c1, .slice a2 0 c2, .slice a3 0 c3, .int .u64 old, .int .u64 new] w fun e w' => e = .returned (.bool true) ∧ w = w' := by
  go_enter Try.func9, Try.ntmps9
  go_wp2
  refine wp_loop_rounds 1 ?_
  rw [rounds_succ]
  go_wp2
  go_ret
  exact ⟨rfl, rfl⟩

set_option maxHeartbeats 4000000 in
theorem wf_some (b0 o0 c0 b1 o1 c1 b2 o2 c2 b3 o3 c3 n : Nat) (K R O N : List Int) (old new : Int) (w : World) (hK : K.length = n) (hR : R.length = n) (hO : O.length = n) (hN : N.length = n) (hn : n ≤ 32768) (hp : 0 < n)
    (rK : Row .u64 w b0 o0 K) (rR : Row .i64 w b1 o1 R) (rO : Row .u64 w b2 o2 O) (rN : Row .u64 w b3 o3 N) :
    Calls Try.prog 9 #[.slice (some ⟨b0, o0, none⟩) n c0, .slice (some ⟨b1, o1, none⟩) n c1, .slice (some ⟨b2, o2, none⟩) n c2, .slice (some ⟨b3, o3, none⟩) n c3, .int .u64 old, .int .u64 new] w
      fun e w' => ∃ b, e = .returned (.bool b) ∧ (b = true → Formed n K R O N old new) ∧ ∃ q, w' = w.drewN q := by
  have HK : Hid (K.length = n) := hK
  have HR : Hid (R.length = n) := hR
  have HO : Hid (O.length = n) := hO
  have HN : Hid (N.length = n) := hN
  have RK : Hid (Row .u64 w b0 o0 K) := rK
  have RR : Hid (Row .i64 w b1 o1 R) := rR
  have RO : Hid (Row .u64 w b2 o2 O) := rO
  have RN : Hid (Row .u64 w b3 o3 N) := rN
  clear hK hR hO hN rK rR rO rN
  go_enter Try.func9, Try.ntmps9
  go_wp2_with fail
  go_loopw [14] (fun i wx => ∃ k : Nat, k ≤ n ∧ i = .int .i64 k ∧ Hid (∃ q, wx = w.drewN q) ∧ Hid (∀ i, i < k → Good n K R O N i)) (fun i _ => n - (intOf i).toNat)
  case atStart => exact ⟨0, Nat.zero_le _, rfl, ⟨0, rfl⟩, fun i h => by omega⟩
  case round =>
    obtain ⟨k, hk, rfl, HW, HG⟩ := hrel
    obtain ⟨q0, rfl⟩ := HW.out
    clear HW
    by_cases hlt : k < n
    · obtain ⟨kk, ekk⟩ : ∃ x, x = K.getD k 0 := ⟨_, rfl⟩
      obtain ⟨kp, ekp⟩ : ∃ x, x = K.getD (k - 1) 0 := ⟨_, rfl⟩
      obtain ⟨kn, ekn⟩ : ∃ x, x = K.getD (k + 1) 0 := ⟨_, rfl⟩
      obtain ⟨rr, err⟩ : ∃ x, x = R.getD k 0 := ⟨_, rfl⟩
      obtain ⟨oo, eoo⟩ : ∃ x, x = O.getD k 0 := ⟨_, rfl⟩
      obtain ⟨nn, enn⟩ : ∃ x, x = N.getD k 0 := ⟨_, rfl⟩
      have ck : w.cell? ⟨b0, o0 + k, none⟩ = some (.int .u64 kk) := by rw [ekk]; exact RK.out k (by rw [HK.out]; exact hlt)
      have cp : w.cell? ⟨b0, o0 + (k - 1), none⟩ = some (.int .u64 kp) := by rw [ekp]; exact RK.out (k - 1) (by rw [HK.out]; omega)
      have cr : w.cell? ⟨b1, o1 + k, none⟩ = some (.int .i64 rr) := by rw [err]; exact RR.out k (by rw [HR.out]; exact hlt)
      have co : w.cell? ⟨b2, o2 + k, none⟩ = some (.int .u64 oo) := by rw [eoo]; exact RO.out k (by rw [HO.out]; exact hlt)
      have cn : w.cell? ⟨b3, o3 + k, none⟩ = some (.int .u64 nn) := by rw [enn]; exact RN.out k (by rw [HN.out]; exact hlt)
      have hnx : k + 1 < n → w.cell? ⟨b0, o0 + (k + 1), none⟩ = some (.int .u64 kn) := fun h => by rw [ekn]; exact RK.out (k + 1) (by rw [HK.out]; exact h)
      have STEP : Hid (1 ≤ rr → (0 < k → kp < kk ∧ oo = kp) → (k + 1 < n → nn = kn) → ∀ i, i < k + 1 → Good n K R O N i) := fun a1 a2 a3 i hi => by
        by_cases e : i = k
        · subst e; exact ⟨err ▸ a1, fun h => ⟨by rw [← ekp, ← ekk]; exact (a2 h).1, by rw [← ekp, ← eoo]; exact (a2 h).2⟩, fun h => by rw [← enn, ← ekn]; exact a3 h⟩
        · exact HG.out i (by omega)
      clear ekk ekp ekn err eoo enn HG
      by_cases h1 : rr < 1
      · go_wp2_with fail
        go_ret
        exact ⟨false, rfl, (by simp), _, rfl⟩
      · by_cases hz : 0 < k
        · have j1 : (k : Int) - 1 = ((k - 1 : Nat) : Int) := by omega
          have j2 : ((k - 1 : Nat) : Int) < (n : Int) := by omega
          have j3 : (k : Int) < (n : Int) := by omega
          by_cases h2 : kk ≤ kp
          · go_wp2_with fail
            go_quiet (fail)
            go_wp2_with fail
            go_ret
            exact ⟨false, rfl, (by simp), drewn2 _ _ _⟩
          · by_cases h3 : oo = kp
            · subst h3
              by_cases h4 : k + 1 < n
              · have cx := hnx h4
                have j4 : (k : Int) + 1 < (n : Int) := by omega
                by_cases h5 : nn = kn
                · subst h5
                  have G := STEP.out (by omega) (fun _ => ⟨by omega, rfl⟩) (fun _ => rfl)
                  have HG : Hid (∀ i, i < k + 1 → Good n K R O N i) := G
                  clear STEP G hnx
                  go_wp2_with fail
                  go_quiet (fail)
                  go_wp2_with fail
                  go_quiet (fail)
                  go_wp2_with fail
                  go_quiet (fail)
                  go_wp2_with fail
                  go_roundw
                  case rel => exact ⟨k + 1, by omega, by go_num, ⟨_, rfl⟩, HG⟩
                  case measure => simp [intOf]; omega
                · have h6 : (nn != kn) = true := by simpa using h5
                  clear STEP hnx h5
                  go_wp2_with fail
                  go_quiet (fail)
                  go_wp2_with fail
                  go_quiet (fail)
                  go_wp2_with fail
                  go_quiet (fail)
                  go_wp2_with fail
                  go_ret
                  exact ⟨false, rfl, (by simp), drewn4 _ _ _ _ _⟩
              · have G := STEP.out (by omega) (fun _ => ⟨by omega, rfl⟩) (fun h => absurd h h4)
                have HG : Hid (∀ i, i < k + 1 → Good n K R O N i) := G
                have j4 : decide ((k : Int) + 1 < (n : Int)) = false := decide_eq_false (by omega)
                clear STEP G hnx
                go_wp2_with fail
                go_quiet (fail)
                go_wp2_with fail
                go_quiet (fail)
                go_wp2_with fail
                go_quiet (fail)
                go_wp2_with fail
                go_roundw
                case rel => exact ⟨k + 1, by omega, by go_num, ⟨_, rfl⟩, HG⟩
                case measure => simp [intOf]; omega
            · have h6 : (oo != kp) = true := by simpa using h3
              clear STEP hnx h3
              go_wp2_with fail
              go_quiet (fail)
              go_wp2_with fail
              go_quiet (fail)
              go_wp2_with fail
              go_ret
              exact ⟨false, rfl, (by simp), drewn3 _ _ _ _⟩
        · by_cases h4 : k + 1 < n
          · have cx := hnx h4
            have j3 : (k : Int) < (n : Int) := by omega
            have j4 : (k : Int) + 1 < (n : Int) := by omega
            by_cases h5 : nn = kn
            · subst h5
              have G := STEP.out (by omega) (fun h => absurd h hz) (fun _ => rfl)
              have HG : Hid (∀ i, i < k + 1 → Good n K R O N i) := G
              clear STEP G hnx
              go_wp2_with fail
              go_quiet (fail)
              go_wp2_with fail
              go_roundw
              case rel => exact ⟨k + 1, by omega, by go_num, ⟨_, rfl⟩, HG⟩
              case measure => simp [intOf]; omega
            · have h6 : (nn != kn) = true := by simpa using h5
              clear STEP hnx h5
              go_wp2_with fail
              go_quiet (fail)
              go_wp2_with fail
              go_ret
              exact ⟨false, rfl, (by simp), drewn2 _ _ _⟩
          · have G := STEP.out (by omega) (fun h => absurd h hz) (fun h => absurd h h4)
            have HG : Hid (∀ i, i < k + 1 → Good n K R O N i) := G
            have j3 : (k : Int) < (n : Int) := by omega
            have j4 : decide ((k : Int) + 1 < (n : Int)) = false := decide_eq_false (by omega)
            clear STEP G hnx
            go_wp2_with fail
            go_quiet (fail)
            go_wp2_with fail
            go_roundw
            case rel => exact ⟨k + 1, by omega, by go_num, ⟨_, rfl⟩, HG⟩
            case measure => simp [intOf]; omega
    · have k0 := RK.out 0 (by rw [HK.out]; exact hp)
      have kl := RK.out (n - 1) (by rw [HK.out]; omega)
      rw [Nat.add_zero] at k0
      have j1 : (n : Int) - 1 = ((n - 1 : Nat) : Int) := by omega
      obtain ⟨x0, ex0⟩ : ∃ x, x = K.getD 0 0 := ⟨_, rfl⟩
      obtain ⟨x1, ex1⟩ : ∃ x, x = K.getD (n - 1) 0 := ⟨_, rfl⟩
      rw [← ex0] at k0
      rw [← ex1] at kl
      have FIN : Hid (old = x0 → new = x1 → Formed n K R O N old new) := fun a1 a2 => ⟨fun i hi => HG.out i (by omega), fun _ => ⟨by rw [← ex0]; exact a1, by rw [← ex1]; exact a2⟩⟩
      clear ex0 ex1 HG
      by_cases g1 : old = x0
      · subst g1
        by_cases g2 : new = x1
        · subst g2
          have F : Hid (Formed n K R O N old new) := FIN.out rfl rfl
          clear FIN
          go_wp2_with fail
          go_ret
          exact ⟨true, rfl, fun _ => F.out, _, rfl⟩
        · have g3 : (new != x1) = true := by simpa using g2
          clear g2 FIN
          go_wp2_with fail
          go_ret
          exact ⟨false, rfl, (by simp), _, rfl⟩
      · have g3 : (old != x0) = true := by simpa using g1
        clear g1 FIN
        go_wp2_with fail
        go_ret
        exact ⟨false, rfl, (by simp), _, rfl⟩

/-- 'snapIndex' says no less than nought only where the key is there. -/
theorem idx_any (b0 o0 c0 n : Nat) (K : List Int) (ts : Int) (w : World) (hK : K.length = n) (hn : n ≤ 32768) (rK : Row .u64 w b0 o0 K) :
    Calls Try.prog 15 #[.slice (some ⟨b0, o0, none⟩) n c0, .int .u64 ts] w fun e w' => ∃ x : Int, e = .returned (.int .i64 x) ∧ (0 ≤ x → ∃ i, i < n ∧ K.getD i 0 = ts) ∧ w = w' := by
  have HK : Hid (K.length = n) := hK
  have RK : Hid (Row .u64 w b0 o0 K) := rK
  clear hK rK
  go_enter Try.func15, Try.ntmps15
  go_wp2_with fail
  go_loop [5] (fun i => ∃ k : Nat, k ≤ n ∧ i = .int .i64 k) (fun i => n - (intOf i).toNat)
  case atStart => exact ⟨0, Nat.zero_le _, rfl⟩
  case round =>
    obtain ⟨k, hk, rfl⟩ := hrel
    by_cases hlt : k < n
    · obtain ⟨kk, ekk⟩ : ∃ x, x = K.getD k 0 := ⟨_, rfl⟩
      have ck : w.cell? ⟨b0, o0 + k, none⟩ = some (.int .u64 kk) := by rw [ekk]; exact RK.out k (by rw [HK.out]; exact hlt)
      have EK : Hid (kk = K.getD k 0) := ekk
      clear ekk
      by_cases e : kk = ts
      · have e' : (kk == ts) = true := by simpa using e
        have E : Hid (kk = ts) := e
        clear e
        go_wp2_with fail
        go_ret
        exact ⟨_, rfl, fun _ => ⟨k, hlt, EK.out.symm.trans E.out⟩, rfl⟩
      · have e' : (kk == ts) = false := by simpa using e
        clear e
        go_wp2_with fail
        go_round
        case rel => exact ⟨k + 1, by omega, by go_num⟩
        case measure => simp [intOf]; omega
    · go_wp2_with fail
      go_ret
      exact ⟨-1, rfl, fun h => by omega, rfl⟩

theorem bytes14 (a0 a1 a2 a3 : Option Addr) (l0 c0 l1 c1 l2 c2 l3 c3 : Nat) (old new ts : Int) (w : World) (m0 : l0 ≤ 32768) (m1 : l1 ≤ 32768) (m2 : l2 ≤ 32768) (m3 : l3 ≤ 32768) :
    Calls Try.prog 14 #[.slice a0 l0 c0, .slice a1 l1 c1, .slice a2 l2 c2, .slice a3 l3 c3, .int .u64 old, .int .u64 new, .int .u64 ts] w fun e w' => e = .returned (.bool true) ∧ w = w' := by
  go_enter Try.func14, Try.ntmps14
  go_wp2
  go_ret
  exact ⟨rfl, rfl⟩
end Go.Proofs.Qxb6617417a
