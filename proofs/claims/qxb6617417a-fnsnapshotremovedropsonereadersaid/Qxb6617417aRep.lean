/-
  The walks of 'ZZSnapshotLen' (26), 'ZZSnapshotEnds' (27), 'ZZSnapshotGet' (28) and 'snapRepresents' (13).
-/
import Derived.Test.Qxb6617417aSnap
namespace Go.Proofs.Qxb6617417a
open Go.RowKit Go.Maps
set_option linter.unusedVariables false
set_option maxRecDepth 100000

theorem results_tmp4 {fn : Func} {t u v x : Tmp} (h : fn.results = #[.tmp t, .tmp u, .tmp v, .tmp x]) (tmps : Array Value) (P : Program) (w : World) :
    (results fn tmps).run P w = .ok (.tuple #[tmps.getD t undef, tmps.getD u undef, tmps.getD v undef, tmps.getD x undef]) w := by
  simp [results, h]

section
variable {L bm m base n c : Nat} {f : Int → Option Nat} {old new : Int} {r o nw : Nat → Int} {W : World} {ts : Int} {j : Nat}

theorem len_any (S : Snap W L bm m base n f c old new r o nw) : Calls Try.prog 26 #[.pointer (some ⟨L, 0, none⟩)] W fun e w' => e = .returned (.int .i64 c) ∧ W = w' := by
  have cl := S.1.cells.1
  have M := S.2.1
  clear S
  go_enter Try.func26, Try.ntmps26
  go_wp2_with (at_len; go_must (refine wpList_len_map _ rfl (.tmp 6) rfl bm m c f rfl M ?_))
  go_ret
  exact ⟨rfl, rfl⟩

theorem ends_any (S : Snap W L bm m base n f c old new r o nw) : Calls Try.prog 27 #[.pointer (some ⟨L, 0, none⟩)] W fun e w' => e = .returned (.tuple #[.int .u64 old, .int .u64 new]) ∧ ∃ q, w' = W.drewN q := by
  obtain ⟨_, c1, c2⟩ := S.1.cells
  clear S
  go_enter Try.func27, Try.ntmps27
  go_wp2
  go_quiet (fail)
  go_wp2
  go_ret2
  exact ⟨rfl, _, rfl⟩

theorem get_any (S : Snap W L bm m base n f c old new r o nw) (hk : KeyOk ts) (hj : j < n) (hf : f ts = some (base + j)) :
    Calls Try.prog 28 #[.pointer (some ⟨L, 0, none⟩), .int .u64 ts] W fun e w' => e = .returned (.tuple #[.int .i64 (r j), .int .u64 (o j), .int .u64 (nw j), .bool true]) ∧ ∃ q, w' = W.drewN q := by
  have hl0 := S.2.1.look_ok hk
  rw [hf] at hl0
  have hl : (Instr.lookup 41 (.map (some bm)) (.int .u64 ts) true).run Try.prog W = .ok (.tuple #[.pointer (some ⟨base + j, 0, none⟩), .bool true]) W := hl0
  have cl := S.1.cells.1
  obtain ⟨c0, c1, c2⟩ := (S.2.2.1 j hj).cells
  clear S hl0 hf
  go_enter Try.func28, Try.ntmps28
  go_wp2
  go_quiet (fail)
  go_wp2
  refine bodyPost_ret (results_tmp4 rfl _ _ _) rfl ?_
  exact ⟨rfl, _, rfl⟩


/-- What 'snapRepresents' asks. -/
def Reps (base n : Nat) (f : Int → Option Nat) (c : Nat) (old new : Int) (r o nw : Nat → Int) (K R : List Int) : Prop :=
  c = K.length ∧ R.length = K.length ∧ (0 < K.length → old = K.getD 0 0 ∧ new = K.getD (K.length - 1) 0) ∧
  ∀ i, i < K.length → KeyOk (K.getD i 0) ∧ ∃ j, j < n ∧ f (K.getD i 0) = some (base + j) ∧ r j = R.getD i 0 ∧ (0 < i → o j = K.getD (i - 1) 0) ∧ (i + 1 < K.length → nw j = K.getD (i + 1) 0)

set_option maxHeartbeats 2000000 in
theorem rep_any (S : Snap W L bm m base n f c old new r o nw) (g1 c1 g2 c2 n1 : Nat) (K R : List Int) (hK : K.length = n1) (h1 : n1 ≤ 1099511627776) (rK : Row .u64 W g1 0 K) (rR : Row .i64 W g2 0 R) (P : Reps base n f c old new r o nw K R) :
    Calls Try.prog 13 #[.pointer (some ⟨L, 0, none⟩), .slice (some ⟨g1, 0, none⟩) n1 c1, .slice (some ⟨g2, 0, none⟩) n1 c2] W fun e w' => e = .returned (.bool true) ∧ ∃ q, w' = W.drewN q := by
  obtain ⟨hc, hR, hE, hall⟩ := P
  rw [hK] at hc hR
  subst hc
  have HK : Hid (K.length = c) := hK
  have HS : Hid (Snap W L bm m base n f c old new r o nw) := S
  have HA : Hid (∀ i, i < K.length → KeyOk (K.getD i 0) ∧ ∃ j, j < n ∧ f (K.getD i 0) = some (base + j) ∧ r j = R.getD i 0 ∧ (0 < i → o j = K.getD (i - 1) 0) ∧ (i + 1 < K.length → nw j = K.getD (i + 1) 0)) := hall
  have HRR : Hid (Row .i64 W g2 0 R) := rR
  have HRK : Hid (Row .u64 W g1 0 K) := rK
  have HRl : Hid (R.length = c) := hR
  have HE : Hid (0 < K.length → old = K.getD 0 0 ∧ new = K.getD (K.length - 1) 0) := hE
  clear hall rR rK hR hE hK S
  by_cases h0 : 0 < c
  · have k0 := HRK.out 0 (by rw [HK.out]; exact h0)
    have kl := HRK.out (c - 1) (by rw [HK.out]; omega)
    rw [Nat.zero_add] at k0 kl
    obtain ⟨e1, e2⟩ := HE.out (by rw [HK.out]; exact h0)
    rw [HK.out] at e2
    rw [← e1] at k0
    rw [← e2] at kl
    have i1 : (c : Int) - 1 = ((c - 1 : Nat) : Int) := by omega
    clear e1 e2 HE
    go_enter Try.func13, Try.ntmps13
    go_wp2_with (first | (go_at_call 26; go_must (refine (len_any HS.out).mono ?_; rintro e w' ⟨rfl, rfl⟩)) | (go_at_call 27; go_must (refine (ends_any HS.out).mono ?_; rintro e w' ⟨rfl, q, rfl⟩)))
    go_loopw [10] (fun i wx => ∃ k : Nat, k ≤ c ∧ i = .int .i64 k ∧ Hid (∃ q, wx = W.drewN q)) (fun i _ => c - (intOf i).toNat)
    case atStart => exact ⟨0, Nat.zero_le _, rfl, ⟨_, rfl⟩⟩
    case round =>
      obtain ⟨k, hk, rfl, HW⟩ := hrel
      obtain ⟨q0, rfl⟩ := HW.out
      clear HW i1 k0 kl
      by_cases hlt : k < c
      · obtain ⟨hkey, j, hj, fj, rj, oj, nj⟩ := HA.out k (by rw [HK.out]; exact hlt)
        have G0 := get_any (HS.out.drewN q0) hkey hj fj
        have ck := HRK.out k (by rw [HK.out]; exact hlt)
        have cr := HRR.out k (by rw [HRl.out]; exact hlt)
        rw [Nat.zero_add] at ck cr
        rw [rj] at G0
        obtain ⟨kk, ekk⟩ : ∃ x, x = K.getD k 0 := ⟨_, rfl⟩
        obtain ⟨rr, err⟩ : ∃ x, x = R.getD k 0 := ⟨_, rfl⟩
        obtain ⟨oo, eoo⟩ : ∃ x, x = o j := ⟨_, rfl⟩
        obtain ⟨nn, enn⟩ : ∃ x, x = nw j := ⟨_, rfl⟩
        rw [← ekk, ← err, ← eoo, ← enn] at G0
        rw [← ekk] at ck
        rw [← err] at cr
        have G : Hid (Calls Try.prog 28 #[.pointer (some ⟨L, 0, none⟩), .int .u64 kk] (W.drewN q0) fun e w' => e = .returned (.tuple #[.int .i64 rr, .int .u64 oo, .int .u64 nn, .bool true]) ∧ ∃ q, w' = (W.drewN q0).drewN q) := G0
        have hp : 0 < k → W.cell? ⟨g1, k - 1, none⟩ = some (.int .u64 oo) := fun h => by
          have := HRK.out (k - 1) (by rw [HK.out]; omega)
          rw [Nat.zero_add, ← oj h, ← eoo] at this; exact this
        have hq : k + 1 < c → W.cell? ⟨g1, k + 1, none⟩ = some (.int .u64 nn) := fun h => by
          have := HRK.out (k + 1) (by rw [HK.out]; omega)
          rw [Nat.zero_add, ← nj (by rw [HK.out]; exact h), ← enn] at this; exact this
        clear G0 hkey fj rj oj nj ekk err eoo enn
        by_cases hz : 0 < k
        · have cp := hp hz
          have j1 : (k : Int) - 1 = ((k - 1 : Nat) : Int) := by omega
          clear hp
          by_cases hy : k + 1 < c
          · have cq := hq hy
            clear hq
            go_wp2_with (go_at_call 28; go_must (refine Calls.mono G.out ?_; rintro e w' ⟨rfl, q1, rfl⟩))
            go_roundw
            case rel => exact ⟨k + 1, by omega, by go_num, ⟨_, rfl⟩⟩
            case measure => simp [intOf]; omega
          · clear hq
            go_wp2_with (go_at_call 28; go_must (refine Calls.mono G.out ?_; rintro e w' ⟨rfl, q1, rfl⟩))
            go_roundw
            case rel => exact ⟨k + 1, by omega, by go_num, ⟨_, rfl⟩⟩
            case measure => simp [intOf]; omega
        · clear hp
          by_cases hy : k + 1 < c
          · have cq := hq hy
            clear hq
            go_wp2_with (go_at_call 28; go_must (refine Calls.mono G.out ?_; rintro e w' ⟨rfl, q1, rfl⟩))
            go_roundw
            case rel => exact ⟨k + 1, by omega, by go_num, ⟨_, rfl⟩⟩
            case measure => simp [intOf]; omega
          · clear hq
            go_wp2_with (go_at_call 28; go_must (refine Calls.mono G.out ?_; rintro e w' ⟨rfl, q1, rfl⟩))
            go_roundw
            case rel => exact ⟨k + 1, by omega, by go_num, ⟨_, rfl⟩⟩
            case measure => simp [intOf]; omega
      · go_wp2_with fail
        go_ret
        exact ⟨rfl, _, rfl⟩
  · clear HE
    go_enter Try.func13, Try.ntmps13
    go_wp2_with (first | (go_at_call 26; go_must (refine (len_any HS.out).mono ?_; rintro e w' ⟨rfl, rfl⟩)))
    go_loopw [10] (fun i wx => ∃ k : Nat, k ≤ c ∧ i = .int .i64 k ∧ Hid (∃ q, wx = W.drewN q)) (fun i _ => c - (intOf i).toNat)
    case atStart => exact ⟨0, Nat.zero_le _, rfl, ⟨0, rfl⟩⟩
    case round =>
      obtain ⟨k, hk, rfl, HW⟩ := hrel
      obtain ⟨q0, rfl⟩ := HW.out
      clear HW
      go_wp2_with fail
      go_ret
      exact ⟨rfl, _, rfl⟩
end
end Go.Proofs.Qxb6617417a
