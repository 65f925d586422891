/-
  What 'remove' leaves is what the model leaves: out of the walks of 'remove' and plain facts on lists.
-/
import Derived.Test.Qxb6617417aMiddle
import Derived.Test.Qxb6617417aRep
import Derived.Test.Qxb6617417aWf
import Derived.Test.Qxb6617417aDrop
namespace Go.Proofs.Qxb6617417a
open Go.RowKit Go.Maps Plain
set_option linter.unusedVariables false

theorem getD_erase (z : List Int) (i j : Nat) : (z.eraseIdx i).getD j 0 = if j < i then z.getD j 0 else z.getD (j + 1) 0 := by
  rw [List.getD_eq_getElem?_getD, List.getElem?_eraseIdx]
  split <;> rw [List.getD_eq_getElem?_getD]
theorem getD_set (z : List Int) (i j : Nat) (v : Int) (hi : i < z.length) : (z.set i v).getD j 0 = if j = i then v else z.getD j 0 := by
  rw [List.getD_eq_getElem?_getD, List.getElem?_set]
  by_cases e : j = i
  · subst e; simp [hi]
  · rw [if_neg (fun h => e h.symm), if_neg e, List.getD_eq_getElem?_getD]

/-- The keys rise. -/
theorem rising {n : Nat} {K R O N : List Int} {old new : Int} (F : Formed n K R O N old new) : ∀ j, j < n → ∀ i, i < j → K.getD i 0 < K.getD j 0
  | 0, _, i, h => by omega
  | j + 1, hj, i, h => by
    have h1 := ((F.1 (j + 1) hj).2.1 (by omega)).1
    rw [Nat.add_sub_cancel] at h1
    by_cases e : i = j
    · subst e; exact h1
    · have := rising F j (by omega) i (by omega)
      omega
theorem apart {n : Nat} {K R O N : List Int} {old new : Int} (F : Formed n K R O N old new) : ∀ i j, i < j → j < n → K.getD i 0 ≠ K.getD j 0 := fun i j h1 h2 e => by
  have := rising F j h2 i h1; omega
theorem apart2 {n : Nat} {K R O N : List Int} {old new : Int} (F : Formed n K R O N old new) (i j : Nat) (hi : i < n) (hj : j < n) (h : i ≠ j) : K.getD i 0 ≠ K.getD j 0 := by
  rcases Nat.lt_or_gt_of_ne h with h | h
  · exact apart F i j h hj
  · exact fun e => apart F j i h hi e.symm

section
variable {n base i0 : Nat} {K R O N : List Int} {old new ts : Int}

/-- One reader less. -/
theorem reps_less (F : Formed n K R O N old new) (hK : K.length = n) (hR : R.length = n) (hwf : ∀ k, k < n → KeyOk (K.getD k 0)) (hi : i0 < n) (hts : K.getD i0 0 = ts) (h1 : R.getD i0 0 ≠ 1) :
    Reps base n (fK K base n) n old new (setN (fun j => R.getD j 0) i0 (R.getD i0 0 - 1)) (fun j => O.getD j 0) (fun j => N.getD j 0) (dK ts K R) (dR ts K R) := by
  obtain ⟨e1, e2⟩ := (d_at ts K R i0 (by omega) (by omega) hts (fun j hj hji => by rw [← hts]; exact apart2 F j i0 (by omega) hi hji)).1 h1
  rw [e1, e2]
  refine ⟨hK.symm, by simp; omega, fun h => ?_, fun i h => ⟨hwf i (by omega), i, by omega, fK_some K base n (apart F) n (Nat.le_refl _) i (by omega), ?_, fun hp => ((F.1 i (by omega)).2.1 hp).2, fun hx => (F.1 i (by omega)).2.2 (by omega)⟩⟩
  · have := F.2 (by omega)
    rw [hK]; exact this
  · rw [getD_set _ _ _ _ (by omega)]; rfl

/-- The snapshot leaves. -/
theorem reps_gone {old' new' : Int} {o' nw' : Nat → Int} (F : Formed n K R O N old new) (hK : K.length = n) (hR : R.length = n) (hwf : ∀ k, k < n → KeyOk (K.getD k 0)) (hi : i0 < n) (hts : K.getD i0 0 = ts) (h1 : R.getD i0 0 = 1)
    (he : 1 < n → old' = (K.eraseIdx i0).getD 0 0 ∧ new' = (K.eraseIdx i0).getD (n - 2) 0)
    (ho1 : ∀ j, j < n → 0 < j → j ≠ i0 → j ≠ i0 + 1 → o' j = K.getD (j - 1) 0) (ho2 : 0 < i0 → i0 + 1 < n → o' (i0 + 1) = K.getD (i0 - 1) 0)
    (hn1 : ∀ j, j + 1 < n → j ≠ i0 → j + 1 ≠ i0 → nw' j = K.getD (j + 1) 0) (hn2 : 0 < i0 → i0 + 1 < n → nw' (i0 - 1) = K.getD (i0 + 1) 0) :
    Reps base n (upd (fK K base n) ts none) (n - 1) old' new' (setN (fun j => R.getD j 0) i0 0) o' nw' (dK ts K R) (dR ts K R) := by
  obtain ⟨e1, e2⟩ := (d_at ts K R i0 (by omega) (by omega) hts (fun j hj hji => by rw [← hts]; exact apart2 F j i0 (by omega) hi hji)).2 h1
  have hl1 : (K.eraseIdx i0).length = n - 1 := by rw [List.length_eraseIdx]; simp [hK, hi]
  have hl2 : (R.eraseIdx i0).length = n - 1 := by rw [List.length_eraseIdx]; simp [hR, hi]
  rw [e1, e2]
  unfold Reps
  rw [hl1, hl2]
  have hf : ∀ j, j < n → j ≠ i0 → upd (fK K base n) ts none (K.getD j 0) = some (base + j) := fun j hj hji => by
    rw [upd_other _ _ _ _ (by rw [← hts]; exact apart2 F j i0 hj hi hji)]
    exact fK_some K base n (apart F) n (Nat.le_refl _) j hj
  refine ⟨rfl, rfl, fun h => ?_, fun i h => ?_⟩
  · have := he (by omega)
    rw [show n - 1 - 1 = n - 2 by omega]; exact this
  · by_cases hlt : i < i0
    · rw [getD_erase, if_pos hlt]
      refine ⟨hwf i (by omega), i, by omega, hf i (by omega) (by omega), ?_, fun hp => ?_, fun hx => ?_⟩
      · rw [setN_other _ _ _ _ (by omega), getD_erase, if_pos hlt]
      · rw [getD_erase, if_pos (by omega)]; exact ho1 i (by omega) hp (by omega) (by omega)
      · rw [getD_erase]
        by_cases e : i + 1 < i0
        · rw [if_pos e]; exact hn1 i (by omega) (by omega) (by omega)
        · obtain rfl : i0 = i + 1 := by omega
          rw [if_neg e]
          have := hn2 (by omega) (by omega)
          rwa [Nat.add_sub_cancel] at this
    · rw [getD_erase, if_neg hlt]
      refine ⟨hwf (i + 1) (by omega), i + 1, by omega, hf (i + 1) (by omega) (by omega), ?_, fun hp => ?_, fun hx => ?_⟩
      · rw [setN_other _ _ _ _ (by omega), getD_erase, if_neg hlt]
      · rw [getD_erase]
        by_cases e : i = i0
        · subst e; rw [if_pos (by omega)]; exact ho2 hp (by omega)
        · rw [if_neg (by omega), ho1 (i + 1) (by omega) (by omega) (by omega) (by omega), show i - 1 + 1 = i + 1 - 1 by omega]
      · rw [getD_erase, if_neg (by omega)]; exact hn1 (i + 1) (by omega) (by omega) (by omega)
end

theorem Made.snap {w W : World} {K R O N : List Int} {old new : Int} {n : Nat} (M : Made w K R O N old new n W) :
    Snap W (w.heap.size + 1) w.heap.size n (w.heap.size + 2) n (fK K (w.heap.size + 2) n) n old new (fun j => R.getD j 0) (fun j => O.getD j 0) (fun j => N.getD j 0) :=
  ⟨M.2.1, M.2.2.1, M.2.2.2.1, by omega, by omega, by omega⟩

/-- 'remove' at whatever list is as it should be. -/
theorem remove_rep {w W : World} {K R O N : List Int} {old new ts : Int} {n i0 : Nat} (M : Made w K R O N old new n W) (F : Formed n K R O N old new) (hK : K.length = n) (hR : R.length = n) (hwf : ∀ k, k < n → KeyOk (K.getD k 0)) (hmax : ∀ i, i < n → R.getD i 0 ≤ 9223372036854775807)
    (hi : i0 < n) (hts : K.getD i0 0 = ts) :
    Calls Try.prog 29 #[.pointer (some ⟨w.heap.size + 1, 0, none⟩), .int .u64 ts] W fun e w' => e = .returned (.tuple #[]) ∧
      (∃ f c old' new' r o nw, Snap w' (w.heap.size + 1) w.heap.size n (w.heap.size + 2) n f c old' new' r o nw ∧ Reps (w.heap.size + 2) n f c old' new' r o nw (dK ts K R) (dR ts K R)) ∧ Below w.heap.size W w' := by
  have S := M.snap
  have hk : KeyOk ts := by rw [← hts]; exact hwf i0 hi
  have hf : fK K (w.heap.size + 2) n ts = some (w.heap.size + 2 + i0) := by rw [← hts]; exact fK_some K _ n (apart F) n (Nat.le_refl _) i0 hi
  have hp := (F.1 i0 hi).1
  have hBW : w.heap.size ≤ W.heap.size := by rw [M.1]; omega
  by_cases h1 : R.getD i0 0 = 1
  · by_cases hn1 : n = 1
    · obtain rfl : i0 = 0 := by omega
      refine (remove_last S hk hi hf h1 (B := w.heap.size) (by omega) (Nat.le_refl _) (by omega) hBW (by omega)).mono fun e w' ⟨he, hS, hb⟩ => ⟨he, ⟨_, _, _, _, _, _, _, hS, ?_⟩, hb⟩
      exact reps_gone F hK hR hwf hi hts h1 (fun h => by omega) (fun j hj hp hji _ => ((F.1 j hj).2.1 hp).2) (fun h _ => by omega) (fun j hj _ _ => (F.1 j (by omega)).2.2 hj) (fun h _ => by omega)
    · obtain ⟨hold, hnew⟩ := F.2 (by omega)
      by_cases h0 : i0 = 0
      · subst h0
        refine (remove_oldest S hk hi hf h1 (B := w.heap.size) (by omega) (Nat.le_refl _) (by omega) hBW (by omega) (by rw [hold, hts]; simp)).mono fun e w' ⟨he, hS, hb⟩ => ⟨he, ⟨_, _, _, _, _, _, _, hS, ?_⟩, hb⟩
        refine reps_gone F hK hR hwf hi hts h1 (fun h => ⟨?_, ?_⟩) (fun j hj hp hji _ => ((F.1 j hj).2.1 hp).2) (fun h _ => by omega) (fun j hj _ _ => (F.1 j (by omega)).2.2 hj) (fun h _ => by omega)
        · rw [getD_erase, if_neg (by omega)]; exact (F.1 0 hi).2.2 (by omega)
        · rw [getD_erase, if_neg (by omega), hnew, show n - 2 + 1 = n - 1 by omega]
      · have b1 : (ts == old) = false := by
          have := apart F 0 i0 (by omega) hi
          rw [← hold, hts] at this
          simpa using fun e => this e.symm
        by_cases hl : i0 = n - 1
        · have b2 : (ts == new) = true := by rw [hnew, ← hl, hts]; simp
          refine (remove_newest S hk hi hf h1 (B := w.heap.size) (by omega) (Nat.le_refl _) (by omega) hBW (by omega) b1 b2).mono fun e w' ⟨he, hS, hb⟩ => ⟨he, ⟨_, _, _, _, _, _, _, hS, ?_⟩, hb⟩
          refine reps_gone F hK hR hwf hi hts h1 (fun h => ⟨?_, ?_⟩) (fun j hj hp hji _ => ((F.1 j hj).2.1 hp).2) (fun _ h => by omega) (fun j hj _ _ => (F.1 j (by omega)).2.2 hj) (fun _ h => by omega)
          · rw [getD_erase, if_pos (by omega)]; exact hold
          · rw [getD_erase, if_pos (by omega), ((F.1 i0 hi).2.1 (by omega)).2, hl, show n - 1 - 1 = n - 2 by omega]
        · have b2 : (ts == new) = false := by
            have := apart F i0 (n - 1) (by omega) (by omega)
            rw [← hnew, hts] at this
            simpa using this
          have eo : O.getD i0 0 = K.getD (i0 - 1) 0 := ((F.1 i0 hi).2.1 (by omega)).2
          have en : N.getD i0 0 = K.getD (i0 + 1) 0 := (F.1 i0 hi).2.2 (by omega)
          refine (remove_middle (ia := i0 - 1) (ib := i0 + 1) S hk hi hf h1 (B := w.heap.size) (by omega) (Nat.le_refl _) (by omega) hBW (by omega) b1 b2 eo en (hwf _ (by omega)) (hwf _ (by omega))
            (by rw [← hts]; exact apart2 F _ _ (by omega) hi (by omega)) (by rw [← hts]; exact apart2 F _ _ (by omega) hi (by omega))
            (fK_some K _ n (apart F) n (Nat.le_refl _) _ (by omega)) (fK_some K _ n (apart F) n (Nat.le_refl _) _ (by omega)) (by omega) (by omega) (by omega) (by omega) (by omega)).mono fun e w' ⟨he, hS, hb⟩ => ⟨he, ⟨_, _, _, _, _, _, _, hS, ?_⟩, hb⟩
          refine reps_gone F hK hR hwf hi hts h1 (fun h => ⟨?_, ?_⟩) (fun j hj hp hji hj1 => ?_) (fun _ h => ?_) (fun j hj hji hj1 => ?_) (fun _ h => ?_)
          · rw [getD_erase, if_pos (by omega)]; exact hold
          · rw [getD_erase, if_neg (by omega), hnew, show n - 2 + 1 = n - 1 by omega]
          · rw [setN_other _ _ _ _ hj1]; exact ((F.1 j hj).2.1 hp).2
          · rw [setN_same]
          · rw [setN_other _ _ _ _ (by omega)]; exact (F.1 j (by omega)).2.2 hj
          · rw [setN_same]
  · refine (remove_keep S hk hi hf (show 2 ≤ R.getD i0 0 by omega) (hmax i0 hi) (B := w.heap.size) (by omega)).mono fun e w' ⟨he, hS, hb⟩ => ⟨he, ⟨_, _, _, _, _, _, _, hS, ?_⟩, hb⟩
    exact reps_less F hK hR hwf hi hts h1

/-- The exported name hands it on. -/
theorem zz_remove {w W : World} {K R O N : List Int} {old new ts : Int} {n i0 : Nat} (M : Made w K R O N old new n W) (F : Formed n K R O N old new) (hK : K.length = n) (hR : R.length = n) (hwf : ∀ k, k < n → KeyOk (K.getD k 0)) (hmax : ∀ i, i < n → R.getD i 0 ≤ 9223372036854775807)
    (hi : i0 < n) (hts : K.getD i0 0 = ts) :
    Calls Try.prog 17 #[.pointer (some ⟨w.heap.size + 1, 0, none⟩), .int .u64 ts] W fun e w' => e = .returned (.tuple #[]) ∧
      (∃ f c old' new' r o nw, Snap w' (w.heap.size + 1) w.heap.size n (w.heap.size + 2) n f c old' new' r o nw ∧ Reps (w.heap.size + 2) n f c old' new' r o nw (dK ts K R) (dR ts K R)) ∧ Below w.heap.size W w' := by
  have C := remove_rep M F hK hR hwf hmax hi hts
  have H : Hid (Calls Try.prog 29 #[.pointer (some ⟨w.heap.size + 1, 0, none⟩), .int .u64 ts] W fun e w' => e = .returned (.tuple #[]) ∧
      (∃ f c old' new' r o nw, Snap w' (w.heap.size + 1) w.heap.size n (w.heap.size + 2) n f c old' new' r o nw ∧ Reps (w.heap.size + 2) n f c old' new' r o nw (dK ts K R) (dR ts K R)) ∧ Below w.heap.size W w') := C
  clear C M F hK hR hwf hmax hi hts
  go_enter Try.func17, Try.ntmps17
  go_wp2_with fail
  refine Calls.mono H.out ?_
  rintro e w' ⟨rfl, hs, hb⟩
  have HS : Hid (∃ f c old' new' r o nw, Snap w' (w.heap.size + 1) w.heap.size n (w.heap.size + 2) n f c old' new' r o nw ∧ Reps (w.heap.size + 2) n f c old' new' r o nw (dK ts K R) (dR ts K R)) := hs
  clear hs H
  go_wp2_with fail
  go_end0
  exact ⟨rfl, HS.out, hb⟩
end Go.Proofs.Qxb6617417a
