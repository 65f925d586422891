/-
  The plain mathematics of dropping one reader: no Go in sight.
-/
namespace Go.Proofs.Qxb6617417a.Plain

/-- The keys that stay, one reader of ts taken away. -/
def dK (ts : Int) : List Int → List Int → List Int
  | k :: K, c :: R => if k = ts then (if c - 1 = 0 then dK ts K R else k :: dK ts K R) else k :: dK ts K R
  | _, _ => []
/-- Their counts. -/
def dR (ts : Int) : List Int → List Int → List Int
  | k :: K, c :: R => if k = ts then (if c - 1 = 0 then dR ts K R else (c - 1) :: dR ts K R) else c :: dR ts K R
  | _, _ => []

theorem dK_nil (ts : Int) (R : List Int) : dK ts [] R = [] := by cases R <;> rfl
theorem dR_nil (ts : Int) (R : List Int) : dR ts [] R = [] := by cases R <;> rfl
theorem dK_cons (ts k c : Int) (K R : List Int) : dK ts (k :: K) (c :: R) = if k = ts then (if c - 1 = 0 then dK ts K R else k :: dK ts K R) else k :: dK ts K R := rfl
theorem dR_cons (ts k c : Int) (K R : List Int) : dR ts (k :: K) (c :: R) = if k = ts then (if c - 1 = 0 then dR ts K R else (c - 1) :: dR ts K R) else c :: dR ts K R := rfl

theorem dK_snoc (ts k c : Int) : ∀ (K R : List Int), K.length = R.length → dK ts (K ++ [k]) (R ++ [c]) = dK ts K R ++ dK ts [k] [c]
  | [], [], _ => by simp [dK_nil]
  | a :: K, b :: R, h => by
    have ih := dK_snoc ts k c K R (by simpa using h)
    simp only [List.cons_append, dK_cons ts a b]
    split
    · split
      · exact ih
      · rw [ih]; rfl
    · rw [ih]; rfl
theorem dR_snoc (ts k c : Int) : ∀ (K R : List Int), K.length = R.length → dR ts (K ++ [k]) (R ++ [c]) = dR ts K R ++ dR ts [k] [c]
  | [], [], _ => by simp [dR_nil]
  | a :: K, b :: R, h => by
    have ih := dR_snoc ts k c K R (by simpa using h)
    simp only [List.cons_append, dR_cons ts a b]
    split
    · split
      · exact ih
      · rw [ih]; rfl
    · rw [ih]; rfl
theorem d_length (ts : Int) : ∀ (K R : List Int), (dR ts K R).length = (dK ts K R).length ∧ (dK ts K R).length ≤ K.length
  | [], R => by simp [dK_nil, dR_nil]
  | a :: K, [] => by simp [dK, dR]
  | a :: K, b :: R => by
    have ih := d_length ts K R
    rw [dK_cons, dR_cons]
    split
    · split <;> (simp; omega)
    · simp; omega

/-- After one round more. -/
def oneK (ts k c : Int) : List Int := dK ts [k] [c]
def oneR (ts k c : Int) : List Int := dR ts [k] [c]
theorem one_keep (ts k c : Int) (h : k ≠ ts) : oneK ts k c = [k] ∧ oneR ts k c = [c] := by simp [oneK, oneR, dK, dR, h]
theorem one_less (ts k c : Int) (h : k = ts) (hc : ¬ c - 1 = 0) : oneK ts k c = [k] ∧ oneR ts k c = [c - 1] := by simp [oneK, oneR, dK, dR, h, hc]
theorem one_gone (ts k c : Int) (h : k = ts) (hc : c - 1 = 0) : oneK ts k c = [] ∧ oneR ts k c = [] := by simp [oneK, oneR, dK, dR, h, hc]
theorem take_snoc (z : List Int) (i : Nat) (h : i < z.length) : z.take (i + 1) = z.take i ++ [z.getD i 0] := by
  rw [List.take_succ_eq_append_getElem h]; simp [List.getD_eq_getElem?_getD, List.getElem?_eq_getElem h]
theorem dK_step (ts : Int) (K R : List Int) (i : Nat) (hK : i < K.length) (hR : i < R.length) : dK ts (K.take (i + 1)) (R.take (i + 1)) = dK ts (K.take i) (R.take i) ++ oneK ts (K.getD i 0) (R.getD i 0) := by
  rw [take_snoc K i hK, take_snoc R i hR, dK_snoc _ _ _ _ _ (by simp; omega)]; rfl
theorem dR_step (ts : Int) (K R : List Int) (i : Nat) (hK : i < K.length) (hR : i < R.length) : dR ts (K.take (i + 1)) (R.take (i + 1)) = dR ts (K.take i) (R.take i) ++ oneR ts (K.getD i 0) (R.getD i 0) := by
  rw [take_snoc K i hK, take_snoc R i hR, dR_snoc _ _ _ _ _ (by simp; omega)]; rfl

theorem d_absent (ts : Int) : ∀ (K R : List Int), K.length = R.length → (∀ k ∈ K, k ≠ ts) → dK ts K R = K ∧ dR ts K R = R
  | [], [], _, _ => ⟨rfl, rfl⟩
  | a :: K, b :: R, h, hn => by
    obtain ⟨i1, i2⟩ := d_absent ts K R (by simpa using h) (fun k hk => hn k (by simp [hk]))
    have ha : ¬ a = ts := hn a (by simp)
    rw [dK_cons, dR_cons, if_neg ha, if_neg ha, i1, i2]
    exact ⟨rfl, rfl⟩

/-- The one key taken: its count lowered, or it leaves. -/
theorem d_at (ts : Int) : ∀ (K R : List Int) (i : Nat), K.length = R.length → i < K.length → K.getD i 0 = ts → (∀ j, j < K.length → j ≠ i → K.getD j 0 ≠ ts) →
    (R.getD i 0 ≠ 1 → dK ts K R = K ∧ dR ts K R = R.set i (R.getD i 0 - 1)) ∧ (R.getD i 0 = 1 → dK ts K R = K.eraseIdx i ∧ dR ts K R = R.eraseIdx i)
  | [], _, i, _, h, _, _ => by simp at h
  | a :: K, [], i, h, _, _, _ => by simp at h
  | a :: K, b :: R, 0, h, hi, ha, hn => by
    simp at ha
    have hab : ∀ k ∈ K, k ≠ ts := fun k hk => by
      obtain ⟨j, hj, rfl⟩ := List.getElem_of_mem hk
      have := hn (j + 1) (by simp; omega) (by omega)
      simpa [List.getElem?_eq_getElem hj] using this
    obtain ⟨i1, i2⟩ := d_absent ts K R (by simpa using h) hab
    rw [dK_cons, dR_cons, if_pos ha, if_pos ha, i1, i2]
    refine ⟨fun hb => ?_, fun hb => ?_⟩
    · have hb' : ¬ b - 1 = 0 := by simp at hb; omega
      rw [if_neg hb', if_neg hb']; simp
    · have hb' : b - 1 = 0 := by simp at hb; omega
      rw [if_pos hb', if_pos hb']; simp
  | a :: K, b :: R, i + 1, h, hi, ha, hn => by
    have hne : ¬ a = ts := by simpa using hn 0 (by simp) (by omega)
    obtain ⟨i1, i2⟩ := d_at ts K R i (by simpa using h) (by simpa using hi) (by simpa using ha) (fun j hj hji => by simpa using hn (j + 1) (by simpa using hj) (by omega))
    rw [dK_cons, dR_cons, if_neg hne, if_neg hne]
    refine ⟨fun hb => ?_, fun hb => ?_⟩
    · obtain ⟨p, q⟩ := i1 (by simpa using hb)
      rw [p, q]; simp
    · obtain ⟨p, q⟩ := i2 (by simpa using hb)
      rw [p, q]; simp

end Go.Proofs.Qxb6617417a.Plain
