/-
  The plain mathematics of nested block comments: no Go in sight.
-/
namespace Go.Proofs.Qxb6619678a.Scan

/-- Reading from the head of 'l' at depth 'd': how many bytes are eaten till the closer that brings the depth to zero; none where the text ends first. -/
def scan : List Int → Int → Option Nat
  | a :: b :: r, d =>
    if a = 47 ∧ b = 42 then (scan r (d + 1)).map (· + 2)
    else if a = 42 ∧ b = 47 then (if d = 1 then some 2 else (scan r (d - 1)).map (· + 2))
    else (scan (b :: r) d).map (· + 1)
  | _, _ => none

theorem scan_nil (d : Int) : scan [] d = none := by rw [scan]; simp
theorem scan_one (a d : Int) : scan [a] d = none := by rw [scan]; simp
theorem scan_two (a b : Int) (r : List Int) (d : Int) : scan (a :: b :: r) d = if a = 47 ∧ b = 42 then (scan r (d + 1)).map (· + 2)
    else if a = 42 ∧ b = 47 then (if d = 1 then some 2 else (scan r (d - 1)).map (· + 2))
    else (scan (b :: r) d).map (· + 1) := by rw [scan]

theorem ind {P : List Int → Prop} (h0 : P []) (h1 : ∀ a, P [a]) (h2 : ∀ a b r, P r → P (b :: r) → P (a :: b :: r)) : ∀ l, P l := by
  have key : ∀ n, ∀ l : List Int, l.length ≤ n → P l := by
    intro n
    induction n with
    | zero => intro l hl; match l, hl with | [], _ => exact h0
    | succ n ih =>
      intro l hl
      match l, hl with
      | [], _ => exact h0
      | [a], _ => exact h1 a
      | a :: b :: r, hl => exact h2 a b r (ih r (by simp at hl; omega)) (ih (b :: r) (by simp at hl ⊢; omega))
  intro l
  exact key _ l (Nat.le_refl _)

/-- One depth more is one reading more. -/
theorem scan_succ : ∀ (l : List Int) (d : Int), 1 ≤ d → scan l (d + 1) = (scan l d).bind fun j => (scan (l.drop j) 1).map (· + j) := by
  intro l
  induction l using ind with
  | h0 => intro d _; simp [scan_nil]
  | h1 a => intro d _; simp [scan_one]
  | h2 a b r ih1 ih2 =>
    intro d hd
    rw [scan_two, scan_two]
    split
    · rw [ih1 (d + 1) (by omega)]
      cases scan r (d + 1) with
      | none => rfl
      | some j => simp; cases scan (r.drop j) 1 <;> simp [Nat.add_assoc]
    · split
      · rw [if_neg (by omega)]
        by_cases h1 : d = 1
        · subst h1; simp
        · rw [if_neg h1, show d + 1 - 1 = (d - 1) + 1 by omega, ih1 (d - 1) (by omega)]
          cases scan r (d - 1) with
          | none => rfl
          | some j => simp; cases scan (r.drop j) 1 <;> simp [Nat.add_assoc]
      · rw [ih2 d hd]
        cases scan (b :: r) d with
        | none => rfl
        | some j => simp; cases scan ((b :: r).drop j) 1 <;> simp [Nat.add_assoc]

/-- What is eaten lies within the text, and its last two bytes are the closer. -/
theorem scan_end : ∀ (l : List Int) (d : Int) (e : Nat), scan l d = some e → 2 ≤ e ∧ e ≤ l.length ∧ l.getD (e - 2) 0 = 42 ∧ l.getD (e - 1) 0 = 47 := by
  intro l
  induction l using ind with
  | h0 => intro d e h; simp [scan_nil] at h
  | h1 a => intro d e h; simp [scan_one] at h
  | h2 a b r ih1 ih2 =>
    intro d e h
    rw [scan_two] at h
    split at h
    · simp only [Option.map_eq_some_iff] at h
      obtain ⟨j, hj, rfl⟩ := h
      obtain ⟨p1, p2, p3, p4⟩ := ih1 _ _ hj
      refine ⟨by omega, by simp; omega, ?_, ?_⟩
      · rw [show j + 2 - 2 = (j - 2) + 2 by omega]; simpa using p3
      · rw [show j + 2 - 1 = (j - 1) + 2 by omega]; simpa using p4
    · split at h
      · rename_i hab
        split at h
        · simp at h; subst h; exact ⟨by omega, by simp, by simp [hab.1], by simp [hab.2]⟩
        · simp only [Option.map_eq_some_iff] at h
          obtain ⟨j, hj, rfl⟩ := h
          obtain ⟨p1, p2, p3, p4⟩ := ih1 _ _ hj
          refine ⟨by omega, by simp; omega, ?_, ?_⟩
          · rw [show j + 2 - 2 = (j - 2) + 2 by omega]; simpa using p3
          · rw [show j + 2 - 1 = (j - 1) + 2 by omega]; simpa using p4
      · simp only [Option.map_eq_some_iff] at h
        obtain ⟨j, hj, rfl⟩ := h
        obtain ⟨p1, p2, p3, p4⟩ := ih2 _ _ hj
        refine ⟨by omega, by simp at p2 ⊢; omega, ?_, ?_⟩
        · rw [show j + 1 - 2 = (j - 2) + 1 by omega]; simpa using p3
        · rw [show j + 1 - 1 = (j - 1) + 1 by omega]; simpa using p4

/-- More text behind does not move an end. -/
theorem scan_app : ∀ (l : List Int) (d : Int) (e : Nat) (p : List Int), scan l d = some e → scan (l ++ p) d = some e := by
  intro l
  induction l using ind with
  | h0 => intro d e p h; simp [scan_nil] at h
  | h1 a => intro d e p h; simp [scan_one] at h
  | h2 a b r ih1 ih2 =>
    intro d e p h
    rw [scan_two] at h
    simp only [List.cons_append]
    rw [scan_two]
    split at h
    · simp only [Option.map_eq_some_iff] at h
      obtain ⟨j, hj, rfl⟩ := h
      rw [if_pos ‹_›, ih1 _ _ _ hj]; rfl
    · rw [if_neg ‹_›]
      split at h
      · rw [if_pos ‹_›]
        split at h
        · rw [if_pos ‹_›]; exact h
        · rw [if_neg ‹_›]
          simp only [Option.map_eq_some_iff] at h
          obtain ⟨j, hj, rfl⟩ := h
          rw [ih1 _ _ _ hj]; rfl
      · rw [if_neg ‹_›]
        simp only [Option.map_eq_some_iff] at h
        obtain ⟨j, hj, rfl⟩ := h
        have := ih2 _ _ p hj
        simp only [List.cons_append] at this
        rw [this]; rfl

/-- The text cut at its end ends there. -/
theorem scan_take : ∀ (l : List Int) (d : Int) (e : Nat), scan l d = some e → scan (l.take e) d = some e := by
  intro l
  induction l using ind with
  | h0 => intro d e h; simp [scan_nil] at h
  | h1 a => intro d e h; simp [scan_one] at h
  | h2 a b r ih1 ih2 =>
    intro d e h
    rw [scan_two] at h
    split at h
    · simp only [Option.map_eq_some_iff] at h
      obtain ⟨j, hj, rfl⟩ := h
      simp only [List.take_succ_cons]
      rw [scan_two, if_pos ‹_›, ih1 _ _ hj]; rfl
    · split at h
      · split at h
        · simp at h; subst h
          simp only [List.take_succ_cons]
          rw [scan_two, if_neg ‹_›, if_pos ‹_›, if_pos ‹_›]
        · simp only [Option.map_eq_some_iff] at h
          obtain ⟨j, hj, rfl⟩ := h
          simp only [List.take_succ_cons]
          rw [scan_two, if_neg ‹_›, if_pos ‹_›, if_neg ‹_›, ih1 _ _ hj]; rfl
      · simp only [Option.map_eq_some_iff] at h
        obtain ⟨j, hj, rfl⟩ := h
        have h2 := (scan_end _ _ _ hj).1
        obtain ⟨i, rfl⟩ : ∃ i, j = i + 1 := ⟨j - 1, by omega⟩
        have h3 := ih2 _ _ hj
        simp only [List.take_succ_cons] at h3 ⊢
        rw [scan_two, if_neg ‹_›, if_neg ‹_›, h3]; rfl

/-- A text that does not end by itself ends, with more behind it, past itself. -/
theorem scan_past : ∀ (l : List Int) (d : Int) (p : List Int) (e : Nat), scan l d = none → scan (l ++ p) d = some e → l.length < e := by
  intro l
  induction l using ind with
  | h0 => intro d p e _ h; have := (scan_end _ _ _ h).1; simp; omega
  | h1 a => intro d p e _ h; have := (scan_end _ _ _ h).1; simp; omega
  | h2 a b r ih1 ih2 =>
    intro d p e hn h
    rw [scan_two] at hn
    simp only [List.cons_append] at h
    rw [scan_two] at h
    split at hn
    · rw [if_pos ‹_›] at h
      simp only [Option.map_eq_some_iff] at h
      obtain ⟨j, hj, rfl⟩ := h
      have := ih1 _ _ _ (by simpa using hn) hj
      simp; omega
    · rw [if_neg ‹_›] at h
      split at hn
      · rw [if_pos ‹_›] at h
        split at hn
        · simp at hn
        · rw [if_neg ‹_›] at h
          simp only [Option.map_eq_some_iff] at h
          obtain ⟨j, hj, rfl⟩ := h
          have := ih1 _ _ _ (by simpa using hn) hj
          simp; omega
      · rw [if_neg ‹_›] at h
        simp only [Option.map_eq_some_iff] at h
        obtain ⟨j, hj, rfl⟩ := h
        have := ih2 _ _ _ (by simpa using hn) hj
        simp at this ⊢; omega

/-- So many closers. -/
def closers : Nat → List Int
  | 0 => []
  | n + 1 => 42 :: 47 :: closers n
theorem closers_length (n : Nat) : (closers n).length = 2 * n := by
  induction n with
  | zero => rfl
  | succ n ih => simp [closers, ih]; omega
theorem closers_snoc (n : Nat) : closers (n + 1) = closers n ++ [42, 47] := by
  induction n with
  | zero => rfl
  | succ n ih => show 42 :: 47 :: closers (n + 1) = 42 :: 47 :: (closers n ++ [42, 47]); rw [ih]

theorem scan_closers : ∀ (n : Nat) (d : Int), 1 ≤ d → d ≤ n → ∃ e, scan (closers n) d = some e := by
  intro n
  induction n with
  | zero => intro d h1 h2; omega
  | succ n ih =>
    intro d h1 h2
    rw [closers, scan_two, if_neg (by omega), if_pos ⟨rfl, rfl⟩]
    by_cases h : d = 1
    · exact ⟨2, by rw [if_pos h]⟩
    · obtain ⟨e, he⟩ := ih (d - 1) (by omega) (by omega)
      exact ⟨e + 2, by rw [if_neg h, he]; rfl⟩

/-- A text that does not end by itself, followed by a space and closers enough, ends. -/
theorem scan_closed : ∀ (l : List Int) (d : Int) (n : Nat), 1 ≤ d → 2 * d + l.length ≤ 2 * n → scan l d = none → ∃ e, scan (l ++ 32 :: closers n) d = some e ∧ l.length + 3 ≤ e := by
  intro l
  induction l using ind with
  | h0 =>
    intro d n h1 h2 _
    obtain ⟨e, he⟩ := scan_closers n d h1 (by simp at h2; omega)
    match n, he with
    | 0, he => simp at h2; omega
    | n + 1, he =>
      refine ⟨e + 1, ?_, ?_⟩
      · show scan (32 :: 42 :: 47 :: closers n) d = _
        rw [scan_two, if_neg (by omega), if_neg (by omega)]
        rw [closers] at he
        rw [he]; rfl
      · have := (scan_end _ _ _ he).1; simp; omega
  | h1 a =>
    intro d n h1 h2 _
    obtain ⟨e, he⟩ := scan_closers n d h1 (by simp at h2; omega)
    match n, he with
    | 0, he => simp at h2; omega
    | n + 1, he =>
      refine ⟨e + 2, ?_, ?_⟩
      · show scan (a :: 32 :: 42 :: 47 :: closers n) d = _
        rw [scan_two, if_neg (by omega), if_neg (by omega), scan_two, if_neg (by omega), if_neg (by omega)]
        rw [closers] at he
        rw [he]; rfl
      · have := (scan_end _ _ _ he).1; simp; omega
  | h2 a b r ih1 ih2 =>
    intro d n h1 h2 hn
    rw [scan_two] at hn
    simp only [List.cons_append]
    rw [scan_two]
    simp only [List.length_cons] at h2
    split at hn
    · obtain ⟨e, he, hl⟩ := ih1 (d + 1) n (by omega) (by omega) (by simpa using hn)
      exact ⟨e + 2, by rw [if_pos ‹_›, he]; rfl, by simp; omega⟩
    · rw [if_neg ‹_›]
      split at hn
      · rw [if_pos ‹_›]
        split at hn
        · simp at hn
        · obtain ⟨e, he, hl⟩ := ih1 (d - 1) n (by omega) (by omega) (by simpa using hn)
          exact ⟨e + 2, by rw [if_neg ‹_›, he]; rfl, by simp; omega⟩
      · obtain ⟨e, he, hl⟩ := ih2 d n (by omega) (by simp; omega) (by simpa using hn)
        simp only [List.cons_append] at he
        exact ⟨e + 1, by rw [if_neg ‹_›, he]; rfl, by simp at hl ⊢; omega⟩

/-- The same at an offset of the whole text: the answer is an offset of the whole text. -/
def scanAt (z : List Int) (i : Nat) (d : Int) : Option Nat := (scan (z.drop i) d).map (· + i)

theorem drop_two (z : List Int) (i : Nat) (h : i + 1 < z.length) : z.drop i = z.getD i 0 :: z.getD (i + 1) 0 :: z.drop (i + 2) := by
  rw [List.drop_eq_getElem_cons (by omega), List.drop_eq_getElem_cons (by omega)]
  simp [List.getD_eq_getElem?_getD, List.getElem?_eq_getElem (show i < z.length by omega), List.getElem?_eq_getElem h]

theorem scanAt_open (z : List Int) (i : Nat) (d : Int) (h : i + 1 < z.length) (h1 : z.getD i 0 = 47) (h2 : z.getD (i + 1) 0 = 42) : scanAt z i d = scanAt z (i + 2) (d + 1) := by
  unfold scanAt
  rw [drop_two z i h, scan_two, if_pos ⟨h1, h2⟩]
  cases scan (z.drop (i + 2)) (d + 1) <;> simp [Nat.add_assoc, Nat.add_comm 2]

theorem scanAt_last (z : List Int) (i : Nat) (d : Int) (h : i + 1 < z.length) (h1 : z.getD i 0 = 42) (h2 : z.getD (i + 1) 0 = 47) (hd : d = 1) : scanAt z i d = some (i + 2) := by
  unfold scanAt
  rw [drop_two z i h, scan_two, if_neg (by omega), if_pos ⟨h1, h2⟩, if_pos hd]
  simp [Nat.add_comm]

theorem scanAt_close (z : List Int) (i : Nat) (d : Int) (h : i + 1 < z.length) (h1 : z.getD i 0 = 42) (h2 : z.getD (i + 1) 0 = 47) (hd : ¬ d = 1) : scanAt z i d = scanAt z (i + 2) (d - 1) := by
  unfold scanAt
  rw [drop_two z i h, scan_two, if_neg (by omega), if_pos ⟨h1, h2⟩, if_neg hd]
  cases scan (z.drop (i + 2)) (d - 1) <;> simp [Nat.add_assoc, Nat.add_comm 2]

theorem scanAt_skip (z : List Int) (i : Nat) (d : Int) (h : i + 1 < z.length) (h1 : ¬ (z.getD i 0 = 47 ∧ z.getD (i + 1) 0 = 42)) (h2 : ¬ (z.getD i 0 = 42 ∧ z.getD (i + 1) 0 = 47)) : scanAt z i d = scanAt z (i + 1) d := by
  have e : z.drop (i + 1) = z.getD (i + 1) 0 :: z.drop (i + 2) := by
    rw [List.drop_eq_getElem_cons h]; simp [List.getD_eq_getElem?_getD, List.getElem?_eq_getElem h]
  unfold scanAt
  rw [drop_two z i h, scan_two, if_neg h1, if_neg h2, e]
  cases scan (z.getD (i + 1) 0 :: z.drop (i + 2)) d <;> simp [Nat.add_assoc, Nat.add_comm 1]

theorem scanAt_over (z : List Int) (i : Nat) (d : Int) (h : ¬ i + 1 < z.length) : scanAt z i d = none := by
  unfold scanAt
  have : (z.drop i).length ≤ 1 := by simp; omega
  match hz : z.drop i, this with
  | [], _ => simp [scan_nil]
  | [a], _ => simp [scan_one]

/-- The inner comment is read whole, then the outer one goes on. -/
theorem scanAt_inner (z : List Int) (i : Nat) : scanAt z i 2 = (scanAt z i 1).bind fun j => scanAt z j 1 := by
  unfold scanAt
  rw [show (2 : Int) = 1 + 1 from rfl, scan_succ _ 1 (by omega)]
  cases scan (z.drop i) 1 with
  | none => rfl
  | some j =>
    simp only [Option.bind_some, Option.map_some, List.drop_drop]
    rw [Nat.add_comm i j]
    cases scan (z.drop (j + i)) 1 <;> simp [Nat.add_assoc]

theorem scanAt_end (z : List Int) (i : Nat) (d : Int) (e : Nat) (h : scanAt z i d = some e) : i + 2 ≤ e ∧ e ≤ z.length ∧ z.getD (e - 2) 0 = 42 ∧ z.getD (e - 1) 0 = 47 := by
  unfold scanAt at h
  simp only [Option.map_eq_some_iff] at h
  obtain ⟨j, hj, rfl⟩ := h
  obtain ⟨p1, p2, p3, p4⟩ := scan_end _ _ _ hj
  simp at p2
  simp only [List.getD_eq_getElem?_getD, List.getElem?_drop] at p3 p4 ⊢
  rw [show i + (j - 2) = j + i - 2 by omega] at p3
  rw [show i + (j - 1) = j + i - 1 by omega] at p4
  exact ⟨by omega, by omega, p3, p4⟩

end Go.Proofs.Qxb6619678a.Scan
