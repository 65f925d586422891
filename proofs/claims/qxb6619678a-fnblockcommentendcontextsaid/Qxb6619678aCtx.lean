/-
  The plain mathematics of a comment's surroundings: no Go in sight.
-/
import Derived.Test.Qxb6619678aScan
namespace Go.Proofs.Qxb6619678a.Scan

theorem scanAt_around (p z q : List Int) (s : Nat) (d : Int) (hs : s ≤ z.length) : scanAt (p ++ z ++ q) (p.length + s) d = (scan (z.drop s ++ q) d).map (· + (p.length + s)) := by
  unfold scanAt
  rw [List.append_assoc, ← List.drop_drop, List.drop_left, List.drop_append_of_le_length hs]

theorem ctx_some (p z q : List Int) (s e : Nat) (hs : s ≤ z.length) (h : scanAt z s 0 = some e) : scanAt (p ++ z ++ q) (p.length + s) 0 = some (p.length + e) := by
  rw [scanAt_around p z q s 0 hs]
  unfold scanAt at h
  simp only [Option.map_eq_some_iff] at h
  obtain ⟨j, hj, rfl⟩ := h
  rw [scan_app _ _ _ q hj]
  simp; omega

theorem ctx_take (z : List Int) (s e : Nat) (h : scanAt z s 0 = some e) : scanAt (z.take e) s 0 = some e := by
  unfold scanAt at h ⊢
  simp only [Option.map_eq_some_iff] at h
  obtain ⟨j, hj, rfl⟩ := h
  rw [List.drop_take, show j + s - s = j by omega, scan_take _ _ _ hj]
  rfl

theorem ctx_none (p z q : List Int) (s e : Nat) (hs : s ≤ z.length) (h : scanAt z s 0 = none) (h2 : scanAt (p ++ z ++ q) (p.length + s) 0 = some e) : p.length + z.length < e := by
  rw [scanAt_around p z q s 0 hs] at h2
  unfold scanAt at h
  simp only [Option.map_eq_some_iff] at h2
  obtain ⟨j, hj, rfl⟩ := h2
  have := scan_past _ _ _ _ (by simpa using h) hj
  simp at this; omega

theorem ctx_closed (z : List Int) (s : Nat) (hs : s + 1 < z.length) (h0 : z.getD s 0 = 47) (h1 : z.getD (s + 1) 0 = 42) (h : scanAt z s 0 = none) :
    ∃ e, scanAt (z ++ 32 :: closers (z.length / 2 + 1)) s 0 = some e ∧ z.length + 3 ≤ e := by
  rw [scanAt_open z s 0 hs h0 h1] at h
  have h3 : scan (z.drop (s + 2)) 1 = none := by unfold scanAt at h; simpa using h
  obtain ⟨j, hj, hl⟩ := scan_closed (z.drop (s + 2)) 1 (z.length / 2 + 1) (by omega) (by simp; omega) h3
  refine ⟨j + (s + 2), ?_, by simp at hl; omega⟩
  rw [scanAt_open _ s 0 (by simp; omega)]
  · unfold scanAt
    rw [List.drop_append_of_le_length (by omega)]
    show (scan _ 1).map _ = _
    rw [hj]; rfl
  · rw [List.getD_eq_getElem?_getD, List.getElem?_append_left (by omega), ← List.getD_eq_getElem?_getD]; exact h0
  · rw [List.getD_eq_getElem?_getD, List.getElem?_append_left (by omega), ← List.getD_eq_getElem?_getD]; exact h1

end Go.Proofs.Qxb6619678a.Scan
