/-
  The plain mathematics of comparing byte by byte: no Go in sight.
-/
namespace Go.Proofs.Qxb6623418a.Cmp

/-- Compare byte by byte; a shorter text that is a beginning of the other comes first. -/
def cmp : List Int → List Int → Int
  | a :: x, b :: y => if a < b then -1 else if b < a then 1 else cmp x y
  | [], [] => 0
  | [], _ :: _ => -1
  | _ :: _, [] => 1

theorem cmp_same (p x y : List Int) : cmp (p ++ x) (p ++ y) = cmp x y := by
  induction p with
  | nil => rfl
  | cons a p ih => simp [cmp, ih]

theorem cmp_packed (p u v : List Int) : cmp (p ++ (48 :: u)) (p ++ (48 :: v)) = cmp u v := by
  rw [cmp_same]; simp [cmp]

theorem drop_one (z : List Int) (k : Nat) (h : k < z.length) : z.drop k = z.getD k 0 :: z.drop (k + 1) := by
  rw [List.drop_eq_getElem_cons h]
  simp [List.getD_eq_getElem?_getD, List.getElem?_eq_getElem h]

theorem cmp_less (x y : List Int) (k : Nat) (hx : k < x.length) (hy : k < y.length) (h : x.getD k 0 < y.getD k 0) : cmp (x.drop k) (y.drop k) = -1 := by
  rw [drop_one x k hx, drop_one y k hy, cmp, if_pos h]
theorem cmp_more (x y : List Int) (k : Nat) (hx : k < x.length) (hy : k < y.length) (h : y.getD k 0 < x.getD k 0) : cmp (x.drop k) (y.drop k) = 1 := by
  rw [drop_one x k hx, drop_one y k hy, cmp, if_neg (by omega), if_pos h]
theorem cmp_step (x y : List Int) (k : Nat) (hx : k < x.length) (hy : k < y.length) (h1 : ¬ x.getD k 0 < y.getD k 0) (h2 : ¬ y.getD k 0 < x.getD k 0) : cmp (x.drop k) (y.drop k) = cmp (x.drop (k + 1)) (y.drop (k + 1)) := by
  rw [drop_one x k hx, drop_one y k hy, cmp, if_neg h1, if_neg h2]
theorem cmp_end (x y : List Int) (k : Nat) (hx : k = x.length) (hy : k = y.length) : cmp (x.drop k) (y.drop k) = 0 := by
  rw [List.drop_of_length_le (by omega), List.drop_of_length_le (by omega), cmp]

end Go.Proofs.Qxb6623418a.Cmp
