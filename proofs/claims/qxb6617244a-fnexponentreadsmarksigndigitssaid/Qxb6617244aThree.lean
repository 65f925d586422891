/-
  The three readings of the law 'FnExponentReadsMarkSignDigits', each out of the walk of 'exponent' and plain facts on lists.
-/
import Derived.Test.Qxb6617244aCat
namespace Go.Proofs.Qxb6617244a
open Go.RowKit
set_option linter.unusedVariables false

theorem at_app (a b : List Int) (k : Nat) : (a ++ b)[a.length + k]?.getD 0 = b[k]?.getD 0 := by
  rw [List.getElem?_append_right (by omega), Nat.add_sub_cancel_left]
theorem at_app' (a b : List Int) (i k : Nat) (h : i = a.length + k) : (a ++ b)[i]?.getD 0 = b[k]?.getD 0 := by rw [h]; exact at_app a b k
theorem at_low (a b : List Int) (k : Nat) (h : k < a.length) : (a ++ b)[k]?.getD 0 = a[k]?.getD 0 := by
  rw [List.getElem?_append_left h]

theorem or_lower : ∀ n : Fin 26, bits .or .u8 (97 + (n.val : Int)) 32 = 97 + (n.val : Int) := by decide
theorem or_upper : ∀ n : Fin 26, bits .or .u8 (65 + (n.val : Int)) 32 = 97 + (n.val : Int) := by decide
theorem or_digit : ∀ n : Fin 10, bits .or .u8 (48 + (n.val : Int)) 32 = 48 + (n.val : Int) := by decide
theorem or_plus : bits .or .u8 43 32 = 43 := by decide
theorem or_minus : bits .or .u8 45 32 = 45 := by decide
/-- The mark in either case is the mark. -/
theorem or_mark (mark m : Int) (h1 : 97 ≤ mark) (h2 : mark ≤ 122) (hm : m = mark ∨ m = mark - 32) : (bits .or .u8 m 32 != mark) = false := by
  obtain ⟨n, hn⟩ : ∃ n : Fin 26, mark = 97 + (n.val : Int) := ⟨⟨(mark - 97).toNat, by omega⟩, by simp; omega⟩
  rcases hm with rfl | rfl
  · rw [hn, or_lower n]; simp
  · rw [hn, show (97 : Int) + (n.val : Int) - 32 = 65 + (n.val : Int) by omega, or_upper n]; simp
/-- A sign or a digit is no mark. -/
theorem or_other (mark c : Int) (h1 : 97 ≤ mark) (hc : c = 43 ∨ c = 45 ∨ (48 ≤ c ∧ c ≤ 57)) : (bits .or .u8 c 32 != mark) = true := by
  rcases hc with rfl | rfl | ⟨a, b⟩
  · rw [or_plus]; simp; omega
  · rw [or_minus]; simp; omega
  · obtain ⟨n, hn⟩ : ∃ n : Fin 10, c = 48 + (n.val : Int) := ⟨⟨(c - 48).toNat, by omega⟩, by simp; omega⟩
    rw [hn, or_digit n]; simp; omega

/-- What the law has asked of its sign, digits and rest. -/
def SignOk (g : List Int) : Prop := g = [] ∨ ∃ c, g = [c] ∧ (c = 43 ∨ c = 45)
def DigitsOk (d : List Int) : Prop := 0 < d.length ∧ ∀ k, k < d.length → (48 : Int) ≤ d[k]?.getD 0 ∧ d[k]?.getD 0 ≤ 57
def RestOk (s : List Int) : Prop := 0 < s.length → ¬ s[0]?.getD 0 = 43 ∧ ¬ s[0]?.getD 0 = 45 ∧ (s[0]?.getD 0 < (48 : Int) ∨ ((48 : Int) ≤ s[0]?.getD 0 ∧ (57 : Int) < s[0]?.getD 0))

section
variable (p g d s : List Int) (m mark : Int) (W : World) (h1 : 97 ≤ mark) (h2 : mark ≤ 122) (hm : m = mark ∨ m = mark - 32) (hg : SignOk g) (hd : DigitsOk d) (hs : RestOk s)

theorem read_full (b N c lp lg ld : Nat) (hlp : p.length = lp) (hlg : g.length = lg) (hld : d.length = ld) (hN : N ≤ 1099511627776) (h1 : 97 ≤ mark) (h2 : mark ≤ 122) (hm : m = mark ∨ m = mark - 32) (hg : SignOk g) (hd : DigitsOk d) (hs : RestOk s)
    (hC : Came W (some ⟨b, 0, none⟩) N c (p ++ [m] ++ g ++ d ++ s)) :
    Calls Try.prog 16 #[.slice (some ⟨b, 0, none⟩) N c, .int .i64 lp, .int .u8 mark] W fun e w' => e = .returned (.int .i64 ((lp : Int) + 1 + lg + ld)) ∧ W = w' := by
  subst hlp hlg hld
  apply zz_of
  have hlen := hC.1
  have hcell := hC.reads
  have e0 : (p ++ [m] ++ g ++ d ++ s)[p.length]?.getD 0 = m := by
    simp
  have hor : (bits .or .u8 ((p ++ [m] ++ g ++ d ++ s)[p.length]?.getD 0) 32 != mark) = false := by rw [e0]; exact or_mark mark m h1 h2 hm
  have eD : ∀ k, k < d.length → (p ++ [m] ++ g ++ d ++ s)[p.length + 1 + g.length + k]?.getD 0 = d[k]?.getD 0 := fun k hk => by
    rw [List.append_assoc (p ++ [m] ++ g) d s, at_app' (p ++ [m] ++ g) (d ++ s) _ k (by simp; omega), at_low d s k hk]
  have eS : (p ++ [m] ++ g ++ d ++ s)[p.length + 1 + g.length + d.length]?.getD 0 = s[0]?.getD 0 := by
    exact at_app' (p ++ [m] ++ g ++ d) s _ 0 (by simp; omega)
  simp only [List.length_append, List.length_cons, List.length_nil] at hlen
  have hd0 := hd.1
  have key := exp_full b N c (p ++ [m] ++ g ++ d ++ s) p.length (p.length + 1 + g.length) (p.length + 1 + g.length + d.length) mark W hN (by omega) (by omega) hcell hor
    (by
      rcases hg with rfl | ⟨q, rfl, hq⟩
      · exact .inl (by simp)
      · refine .inr ⟨by simp, ?_⟩
        have e1 : (p ++ [m] ++ [q] ++ d ++ s)[p.length + 1]?.getD 0 = q := by simp
        rw [e1]; exact hq)
    (fun k ha hb => by
      obtain ⟨t, rfl⟩ : ∃ t, k = p.length + 1 + g.length + t := ⟨k - (p.length + 1 + g.length), by omega⟩
      rw [eD t (by omega)]; exact hd.2 t (by omega))
    (fun h => by rw [eS]; exact (hs (by omega)).2.2)
  rw [show (p.length : Int) + 1 + g.length + d.length = ((p.length + 1 + g.length + d.length : Nat) : Int) by omega]
  exact key

theorem read_none (b N c lp : Nat) (hlp : p.length = lp) (hN : N ≤ 1099511627776) (h1 : 97 ≤ mark) (h2 : mark ≤ 122) (hm : m = mark ∨ m = mark - 32) (hg : SignOk g) (hs : RestOk s)
    (hC : Came W (some ⟨b, 0, none⟩) N c (p ++ [m] ++ g ++ s)) :
    Calls Try.prog 16 #[.slice (some ⟨b, 0, none⟩) N c, .int .i64 lp, .int .u8 mark] W fun e w' => e = .returned (.int .i64 lp) ∧ W = w' := by
  subst hlp
  apply zz_of
  have hlen := hC.1
  have hcell := hC.reads
  have e0 : (p ++ [m] ++ g ++ s)[p.length]?.getD 0 = m := by
    simp
  have hor : (bits .or .u8 ((p ++ [m] ++ g ++ s)[p.length]?.getD 0) 32 != mark) = false := by rw [e0]; exact or_mark mark m h1 h2 hm
  have eS : (p ++ [m] ++ g ++ s)[p.length + 1 + g.length]?.getD 0 = s[0]?.getD 0 := by
    exact at_app' (p ++ [m] ++ g) s _ 0 (by simp; omega)
  simp only [List.length_append, List.length_cons, List.length_nil] at hlen
  rcases hg with rfl | ⟨q, rfl, hq⟩
  · simp only [List.length_nil, Nat.add_zero] at eS hlen
    refine exp_none b N c _ p.length mark W hN (by omega) hcell hor (fun h => ?_)
    rw [eS]; exact hs (by omega)
  · simp only [List.length_cons, List.length_nil, Nat.zero_add] at eS hlen
    have e1 : (p ++ [m] ++ [q] ++ s)[p.length + 1]?.getD 0 = q := by
      simp
    refine exp_sign_none b N c _ p.length mark W hN (by omega) hcell hor (by rw [e1]; exact hq) (fun h => ?_)
    rw [show p.length + 2 = p.length + 1 + 1 by omega, eS]; exact (hs (by omega)).2.2

theorem read_nomark (b N c lp : Nat) (hlp : p.length = lp) (hN : N ≤ 1099511627776) (h1 : 97 ≤ mark) (hg : SignOk g) (hd : DigitsOk d)
    (hC : Came W (some ⟨b, 0, none⟩) N c (p ++ g ++ d ++ s)) :
    Calls Try.prog 16 #[.slice (some ⟨b, 0, none⟩) N c, .int .i64 lp, .int .u8 mark] W fun e w' => e = .returned (.int .i64 lp) ∧ W = w' := by
  subst hlp
  apply zz_of
  have hlen := hC.1
  have hcell := hC.reads
  have hd0 := hd.1
  simp only [List.length_append] at hlen
  refine exp_nomark b N c _ p.length mark W hN (by omega) hcell (or_other mark _ h1 ?_)
  rcases hg with rfl | ⟨q, rfl, hq⟩
  · have e0 : (p ++ [] ++ d ++ s)[p.length]?.getD 0 = d[0]?.getD 0 := by
      have := at_app p (d ++ s) 0
      rw [at_low d s 0 hd0] at this
      simpa using this
    rw [e0]; exact .inr (.inr (hd.2 0 hd0))
  · have e0 : (p ++ [q] ++ d ++ s)[p.length]?.getD 0 = q := by
      simp
    rw [e0]
    rcases hq with h | h
    · exact .inl h
    · exact .inr (.inl h)
end
end Go.Proofs.Qxb6617244a
