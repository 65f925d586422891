/-
  The proof of 'Rows.FnAppendUUIDOrderFollowsBytesSaid': the frame after the kit's own shell of a law over slices; the arrays are opened by our own small lemma.
-/
import Derived.Test.Qxb6623418aRows
import Derived.WalkKit
import Derived.ProofKit
import Derived.OpenShut
import Derived.ShutString
import Derived.ChangeOld
import Derived.Below
import Derived.Test.Qxb6623418aMain
namespace Go.Proofs.Qxb6623418a.fnAppendUUIDOrderFollowsBytes
open Go.ChangeShapes Go.WideShapes Go.ChangeAt Go.RowKit
set_option linter.unusedVariables false

theorem own : ownKnob Try.prog.godebug = none := by kernel_rfl
theorem laidOut : laidOutB Try.prog = true := by kernel_rfl
theorem cells5 : Try.prog.cellsOf 5 = 1 := by kernel_rfl
theorem cells23 : Try.prog.cellsOf 23 = 16 := by kernel_rfl

/-- What the walk is told of a slice of integers that came in: it is nil; or it leads to a row of 'cap' cells. -/
def IsRow (k : IntKind) (w : World) (a : Option Addr) (len cap : Nat) (zs : List Int) : Prop :=
  (a = none ∧ len = 0 ∧ cap = 0 ∧ zs = []) ∨
  ∃ x, a = some x ∧ len ≤ cap ∧ cap ≤ maxLen ∧ zs.length = cap ∧ (∀ i, i < zs.length → w.cell? (x.add i) = some (.int k (zs.getD i 0))) ∧ ∀ n ∈ zs, (Lit.int k n).wf = true

theorem came_len {w : World} {a : Option Addr} {len cap : Nat} {zs : List Int} (h : IsRow .u8 w a len cap zs) : len ≤ maxLen := by
  rcases h with ⟨_, rfl, _, _⟩ | ⟨x, _, hl, hm, _⟩
  · exact Nat.zero_le _
  · omega
theorem came_of {w : World} {a : Option Addr} {len cap : Nat} {zs : List Int} (h : IsRow .u8 w a len cap zs) : Came w a len cap (zs.take len) := by
  rcases h with ⟨rfl, rfl, rfl, rfl⟩ | ⟨x, rfl, hl, hm, hz, hcell, hwf⟩
  · exact ⟨rfl, fun _ => ⟨rfl, rfl⟩, fun ad h => by cases h⟩
  · refine ⟨by simp; omega, fun h => by (cases h), fun ad had j u hu => ?_⟩
    obtain rfl := Option.some.inj had
    have hj : j < (cellsOf (zs.take len)).length := (List.getElem?_eq_some_iff.1 hu).1
    simp [cellsOf] at hj
    have h1 : j < len := by omega
    have h2 : j < zs.length := by omega
    rw [hcell j h2, ← hu]
    simp [cellsOf, h1, h2]

theorem okWide_array {w : World} {r : Reach} {base : Nat} {t e : TypeId} {n : Nat} {v : Value} {P : Program} (ht : P.underlying t = some (.array n e)) (h : Value.okWide P w r base t v) : ∃ cs, v = .agg cs := by
  unfold Value.okWide at h
  rw [ht] at h
  cases v <;> simp_all

theorem arr_open {H : Type} {enc : TypeId × Value → H} {W : World} {base fuel : Nat} {sp : Nat → Bool} {held : Bool} {cs : List Value} {x : DataW H × List MemPlace} (h : DataW.trod enc Try.prog W base sp held fuel 23 cs = some x) :
    ∃ u : List Int, u.length = 16 ∧ cs = cellsOf u := by
  obtain ⟨xs, m, _, _, hl, hx, hi⟩ := DataW.trod_array Try.underlying23 h
  rw [cells23] at hl
  simp only [cells5, Nat.mul_one] at hi
  have key : ∀ v ∈ cs, ∃ n, v = .int .u8 n := by
    intro v hv
    obtain ⟨i, hi', rfl⟩ := List.getElem_of_mem hv
    have h1 := hi i (by omega)
    rw [List.getElem?_eq_getElem (by omega)] at h1
    obtain ⟨a, e0, _, _⟩ := DataW.trod_int Try.underlying5 h1
    rw [List.drop_eq_getElem_cons hi'] at e0
    simp only [List.take_succ_cons, List.take_zero, List.cons.injEq, and_true] at e0
    exact ⟨a, e0⟩
  refine ⟨cs.map intOf, by simpa using hl, ?_⟩
  unfold cellsOf
  rw [List.map_map]
  conv => lhs; rw [← List.map_id cs]
  apply List.map_congr_left
  intro v hv
  obtain ⟨n, rfl⟩ := key v hv
  rfl

theorem walk (a0 : Option Addr) (len0 cap0 : Nat) (z0 : List Int) (u v : List Int) (w : World) (w0 : IsRow .u8 w a0 len0 cap0 z0) (hu : u.length = 16) (hv : v.length = 16) :
    Calls Try.prog 3 #[.slice a0 len0 cap0, .agg (arrOf u), .agg (arrOf v)] w fun e w' => e = .returned (.bool true) ∧ Below w.heap.size w w' := by
  by_cases h : len0 ≤ 1048576
  · exact main_any a0 len0 cap0 (z0.take len0) u v w hu hv h (came_of w0)
  · exact main_early a0 len0 cap0 u v w hu hv (by omega) (came_len w0)

set_option maxRecDepth 100000 in
theorem lifted (os : Os) (started : os.Started) (H : Type) (enc : TypeId × Value → H) :
    ReturnsInHanded {} Try.checked os 3 .any (Rows.fnAppendUUIDOrderFollowsBytesSpec.pre6 enc Try.prog Try.f3 Rows.fnAppendUUIDOrderFollowsBytesRow.domain false) (Rows.fnAppendUUIDOrderFollowsBytesSpec.post enc Try.prog Try.f3 false true false false) := by
  refine returnsInHanded_of_change (C := Try.checked) own started (by kernel_rfl) Try.func3
    (ChangeSpec.witness6 (enc := enc) (C := Try.checked) false ⟨#[], #[.slice none 0 0, .agg (Array.replicate 16 (.int .u8 0)), .agg (Array.replicate 16 (.int .u8 0))], []⟩ 8 (by kernel_rfl) (by kernel_rfl) (by kernel_rfl) (by kernel_rfl)) ?_
  intro W base args ds gs before hval0 hW hcnd _
  have hval : ∀ (j : Nat) t v, Try.f3.params[j]? = some t → args[j]? = some v → Value.okWide Try.prog W .any base t v := hval0
  have hW' := hW
  obtain ⟨p, q, hA0, hV, rfl, hfz, hnd⟩ := hW
  have hA : DataW.TrodAll enc Try.prog W 0 (fun _ => true) true Try.f3.params.toList args.toList ds p := hA0
  rw [Try.params3] at hA hval
  obtain ⟨v0, vs0, d0, ds0, p0, q0, hargs, rfl, rfl, h0, r0⟩ := trodAll_cons hA
  obtain ⟨v1, vs1, d1, ds1, p1, q1, rfl, rfl, rfl, h1, r1⟩ := trodAll_cons r0
  obtain ⟨v2, vs2, d2, ds2, p2, q2, rfl, rfl, rfl, h2, r2⟩ := trodAll_cons r1
  obtain ⟨rfl, rfl, rfl⟩ := trodAll_nil r2
  obtain rfl : args = #[v0, v1, v2] := by cases args; simp_all
  obtain ⟨rfl, rfl⟩ := trodVars_none hV
  obtain ⟨a0, len0, cap0, rfl⟩ := okWide_slice Try.underlying22 (hval 0 22 v0 rfl rfl)
  have k0 := h0
  have lt0 : ∀ x ∈ p0, x.block < W.heap.size := by obtain ⟨m, hm⟩ := k0; exact DataW.trod_lt m _ _ _ hm
  obtain ⟨z0, w0⟩ : ∃ zs, IsRow .u8 W a0 len0 cap0 zs := by
    obtain ⟨fuel, hf⟩ := h0
    rcases open_ints Try.underlying22 Try.underlying5 (by kernel_rfl) hf with ⟨hcs, _⟩ | ⟨x, l, c, zs, hcs, _, hl, hm, hz, _, hcell, hwz⟩
    · simp [Value.cells] at hcs
      obtain ⟨rfl, rfl, rfl⟩ := hcs
      exact ⟨[], .inl ⟨rfl, rfl, rfl, rfl⟩⟩
    · simp [Value.cells] at hcs
      obtain ⟨rfl, rfl, rfl⟩ := hcs
      exact ⟨zs, .inr ⟨_, rfl, hl, hm, by simpa using hz, hcell, hwz⟩⟩
  obtain ⟨cs1, rfl⟩ := okWide_array Try.underlying23 (hval 1 23 v1 rfl rfl)
  have k1 := h1
  have lt1 : ∀ x ∈ p1, x.block < W.heap.size := by obtain ⟨m, hm⟩ := k1; exact DataW.trod_lt m _ _ _ hm
  obtain ⟨u, hu, rfl⟩ : ∃ u : List Int, u.length = 16 ∧ cs1 = arrOf u := by
    obtain ⟨fuel, hf⟩ := h1
    obtain ⟨u, hu, e⟩ := arr_open hf
    exact ⟨u, hu, by unfold arrOf; rw [← e]; simp [Value.cells]⟩
  obtain ⟨cs2, rfl⟩ := okWide_array Try.underlying23 (hval 2 23 v2 rfl rfl)
  have k2 := h2
  have lt2 : ∀ x ∈ p2, x.block < W.heap.size := by obtain ⟨m, hm⟩ := k2; exact DataW.trod_lt m _ _ _ hm
  obtain ⟨v, hv, rfl⟩ : ∃ u : List Int, u.length = 16 ∧ cs2 = arrOf u := by
    obtain ⟨fuel, hf⟩ := h2
    obtain ⟨u, hu, e⟩ := arr_open hf
    exact ⟨u, hu, by unfold arrOf; rw [← e]; simp [Value.cells]⟩
  clear hA0 hval0
  refine (walk a0 len0 cap0 z0 u v W w0 hu hv).mono fun e W' ⟨he, bel⟩ => ?_
  subst he
  exact ⟨_, rfl, _, _, _, [], _, [], hW', trodAll_mk1 (shut_bool Try.underlying4 _), (trodAll_cons_mk (Below.trod laidOut (by kernel_rfl) (of_decide_eq_true (by kernel_rfl)) k0 bel lt0) (trodAll_cons_mk (Below.trod laidOut (by kernel_rfl) (of_decide_eq_true (by kernel_rfl)) k1 bel lt1) (trodAll_cons_mk (Below.trod laidOut (by kernel_rfl) (of_decide_eq_true (by kernel_rfl)) k2 bel lt2) trodAll_mk0))), rfl, bel.frame _, fun h => by cases h⟩

theorem over : Rows.fnAppendUUIDOrderFollowsBytesRow.holds Try.pinned (OpenSpec.ofChange Rows.fnAppendUUIDOrderFollowsBytesSpec) :=
  OpenClaim.holds_of_wide 3 Try.f3 rfl rfl rfl rfl rfl rfl rfl ⟨rfl, rfl, rfl, rfl, rfl⟩ rfl rfl rfl rfl rfl (by kernel_rfl) Try.func3 (by kernel_rfl)
    (of_decide_eq_true (by kernel_rfl)) (by unfold Func.isWrapper; first | (rw [if_pos (by decide +kernel)]; kernel_rfl) | (rw [if_neg (by decide +kernel)]; exact ⟨rfl, rfl⟩))
    (fun os started H enc _ => lifted os started H enc)

theorem proved : Rows.FnAppendUUIDOrderFollowsBytesSaid := over
end Go.Proofs.Qxb6623418a.fnAppendUUIDOrderFollowsBytes
