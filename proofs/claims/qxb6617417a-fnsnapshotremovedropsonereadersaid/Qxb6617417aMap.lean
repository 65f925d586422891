/-
  A map from uint64 keys to pointers, as a function from keys to block numbers: out of the kit's laws on maps that a call owns, at a reader of elements of our own.
-/
import Derived.Test.Qxb6617417aRows
import Derived.WalkKit
import Derived.ProofKit
import Derived.WalkSpells
import Derived.Below
import Derived.Maps.OwnSet
import Derived.Maps.OwnOps
import Derived.Deep.QuietTactic
import Derived.BigQuiet
namespace Go.Proofs.Qxb6617417a
open Go.RowKit Go.Maps
set_option linter.unusedVariables false

theorem Try.law : Keyed Try.prog 24 := int_keyed Try.underlying24
theorem Try.zero44 (w : World) : (zeroValue 44).run Try.prog w = .ok (.pointer none) w := by kernel_rfl

/-- How an element reads: nil, or the number of the block that it points to. -/
def ptrElem : Value → Option (DataW Unit × List MemPlace)
  | .pointer none => some (.nil, [])
  | .pointer (some ⟨b, 0, none⟩) => some (.lit (.int .u64 (b : Int)), [])
  | _ => none
def ptrD : Option Nat → DataW Unit
  | none => .nil
  | some b => .lit (.int .u64 (b : Int))
def ptrV : Option Nat → Value
  | none => .pointer none
  | some b => .pointer (some ⟨b, 0, none⟩)
theorem ptrElem_inv {v : Value} {o : Option Nat} {ps : List MemPlace} (h : ptrElem v = some (ptrD o, ps)) : v = ptrV o := by
  unfold ptrElem at h
  split at h
  · cases o with
    | none => rfl
    | some b => simp [ptrD] at h
  · cases o with
    | none => simp [ptrD] at h
    | some b =>
      simp [ptrD] at h
      obtain ⟨h, _⟩ := h
      obtain rfl := Int.ofNat.inj h
      rfl
  · cases h

def KeyOk (k : Int) : Prop := (Lit.int .u64 k).wf = true
def upd (f : Int → Option Nat) (k : Int) (o : Option Nat) : Int → Option Nat := fun x => if x = k then o else f x
theorem upd_same (f : Int → Option Nat) (k : Int) (o : Option Nat) : upd f k o k = o := by simp [upd]
theorem upd_other (f : Int → Option Nat) (k x : Int) (o : Option Nat) (h : x ≠ k) : upd f k o x = f x := by simp [upd, h]

/-- Block bm is a map of at most n entries, c of them there; at key k it leads to block f k. -/
def MapIs (w : World) (bm n : Nat) (f : Int → Option Nat) (c : Nat) : Prop :=
  ∃ D, w.ownsMap Try.prog 24 ptrElem bm n D ∧ (∀ k, KeyOk k → D.atKey (.int .u64 k) .nil = ptrD (f k)) ∧ (∀ k, KeyOk k → Maps.has D (.int .u64 k) = (f k).isSome) ∧ Maps.size D = c

theorem MapIs.made (w : World) : MapIs (w.alloc (.map #[] 0)) w.heap.size 0 (fun _ => none) 0 :=
  ⟨.map [], World.ownsMap_made _ _ _ _, fun _ _ => rfl, fun _ _ => rfl, rfl⟩
section
variable {w w' : World} {bm n c : Nat} {f : Int → Option Nat} {k : Int}
theorem MapIs.kept {row : Option Nat} (h : MapIs w bm n f c) (hg : w.grownBy w' row) (hne : some bm ≠ row) : MapIs w' bm n f c :=
  let ⟨D, h1, h2⟩ := h
  ⟨D, h1.kept hg hne, h2⟩
theorem MapIs.alloc (h : MapIs w bm n f c) (o : Obj) : MapIs (w.alloc o) bm n f c := h.kept (World.grownBy_alloc w o none) (by simp)
theorem MapIs.drewN (h : MapIs w bm n f c) (m : Nat) : MapIs (w.drewN m) bm n f c := h
theorem MapIs.drew (h : MapIs w bm n f c) : MapIs w.drew bm n f c := h
theorem MapIs.lt (h : MapIs w bm n f c) : bm < w.heap.size := let ⟨_, h1, _⟩ := h; h1.lt
theorem MapIs.setCell (h : MapIs w bm n f c) {a : Addr} (ha : bm ≠ a.block) (u : Value) : MapIs (w.setCell a u) bm n f c :=
  let ⟨D, h1, h2⟩ := h
  ⟨D, h1.setCell ha u, h2⟩
theorem MapIs.lookup (h : MapIs w bm n f c) (hk : KeyOk k) : (Instr.lookup 41 (.map (some bm)) (.int .u64 k) false).run Try.prog w = .ok (ptrV (f k)) w := by
  obtain ⟨D, h1, h2, _, _⟩ := h
  obtain ⟨v, ps, hrun, hv⟩ := h1.lookup Try.law Try.underlying41 (Try.zero44 w) (zd := .nil) (zp := []) rfl (keyOf_int_mk Try.underlying24 hk)
  rw [h2 k hk] at hv
  rw [hrun, ptrElem_inv hv]
theorem MapIs.look_ok (h : MapIs w bm n f c) (hk : KeyOk k) : (Instr.lookup 41 (.map (some bm)) (.int .u64 k) true).run Try.prog w = .ok (.tuple #[ptrV (f k), .bool (f k).isSome]) w := by
  obtain ⟨D, h1, h2, h3, _⟩ := h
  obtain ⟨v, ps, hrun, hv⟩ := h1.look_ok Try.law Try.underlying41 (Try.zero44 w) (zd := .nil) (zp := []) rfl (keyOf_int_mk Try.underlying24 hk)
  rw [h2 k hk] at hv
  rw [hrun, ptrElem_inv hv, h3 k hk]
theorem MapIs.len (h : MapIs w bm n f c) (ty : TypeId) : (Builtin.len_ #[41] ty #[.map (some bm)]).run Try.prog w = .ok (.int .i64 c) w := by
  obtain ⟨D, h1, _, _, rfl⟩ := h
  exact h1.len Try.underlying41 ty

theorem lit_ne {a b : Int} (h : a ≠ b) : (Lit.int .u64 a) ≠ (Lit.int .u64 b) := fun e => by cases e; exact h rfl

theorem MapIs.store (h : MapIs w bm n f c) (hn : n < maxLen) (hk : KeyOk k) (b : Nat) :
    ∃ w', (Instr.mapUpdate 41 (.map (some bm)) (.int .u64 k) (.pointer (some ⟨b, 0, none⟩))).run Try.prog w = .ok () w' ∧ MapIs w' bm (n + 1) (upd f k (some b)) (if (f k).isSome then c else c + 1) ∧ w.mapTurned w' bm := by
  obtain ⟨D, h1, h2, h3, rfl⟩ := h
  obtain ⟨w', hrun, r1, r2⟩ := h1.store Try.law Try.underlying41 hn (keyOf_int_mk Try.underlying24 hk) (val := .pointer (some ⟨b, 0, none⟩)) (d := .lit (.int .u64 (b : Int))) (ps := []) rfl
  have hkl : WideAt.IsKeyLit (.int .u64 k) := trivial
  refine ⟨w', hrun, ⟨_, r1, fun x hx => ?_, fun x hx => ?_, ?_⟩, r2⟩
  · by_cases e : x = k
    · subst e; rw [atKey_put_same h1.isMap hkl, upd_same]; rfl
    · rw [atKey_put_other (lit_ne e), upd_other _ _ _ _ e]; exact h2 x hx
  · by_cases e : x = k
    · subst e; rw [has_put_same h1.isMap hkl, upd_same]; rfl
    · rw [has_put_other (lit_ne e), upd_other _ _ _ _ e]; exact h3 x hx
  · rw [size_put (h1.tidy Try.law), h3 k hk]
theorem MapIs.drop (h : MapIs w bm n f c) (hk : KeyOk k) (hs : (f k).isSome = true) (ty : TypeId) :
    ∃ w', (Builtin.delete_ #[41, 24] ty #[.map (some bm), .int .u64 k]).run Try.prog w = .ok (.tuple #[]) w' ∧ MapIs w' bm n (upd f k none) (c - 1) ∧ w.mapTurned w' bm := by
  obtain ⟨D, h1, h2, h3, rfl⟩ := h
  obtain ⟨w', hrun, r1, r2⟩ := h1.drop Try.law Try.underlying41 (keyOf_int_mk Try.underlying24 hk) ty
  refine ⟨w', hrun, ⟨_, r1, fun x hx => ?_, fun x hx => ?_, ?_⟩, r2⟩
  · by_cases e : x = k
    · subst e; rw [atKey_del_same, upd_same]; rfl
    · rw [atKey_del_other (lit_ne e), upd_other _ _ _ _ e]; exact h2 x hx
  · by_cases e : x = k
    · subst e; rw [has_del_same, upd_same]; rfl
    · rw [has_del_other (lit_ne e), upd_other _ _ _ _ e]; exact h3 x hx
  · have := size_del (k := .int .u64 k) (h1.tidy Try.law)
    rw [h3 k hk, hs] at this
    simp at this
    omega
end
end Go.Proofs.Qxb6617417a
