/-
  No cell of these rows narrows 'for every input' (looked for: loops, veiled, ifaces, maps, wideKeys, modest, calm, conditions, laid).
  DERIVED. THE GIVEN ROWS OF THIS SEAT. 1 by the template 'for every input the law returns true; each argument reads behind the call as it read before'; 0 by the template 'total and deterministic' (their statements: Qxb6623418aTotals.lean).
  GIVEN WITH THE SEED: the statements are not yours to turn. If you find one false, say at which input.
  Laid BY PROGRAM, IN A SANDBOX (cutbox-rows.mjs): the forced cells as the released guide's own fill.sh prints them over the translation 606e11ce3da6bef3… (all of the seat's roots in one cut). By AI agents, Wed Nov 11 2026. No macro, syntax, notation, axiom, sorry.
-/
import Derived.Test.Qxb6623418aChecked
import GoSem.Claim
import GoSem.ClaimJoined
import GoSem.ClaimMapViews
import Derived.JoinedTies
import Derived.KernelRfl
namespace Go.Proofs.Qxb6623418a
/- THE CELL 'sum', in the pinned program and in every row, IS THE sha256 OF THE DUMP (.gsa) THAT Qxb6623418aProg.lean LOADS. Nothing in Lean hashes anything: it is a label: what it is worth is what the hold of that sum in a sandbox is worth. -/
noncomputable def Try.pinned : Pinned := { name := "qxb6623418a", sum := "606e11ce3da6bef35fd4b1b6934365b549cd25b6349bde54e3577c4aa0173458", checked := Try.checked }
namespace Rows
def none {H : Type} : Left H := { results := [], args := [] }

/-- 'zzlaws_root_b1.FnAppendUUIDOrderFollowsBytes': WHATEVER THE INPUT: true; the input reads as it did. -/
def fnAppendUUIDOrderFollowsBytesSpec : ChangeSpec := { name := "fnAppendUUIDOrderFollowsBytes", fn := fun _ => fun
  | [d1, d2, d3] => { results := [.lit (.bool true)], args := [d1, d2, d3] }
  | _ => none }
def fnAppendUUIDOrderFollowsBytesRow : OpenClaim := { program := "qxb6623418a", sum := "606e11ce3da6bef35fd4b1b6934365b549cd25b6349bde54e3577c4aa0173458", func := "example.com/venus-comb/venus-comb/zzlaws_root_b1.FnAppendUUIDOrderFollowsBytes", spec := "fnAppendUUIDOrderFollowsBytes", apart := false }
def FnAppendUUIDOrderFollowsBytesSaid : Prop := fnAppendUUIDOrderFollowsBytesRow.holds Try.pinned (OpenSpec.ofChange fnAppendUUIDOrderFollowsBytesSpec)

/-- ITS FALSE NEIGHBOUR: 'it returns false'. Refute it at one input. -/
def fnAppendUUIDOrderFollowsBytesWrong : ChangeSpec := { name := "fnAppendUUIDOrderFollowsBytes", fn := fun _ => fun
  | [d1, d2, d3] => { results := [.lit (.bool false)], args := [d1, d2, d3] }
  | _ => none }
def FnAppendUUIDOrderFollowsBytesWrongFalsely : Prop := fnAppendUUIDOrderFollowsBytesRow.holds Try.pinned (OpenSpec.ofChange fnAppendUUIDOrderFollowsBytesWrong)

end Rows
end Go.Proofs.Qxb6623418a
