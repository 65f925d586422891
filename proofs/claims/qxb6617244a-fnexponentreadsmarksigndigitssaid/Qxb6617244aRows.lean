/-
  No cell of these rows narrows 'for every input' (looked for: loops, veiled, ifaces, maps, wideKeys, modest, calm, conditions, laid).
  DERIVED. THE GIVEN ROWS OF THIS SEAT. 6 by the template 'for every input the law returns true; each argument reads behind the call as it read before'; 0 by the template 'total and deterministic' (their statements: Qxb6617244aTotals.lean).
  GIVEN WITH THE SEED: the statements are not yours to turn. If you find one false, say at which input.
  Laid BY PROGRAM, IN A SANDBOX (cutbox-rows.mjs): the forced cells as the released guide's own fill.sh prints them over the translation 8c0d5413c14289e5… (all of the seat's roots in one cut). By AI agents, Wed Nov 11 2026. No macro, syntax, notation, axiom, sorry.
-/
import Derived.Test.Qxb6617244aChecked
import GoSem.Claim
import GoSem.ClaimJoined
import GoSem.ClaimMapViews
import Derived.JoinedTies
import Derived.KernelRfl
namespace Go.Proofs.Qxb6617244a
/- THE CELL 'sum', in the pinned program and in every row, IS THE sha256 OF THE DUMP (.gsa) THAT Qxb6617244aProg.lean LOADS. Nothing in Lean hashes anything: it is a label: what it is worth is what the hold of that sum in a sandbox is worth. -/
noncomputable def Try.pinned : Pinned := { name := "qxb6617244a", sum := "8c0d5413c14289e508ae890786074343d94f6f02aa3bb05ed69f02c97be28dc3", checked := Try.checked }
namespace Rows
def none {H : Type} : Left H := { results := [], args := [] }

/-- 'zzlaws_pkg_resp_b1.FnMantissaLongestNumeral': WHATEVER THE INPUT: true; the input reads as it did. -/
def fnMantissaLongestNumeralSpec : ChangeSpec := { name := "fnMantissaLongestNumeral", fn := fun _ => fun
  | [d1, d2, d3] => { results := [.lit (.bool true)], args := [d1, d2, d3] }
  | _ => none }
def fnMantissaLongestNumeralRow : OpenClaim := { program := "qxb6617244a", sum := "8c0d5413c14289e508ae890786074343d94f6f02aa3bb05ed69f02c97be28dc3", func := "example.com/keyfold/keyfold/zzlaws_pkg_resp_b1.FnMantissaLongestNumeral", spec := "fnMantissaLongestNumeral", apart := false }
def FnMantissaLongestNumeralSaid : Prop := fnMantissaLongestNumeralRow.holds Try.pinned (OpenSpec.ofChange fnMantissaLongestNumeralSpec)

/-- ITS FALSE NEIGHBOUR: 'it returns false'. Refute it at one input. -/
def fnMantissaLongestNumeralWrong : ChangeSpec := { name := "fnMantissaLongestNumeral", fn := fun _ => fun
  | [d1, d2, d3] => { results := [.lit (.bool false)], args := [d1, d2, d3] }
  | _ => none }
def FnMantissaLongestNumeralWrongFalsely : Prop := fnMantissaLongestNumeralRow.holds Try.pinned (OpenSpec.ofChange fnMantissaLongestNumeralWrong)

/-- 'zzlaws_pkg_resp_b1.FnMantissaIgnoresWhatComesBefore': WHATEVER THE INPUT: true; the input reads as it did. -/
def fnMantissaIgnoresWhatComesBeforeSpec : ChangeSpec := { name := "fnMantissaIgnoresWhatComesBefore", fn := fun _ => fun
  | [d1, d2, d3, d4] => { results := [.lit (.bool true)], args := [d1, d2, d3, d4] }
  | _ => none }
def fnMantissaIgnoresWhatComesBeforeRow : OpenClaim := { program := "qxb6617244a", sum := "8c0d5413c14289e508ae890786074343d94f6f02aa3bb05ed69f02c97be28dc3", func := "example.com/keyfold/keyfold/zzlaws_pkg_resp_b1.FnMantissaIgnoresWhatComesBefore", spec := "fnMantissaIgnoresWhatComesBefore", apart := false }
def FnMantissaIgnoresWhatComesBeforeSaid : Prop := fnMantissaIgnoresWhatComesBeforeRow.holds Try.pinned (OpenSpec.ofChange fnMantissaIgnoresWhatComesBeforeSpec)

/-- ITS FALSE NEIGHBOUR: 'it returns false'. Refute it at one input. -/
def fnMantissaIgnoresWhatComesBeforeWrong : ChangeSpec := { name := "fnMantissaIgnoresWhatComesBefore", fn := fun _ => fun
  | [d1, d2, d3, d4] => { results := [.lit (.bool false)], args := [d1, d2, d3, d4] }
  | _ => none }
def FnMantissaIgnoresWhatComesBeforeWrongFalsely : Prop := fnMantissaIgnoresWhatComesBeforeRow.holds Try.pinned (OpenSpec.ofChange fnMantissaIgnoresWhatComesBeforeWrong)

/-- 'zzlaws_pkg_resp_b1.FnExponentEndsTheLongestExponent': WHATEVER THE INPUT: true; the input reads as it did. -/
def fnExponentEndsTheLongestExponentSpec : ChangeSpec := { name := "fnExponentEndsTheLongestExponent", fn := fun _ => fun
  | [d1, d2, d3] => { results := [.lit (.bool true)], args := [d1, d2, d3] }
  | _ => none }
def fnExponentEndsTheLongestExponentRow : OpenClaim := { program := "qxb6617244a", sum := "8c0d5413c14289e508ae890786074343d94f6f02aa3bb05ed69f02c97be28dc3", func := "example.com/keyfold/keyfold/zzlaws_pkg_resp_b1.FnExponentEndsTheLongestExponent", spec := "fnExponentEndsTheLongestExponent", apart := false }
def FnExponentEndsTheLongestExponentSaid : Prop := fnExponentEndsTheLongestExponentRow.holds Try.pinned (OpenSpec.ofChange fnExponentEndsTheLongestExponentSpec)

/-- ITS FALSE NEIGHBOUR: 'it returns false'. Refute it at one input. -/
def fnExponentEndsTheLongestExponentWrong : ChangeSpec := { name := "fnExponentEndsTheLongestExponent", fn := fun _ => fun
  | [d1, d2, d3] => { results := [.lit (.bool false)], args := [d1, d2, d3] }
  | _ => none }
def FnExponentEndsTheLongestExponentWrongFalsely : Prop := fnExponentEndsTheLongestExponentRow.holds Try.pinned (OpenSpec.ofChange fnExponentEndsTheLongestExponentWrong)

/-- 'zzlaws_pkg_resp_b1.FnExponentReadsMarkSignDigits': WHATEVER THE INPUT: true; the input reads as it did. -/
def fnExponentReadsMarkSignDigitsSpec : ChangeSpec := { name := "fnExponentReadsMarkSignDigits", fn := fun _ => fun
  | [d1, d2, d3, d4, d5, d6] => { results := [.lit (.bool true)], args := [d1, d2, d3, d4, d5, d6] }
  | _ => none }
def fnExponentReadsMarkSignDigitsRow : OpenClaim := { program := "qxb6617244a", sum := "8c0d5413c14289e508ae890786074343d94f6f02aa3bb05ed69f02c97be28dc3", func := "example.com/keyfold/keyfold/zzlaws_pkg_resp_b1.FnExponentReadsMarkSignDigits", spec := "fnExponentReadsMarkSignDigits", apart := false }
def FnExponentReadsMarkSignDigitsSaid : Prop := fnExponentReadsMarkSignDigitsRow.holds Try.pinned (OpenSpec.ofChange fnExponentReadsMarkSignDigitsSpec)

/-- ITS FALSE NEIGHBOUR: 'it returns false'. Refute it at one input. -/
def fnExponentReadsMarkSignDigitsWrong : ChangeSpec := { name := "fnExponentReadsMarkSignDigits", fn := fun _ => fun
  | [d1, d2, d3, d4, d5, d6] => { results := [.lit (.bool false)], args := [d1, d2, d3, d4, d5, d6] }
  | _ => none }
def FnExponentReadsMarkSignDigitsWrongFalsely : Prop := fnExponentReadsMarkSignDigitsRow.holds Try.pinned (OpenSpec.ofChange fnExponentReadsMarkSignDigitsWrong)

/-- 'zzlaws_pkg_resp_b1.FnNanEndClosesThePayload': WHATEVER THE INPUT: true; the input reads as it did. -/
def fnNanEndClosesThePayloadSpec : ChangeSpec := { name := "fnNanEndClosesThePayload", fn := fun _ => fun
  | [d1, d2] => { results := [.lit (.bool true)], args := [d1, d2] }
  | _ => none }
def fnNanEndClosesThePayloadRow : OpenClaim := { program := "qxb6617244a", sum := "8c0d5413c14289e508ae890786074343d94f6f02aa3bb05ed69f02c97be28dc3", func := "example.com/keyfold/keyfold/zzlaws_pkg_resp_b1.FnNanEndClosesThePayload", spec := "fnNanEndClosesThePayload", apart := false }
def FnNanEndClosesThePayloadSaid : Prop := fnNanEndClosesThePayloadRow.holds Try.pinned (OpenSpec.ofChange fnNanEndClosesThePayloadSpec)

/-- ITS FALSE NEIGHBOUR: 'it returns false'. Refute it at one input. -/
def fnNanEndClosesThePayloadWrong : ChangeSpec := { name := "fnNanEndClosesThePayload", fn := fun _ => fun
  | [d1, d2] => { results := [.lit (.bool false)], args := [d1, d2] }
  | _ => none }
def FnNanEndClosesThePayloadWrongFalsely : Prop := fnNanEndClosesThePayloadRow.holds Try.pinned (OpenSpec.ofChange fnNanEndClosesThePayloadWrong)

/-- 'zzlaws_pkg_resp_b1.FnNanEndReadsAPayload': WHATEVER THE INPUT: true; the input reads as it did. -/
def fnNanEndReadsAPayloadSpec : ChangeSpec := { name := "fnNanEndReadsAPayload", fn := fun _ => fun
  | [d1, d2, d3] => { results := [.lit (.bool true)], args := [d1, d2, d3] }
  | _ => none }
def fnNanEndReadsAPayloadRow : OpenClaim := { program := "qxb6617244a", sum := "8c0d5413c14289e508ae890786074343d94f6f02aa3bb05ed69f02c97be28dc3", func := "example.com/keyfold/keyfold/zzlaws_pkg_resp_b1.FnNanEndReadsAPayload", spec := "fnNanEndReadsAPayload", apart := false }
def FnNanEndReadsAPayloadSaid : Prop := fnNanEndReadsAPayloadRow.holds Try.pinned (OpenSpec.ofChange fnNanEndReadsAPayloadSpec)

/-- ITS FALSE NEIGHBOUR: 'it returns false'. Refute it at one input. -/
def fnNanEndReadsAPayloadWrong : ChangeSpec := { name := "fnNanEndReadsAPayload", fn := fun _ => fun
  | [d1, d2, d3] => { results := [.lit (.bool false)], args := [d1, d2, d3] }
  | _ => none }
def FnNanEndReadsAPayloadWrongFalsely : Prop := fnNanEndReadsAPayloadRow.holds Try.pinned (OpenSpec.ofChange fnNanEndReadsAPayloadWrong)

end Rows
end Go.Proofs.Qxb6617244a
