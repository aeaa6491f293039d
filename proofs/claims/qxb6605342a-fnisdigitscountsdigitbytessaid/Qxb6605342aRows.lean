/-
  No cell of these rows narrows 'for every input' (looked for: loops, veiled, ifaces, maps, wideKeys, modest, calm, conditions, laid).
  DERIVED. THE GIVEN ROWS OF THIS SEAT. 4 by the template 'for every input the law returns true; each argument reads behind the call as it read before'; 0 by the template 'total and deterministic' (their statements: Qxb6605342aTotals.lean).
  GIVEN WITH THE SEED: the statements are not yours to turn. If you find one false, say at which input.
  Laid BY PROGRAM, IN A SANDBOX (cutbox-rows.mjs): the forced cells as the released guide's own fill.sh prints them over the translation 00d79a8403842043… (all of the seat's roots in one cut). By AI agents, Wed Nov 11 2026. No macro, syntax, notation, axiom, sorry.
-/
import Derived.Test.Qxb6605342aChecked
import GoSem.Claim
import GoSem.ClaimJoined
import GoSem.ClaimMapViews
import Derived.JoinedTies
import Derived.KernelRfl
namespace Go.Proofs.Qxb6605342a
/- THE CELL 'sum', in the pinned program and in every row, IS THE sha256 OF THE DUMP (.gsa) THAT Qxb6605342aProg.lean LOADS. Nothing in Lean hashes anything: it is a label: what it is worth is what the hold of that sum in a sandbox is worth. -/
noncomputable def Try.pinned : Pinned := { name := "qxb6605342a", sum := "00d79a8403842043cb7cf753b55330ce4271a93e719a55ff2a578357beafdcd5", checked := Try.checked }
namespace Rows
def none {H : Type} : Left H := { results := [], args := [] }

/-- 'zzlaws_pkg_figure_b1.FnMagnitudeRecoversSignedValue': WHATEVER THE INPUT: true; the input reads as it did. -/
def fnMagnitudeRecoversSignedValueSpec : ChangeSpec := { name := "fnMagnitudeRecoversSignedValue", fn := fun _ => fun
  | [d] => { results := [.lit (.bool true)], args := [d] }
  | _ => none }
def fnMagnitudeRecoversSignedValueRow : OpenClaim := { program := "qxb6605342a", sum := "00d79a8403842043cb7cf753b55330ce4271a93e719a55ff2a578357beafdcd5", func := "example.com/tranchery/tranchery/zzlaws_pkg_figure_b1.FnMagnitudeRecoversSignedValue", spec := "fnMagnitudeRecoversSignedValue", apart := false }
def FnMagnitudeRecoversSignedValueSaid : Prop := fnMagnitudeRecoversSignedValueRow.holds Try.pinned (OpenSpec.ofChange fnMagnitudeRecoversSignedValueSpec)

/-- ITS FALSE NEIGHBOUR: 'it returns false'. Refute it at one input. -/
def fnMagnitudeRecoversSignedValueWrong : ChangeSpec := { name := "fnMagnitudeRecoversSignedValue", fn := fun _ => fun
  | [d] => { results := [.lit (.bool false)], args := [d] }
  | _ => none }
def FnMagnitudeRecoversSignedValueWrongFalsely : Prop := fnMagnitudeRecoversSignedValueRow.holds Try.pinned (OpenSpec.ofChange fnMagnitudeRecoversSignedValueWrong)

/-- 'zzlaws_pkg_figure_b1.FnMagnitudeOfNegationAgrees': WHATEVER THE INPUT: true; the input reads as it did. -/
def fnMagnitudeOfNegationAgreesSpec : ChangeSpec := { name := "fnMagnitudeOfNegationAgrees", fn := fun _ => fun
  | [d] => { results := [.lit (.bool true)], args := [d] }
  | _ => none }
def fnMagnitudeOfNegationAgreesRow : OpenClaim := { program := "qxb6605342a", sum := "00d79a8403842043cb7cf753b55330ce4271a93e719a55ff2a578357beafdcd5", func := "example.com/tranchery/tranchery/zzlaws_pkg_figure_b1.FnMagnitudeOfNegationAgrees", spec := "fnMagnitudeOfNegationAgrees", apart := false }
def FnMagnitudeOfNegationAgreesSaid : Prop := fnMagnitudeOfNegationAgreesRow.holds Try.pinned (OpenSpec.ofChange fnMagnitudeOfNegationAgreesSpec)

/-- ITS FALSE NEIGHBOUR: 'it returns false'. Refute it at one input. -/
def fnMagnitudeOfNegationAgreesWrong : ChangeSpec := { name := "fnMagnitudeOfNegationAgrees", fn := fun _ => fun
  | [d] => { results := [.lit (.bool false)], args := [d] }
  | _ => none }
def FnMagnitudeOfNegationAgreesWrongFalsely : Prop := fnMagnitudeOfNegationAgreesRow.holds Try.pinned (OpenSpec.ofChange fnMagnitudeOfNegationAgreesWrong)

/-- 'zzlaws_pkg_figure_b1.FnIsDigitsCountsDigitBytes': WHATEVER THE INPUT: true; the input reads as it did. -/
def fnIsDigitsCountsDigitBytesSpec : ChangeSpec := { name := "fnIsDigitsCountsDigitBytes", fn := fun _ => fun
  | [d] => { results := [.lit (.bool true)], args := [d] }
  | _ => none }
def fnIsDigitsCountsDigitBytesRow : OpenClaim := { program := "qxb6605342a", sum := "00d79a8403842043cb7cf753b55330ce4271a93e719a55ff2a578357beafdcd5", func := "example.com/tranchery/tranchery/zzlaws_pkg_figure_b1.FnIsDigitsCountsDigitBytes", spec := "fnIsDigitsCountsDigitBytes", apart := false }
def FnIsDigitsCountsDigitBytesSaid : Prop := fnIsDigitsCountsDigitBytesRow.holds Try.pinned (OpenSpec.ofChange fnIsDigitsCountsDigitBytesSpec)

/-- ITS FALSE NEIGHBOUR: 'it returns false'. Refute it at one input. -/
def fnIsDigitsCountsDigitBytesWrong : ChangeSpec := { name := "fnIsDigitsCountsDigitBytes", fn := fun _ => fun
  | [d] => { results := [.lit (.bool false)], args := [d] }
  | _ => none }
def FnIsDigitsCountsDigitBytesWrongFalsely : Prop := fnIsDigitsCountsDigitBytesRow.holds Try.pinned (OpenSpec.ofChange fnIsDigitsCountsDigitBytesWrong)

/-- 'zzlaws_pkg_figure_b1.FnIsDigitsOfConcatenation': WHATEVER THE INPUT: true; the input reads as it did. -/
def fnIsDigitsOfConcatenationSpec : ChangeSpec := { name := "fnIsDigitsOfConcatenation", fn := fun _ => fun
  | [d1, d2] => { results := [.lit (.bool true)], args := [d1, d2] }
  | _ => none }
def fnIsDigitsOfConcatenationRow : OpenClaim := { program := "qxb6605342a", sum := "00d79a8403842043cb7cf753b55330ce4271a93e719a55ff2a578357beafdcd5", func := "example.com/tranchery/tranchery/zzlaws_pkg_figure_b1.FnIsDigitsOfConcatenation", spec := "fnIsDigitsOfConcatenation", apart := false }
def FnIsDigitsOfConcatenationSaid : Prop := fnIsDigitsOfConcatenationRow.holds Try.pinned (OpenSpec.ofChange fnIsDigitsOfConcatenationSpec)

/-- ITS FALSE NEIGHBOUR: 'it returns false'. Refute it at one input. -/
def fnIsDigitsOfConcatenationWrong : ChangeSpec := { name := "fnIsDigitsOfConcatenation", fn := fun _ => fun
  | [d1, d2] => { results := [.lit (.bool false)], args := [d1, d2] }
  | _ => none }
def FnIsDigitsOfConcatenationWrongFalsely : Prop := fnIsDigitsOfConcatenationRow.holds Try.pinned (OpenSpec.ofChange fnIsDigitsOfConcatenationWrong)

end Rows
end Go.Proofs.Qxb6605342a
