/-
  No cell of these rows narrows 'for every input' (looked for: loops, veiled, ifaces, maps, wideKeys, modest, calm, conditions, laid).
  DERIVED. THE GIVEN ROWS OF THIS SEAT. 2 by the template 'for every input the law returns true; each argument reads behind the call as it read before'; 0 by the template 'total and deterministic' (their statements: Qxb6605373aTotals.lean).
  GIVEN WITH THE SEED: the statements are not yours to turn. If you find one false, say at which input.
  Laid BY PROGRAM, IN A SANDBOX (cutbox-rows.mjs): the forced cells as the released guide's own fill.sh prints them over the translation 92abe7ff7ed1ae7f… (all of the seat's roots in one cut). By AI agents, Wed Nov 11 2026. No macro, syntax, notation, axiom, sorry.
-/
import Derived.Test.Qxb6605373aChecked
import GoSem.Claim
import GoSem.ClaimJoined
import GoSem.ClaimMapViews
import Derived.JoinedTies
import Derived.KernelRfl
namespace Go.Proofs.Qxb6605373a
/- THE CELL 'sum', in the pinned program and in every row, IS THE sha256 OF THE DUMP (.gsa) THAT Qxb6605373aProg.lean LOADS. Nothing in Lean hashes anything: it is a label: what it is worth is what the hold of that sum in a sandbox is worth. -/
noncomputable def Try.pinned : Pinned := { name := "qxb6605373a", sum := "92abe7ff7ed1ae7fb71e5ff93a7457b44ed590f333932bb3b1d0eacea375564e", checked := Try.checked }
namespace Rows
def none {H : Type} : Left H := { results := [], args := [] }

/-- 'zzlaws_root_b1.FnHexRuneLastEightDigits': WHATEVER THE INPUT: true; the input reads as it did. -/
def fnHexRuneLastEightDigitsSpec : ChangeSpec := { name := "fnHexRuneLastEightDigits", fn := fun _ => fun
  | [d] => { results := [.lit (.bool true)], args := [d] }
  | _ => none }
def fnHexRuneLastEightDigitsRow : OpenClaim := { program := "qxb6605373a", sum := "92abe7ff7ed1ae7fb71e5ff93a7457b44ed590f333932bb3b1d0eacea375564e", func := "example.com/crosslight/crosslight/zzlaws_root_b1.FnHexRuneLastEightDigits", spec := "fnHexRuneLastEightDigits", apart := false }
def FnHexRuneLastEightDigitsSaid : Prop := fnHexRuneLastEightDigitsRow.holds Try.pinned (OpenSpec.ofChange fnHexRuneLastEightDigitsSpec)

/-- ITS FALSE NEIGHBOUR: 'it returns false'. Refute it at one input. -/
def fnHexRuneLastEightDigitsWrong : ChangeSpec := { name := "fnHexRuneLastEightDigits", fn := fun _ => fun
  | [d] => { results := [.lit (.bool false)], args := [d] }
  | _ => none }
def FnHexRuneLastEightDigitsWrongFalsely : Prop := fnHexRuneLastEightDigitsRow.holds Try.pinned (OpenSpec.ofChange fnHexRuneLastEightDigitsWrong)

/-- 'zzlaws_root_b1.FnUnicodeEscapeRoundTrip': WHATEVER THE INPUT: true; the input reads as it did. -/
def fnUnicodeEscapeRoundTripSpec : ChangeSpec := { name := "fnUnicodeEscapeRoundTrip", fn := fun _ => fun
  | [d1, d2, d3] => { results := [.lit (.bool true)], args := [d1, d2, d3] }
  | _ => none }
def fnUnicodeEscapeRoundTripRow : OpenClaim := { program := "qxb6605373a", sum := "92abe7ff7ed1ae7fb71e5ff93a7457b44ed590f333932bb3b1d0eacea375564e", func := "example.com/crosslight/crosslight/zzlaws_root_b1.FnUnicodeEscapeRoundTrip", spec := "fnUnicodeEscapeRoundTrip", apart := false }
def FnUnicodeEscapeRoundTripSaid : Prop := fnUnicodeEscapeRoundTripRow.holds Try.pinned (OpenSpec.ofChange fnUnicodeEscapeRoundTripSpec)

/-- ITS FALSE NEIGHBOUR: 'it returns false'. Refute it at one input. -/
def fnUnicodeEscapeRoundTripWrong : ChangeSpec := { name := "fnUnicodeEscapeRoundTrip", fn := fun _ => fun
  | [d1, d2, d3] => { results := [.lit (.bool false)], args := [d1, d2, d3] }
  | _ => none }
def FnUnicodeEscapeRoundTripWrongFalsely : Prop := fnUnicodeEscapeRoundTripRow.holds Try.pinned (OpenSpec.ofChange fnUnicodeEscapeRoundTripWrong)

end Rows
end Go.Proofs.Qxb6605373a
