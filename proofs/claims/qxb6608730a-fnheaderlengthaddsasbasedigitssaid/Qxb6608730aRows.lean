/-
  No cell of these rows narrows 'for every input' (looked for: loops, veiled, ifaces, maps, wideKeys, modest, calm, conditions, laid).
  DERIVED. THE GIVEN ROWS OF THIS SEAT. 2 by the template 'for every input the law returns true; each argument reads behind the call as it read before'; 0 by the template 'total and deterministic' (their statements: Qxb6608730aTotals.lean).
  GIVEN WITH THE SEED: the statements are not yours to turn. If you find one false, say at which input.
  Laid BY PROGRAM, IN A SANDBOX (cutbox-rows.mjs): the forced cells as the released guide's own fill.sh prints them over the translation e6165034d647c07e… (all of the seat's roots in one cut). By AI agents, Wed Nov 11 2026. No macro, syntax, notation, axiom, sorry.
-/
import Derived.Test.Qxb6608730aChecked
import GoSem.Claim
import GoSem.ClaimJoined
import GoSem.ClaimMapViews
import Derived.JoinedTies
import Derived.KernelRfl
namespace Go.Proofs.Qxb6608730a
/- THE CELL 'sum', in the pinned program and in every row, IS THE sha256 OF THE DUMP (.gsa) THAT Qxb6608730aProg.lean LOADS. Nothing in Lean hashes anything: it is a label: what it is worth is what the hold of that sum in a sandbox is worth. -/
noncomputable def Try.pinned : Pinned := { name := "qxb6608730a", sum := "e6165034d647c07e79626dfbd0609dc3568cd797b95d6d0e0273598d5275b6e5", checked := Try.checked }
namespace Rows
def none {H : Type} : Left H := { results := [], args := [] }

/-- 'zzlaws_yamux_b1.FnHeaderLengthOrdersLikeLengthBytes': WHATEVER THE INPUT: true; the input reads as it did. -/
def fnHeaderLengthOrdersLikeLengthBytesSpec : ChangeSpec := { name := "fnHeaderLengthOrdersLikeLengthBytes", fn := fun _ => fun
  | [d1, d2] => { results := [.lit (.bool true)], args := [d1, d2] }
  | _ => none }
def fnHeaderLengthOrdersLikeLengthBytesRow : OpenClaim := { program := "qxb6608730a", sum := "e6165034d647c07e79626dfbd0609dc3568cd797b95d6d0e0273598d5275b6e5", func := "example.com/rhizomesh/rhizomesh/zzlaws_yamux_b1.FnHeaderLengthOrdersLikeLengthBytes", spec := "fnHeaderLengthOrdersLikeLengthBytes", named := ["encoding/binary.BigEndian"], apart := false }
def FnHeaderLengthOrdersLikeLengthBytesSaid : Prop := fnHeaderLengthOrdersLikeLengthBytesRow.holds Try.pinned (OpenSpec.ofChange fnHeaderLengthOrdersLikeLengthBytesSpec)

/-- ITS FALSE NEIGHBOUR: 'it returns false'. Refute it at one input. -/
def fnHeaderLengthOrdersLikeLengthBytesWrong : ChangeSpec := { name := "fnHeaderLengthOrdersLikeLengthBytes", fn := fun _ => fun
  | [d1, d2] => { results := [.lit (.bool false)], args := [d1, d2] }
  | _ => none }
def FnHeaderLengthOrdersLikeLengthBytesWrongFalsely : Prop := fnHeaderLengthOrdersLikeLengthBytesRow.holds Try.pinned (OpenSpec.ofChange fnHeaderLengthOrdersLikeLengthBytesWrong)

/-- 'zzlaws_yamux_b1.FnHeaderLengthAddsAsBaseDigits': WHATEVER THE INPUT: true; the input reads as it did. -/
def fnHeaderLengthAddsAsBaseDigitsSpec : ChangeSpec := { name := "fnHeaderLengthAddsAsBaseDigits", fn := fun _ => fun
  | [d1, d2, d3] => { results := [.lit (.bool true)], args := [d1, d2, d3] }
  | _ => none }
def fnHeaderLengthAddsAsBaseDigitsRow : OpenClaim := { program := "qxb6608730a", sum := "e6165034d647c07e79626dfbd0609dc3568cd797b95d6d0e0273598d5275b6e5", func := "example.com/rhizomesh/rhizomesh/zzlaws_yamux_b1.FnHeaderLengthAddsAsBaseDigits", spec := "fnHeaderLengthAddsAsBaseDigits", named := ["encoding/binary.BigEndian"], apart := false }
def FnHeaderLengthAddsAsBaseDigitsSaid : Prop := fnHeaderLengthAddsAsBaseDigitsRow.holds Try.pinned (OpenSpec.ofChange fnHeaderLengthAddsAsBaseDigitsSpec)

/-- ITS FALSE NEIGHBOUR: 'it returns false'. Refute it at one input. -/
def fnHeaderLengthAddsAsBaseDigitsWrong : ChangeSpec := { name := "fnHeaderLengthAddsAsBaseDigits", fn := fun _ => fun
  | [d1, d2, d3] => { results := [.lit (.bool false)], args := [d1, d2, d3] }
  | _ => none }
def FnHeaderLengthAddsAsBaseDigitsWrongFalsely : Prop := fnHeaderLengthAddsAsBaseDigitsRow.holds Try.pinned (OpenSpec.ofChange fnHeaderLengthAddsAsBaseDigitsWrong)

end Rows
end Go.Proofs.Qxb6608730a
