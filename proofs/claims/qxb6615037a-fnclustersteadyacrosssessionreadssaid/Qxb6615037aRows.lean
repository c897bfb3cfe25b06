/-
  No cell of these rows narrows 'for every input' (looked for: loops, veiled, ifaces, maps, wideKeys, modest, calm, conditions, laid).
  DERIVED. THE GIVEN ROWS OF THIS SEAT. 3 by the template 'for every input the law returns true; each argument reads behind the call as it read before'; 0 by the template 'total and deterministic' (their statements: Qxb6615037aTotals.lean).
  GIVEN WITH THE SEED: the statements are not yours to turn. If you find one false, say at which input.
  Laid BY PROGRAM, IN A SANDBOX (cutbox-rows.mjs): the forced cells as the released guide's own fill.sh prints them over the translation a6fda2dbcf80061e… (all of the seat's roots in one cut). By AI agents, Wed Nov 11 2026. No macro, syntax, notation, axiom, sorry.
-/
import Derived.Test.Qxb6615037aChecked
import GoSem.Claim
import GoSem.ClaimJoined
import GoSem.ClaimMapViews
import Derived.JoinedTies
import Derived.KernelRfl
namespace Go.Proofs.Qxb6615037a
/- THE CELL 'sum', in the pinned program and in every row, IS THE sha256 OF THE DUMP (.gsa) THAT Qxb6615037aProg.lean LOADS. Nothing in Lean hashes anything: it is a label: what it is worth is what the hold of that sum in a sandbox is worth. -/
noncomputable def Try.pinned : Pinned := { name := "qxb6615037a", sum := "a6fda2dbcf80061e28a192bcbda9446eb1d59466b692dec00ec2561ad5cfdc64", checked := Try.checked }
namespace Rows
def none {H : Type} : Left H := { results := [], args := [] }

/-- 'zzlaws_root_b1.FnClusterSteadyAcrossSessionReads': WHATEVER THE INPUT: true; the input reads as it did. -/
def fnClusterSteadyAcrossSessionReadsSpec : ChangeSpec := { name := "fnClusterSteadyAcrossSessionReads", fn := fun _ => fun
  | [d1, d2, d3, d4, d5, d6, d7, d8] => { results := [.lit (.bool true)], args := [d1, d2, d3, d4, d5, d6, d7, d8] }
  | _ => none }
def fnClusterSteadyAcrossSessionReadsRow : OpenClaim := { program := "qxb6615037a", sum := "a6fda2dbcf80061e28a192bcbda9446eb1d59466b692dec00ec2561ad5cfdc64", func := "example.com/bellwether/bellwether/zzlaws_root_b1.FnClusterSteadyAcrossSessionReads", spec := "fnClusterSteadyAcrossSessionReads", inPlace := ["internal/reflectlite.ValueOf", "internal/reflectlite.Swapper", "(internal/reflectlite.Value).Len"], unfollowed := true, recurses := true, apart := false }
def FnClusterSteadyAcrossSessionReadsSaid : Prop := fnClusterSteadyAcrossSessionReadsRow.holds Try.pinned (OpenSpec.ofChange fnClusterSteadyAcrossSessionReadsSpec)

/-- ITS FALSE NEIGHBOUR: 'it returns false'. Refute it at one input. -/
def fnClusterSteadyAcrossSessionReadsWrong : ChangeSpec := { name := "fnClusterSteadyAcrossSessionReads", fn := fun _ => fun
  | [d1, d2, d3, d4, d5, d6, d7, d8] => { results := [.lit (.bool false)], args := [d1, d2, d3, d4, d5, d6, d7, d8] }
  | _ => none }
def FnClusterSteadyAcrossSessionReadsWrongFalsely : Prop := fnClusterSteadyAcrossSessionReadsRow.holds Try.pinned (OpenSpec.ofChange fnClusterSteadyAcrossSessionReadsWrong)

/-- 'zzlaws_root_b1.FnOtherProtocolsMatchesModel': WHATEVER THE INPUT: true; the input reads as it did. -/
def fnOtherProtocolsMatchesModelSpec : ChangeSpec := { name := "fnOtherProtocolsMatchesModel", fn := fun _ => fun
  | [d1, d2] => { results := [.lit (.bool true)], args := [d1, d2] }
  | _ => none }
def fnOtherProtocolsMatchesModelRow : OpenClaim := { program := "qxb6615037a", sum := "a6fda2dbcf80061e28a192bcbda9446eb1d59466b692dec00ec2561ad5cfdc64", func := "example.com/bellwether/bellwether/zzlaws_root_b1.FnOtherProtocolsMatchesModel", spec := "fnOtherProtocolsMatchesModel", inPlace := ["internal/reflectlite.ValueOf", "internal/reflectlite.Swapper", "(internal/reflectlite.Value).Len"], unfollowed := true, recurses := true, apart := false }
def FnOtherProtocolsMatchesModelSaid : Prop := fnOtherProtocolsMatchesModelRow.holds Try.pinned (OpenSpec.ofChange fnOtherProtocolsMatchesModelSpec)

/-- ITS FALSE NEIGHBOUR: 'it returns false'. Refute it at one input. -/
def fnOtherProtocolsMatchesModelWrong : ChangeSpec := { name := "fnOtherProtocolsMatchesModel", fn := fun _ => fun
  | [d1, d2] => { results := [.lit (.bool false)], args := [d1, d2] }
  | _ => none }
def FnOtherProtocolsMatchesModelWrongFalsely : Prop := fnOtherProtocolsMatchesModelRow.holds Try.pinned (OpenSpec.ofChange fnOtherProtocolsMatchesModelWrong)

/-- 'zzlaws_root_b1.FnOtherProtocolsLaterDropsRunOut': WHATEVER THE INPUT: true; the input reads as it did. -/
def fnOtherProtocolsLaterDropsRunOutSpec : ChangeSpec := { name := "fnOtherProtocolsLaterDropsRunOut", fn := fun _ => fun
  | [d1, d2, d3] => { results := [.lit (.bool true)], args := [d1, d2, d3] }
  | _ => none }
def fnOtherProtocolsLaterDropsRunOutRow : OpenClaim := { program := "qxb6615037a", sum := "a6fda2dbcf80061e28a192bcbda9446eb1d59466b692dec00ec2561ad5cfdc64", func := "example.com/bellwether/bellwether/zzlaws_root_b1.FnOtherProtocolsLaterDropsRunOut", spec := "fnOtherProtocolsLaterDropsRunOut", inPlace := ["internal/reflectlite.ValueOf", "internal/reflectlite.Swapper", "(internal/reflectlite.Value).Len"], unfollowed := true, recurses := true, apart := false }
def FnOtherProtocolsLaterDropsRunOutSaid : Prop := fnOtherProtocolsLaterDropsRunOutRow.holds Try.pinned (OpenSpec.ofChange fnOtherProtocolsLaterDropsRunOutSpec)

/-- ITS FALSE NEIGHBOUR: 'it returns false'. Refute it at one input. -/
def fnOtherProtocolsLaterDropsRunOutWrong : ChangeSpec := { name := "fnOtherProtocolsLaterDropsRunOut", fn := fun _ => fun
  | [d1, d2, d3] => { results := [.lit (.bool false)], args := [d1, d2, d3] }
  | _ => none }
def FnOtherProtocolsLaterDropsRunOutWrongFalsely : Prop := fnOtherProtocolsLaterDropsRunOutRow.holds Try.pinned (OpenSpec.ofChange fnOtherProtocolsLaterDropsRunOutWrong)

end Rows
end Go.Proofs.Qxb6615037a
