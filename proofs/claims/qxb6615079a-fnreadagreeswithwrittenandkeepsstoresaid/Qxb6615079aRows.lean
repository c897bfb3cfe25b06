/-
  No cell of these rows narrows 'for every input' (looked for: loops, veiled, ifaces, maps, wideKeys, modest, calm, conditions, laid).
  DERIVED. THE GIVEN ROWS OF THIS SEAT. 8 by the template 'for every input the law returns true; each argument reads behind the call as it read before'; 0 by the template 'total and deterministic' (their statements: Qxb6615079aTotals.lean).
  GIVEN WITH THE SEED: the statements are not yours to turn. If you find one false, say at which input.
  Laid BY PROGRAM, IN A SANDBOX (cutbox-rows.mjs): the forced cells as the released guide's own fill.sh prints them over the translation 08be3a7557103cf7… (all of the seat's roots in one cut). By AI agents, Wed Nov 11 2026. No macro, syntax, notation, axiom, sorry.
-/
import Derived.Test.Qxb6615079aChecked
import GoSem.Claim
import GoSem.ClaimJoined
import GoSem.ClaimMapViews
import Derived.JoinedTies
import Derived.KernelRfl
namespace Go.Proofs.Qxb6615079a
/- THE CELL 'sum', in the pinned program and in every row, IS THE sha256 OF THE DUMP (.gsa) THAT Qxb6615079aProg.lean LOADS. Nothing in Lean hashes anything: it is a label: what it is worth is what the hold of that sum in a sandbox is worth. -/
noncomputable def Try.pinned : Pinned := { name := "qxb6615079a", sum := "08be3a7557103cf7381875864acb1138977005f652388ae3903e4aad900ced43", checked := Try.checked }
namespace Rows
def none {H : Type} : Left H := { results := [], args := [] }

/-- 'zzlaws_memmodel_b1.FnCloseThenDoneBySameGoroutine': WHATEVER THE INPUT: true; the input reads as it did. -/
def fnCloseThenDoneBySameGoroutineSpec : ChangeSpec := { name := "fnCloseThenDoneBySameGoroutine", fn := fun _ => fun
  | [d1, d2, d3, d4, d5] => { results := [.lit (.bool true)], args := [d1, d2, d3, d4, d5] }
  | _ => none }
def fnCloseThenDoneBySameGoroutineRow : OpenClaim := { program := "qxb6615079a", sum := "08be3a7557103cf7381875864acb1138977005f652388ae3903e4aad900ced43", func := "example.com/antecedent/antecedent/zzlaws_memmodel_b1.FnCloseThenDoneBySameGoroutine", spec := "fnCloseThenDoneBySameGoroutine", plainKeys := false, apart := false }
def FnCloseThenDoneBySameGoroutineSaid : Prop := fnCloseThenDoneBySameGoroutineRow.holds Try.pinned (OpenSpec.ofChange fnCloseThenDoneBySameGoroutineSpec)

/-- ITS FALSE NEIGHBOUR: 'it returns false'. Refute it at one input. -/
def fnCloseThenDoneBySameGoroutineWrong : ChangeSpec := { name := "fnCloseThenDoneBySameGoroutine", fn := fun _ => fun
  | [d1, d2, d3, d4, d5] => { results := [.lit (.bool false)], args := [d1, d2, d3, d4, d5] }
  | _ => none }
def FnCloseThenDoneBySameGoroutineWrongFalsely : Prop := fnCloseThenDoneBySameGoroutineRow.holds Try.pinned (OpenSpec.ofChange fnCloseThenDoneBySameGoroutineWrong)

/-- 'zzlaws_memmodel_b1.FnCloseByTwoGoroutines': WHATEVER THE INPUT: true; the input reads as it did. -/
def fnCloseByTwoGoroutinesSpec : ChangeSpec := { name := "fnCloseByTwoGoroutines", fn := fun _ => fun
  | [d1, d2, d3, d4, d5] => { results := [.lit (.bool true)], args := [d1, d2, d3, d4, d5] }
  | _ => none }
def fnCloseByTwoGoroutinesRow : OpenClaim := { program := "qxb6615079a", sum := "08be3a7557103cf7381875864acb1138977005f652388ae3903e4aad900ced43", func := "example.com/antecedent/antecedent/zzlaws_memmodel_b1.FnCloseByTwoGoroutines", spec := "fnCloseByTwoGoroutines", plainKeys := false, apart := false }
def FnCloseByTwoGoroutinesSaid : Prop := fnCloseByTwoGoroutinesRow.holds Try.pinned (OpenSpec.ofChange fnCloseByTwoGoroutinesSpec)

/-- ITS FALSE NEIGHBOUR: 'it returns false'. Refute it at one input. -/
def fnCloseByTwoGoroutinesWrong : ChangeSpec := { name := "fnCloseByTwoGoroutines", fn := fun _ => fun
  | [d1, d2, d3, d4, d5] => { results := [.lit (.bool false)], args := [d1, d2, d3, d4, d5] }
  | _ => none }
def FnCloseByTwoGoroutinesWrongFalsely : Prop := fnCloseByTwoGoroutinesRow.holds Try.pinned (OpenSpec.ofChange fnCloseByTwoGoroutinesWrong)

/-- 'zzlaws_memmodel_b1.FnDetachedThenDonePassesNothing': WHATEVER THE INPUT: true; the input reads as it did. -/
def fnDetachedThenDonePassesNothingSpec : ChangeSpec := { name := "fnDetachedThenDonePassesNothing", fn := fun _ => fun
  | [d1, d2, d3] => { results := [.lit (.bool true)], args := [d1, d2, d3] }
  | _ => none }
def fnDetachedThenDonePassesNothingRow : OpenClaim := { program := "qxb6615079a", sum := "08be3a7557103cf7381875864acb1138977005f652388ae3903e4aad900ced43", func := "example.com/antecedent/antecedent/zzlaws_memmodel_b1.FnDetachedThenDonePassesNothing", spec := "fnDetachedThenDonePassesNothing", plainKeys := false, apart := false }
def FnDetachedThenDonePassesNothingSaid : Prop := fnDetachedThenDonePassesNothingRow.holds Try.pinned (OpenSpec.ofChange fnDetachedThenDonePassesNothingSpec)

/-- ITS FALSE NEIGHBOUR: 'it returns false'. Refute it at one input. -/
def fnDetachedThenDonePassesNothingWrong : ChangeSpec := { name := "fnDetachedThenDonePassesNothing", fn := fun _ => fun
  | [d1, d2, d3] => { results := [.lit (.bool false)], args := [d1, d2, d3] }
  | _ => none }
def FnDetachedThenDonePassesNothingWrongFalsely : Prop := fnDetachedThenDonePassesNothingRow.holds Try.pinned (OpenSpec.ofChange fnDetachedThenDonePassesNothingWrong)

/-- 'zzlaws_memmodel_b1.FnGoThenDetachedIsDetachedThenTick': WHATEVER THE INPUT: true; the input reads as it did. -/
def fnGoThenDetachedIsDetachedThenTickSpec : ChangeSpec := { name := "fnGoThenDetachedIsDetachedThenTick", fn := fun _ => fun
  | [d1, d2, d3] => { results := [.lit (.bool true)], args := [d1, d2, d3] }
  | _ => none }
def fnGoThenDetachedIsDetachedThenTickRow : OpenClaim := { program := "qxb6615079a", sum := "08be3a7557103cf7381875864acb1138977005f652388ae3903e4aad900ced43", func := "example.com/antecedent/antecedent/zzlaws_memmodel_b1.FnGoThenDetachedIsDetachedThenTick", spec := "fnGoThenDetachedIsDetachedThenTick", plainKeys := false, apart := false }
def FnGoThenDetachedIsDetachedThenTickSaid : Prop := fnGoThenDetachedIsDetachedThenTickRow.holds Try.pinned (OpenSpec.ofChange fnGoThenDetachedIsDetachedThenTickSpec)

/-- ITS FALSE NEIGHBOUR: 'it returns false'. Refute it at one input. -/
def fnGoThenDetachedIsDetachedThenTickWrong : ChangeSpec := { name := "fnGoThenDetachedIsDetachedThenTick", fn := fun _ => fun
  | [d1, d2, d3] => { results := [.lit (.bool false)], args := [d1, d2, d3] }
  | _ => none }
def FnGoThenDetachedIsDetachedThenTickWrongFalsely : Prop := fnGoThenDetachedIsDetachedThenTickRow.holds Try.pinned (OpenSpec.ofChange fnGoThenDetachedIsDetachedThenTickWrong)

/-- 'zzlaws_memmodel_b1.FnDoneTwiceBySameGoroutine': WHATEVER THE INPUT: true; the input reads as it did. -/
def fnDoneTwiceBySameGoroutineSpec : ChangeSpec := { name := "fnDoneTwiceBySameGoroutine", fn := fun _ => fun
  | [d1, d2, d3, d4] => { results := [.lit (.bool true)], args := [d1, d2, d3, d4] }
  | _ => none }
def fnDoneTwiceBySameGoroutineRow : OpenClaim := { program := "qxb6615079a", sum := "08be3a7557103cf7381875864acb1138977005f652388ae3903e4aad900ced43", func := "example.com/antecedent/antecedent/zzlaws_memmodel_b1.FnDoneTwiceBySameGoroutine", spec := "fnDoneTwiceBySameGoroutine", plainKeys := false, apart := false }
def FnDoneTwiceBySameGoroutineSaid : Prop := fnDoneTwiceBySameGoroutineRow.holds Try.pinned (OpenSpec.ofChange fnDoneTwiceBySameGoroutineSpec)

/-- ITS FALSE NEIGHBOUR: 'it returns false'. Refute it at one input. -/
def fnDoneTwiceBySameGoroutineWrong : ChangeSpec := { name := "fnDoneTwiceBySameGoroutine", fn := fun _ => fun
  | [d1, d2, d3, d4] => { results := [.lit (.bool false)], args := [d1, d2, d3, d4] }
  | _ => none }
def FnDoneTwiceBySameGoroutineWrongFalsely : Prop := fnDoneTwiceBySameGoroutineRow.holds Try.pinned (OpenSpec.ofChange fnDoneTwiceBySameGoroutineWrong)

/-- 'zzlaws_memmodel_b1.FnAddsOfTwoGoroutinesCommute': WHATEVER THE INPUT: true; the input reads as it did. -/
def fnAddsOfTwoGoroutinesCommuteSpec : ChangeSpec := { name := "fnAddsOfTwoGoroutinesCommute", fn := fun _ => fun
  | [d1, d2, d3, d4, d5, d6] => { results := [.lit (.bool true)], args := [d1, d2, d3, d4, d5, d6] }
  | _ => none }
def fnAddsOfTwoGoroutinesCommuteRow : OpenClaim := { program := "qxb6615079a", sum := "08be3a7557103cf7381875864acb1138977005f652388ae3903e4aad900ced43", func := "example.com/antecedent/antecedent/zzlaws_memmodel_b1.FnAddsOfTwoGoroutinesCommute", spec := "fnAddsOfTwoGoroutinesCommute", plainKeys := false, apart := false }
def FnAddsOfTwoGoroutinesCommuteSaid : Prop := fnAddsOfTwoGoroutinesCommuteRow.holds Try.pinned (OpenSpec.ofChange fnAddsOfTwoGoroutinesCommuteSpec)

/-- ITS FALSE NEIGHBOUR: 'it returns false'. Refute it at one input. -/
def fnAddsOfTwoGoroutinesCommuteWrong : ChangeSpec := { name := "fnAddsOfTwoGoroutinesCommute", fn := fun _ => fun
  | [d1, d2, d3, d4, d5, d6] => { results := [.lit (.bool false)], args := [d1, d2, d3, d4, d5, d6] }
  | _ => none }
def FnAddsOfTwoGoroutinesCommuteWrongFalsely : Prop := fnAddsOfTwoGoroutinesCommuteRow.holds Try.pinned (OpenSpec.ofChange fnAddsOfTwoGoroutinesCommuteWrong)

/-- 'zzlaws_memmodel_b1.FnTwoReadsReturnTheirWrites': WHATEVER THE INPUT: true; the input reads as it did. -/
def fnTwoReadsReturnTheirWritesSpec : ChangeSpec := { name := "fnTwoReadsReturnTheirWrites", fn := fun _ => fun
  | [d1, d2, d3, d4, d5, d6, d7, d8, d9, d10, d11, d12] => { results := [.lit (.bool true)], args := [d1, d2, d3, d4, d5, d6, d7, d8, d9, d10, d11, d12] }
  | _ => none }
def fnTwoReadsReturnTheirWritesRow : OpenClaim := { program := "qxb6615079a", sum := "08be3a7557103cf7381875864acb1138977005f652388ae3903e4aad900ced43", func := "example.com/antecedent/antecedent/zzlaws_memmodel_b1.FnTwoReadsReturnTheirWrites", spec := "fnTwoReadsReturnTheirWrites", unfollowed := true, recurses := true, plainKeys := false, apart := false }
def FnTwoReadsReturnTheirWritesSaid : Prop := fnTwoReadsReturnTheirWritesRow.holds Try.pinned (OpenSpec.ofChange fnTwoReadsReturnTheirWritesSpec)

/-- ITS FALSE NEIGHBOUR: 'it returns false'. Refute it at one input. -/
def fnTwoReadsReturnTheirWritesWrong : ChangeSpec := { name := "fnTwoReadsReturnTheirWrites", fn := fun _ => fun
  | [d1, d2, d3, d4, d5, d6, d7, d8, d9, d10, d11, d12] => { results := [.lit (.bool false)], args := [d1, d2, d3, d4, d5, d6, d7, d8, d9, d10, d11, d12] }
  | _ => none }
def FnTwoReadsReturnTheirWritesWrongFalsely : Prop := fnTwoReadsReturnTheirWritesRow.holds Try.pinned (OpenSpec.ofChange fnTwoReadsReturnTheirWritesWrong)

/-- 'zzlaws_memmodel_b1.FnReadAgreesWithWrittenAndKeepsStore': WHATEVER THE INPUT: true; the input reads as it did. -/
def fnReadAgreesWithWrittenAndKeepsStoreSpec : ChangeSpec := { name := "fnReadAgreesWithWrittenAndKeepsStore", fn := fun _ => fun
  | [d1, d2, d3, d4, d5, d6, d7, d8, d9, d10, d11] => { results := [.lit (.bool true)], args := [d1, d2, d3, d4, d5, d6, d7, d8, d9, d10, d11] }
  | _ => none }
def fnReadAgreesWithWrittenAndKeepsStoreRow : OpenClaim := { program := "qxb6615079a", sum := "08be3a7557103cf7381875864acb1138977005f652388ae3903e4aad900ced43", func := "example.com/antecedent/antecedent/zzlaws_memmodel_b1.FnReadAgreesWithWrittenAndKeepsStore", spec := "fnReadAgreesWithWrittenAndKeepsStore", unfollowed := true, recurses := true, plainKeys := false, apart := false }
def FnReadAgreesWithWrittenAndKeepsStoreSaid : Prop := fnReadAgreesWithWrittenAndKeepsStoreRow.holds Try.pinned (OpenSpec.ofChange fnReadAgreesWithWrittenAndKeepsStoreSpec)

/-- ITS FALSE NEIGHBOUR: 'it returns false'. Refute it at one input. -/
def fnReadAgreesWithWrittenAndKeepsStoreWrong : ChangeSpec := { name := "fnReadAgreesWithWrittenAndKeepsStore", fn := fun _ => fun
  | [d1, d2, d3, d4, d5, d6, d7, d8, d9, d10, d11] => { results := [.lit (.bool false)], args := [d1, d2, d3, d4, d5, d6, d7, d8, d9, d10, d11] }
  | _ => none }
def FnReadAgreesWithWrittenAndKeepsStoreWrongFalsely : Prop := fnReadAgreesWithWrittenAndKeepsStoreRow.holds Try.pinned (OpenSpec.ofChange fnReadAgreesWithWrittenAndKeepsStoreWrong)

end Rows
end Go.Proofs.Qxb6615079a
