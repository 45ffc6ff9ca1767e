/-
  No cell of these rows narrows 'for every input' (looked for: loops, veiled, ifaces, maps, wideKeys, modest, calm, conditions, laid).
  DERIVED. THE GIVEN ROWS OF THIS SEAT. 8 by the template 'for every input the law returns true; each argument reads behind the call as it read before'; 0 by the template 'total and deterministic' (their statements: Qxb6001285aTotals.lean).
  GIVEN WITH THE SEED: the statements are not yours to turn. If you find one false, say at which input.
  Laid BY PROGRAM, IN A SANDBOX (cutbox-rows.mjs): the forced cells as the released guide's own fill.sh prints them over the translation 8023ec10f182da9c… (all of the seat's roots in one cut). By AI agents, Wed Nov 11 2026. No macro, syntax, notation, axiom, sorry.
-/
import Derived.Test.Qxb6001285aChecked
import GoSem.Claim
import GoSem.ClaimJoined
import GoSem.ClaimMapViews
import Derived.JoinedTies
import Derived.KernelRfl
namespace Go.Proofs.Qxb6001285a
/- THE CELL 'sum', in the pinned program and in every row, IS THE sha256 OF THE DUMP (.gsa) THAT Qxb6001285aProg.lean LOADS. Nothing in Lean hashes anything: it is a label: what it is worth is what the hold of that sum in a sandbox is worth. -/
noncomputable def Try.pinned : Pinned := { name := "qxb6001285a", sum := "8023ec10f182da9c30563b956569c4cce49dffda6147fdd3e719f7921baa397d", checked := Try.checked }
namespace Rows
def none {H : Type} : Left H := { results := [], args := [] }

/-- 'zzlaws_scheduler_b1.FnCountRunMatchesPairwiseCount': WHATEVER THE INPUT: true; the input reads as it did. -/
def fnCountRunMatchesPairwiseCountSpec : ChangeSpec := { name := "fnCountRunMatchesPairwiseCount", fn := fun _ => fun
  | [d1, d2, d3, d4] => { results := [.lit (.bool true)], args := [d1, d2, d3, d4] }
  | _ => none }
def fnCountRunMatchesPairwiseCountRow : OpenClaim := { program := "qxb6001285a", sum := "8023ec10f182da9c30563b956569c4cce49dffda6147fdd3e719f7921baa397d", func := "example.com/corral/corral/zzlaws_scheduler_b1.FnCountRunMatchesPairwiseCount", spec := "fnCountRunMatchesPairwiseCount", recurses := true, apart := false }
def FnCountRunMatchesPairwiseCountSaid : Prop := fnCountRunMatchesPairwiseCountRow.holds Try.pinned (OpenSpec.ofChange fnCountRunMatchesPairwiseCountSpec)

/-- ITS FALSE NEIGHBOUR: 'it returns false'. Refute it at one input. -/
def fnCountRunMatchesPairwiseCountWrong : ChangeSpec := { name := "fnCountRunMatchesPairwiseCount", fn := fun _ => fun
  | [d1, d2, d3, d4] => { results := [.lit (.bool false)], args := [d1, d2, d3, d4] }
  | _ => none }
def FnCountRunMatchesPairwiseCountWrongFalsely : Prop := fnCountRunMatchesPairwiseCountRow.holds Try.pinned (OpenSpec.ofChange fnCountRunMatchesPairwiseCountWrong)

/-- 'zzlaws_scheduler_b1.FnCountRunOrdersByMemory': WHATEVER THE INPUT: true; the input reads as it did. -/
def fnCountRunOrdersByMemorySpec : ChangeSpec := { name := "fnCountRunOrdersByMemory", fn := fun _ => fun
  | [d1, d2, d3, d4] => { results := [.lit (.bool true)], args := [d1, d2, d3, d4] }
  | _ => none }
def fnCountRunOrdersByMemoryRow : OpenClaim := { program := "qxb6001285a", sum := "8023ec10f182da9c30563b956569c4cce49dffda6147fdd3e719f7921baa397d", func := "example.com/corral/corral/zzlaws_scheduler_b1.FnCountRunOrdersByMemory", spec := "fnCountRunOrdersByMemory", recurses := true, apart := false }
def FnCountRunOrdersByMemorySaid : Prop := fnCountRunOrdersByMemoryRow.holds Try.pinned (OpenSpec.ofChange fnCountRunOrdersByMemorySpec)

/-- ITS FALSE NEIGHBOUR: 'it returns false'. Refute it at one input. -/
def fnCountRunOrdersByMemoryWrong : ChangeSpec := { name := "fnCountRunOrdersByMemory", fn := fun _ => fun
  | [d1, d2, d3, d4] => { results := [.lit (.bool false)], args := [d1, d2, d3, d4] }
  | _ => none }
def FnCountRunOrdersByMemoryWrongFalsely : Prop := fnCountRunOrdersByMemoryRow.holds Try.pinned (OpenSpec.ofChange fnCountRunOrdersByMemoryWrong)

/-- 'zzlaws_scheduler_b1.FnCountRunLeavesTreeEmpty': WHATEVER THE INPUT: true; the input reads as it did. -/
def fnCountRunLeavesTreeEmptySpec : ChangeSpec := { name := "fnCountRunLeavesTreeEmpty", fn := fun _ => fun
  | [d1, d2, d3, d4] => { results := [.lit (.bool true)], args := [d1, d2, d3, d4] }
  | _ => none }
def fnCountRunLeavesTreeEmptyRow : OpenClaim := { program := "qxb6001285a", sum := "8023ec10f182da9c30563b956569c4cce49dffda6147fdd3e719f7921baa397d", func := "example.com/corral/corral/zzlaws_scheduler_b1.FnCountRunLeavesTreeEmpty", spec := "fnCountRunLeavesTreeEmpty", recurses := true, apart := false }
def FnCountRunLeavesTreeEmptySaid : Prop := fnCountRunLeavesTreeEmptyRow.holds Try.pinned (OpenSpec.ofChange fnCountRunLeavesTreeEmptySpec)

/-- ITS FALSE NEIGHBOUR: 'it returns false'. Refute it at one input. -/
def fnCountRunLeavesTreeEmptyWrong : ChangeSpec := { name := "fnCountRunLeavesTreeEmpty", fn := fun _ => fun
  | [d1, d2, d3, d4] => { results := [.lit (.bool false)], args := [d1, d2, d3, d4] }
  | _ => none }
def FnCountRunLeavesTreeEmptyWrongFalsely : Prop := fnCountRunLeavesTreeEmptyRow.holds Try.pinned (OpenSpec.ofChange fnCountRunLeavesTreeEmptyWrong)

/-- 'zzlaws_scheduler_b1.FnNewMostTableBlocksCoverSlots': WHATEVER THE INPUT: true; the input reads as it did. -/
def fnNewMostTableBlocksCoverSlotsSpec : ChangeSpec := { name := "fnNewMostTableBlocksCoverSlots", fn := fun _ => fun
  | [d] => { results := [.lit (.bool true)], args := [d] }
  | _ => none }
def fnNewMostTableBlocksCoverSlotsRow : OpenClaim := { program := "qxb6001285a", sum := "8023ec10f182da9c30563b956569c4cce49dffda6147fdd3e719f7921baa397d", func := "example.com/corral/corral/zzlaws_scheduler_b1.FnNewMostTableBlocksCoverSlots", spec := "fnNewMostTableBlocksCoverSlots", apart := false }
def FnNewMostTableBlocksCoverSlotsSaid : Prop := fnNewMostTableBlocksCoverSlotsRow.holds Try.pinned (OpenSpec.ofChange fnNewMostTableBlocksCoverSlotsSpec)

/-- ITS FALSE NEIGHBOUR: 'it returns false'. Refute it at one input. -/
def fnNewMostTableBlocksCoverSlotsWrong : ChangeSpec := { name := "fnNewMostTableBlocksCoverSlots", fn := fun _ => fun
  | [d] => { results := [.lit (.bool false)], args := [d] }
  | _ => none }
def FnNewMostTableBlocksCoverSlotsWrongFalsely : Prop := fnNewMostTableBlocksCoverSlotsRow.holds Try.pinned (OpenSpec.ofChange fnNewMostTableBlocksCoverSlotsWrong)

/-- 'zzlaws_scheduler_b1.FnNewMostTableBalanced': WHATEVER THE INPUT: true; the input reads as it did. -/
def fnNewMostTableBalancedSpec : ChangeSpec := { name := "fnNewMostTableBalanced", fn := fun _ => fun
  | [d] => { results := [.lit (.bool true)], args := [d] }
  | _ => none }
def fnNewMostTableBalancedRow : OpenClaim := { program := "qxb6001285a", sum := "8023ec10f182da9c30563b956569c4cce49dffda6147fdd3e719f7921baa397d", func := "example.com/corral/corral/zzlaws_scheduler_b1.FnNewMostTableBalanced", spec := "fnNewMostTableBalanced", apart := false }
def FnNewMostTableBalancedSaid : Prop := fnNewMostTableBalancedRow.holds Try.pinned (OpenSpec.ofChange fnNewMostTableBalancedSpec)

/-- ITS FALSE NEIGHBOUR: 'it returns false'. Refute it at one input. -/
def fnNewMostTableBalancedWrong : ChangeSpec := { name := "fnNewMostTableBalanced", fn := fun _ => fun
  | [d] => { results := [.lit (.bool false)], args := [d] }
  | _ => none }
def FnNewMostTableBalancedWrongFalsely : Prop := fnNewMostTableBalancedRow.holds Try.pinned (OpenSpec.ofChange fnNewMostTableBalancedWrong)

/-- 'zzlaws_scheduler_b1.FnChildSumAddAssociative': WHATEVER THE INPUT: true; the input reads as it did. -/
def fnChildSumAddAssociativeSpec : ChangeSpec := { name := "fnChildSumAddAssociative", fn := fun _ => fun
  | [d1, d2, d3] => { results := [.lit (.bool true)], args := [d1, d2, d3] }
  | _ => none }
def fnChildSumAddAssociativeRow : OpenClaim := { program := "qxb6001285a", sum := "8023ec10f182da9c30563b956569c4cce49dffda6147fdd3e719f7921baa397d", func := "example.com/corral/corral/zzlaws_scheduler_b1.FnChildSumAddAssociative", spec := "fnChildSumAddAssociative", apart := false }
def FnChildSumAddAssociativeSaid : Prop := fnChildSumAddAssociativeRow.holds Try.pinned (OpenSpec.ofChange fnChildSumAddAssociativeSpec)

/-- ITS FALSE NEIGHBOUR: 'it returns false'. Refute it at one input. -/
def fnChildSumAddAssociativeWrong : ChangeSpec := { name := "fnChildSumAddAssociative", fn := fun _ => fun
  | [d1, d2, d3] => { results := [.lit (.bool false)], args := [d1, d2, d3] }
  | _ => none }
def FnChildSumAddAssociativeWrongFalsely : Prop := fnChildSumAddAssociativeRow.holds Try.pinned (OpenSpec.ofChange fnChildSumAddAssociativeWrong)

/-- 'zzlaws_scheduler_b1.FnChildSumAddOrderFree': WHATEVER THE INPUT: true; the input reads as it did. -/
def fnChildSumAddOrderFreeSpec : ChangeSpec := { name := "fnChildSumAddOrderFree", fn := fun _ => fun
  | [d1, d2] => { results := [.lit (.bool true)], args := [d1, d2] }
  | _ => none }
def fnChildSumAddOrderFreeRow : OpenClaim := { program := "qxb6001285a", sum := "8023ec10f182da9c30563b956569c4cce49dffda6147fdd3e719f7921baa397d", func := "example.com/corral/corral/zzlaws_scheduler_b1.FnChildSumAddOrderFree", spec := "fnChildSumAddOrderFree", apart := false }
def FnChildSumAddOrderFreeSaid : Prop := fnChildSumAddOrderFreeRow.holds Try.pinned (OpenSpec.ofChange fnChildSumAddOrderFreeSpec)

/-- ITS FALSE NEIGHBOUR: 'it returns false'. Refute it at one input. -/
def fnChildSumAddOrderFreeWrong : ChangeSpec := { name := "fnChildSumAddOrderFree", fn := fun _ => fun
  | [d1, d2] => { results := [.lit (.bool false)], args := [d1, d2] }
  | _ => none }
def FnChildSumAddOrderFreeWrongFalsely : Prop := fnChildSumAddOrderFreeRow.holds Try.pinned (OpenSpec.ofChange fnChildSumAddOrderFreeWrong)

/-- 'zzlaws_scheduler_b1.FnChildSumAddNoChildrenIsIdentity': WHATEVER THE INPUT: true; the input reads as it did. -/
def fnChildSumAddNoChildrenIsIdentitySpec : ChangeSpec := { name := "fnChildSumAddNoChildrenIsIdentity", fn := fun _ => fun
  | [d] => { results := [.lit (.bool true)], args := [d] }
  | _ => none }
def fnChildSumAddNoChildrenIsIdentityRow : OpenClaim := { program := "qxb6001285a", sum := "8023ec10f182da9c30563b956569c4cce49dffda6147fdd3e719f7921baa397d", func := "example.com/corral/corral/zzlaws_scheduler_b1.FnChildSumAddNoChildrenIsIdentity", spec := "fnChildSumAddNoChildrenIsIdentity", apart := false }
def FnChildSumAddNoChildrenIsIdentitySaid : Prop := fnChildSumAddNoChildrenIsIdentityRow.holds Try.pinned (OpenSpec.ofChange fnChildSumAddNoChildrenIsIdentitySpec)

/-- ITS FALSE NEIGHBOUR: 'it returns false'. Refute it at one input. -/
def fnChildSumAddNoChildrenIsIdentityWrong : ChangeSpec := { name := "fnChildSumAddNoChildrenIsIdentity", fn := fun _ => fun
  | [d] => { results := [.lit (.bool false)], args := [d] }
  | _ => none }
def FnChildSumAddNoChildrenIsIdentityWrongFalsely : Prop := fnChildSumAddNoChildrenIsIdentityRow.holds Try.pinned (OpenSpec.ofChange fnChildSumAddNoChildrenIsIdentityWrong)

end Rows
end Go.Proofs.Qxb6001285a
