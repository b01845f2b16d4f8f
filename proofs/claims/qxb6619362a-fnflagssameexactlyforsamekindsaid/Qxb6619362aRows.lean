/-
  No cell of these rows narrows 'for every input' (looked for: loops, veiled, ifaces, maps, wideKeys, modest, calm, conditions, laid).
  DERIVED. THE GIVEN ROWS OF THIS SEAT. 5 by the template 'for every input the law returns true; each argument reads behind the call as it read before'; 0 by the template 'total and deterministic' (their statements: Qxb6619362aTotals.lean).
  GIVEN WITH THE SEED: the statements are not yours to turn. If you find one false, say at which input.
  Laid BY PROGRAM, IN A SANDBOX (cutbox-rows.mjs): the forced cells as the released guide's own fill.sh prints them over the translation 3d899e8fe21d1121… (all of the seat's roots in one cut). By AI agents, Wed Nov 11 2026. No macro, syntax, notation, axiom, sorry.
-/
import Derived.Test.Qxb6619362aChecked
import GoSem.Claim
import GoSem.ClaimJoined
import GoSem.ClaimMapViews
import Derived.JoinedTies
import Derived.KernelRfl
namespace Go.Proofs.Qxb6619362a
/- THE CELL 'sum', in the pinned program and in every row, IS THE sha256 OF THE DUMP (.gsa) THAT Qxb6619362aProg.lean LOADS. Nothing in Lean hashes anything: it is a label: what it is worth is what the hold of that sum in a sandbox is worth. -/
noncomputable def Try.pinned : Pinned := { name := "qxb6619362a", sum := "3d899e8fe21d11219830f0e35f608dc7055710255058b9907dc2fd205fbadc14", checked := Try.checked }
namespace Rows
def none {H : Type} : Left H := { results := [], args := [] }

/-- 'zzlaws_wire_b1.FnAllocatedSplitCostsSixteen': WHATEVER THE INPUT: true; the input reads as it did. -/
def fnAllocatedSplitCostsSixteenSpec : ChangeSpec := { name := "fnAllocatedSplitCostsSixteen", fn := fun _ => fun
  | [d1, d2] => { results := [.lit (.bool true)], args := [d1, d2] }
  | _ => none }
def fnAllocatedSplitCostsSixteenRow : OpenClaim := { program := "qxb6619362a", sum := "3d899e8fe21d11219830f0e35f608dc7055710255058b9907dc2fd205fbadc14", func := "example.com/adjacent/adjacent/zzlaws_wire_b1.FnAllocatedSplitCostsSixteen", spec := "fnAllocatedSplitCostsSixteen", apart := false }
def FnAllocatedSplitCostsSixteenSaid : Prop := fnAllocatedSplitCostsSixteenRow.holds Try.pinned (OpenSpec.ofChange fnAllocatedSplitCostsSixteenSpec)

/-- ITS FALSE NEIGHBOUR: 'it returns false'. Refute it at one input. -/
def fnAllocatedSplitCostsSixteenWrong : ChangeSpec := { name := "fnAllocatedSplitCostsSixteen", fn := fun _ => fun
  | [d1, d2] => { results := [.lit (.bool false)], args := [d1, d2] }
  | _ => none }
def FnAllocatedSplitCostsSixteenWrongFalsely : Prop := fnAllocatedSplitCostsSixteenRow.holds Try.pinned (OpenSpec.ofChange fnAllocatedSplitCostsSixteenWrong)

/-- 'zzlaws_wire_b1.FnAllocatedFourMoreBytesCostFive': WHATEVER THE INPUT: true; the input reads as it did. -/
def fnAllocatedFourMoreBytesCostFiveSpec : ChangeSpec := { name := "fnAllocatedFourMoreBytesCostFive", fn := fun _ => fun
  | [d1, d2] => { results := [.lit (.bool true)], args := [d1, d2] }
  | _ => none }
def fnAllocatedFourMoreBytesCostFiveRow : OpenClaim := { program := "qxb6619362a", sum := "3d899e8fe21d11219830f0e35f608dc7055710255058b9907dc2fd205fbadc14", func := "example.com/adjacent/adjacent/zzlaws_wire_b1.FnAllocatedFourMoreBytesCostFive", spec := "fnAllocatedFourMoreBytesCostFive", apart := false }
def FnAllocatedFourMoreBytesCostFiveSaid : Prop := fnAllocatedFourMoreBytesCostFiveRow.holds Try.pinned (OpenSpec.ofChange fnAllocatedFourMoreBytesCostFiveSpec)

/-- ITS FALSE NEIGHBOUR: 'it returns false'. Refute it at one input. -/
def fnAllocatedFourMoreBytesCostFiveWrong : ChangeSpec := { name := "fnAllocatedFourMoreBytesCostFive", fn := fun _ => fun
  | [d1, d2] => { results := [.lit (.bool false)], args := [d1, d2] }
  | _ => none }
def FnAllocatedFourMoreBytesCostFiveWrongFalsely : Prop := fnAllocatedFourMoreBytesCostFiveRow.holds Try.pinned (OpenSpec.ofChange fnAllocatedFourMoreBytesCostFiveWrong)

/-- 'zzlaws_wire_b1.FnFlagsSameExactlyForSameKind': WHATEVER THE INPUT: true; the input reads as it did. -/
def fnFlagsSameExactlyForSameKindSpec : ChangeSpec := { name := "fnFlagsSameExactlyForSameKind", fn := fun _ => fun
  | [d1, d2, d3, d4] => { results := [.lit (.bool true)], args := [d1, d2, d3, d4] }
  | _ => none }
def fnFlagsSameExactlyForSameKindRow : OpenClaim := { program := "qxb6619362a", sum := "3d899e8fe21d11219830f0e35f608dc7055710255058b9907dc2fd205fbadc14", func := "example.com/adjacent/adjacent/zzlaws_wire_b1.FnFlagsSameExactlyForSameKind", spec := "fnFlagsSameExactlyForSameKind", apart := false }
def FnFlagsSameExactlyForSameKindSaid : Prop := fnFlagsSameExactlyForSameKindRow.holds Try.pinned (OpenSpec.ofChange fnFlagsSameExactlyForSameKindSpec)

/-- ITS FALSE NEIGHBOUR: 'it returns false'. Refute it at one input. -/
def fnFlagsSameExactlyForSameKindWrong : ChangeSpec := { name := "fnFlagsSameExactlyForSameKind", fn := fun _ => fun
  | [d1, d2, d3, d4] => { results := [.lit (.bool false)], args := [d1, d2, d3, d4] }
  | _ => none }
def FnFlagsSameExactlyForSameKindWrongFalsely : Prop := fnFlagsSameExactlyForSameKindRow.holds Try.pinned (OpenSpec.ofChange fnFlagsSameExactlyForSameKindWrong)

/-- 'zzlaws_wire_b1.FnCoversAnInterval': WHATEVER THE INPUT: true; the input reads as it did. -/
def fnCoversAnIntervalSpec : ChangeSpec := { name := "fnCoversAnInterval", fn := fun _ => fun
  | [d1, d2, d3, d4, d5, d6] => { results := [.lit (.bool true)], args := [d1, d2, d3, d4, d5, d6] }
  | _ => none }
def fnCoversAnIntervalRow : OpenClaim := { program := "qxb6619362a", sum := "3d899e8fe21d11219830f0e35f608dc7055710255058b9907dc2fd205fbadc14", func := "example.com/adjacent/adjacent/zzlaws_wire_b1.FnCoversAnInterval", spec := "fnCoversAnInterval", apart := false }
def FnCoversAnIntervalSaid : Prop := fnCoversAnIntervalRow.holds Try.pinned (OpenSpec.ofChange fnCoversAnIntervalSpec)

/-- ITS FALSE NEIGHBOUR: 'it returns false'. Refute it at one input. -/
def fnCoversAnIntervalWrong : ChangeSpec := { name := "fnCoversAnInterval", fn := fun _ => fun
  | [d1, d2, d3, d4, d5, d6] => { results := [.lit (.bool false)], args := [d1, d2, d3, d4, d5, d6] }
  | _ => none }
def FnCoversAnIntervalWrongFalsely : Prop := fnCoversAnIntervalRow.holds Try.pinned (OpenSpec.ofChange fnCoversAnIntervalWrong)

/-- 'zzlaws_wire_b1.FnCoversSplitAtAnyCut': WHATEVER THE INPUT: true; the input reads as it did. -/
def fnCoversSplitAtAnyCutSpec : ChangeSpec := { name := "fnCoversSplitAtAnyCut", fn := fun _ => fun
  | [d1, d2, d3, d4, d5] => { results := [.lit (.bool true)], args := [d1, d2, d3, d4, d5] }
  | _ => none }
def fnCoversSplitAtAnyCutRow : OpenClaim := { program := "qxb6619362a", sum := "3d899e8fe21d11219830f0e35f608dc7055710255058b9907dc2fd205fbadc14", func := "example.com/adjacent/adjacent/zzlaws_wire_b1.FnCoversSplitAtAnyCut", spec := "fnCoversSplitAtAnyCut", apart := false }
def FnCoversSplitAtAnyCutSaid : Prop := fnCoversSplitAtAnyCutRow.holds Try.pinned (OpenSpec.ofChange fnCoversSplitAtAnyCutSpec)

/-- ITS FALSE NEIGHBOUR: 'it returns false'. Refute it at one input. -/
def fnCoversSplitAtAnyCutWrong : ChangeSpec := { name := "fnCoversSplitAtAnyCut", fn := fun _ => fun
  | [d1, d2, d3, d4, d5] => { results := [.lit (.bool false)], args := [d1, d2, d3, d4, d5] }
  | _ => none }
def FnCoversSplitAtAnyCutWrongFalsely : Prop := fnCoversSplitAtAnyCutRow.holds Try.pinned (OpenSpec.ofChange fnCoversSplitAtAnyCutWrong)

end Rows
end Go.Proofs.Qxb6619362a
