/-
  No cell of these rows narrows 'for every input' (looked for: loops, veiled, ifaces, maps, wideKeys, modest, calm, conditions, laid).
  DERIVED. THE GIVEN ROWS OF THIS SEAT. 1 by the template 'for every input the law returns true; each argument reads behind the call as it read before'; 0 by the template 'total and deterministic' (their statements: Qxb6619297aTotals.lean).
  GIVEN WITH THE SEED: the statements are not yours to turn. If you find one false, say at which input.
  Laid BY PROGRAM, IN A SANDBOX (cutbox-rows.mjs): the forced cells as the released guide's own fill.sh prints them over the translation 7e80baee1dcf68bf… (all of the seat's roots in one cut). By AI agents, Wed Nov 11 2026. No macro, syntax, notation, axiom, sorry.
-/
import Derived.Test.Qxb6619297aChecked
import GoSem.Claim
import GoSem.ClaimJoined
import GoSem.ClaimMapViews
import Derived.JoinedTies
import Derived.KernelRfl
namespace Go.Proofs.Qxb6619297a
/- THE CELL 'sum', in the pinned program and in every row, IS THE sha256 OF THE DUMP (.gsa) THAT Qxb6619297aProg.lean LOADS. Nothing in Lean hashes anything: it is a label: what it is worth is what the hold of that sum in a sandbox is worth. -/
noncomputable def Try.pinned : Pinned := { name := "qxb6619297a", sum := "7e80baee1dcf68bf641304b17b9106d18588438d0d6d59d5e148694cf49105a3", checked := Try.checked }
namespace Rows
def none {H : Type} : Left H := { results := [], args := [] }

/-- 'zzlaws_money_b1.FnIsDigitsCutAnywhere': WHATEVER THE INPUT: true; the input reads as it did. -/
def fnIsDigitsCutAnywhereSpec : ChangeSpec := { name := "fnIsDigitsCutAnywhere", fn := fun _ => fun
  | [d1, d2] => { results := [.lit (.bool true)], args := [d1, d2] }
  | _ => none }
def fnIsDigitsCutAnywhereRow : OpenClaim := { program := "qxb6619297a", sum := "7e80baee1dcf68bf641304b17b9106d18588438d0d6d59d5e148694cf49105a3", func := "example.com/lastro/lastro/zzlaws_money_b1.FnIsDigitsCutAnywhere", spec := "fnIsDigitsCutAnywhere", apart := false }
def FnIsDigitsCutAnywhereSaid : Prop := fnIsDigitsCutAnywhereRow.holds Try.pinned (OpenSpec.ofChange fnIsDigitsCutAnywhereSpec)

/-- ITS FALSE NEIGHBOUR: 'it returns false'. Refute it at one input. -/
def fnIsDigitsCutAnywhereWrong : ChangeSpec := { name := "fnIsDigitsCutAnywhere", fn := fun _ => fun
  | [d1, d2] => { results := [.lit (.bool false)], args := [d1, d2] }
  | _ => none }
def FnIsDigitsCutAnywhereWrongFalsely : Prop := fnIsDigitsCutAnywhereRow.holds Try.pinned (OpenSpec.ofChange fnIsDigitsCutAnywhereWrong)

end Rows
end Go.Proofs.Qxb6619297a
