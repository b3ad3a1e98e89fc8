/-
  No cell of these rows narrows 'for every input' (looked for: loops, veiled, ifaces, maps, wideKeys, modest, calm, conditions, laid).
  DERIVED. THE GIVEN ROWS OF THIS SEAT. 2 by the template 'for every input the law returns true; each argument reads behind the call as it read before'; 0 by the template 'total and deterministic' (their statements: Qxb6600135aTotals.lean).
  GIVEN WITH THE SEED: the statements are not yours to turn. If you find one false, say at which input.
  Laid BY PROGRAM, IN A SANDBOX (cutbox-rows.mjs): the forced cells as the released guide's own fill.sh prints them over the translation 9cad9b48661d3edd… (all of the seat's roots in one cut). By AI agents, Wed Nov 11 2026. No macro, syntax, notation, axiom, sorry.
-/
import Derived.Test.Qxb6600135aChecked
import GoSem.Claim
import GoSem.ClaimJoined
import GoSem.ClaimMapViews
import Derived.JoinedTies
import Derived.KernelRfl
namespace Go.Proofs.Qxb6600135a
/- THE CELL 'sum', in the pinned program and in every row, IS THE sha256 OF THE DUMP (.gsa) THAT Qxb6600135aProg.lean LOADS. Nothing in Lean hashes anything: it is a label: what it is worth is what the hold of that sum in a sandbox is worth. -/
noncomputable def Try.pinned : Pinned := { name := "qxb6600135a", sum := "9cad9b48661d3edde61c2f255940c4ea5a7e6226840c3a618ef41e8d2f8fa852", checked := Try.checked }
namespace Rows
def none {H : Type} : Left H := { results := [], args := [] }

/-- 'zzlaws_internal_rounding_b1.FnStepRoundsAQuotientAsItsModeSays': WHATEVER THE INPUT: true; the input reads as it did. -/
def fnStepRoundsAQuotientAsItsModeSaysSpec : ChangeSpec := { name := "fnStepRoundsAQuotientAsItsModeSays", fn := fun _ => fun
  | [d1, d2] => { results := [.lit (.bool true)], args := [d1, d2] }
  | _ => none }
def fnStepRoundsAQuotientAsItsModeSaysRow : OpenClaim := { program := "qxb6600135a", sum := "9cad9b48661d3edde61c2f255940c4ea5a7e6226840c3a618ef41e8d2f8fa852", func := "example.com/zhaomu/zhaomu/zzlaws_internal_rounding_b1.FnStepRoundsAQuotientAsItsModeSays", spec := "fnStepRoundsAQuotientAsItsModeSays", apart := false }
def FnStepRoundsAQuotientAsItsModeSaysSaid : Prop := fnStepRoundsAQuotientAsItsModeSaysRow.holds Try.pinned (OpenSpec.ofChange fnStepRoundsAQuotientAsItsModeSaysSpec)

/-- ITS FALSE NEIGHBOUR: 'it returns false'. Refute it at one input. -/
def fnStepRoundsAQuotientAsItsModeSaysWrong : ChangeSpec := { name := "fnStepRoundsAQuotientAsItsModeSays", fn := fun _ => fun
  | [d1, d2] => { results := [.lit (.bool false)], args := [d1, d2] }
  | _ => none }
def FnStepRoundsAQuotientAsItsModeSaysWrongFalsely : Prop := fnStepRoundsAQuotientAsItsModeSaysRow.holds Try.pinned (OpenSpec.ofChange fnStepRoundsAQuotientAsItsModeSaysWrong)

/-- 'zzlaws_internal_rounding_b1.FnStepModesAreOrderedAndOddInTheRemainder': WHATEVER THE INPUT: true; the input reads as it did. -/
def fnStepModesAreOrderedAndOddInTheRemainderSpec : ChangeSpec := { name := "fnStepModesAreOrderedAndOddInTheRemainder", fn := fun _ => fun
  | [d1, d2, d3] => { results := [.lit (.bool true)], args := [d1, d2, d3] }
  | _ => none }
def fnStepModesAreOrderedAndOddInTheRemainderRow : OpenClaim := { program := "qxb6600135a", sum := "9cad9b48661d3edde61c2f255940c4ea5a7e6226840c3a618ef41e8d2f8fa852", func := "example.com/zhaomu/zhaomu/zzlaws_internal_rounding_b1.FnStepModesAreOrderedAndOddInTheRemainder", spec := "fnStepModesAreOrderedAndOddInTheRemainder", apart := false }
def FnStepModesAreOrderedAndOddInTheRemainderSaid : Prop := fnStepModesAreOrderedAndOddInTheRemainderRow.holds Try.pinned (OpenSpec.ofChange fnStepModesAreOrderedAndOddInTheRemainderSpec)

/-- ITS FALSE NEIGHBOUR: 'it returns false'. Refute it at one input. -/
def fnStepModesAreOrderedAndOddInTheRemainderWrong : ChangeSpec := { name := "fnStepModesAreOrderedAndOddInTheRemainder", fn := fun _ => fun
  | [d1, d2, d3] => { results := [.lit (.bool false)], args := [d1, d2, d3] }
  | _ => none }
def FnStepModesAreOrderedAndOddInTheRemainderWrongFalsely : Prop := fnStepModesAreOrderedAndOddInTheRemainderRow.holds Try.pinned (OpenSpec.ofChange fnStepModesAreOrderedAndOddInTheRemainderWrong)

end Rows
end Go.Proofs.Qxb6600135a
