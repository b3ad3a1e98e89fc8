/-
  No cell of these rows narrows 'for every input' (looked for: loops, veiled, ifaces, maps, wideKeys, modest, calm, conditions, laid).
  DERIVED. THE GIVEN ROWS OF THIS SEAT. 2 by the template 'for every input the law returns true; each argument reads behind the call as it read before'; 0 by the template 'total and deterministic' (their statements: Qxb6600142aTotals.lean).
  GIVEN WITH THE SEED: the statements are not yours to turn. If you find one false, say at which input.
  Laid BY PROGRAM, IN A SANDBOX (cutbox-rows.mjs): the forced cells as the released guide's own fill.sh prints them over the translation bbe95626bdcc28ab… (all of the seat's roots in one cut). By AI agents, Wed Nov 11 2026. No macro, syntax, notation, axiom, sorry.
-/
import Derived.Test.Qxb6600142aChecked
import GoSem.Claim
import GoSem.ClaimJoined
import GoSem.ClaimMapViews
import Derived.JoinedTies
import Derived.KernelRfl
namespace Go.Proofs.Qxb6600142a
/- THE CELL 'sum', in the pinned program and in every row, IS THE sha256 OF THE DUMP (.gsa) THAT Qxb6600142aProg.lean LOADS. Nothing in Lean hashes anything: it is a label: what it is worth is what the hold of that sum in a sandbox is worth. -/
noncomputable def Try.pinned : Pinned := { name := "qxb6600142a", sum := "bbe95626bdcc28ab7cb4a18a32e7d8219285713c1576f2342defc37360b5a60d", checked := Try.checked }
namespace Rows
def none {H : Type} : Left H := { results := [], args := [] }

/-- 'zzlaws_internal_xlsx_b1.FnCodeReadsBackAsItsFormat': WHATEVER THE INPUT: true; the input reads as it did. -/
def fnCodeReadsBackAsItsFormatSpec : ChangeSpec := { name := "fnCodeReadsBackAsItsFormat", fn := fun _ => fun
  | [d1, d2, d3] => { results := [.lit (.bool true)], args := [d1, d2, d3] }
  | _ => none }
def fnCodeReadsBackAsItsFormatRow : OpenClaim := { program := "qxb6600142a", sum := "bbe95626bdcc28ab7cb4a18a32e7d8219285713c1576f2342defc37360b5a60d", func := "example.com/vestline/vestline/zzlaws_internal_xlsx_b1.FnCodeReadsBackAsItsFormat", spec := "fnCodeReadsBackAsItsFormat", inPlace := ["internal/abi.NoEscape", "internal/bytealg.MakeNoZero"], apart := false }
def FnCodeReadsBackAsItsFormatSaid : Prop := fnCodeReadsBackAsItsFormatRow.holds Try.pinned (OpenSpec.ofChange fnCodeReadsBackAsItsFormatSpec)

/-- ITS FALSE NEIGHBOUR: 'it returns false'. Refute it at one input. -/
def fnCodeReadsBackAsItsFormatWrong : ChangeSpec := { name := "fnCodeReadsBackAsItsFormat", fn := fun _ => fun
  | [d1, d2, d3] => { results := [.lit (.bool false)], args := [d1, d2, d3] }
  | _ => none }
def FnCodeReadsBackAsItsFormatWrongFalsely : Prop := fnCodeReadsBackAsItsFormatRow.holds Try.pinned (OpenSpec.ofChange fnCodeReadsBackAsItsFormatWrong)

/-- 'zzlaws_internal_xlsx_b1.FnCodesEqualExactlyWhenFormatsShowAlike': WHATEVER THE INPUT: true; the input reads as it did. -/
def fnCodesEqualExactlyWhenFormatsShowAlikeSpec : ChangeSpec := { name := "fnCodesEqualExactlyWhenFormatsShowAlike", fn := fun _ => fun
  | [d1, d2, d3, d4, d5, d6] => { results := [.lit (.bool true)], args := [d1, d2, d3, d4, d5, d6] }
  | _ => none }
def fnCodesEqualExactlyWhenFormatsShowAlikeRow : OpenClaim := { program := "qxb6600142a", sum := "bbe95626bdcc28ab7cb4a18a32e7d8219285713c1576f2342defc37360b5a60d", func := "example.com/vestline/vestline/zzlaws_internal_xlsx_b1.FnCodesEqualExactlyWhenFormatsShowAlike", spec := "fnCodesEqualExactlyWhenFormatsShowAlike", inPlace := ["internal/abi.NoEscape", "internal/bytealg.MakeNoZero"], apart := false }
def FnCodesEqualExactlyWhenFormatsShowAlikeSaid : Prop := fnCodesEqualExactlyWhenFormatsShowAlikeRow.holds Try.pinned (OpenSpec.ofChange fnCodesEqualExactlyWhenFormatsShowAlikeSpec)

/-- ITS FALSE NEIGHBOUR: 'it returns false'. Refute it at one input. -/
def fnCodesEqualExactlyWhenFormatsShowAlikeWrong : ChangeSpec := { name := "fnCodesEqualExactlyWhenFormatsShowAlike", fn := fun _ => fun
  | [d1, d2, d3, d4, d5, d6] => { results := [.lit (.bool false)], args := [d1, d2, d3, d4, d5, d6] }
  | _ => none }
def FnCodesEqualExactlyWhenFormatsShowAlikeWrongFalsely : Prop := fnCodesEqualExactlyWhenFormatsShowAlikeRow.holds Try.pinned (OpenSpec.ofChange fnCodesEqualExactlyWhenFormatsShowAlikeWrong)

end Rows
end Go.Proofs.Qxb6600142a
