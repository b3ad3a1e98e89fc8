/-
  No cell of these rows narrows 'for every input' (looked for: loops, veiled, ifaces, maps, wideKeys, modest, calm, conditions, laid).
  DERIVED. THE GIVEN ROWS OF THIS SEAT. 5 by the template 'for every input the law returns true; each argument reads behind the call as it read before'; 0 by the template 'total and deterministic' (their statements: Qxb6600657aTotals.lean).
  GIVEN WITH THE SEED: the statements are not yours to turn. If you find one false, say at which input.
  Laid BY PROGRAM, IN A SANDBOX (cutbox-rows.mjs): the forced cells as the released guide's own fill.sh prints them over the translation c28665e8a58c66ad… (all of the seat's roots in one cut). By AI agents, Wed Nov 11 2026. No macro, syntax, notation, axiom, sorry.
-/
import Derived.Test.Qxb6600657aChecked
import GoSem.Claim
import GoSem.ClaimJoined
import GoSem.ClaimMapViews
import Derived.JoinedTies
import Derived.KernelRfl
namespace Go.Proofs.Qxb6600657a
/- THE CELL 'sum', in the pinned program and in every row, IS THE sha256 OF THE DUMP (.gsa) THAT Qxb6600657aProg.lean LOADS. Nothing in Lean hashes anything: it is a label: what it is worth is what the hold of that sum in a sandbox is worth. -/
noncomputable def Try.pinned : Pinned := { name := "qxb6600657a", sum := "c28665e8a58c66ad876fa35a43d25ec223d9aef929e15f49cc3964bc7bfe5d2b", checked := Try.checked }
namespace Rows
def none {H : Type} : Left H := { results := [], args := [] }

/-- 'zzlaws_thrift_b1.FnAppendZerosExactSpec': WHATEVER THE INPUT: true; the input reads as it did. -/
def fnAppendZerosExactSpecSpec : ChangeSpec := { name := "fnAppendZerosExactSpec", fn := fun _ => fun
  | [d1, d2] => { results := [.lit (.bool true)], args := [d1, d2] }
  | _ => none }
def fnAppendZerosExactSpecRow : OpenClaim := { program := "qxb6600657a", sum := "c28665e8a58c66ad876fa35a43d25ec223d9aef929e15f49cc3964bc7bfe5d2b", func := "example.com/lockframe/lockframe/zzlaws_thrift_b1.FnAppendZerosExactSpec", spec := "fnAppendZerosExactSpec", apart := false }
def FnAppendZerosExactSpecSaid : Prop := fnAppendZerosExactSpecRow.holds Try.pinned (OpenSpec.ofChange fnAppendZerosExactSpecSpec)

/-- ITS FALSE NEIGHBOUR: 'it returns false'. Refute it at one input. -/
def fnAppendZerosExactSpecWrong : ChangeSpec := { name := "fnAppendZerosExactSpec", fn := fun _ => fun
  | [d1, d2] => { results := [.lit (.bool false)], args := [d1, d2] }
  | _ => none }
def FnAppendZerosExactSpecWrongFalsely : Prop := fnAppendZerosExactSpecRow.holds Try.pinned (OpenSpec.ofChange fnAppendZerosExactSpecWrong)

/-- 'zzlaws_thrift_b1.FnAppendZerosSplitCount': WHATEVER THE INPUT: true; the input reads as it did. -/
def fnAppendZerosSplitCountSpec : ChangeSpec := { name := "fnAppendZerosSplitCount", fn := fun _ => fun
  | [d1, d2, d3] => { results := [.lit (.bool true)], args := [d1, d2, d3] }
  | _ => none }
def fnAppendZerosSplitCountRow : OpenClaim := { program := "qxb6600657a", sum := "c28665e8a58c66ad876fa35a43d25ec223d9aef929e15f49cc3964bc7bfe5d2b", func := "example.com/lockframe/lockframe/zzlaws_thrift_b1.FnAppendZerosSplitCount", spec := "fnAppendZerosSplitCount", apart := false }
def FnAppendZerosSplitCountSaid : Prop := fnAppendZerosSplitCountRow.holds Try.pinned (OpenSpec.ofChange fnAppendZerosSplitCountSpec)

/-- ITS FALSE NEIGHBOUR: 'it returns false'. Refute it at one input. -/
def fnAppendZerosSplitCountWrong : ChangeSpec := { name := "fnAppendZerosSplitCount", fn := fun _ => fun
  | [d1, d2, d3] => { results := [.lit (.bool false)], args := [d1, d2, d3] }
  | _ => none }
def FnAppendZerosSplitCountWrongFalsely : Prop := fnAppendZerosSplitCountRow.holds Try.pinned (OpenSpec.ofChange fnAppendZerosSplitCountWrong)

/-- 'zzlaws_thrift_b1.FnAppendStringCanonicalDecode': WHATEVER THE INPUT: true; the input reads as it did. -/
def fnAppendStringCanonicalDecodeSpec : ChangeSpec := { name := "fnAppendStringCanonicalDecode", fn := fun _ => fun
  | [d1, d2] => { results := [.lit (.bool true)], args := [d1, d2] }
  | _ => none }
def fnAppendStringCanonicalDecodeRow : OpenClaim := { program := "qxb6600657a", sum := "c28665e8a58c66ad876fa35a43d25ec223d9aef929e15f49cc3964bc7bfe5d2b", func := "example.com/lockframe/lockframe/zzlaws_thrift_b1.FnAppendStringCanonicalDecode", spec := "fnAppendStringCanonicalDecode", apart := false }
def FnAppendStringCanonicalDecodeSaid : Prop := fnAppendStringCanonicalDecodeRow.holds Try.pinned (OpenSpec.ofChange fnAppendStringCanonicalDecodeSpec)

/-- ITS FALSE NEIGHBOUR: 'it returns false'. Refute it at one input. -/
def fnAppendStringCanonicalDecodeWrong : ChangeSpec := { name := "fnAppendStringCanonicalDecode", fn := fun _ => fun
  | [d1, d2] => { results := [.lit (.bool false)], args := [d1, d2] }
  | _ => none }
def FnAppendStringCanonicalDecodeWrongFalsely : Prop := fnAppendStringCanonicalDecodeRow.holds Try.pinned (OpenSpec.ofChange fnAppendStringCanonicalDecodeWrong)

/-- 'zzlaws_thrift_b1.FnAppendStringSplitsOverConcat': WHATEVER THE INPUT: true; the input reads as it did. -/
def fnAppendStringSplitsOverConcatSpec : ChangeSpec := { name := "fnAppendStringSplitsOverConcat", fn := fun _ => fun
  | [d1, d2] => { results := [.lit (.bool true)], args := [d1, d2] }
  | _ => none }
def fnAppendStringSplitsOverConcatRow : OpenClaim := { program := "qxb6600657a", sum := "c28665e8a58c66ad876fa35a43d25ec223d9aef929e15f49cc3964bc7bfe5d2b", func := "example.com/lockframe/lockframe/zzlaws_thrift_b1.FnAppendStringSplitsOverConcat", spec := "fnAppendStringSplitsOverConcat", apart := false }
def FnAppendStringSplitsOverConcatSaid : Prop := fnAppendStringSplitsOverConcatRow.holds Try.pinned (OpenSpec.ofChange fnAppendStringSplitsOverConcatSpec)

/-- ITS FALSE NEIGHBOUR: 'it returns false'. Refute it at one input. -/
def fnAppendStringSplitsOverConcatWrong : ChangeSpec := { name := "fnAppendStringSplitsOverConcat", fn := fun _ => fun
  | [d1, d2] => { results := [.lit (.bool false)], args := [d1, d2] }
  | _ => none }
def FnAppendStringSplitsOverConcatWrongFalsely : Prop := fnAppendStringSplitsOverConcatRow.holds Try.pinned (OpenSpec.ofChange fnAppendStringSplitsOverConcatWrong)

/-- 'zzlaws_thrift_b1.FnAppendStringLengthBounds': WHATEVER THE INPUT: true; the input reads as it did. -/
def fnAppendStringLengthBoundsSpec : ChangeSpec := { name := "fnAppendStringLengthBounds", fn := fun _ => fun
  | [d1, d2] => { results := [.lit (.bool true)], args := [d1, d2] }
  | _ => none }
def fnAppendStringLengthBoundsRow : OpenClaim := { program := "qxb6600657a", sum := "c28665e8a58c66ad876fa35a43d25ec223d9aef929e15f49cc3964bc7bfe5d2b", func := "example.com/lockframe/lockframe/zzlaws_thrift_b1.FnAppendStringLengthBounds", spec := "fnAppendStringLengthBounds", apart := false }
def FnAppendStringLengthBoundsSaid : Prop := fnAppendStringLengthBoundsRow.holds Try.pinned (OpenSpec.ofChange fnAppendStringLengthBoundsSpec)

/-- ITS FALSE NEIGHBOUR: 'it returns false'. Refute it at one input. -/
def fnAppendStringLengthBoundsWrong : ChangeSpec := { name := "fnAppendStringLengthBounds", fn := fun _ => fun
  | [d1, d2] => { results := [.lit (.bool false)], args := [d1, d2] }
  | _ => none }
def FnAppendStringLengthBoundsWrongFalsely : Prop := fnAppendStringLengthBoundsRow.holds Try.pinned (OpenSpec.ofChange fnAppendStringLengthBoundsWrong)

end Rows
end Go.Proofs.Qxb6600657a
