/-
  No cell of these rows narrows 'for every input' (looked for: loops, veiled, ifaces, maps, wideKeys, modest, calm, conditions, laid).
  DERIVED. THE GIVEN ROWS OF THIS SEAT. 5 by the template 'for every input the law returns true; each argument reads behind the call as it read before'; 0 by the template 'total and deterministic' (their statements: Qxb6601702aTotals.lean).
  GIVEN WITH THE SEED: the statements are not yours to turn. If you find one false, say at which input.
  Laid BY PROGRAM, IN A SANDBOX (cutbox-rows.mjs): the forced cells as the released guide's own fill.sh prints them over the translation de9a68b171353698… (all of the seat's roots in one cut). By AI agents, Wed Nov 11 2026. No macro, syntax, notation, axiom, sorry.
-/
import Derived.Test.Qxb6601702aChecked
import GoSem.Claim
import GoSem.ClaimJoined
import GoSem.ClaimMapViews
import Derived.JoinedTies
import Derived.KernelRfl
namespace Go.Proofs.Qxb6601702a
/- THE CELL 'sum', in the pinned program and in every row, IS THE sha256 OF THE DUMP (.gsa) THAT Qxb6601702aProg.lean LOADS. Nothing in Lean hashes anything: it is a label: what it is worth is what the hold of that sum in a sandbox is worth. -/
noncomputable def Try.pinned : Pinned := { name := "qxb6601702a", sum := "de9a68b17135369823503a78557631a5a1c4c61f549898b85c0791a5a4b6f991", checked := Try.checked }
namespace Rows
def none {H : Type} : Left H := { results := [], args := [] }

/-- 'zzlaws_internal_tracecontext_b1.FnKeyPartMatchesModel': WHATEVER THE INPUT: true; the input reads as it did. -/
def fnKeyPartMatchesModelSpec : ChangeSpec := { name := "fnKeyPartMatchesModel", fn := fun _ => fun
  | [d1, d2, d3] => { results := [.lit (.bool true)], args := [d1, d2, d3] }
  | _ => none }
def fnKeyPartMatchesModelRow : OpenClaim := { program := "qxb6601702a", sum := "de9a68b17135369823503a78557631a5a1c4c61f549898b85c0791a5a4b6f991", func := "example.com/backstitch/backstitch/zzlaws_internal_tracecontext_b1.FnKeyPartMatchesModel", spec := "fnKeyPartMatchesModel", apart := false }
def FnKeyPartMatchesModelSaid : Prop := fnKeyPartMatchesModelRow.holds Try.pinned (OpenSpec.ofChange fnKeyPartMatchesModelSpec)

/-- ITS FALSE NEIGHBOUR: 'it returns false'. Refute it at one input. -/
def fnKeyPartMatchesModelWrong : ChangeSpec := { name := "fnKeyPartMatchesModel", fn := fun _ => fun
  | [d1, d2, d3] => { results := [.lit (.bool false)], args := [d1, d2, d3] }
  | _ => none }
def FnKeyPartMatchesModelWrongFalsely : Prop := fnKeyPartMatchesModelRow.holds Try.pinned (OpenSpec.ofChange fnKeyPartMatchesModelWrong)

/-- 'zzlaws_internal_tracecontext_b1.FnKeyPartMonotone': WHATEVER THE INPUT: true; the input reads as it did. -/
def fnKeyPartMonotoneSpec : ChangeSpec := { name := "fnKeyPartMonotone", fn := fun _ => fun
  | [d1, d2, d3, d4] => { results := [.lit (.bool true)], args := [d1, d2, d3, d4] }
  | _ => none }
def fnKeyPartMonotoneRow : OpenClaim := { program := "qxb6601702a", sum := "de9a68b17135369823503a78557631a5a1c4c61f549898b85c0791a5a4b6f991", func := "example.com/backstitch/backstitch/zzlaws_internal_tracecontext_b1.FnKeyPartMonotone", spec := "fnKeyPartMonotone", apart := false }
def FnKeyPartMonotoneSaid : Prop := fnKeyPartMonotoneRow.holds Try.pinned (OpenSpec.ofChange fnKeyPartMonotoneSpec)

/-- ITS FALSE NEIGHBOUR: 'it returns false'. Refute it at one input. -/
def fnKeyPartMonotoneWrong : ChangeSpec := { name := "fnKeyPartMonotone", fn := fun _ => fun
  | [d1, d2, d3, d4] => { results := [.lit (.bool false)], args := [d1, d2, d3, d4] }
  | _ => none }
def FnKeyPartMonotoneWrongFalsely : Prop := fnKeyPartMonotoneRow.holds Try.pinned (OpenSpec.ofChange fnKeyPartMonotoneWrong)

/-- 'zzlaws_internal_tracecontext_b1.FnKeyPartPrefixClosed': WHATEVER THE INPUT: true; the input reads as it did. -/
def fnKeyPartPrefixClosedSpec : ChangeSpec := { name := "fnKeyPartPrefixClosed", fn := fun _ => fun
  | [d1, d2, d3] => { results := [.lit (.bool true)], args := [d1, d2, d3] }
  | _ => none }
def fnKeyPartPrefixClosedRow : OpenClaim := { program := "qxb6601702a", sum := "de9a68b17135369823503a78557631a5a1c4c61f549898b85c0791a5a4b6f991", func := "example.com/backstitch/backstitch/zzlaws_internal_tracecontext_b1.FnKeyPartPrefixClosed", spec := "fnKeyPartPrefixClosed", apart := false }
def FnKeyPartPrefixClosedSaid : Prop := fnKeyPartPrefixClosedRow.holds Try.pinned (OpenSpec.ofChange fnKeyPartPrefixClosedSpec)

/-- ITS FALSE NEIGHBOUR: 'it returns false'. Refute it at one input. -/
def fnKeyPartPrefixClosedWrong : ChangeSpec := { name := "fnKeyPartPrefixClosed", fn := fun _ => fun
  | [d1, d2, d3] => { results := [.lit (.bool false)], args := [d1, d2, d3] }
  | _ => none }
def FnKeyPartPrefixClosedWrongFalsely : Prop := fnKeyPartPrefixClosedRow.holds Try.pinned (OpenSpec.ofChange fnKeyPartPrefixClosedWrong)

/-- 'zzlaws_internal_tracecontext_b1.FnKeyPartIsValue': WHATEVER THE INPUT: true; the input reads as it did. -/
def fnKeyPartIsValueSpec : ChangeSpec := { name := "fnKeyPartIsValue", fn := fun _ => fun
  | [d1, d2, d3] => { results := [.lit (.bool true)], args := [d1, d2, d3] }
  | _ => none }
def fnKeyPartIsValueRow : OpenClaim := { program := "qxb6601702a", sum := "de9a68b17135369823503a78557631a5a1c4c61f549898b85c0791a5a4b6f991", func := "example.com/backstitch/backstitch/zzlaws_internal_tracecontext_b1.FnKeyPartIsValue", spec := "fnKeyPartIsValue", apart := false }
def FnKeyPartIsValueSaid : Prop := fnKeyPartIsValueRow.holds Try.pinned (OpenSpec.ofChange fnKeyPartIsValueSpec)

/-- ITS FALSE NEIGHBOUR: 'it returns false'. Refute it at one input. -/
def fnKeyPartIsValueWrong : ChangeSpec := { name := "fnKeyPartIsValue", fn := fun _ => fun
  | [d1, d2, d3] => { results := [.lit (.bool false)], args := [d1, d2, d3] }
  | _ => none }
def FnKeyPartIsValueWrongFalsely : Prop := fnKeyPartIsValueRow.holds Try.pinned (OpenSpec.ofChange fnKeyPartIsValueWrong)

/-- 'zzlaws_internal_tracecontext_b1.FnValidValueConcat': WHATEVER THE INPUT: true; the input reads as it did. -/
def fnValidValueConcatSpec : ChangeSpec := { name := "fnValidValueConcat", fn := fun _ => fun
  | [d1, d2] => { results := [.lit (.bool true)], args := [d1, d2] }
  | _ => none }
def fnValidValueConcatRow : OpenClaim := { program := "qxb6601702a", sum := "de9a68b17135369823503a78557631a5a1c4c61f549898b85c0791a5a4b6f991", func := "example.com/backstitch/backstitch/zzlaws_internal_tracecontext_b1.FnValidValueConcat", spec := "fnValidValueConcat", apart := false }
def FnValidValueConcatSaid : Prop := fnValidValueConcatRow.holds Try.pinned (OpenSpec.ofChange fnValidValueConcatSpec)

/-- ITS FALSE NEIGHBOUR: 'it returns false'. Refute it at one input. -/
def fnValidValueConcatWrong : ChangeSpec := { name := "fnValidValueConcat", fn := fun _ => fun
  | [d1, d2] => { results := [.lit (.bool false)], args := [d1, d2] }
  | _ => none }
def FnValidValueConcatWrongFalsely : Prop := fnValidValueConcatRow.holds Try.pinned (OpenSpec.ofChange fnValidValueConcatWrong)

end Rows
end Go.Proofs.Qxb6601702a
