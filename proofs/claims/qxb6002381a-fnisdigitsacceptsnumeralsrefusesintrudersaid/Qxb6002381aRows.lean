/-
  No cell of these rows narrows 'for every input' (looked for: loops, veiled, ifaces, maps, wideKeys, modest, calm, conditions, laid).
  DERIVED. THE GIVEN ROWS OF THIS SEAT. 3 by the template 'for every input the law returns true; each argument reads behind the call as it read before'; 0 by the template 'total and deterministic' (their statements: Qxb6002381aTotals.lean).
  GIVEN WITH THE SEED: the statements are not yours to turn. If you find one false, say at which input.
  Laid BY PROGRAM, IN A SANDBOX (cutbox-rows.mjs): the forced cells as the released guide's own fill.sh prints them over the translation 70909e3c3df1ad42… (all of the seat's roots in one cut). By AI agents, Wed Nov 11 2026. No macro, syntax, notation, axiom, sorry.
-/
import Derived.Test.Qxb6002381aChecked
import GoSem.Claim
import GoSem.ClaimJoined
import GoSem.ClaimMapViews
import Derived.JoinedTies
import Derived.KernelRfl
namespace Go.Proofs.Qxb6002381a
/- THE CELL 'sum', in the pinned program and in every row, IS THE sha256 OF THE DUMP (.gsa) THAT Qxb6002381aProg.lean LOADS. Nothing in Lean hashes anything: it is a label: what it is worth is what the hold of that sum in a sandbox is worth. -/
noncomputable def Try.pinned : Pinned := { name := "qxb6002381a", sum := "70909e3c3df1ad42e4e943ec249bffdbbef05aac03af155706e5a70c145c9ea2", checked := Try.checked }
namespace Rows
def none {H : Type} : Left H := { results := [], args := [] }

/-- 'zzlaws_pkg_decimal_g1.FnIsDigitsConcat': WHATEVER THE INPUT: true; the input reads as it did. -/
def fnIsDigitsConcatSpec : ChangeSpec := { name := "fnIsDigitsConcat", fn := fun _ => fun
  | [d1, d2] => { results := [.lit (.bool true)], args := [d1, d2] }
  | _ => none }
def fnIsDigitsConcatRow : OpenClaim := { program := "qxb6002381a", sum := "70909e3c3df1ad42e4e943ec249bffdbbef05aac03af155706e5a70c145c9ea2", func := "example.com/tuoguan/tuoguan/zzlaws_pkg_decimal_g1.FnIsDigitsConcat", spec := "fnIsDigitsConcat", apart := false }
def FnIsDigitsConcatSaid : Prop := fnIsDigitsConcatRow.holds Try.pinned (OpenSpec.ofChange fnIsDigitsConcatSpec)

/-- ITS FALSE NEIGHBOUR: 'it returns false'. Refute it at one input. -/
def fnIsDigitsConcatWrong : ChangeSpec := { name := "fnIsDigitsConcat", fn := fun _ => fun
  | [d1, d2] => { results := [.lit (.bool false)], args := [d1, d2] }
  | _ => none }
def FnIsDigitsConcatWrongFalsely : Prop := fnIsDigitsConcatRow.holds Try.pinned (OpenSpec.ofChange fnIsDigitsConcatWrong)

/-- 'zzlaws_pkg_decimal_g1.FnIsDigitsAcceptsNumeralsRefusesIntruder': WHATEVER THE INPUT: true; the input reads as it did. -/
def fnIsDigitsAcceptsNumeralsRefusesIntruderSpec : ChangeSpec := { name := "fnIsDigitsAcceptsNumeralsRefusesIntruder", fn := fun _ => fun
  | [d1, d2, d3, d4] => { results := [.lit (.bool true)], args := [d1, d2, d3, d4] }
  | _ => none }
def fnIsDigitsAcceptsNumeralsRefusesIntruderRow : OpenClaim := { program := "qxb6002381a", sum := "70909e3c3df1ad42e4e943ec249bffdbbef05aac03af155706e5a70c145c9ea2", func := "example.com/tuoguan/tuoguan/zzlaws_pkg_decimal_g1.FnIsDigitsAcceptsNumeralsRefusesIntruder", spec := "fnIsDigitsAcceptsNumeralsRefusesIntruder", apart := false }
def FnIsDigitsAcceptsNumeralsRefusesIntruderSaid : Prop := fnIsDigitsAcceptsNumeralsRefusesIntruderRow.holds Try.pinned (OpenSpec.ofChange fnIsDigitsAcceptsNumeralsRefusesIntruderSpec)

/-- ITS FALSE NEIGHBOUR: 'it returns false'. Refute it at one input. -/
def fnIsDigitsAcceptsNumeralsRefusesIntruderWrong : ChangeSpec := { name := "fnIsDigitsAcceptsNumeralsRefusesIntruder", fn := fun _ => fun
  | [d1, d2, d3, d4] => { results := [.lit (.bool false)], args := [d1, d2, d3, d4] }
  | _ => none }
def FnIsDigitsAcceptsNumeralsRefusesIntruderWrongFalsely : Prop := fnIsDigitsAcceptsNumeralsRefusesIntruderRow.holds Try.pinned (OpenSpec.ofChange fnIsDigitsAcceptsNumeralsRefusesIntruderWrong)

/-- 'zzlaws_pkg_instructions_g1.FnPaidJoinIsUnionOfRegisters': WHATEVER THE INPUT: true; the input reads as it did. -/
def fnPaidJoinIsUnionOfRegistersSpec : ChangeSpec := { name := "fnPaidJoinIsUnionOfRegisters", fn := fun _ => fun
  | [d1, d2, d3] => { results := [.lit (.bool true)], args := [d1, d2, d3] }
  | _ => none }
def fnPaidJoinIsUnionOfRegistersRow : OpenClaim := { program := "qxb6002381a", sum := "70909e3c3df1ad42e4e943ec249bffdbbef05aac03af155706e5a70c145c9ea2", func := "example.com/tuoguan/tuoguan/zzlaws_pkg_instructions_g1.FnPaidJoinIsUnionOfRegisters", spec := "fnPaidJoinIsUnionOfRegisters", apart := false }
def FnPaidJoinIsUnionOfRegistersSaid : Prop := fnPaidJoinIsUnionOfRegistersRow.holds Try.pinned (OpenSpec.ofChange fnPaidJoinIsUnionOfRegistersSpec)

/-- ITS FALSE NEIGHBOUR: 'it returns false'. Refute it at one input. -/
def fnPaidJoinIsUnionOfRegistersWrong : ChangeSpec := { name := "fnPaidJoinIsUnionOfRegisters", fn := fun _ => fun
  | [d1, d2, d3] => { results := [.lit (.bool false)], args := [d1, d2, d3] }
  | _ => none }
def FnPaidJoinIsUnionOfRegistersWrongFalsely : Prop := fnPaidJoinIsUnionOfRegistersRow.holds Try.pinned (OpenSpec.ofChange fnPaidJoinIsUnionOfRegistersWrong)

end Rows
end Go.Proofs.Qxb6002381a
