/-
  No cell of these rows narrows 'for every input' (looked for: loops, veiled, ifaces, maps, wideKeys, modest, calm, conditions, laid).
  DERIVED. THE GIVEN ROWS OF THIS SEAT. 2 by the template 'for every input the law returns true; each argument reads behind the call as it read before'; 0 by the template 'total and deterministic' (their statements: Qxb6601639aTotals.lean).
  GIVEN WITH THE SEED: the statements are not yours to turn. If you find one false, say at which input.
  Laid BY PROGRAM, IN A SANDBOX (cutbox-rows.mjs): the forced cells as the released guide's own fill.sh prints them over the translation 99e026adea53c293… (all of the seat's roots in one cut). By AI agents, Wed Nov 11 2026. No macro, syntax, notation, axiom, sorry.
-/
import Derived.Test.Qxb6601639aChecked
import GoSem.Claim
import GoSem.ClaimJoined
import GoSem.ClaimMapViews
import Derived.JoinedTies
import Derived.KernelRfl
namespace Go.Proofs.Qxb6601639a
/- THE CELL 'sum', in the pinned program and in every row, IS THE sha256 OF THE DUMP (.gsa) THAT Qxb6601639aProg.lean LOADS. Nothing in Lean hashes anything: it is a label: what it is worth is what the hold of that sum in a sandbox is worth. -/
noncomputable def Try.pinned : Pinned := { name := "qxb6601639a", sum := "99e026adea53c2939e32e7e0f71cc492a82851dc4d4df877230cbaa77551de1f", checked := Try.checked }
namespace Rows
def none {H : Type} : Left H := { results := [], args := [] }

/-- 'zzlaws_wire_b1.FnFieldCountCaseTable': WHATEVER THE INPUT: true; the input reads as it did. -/
def fnFieldCountCaseTableSpec : ChangeSpec := { name := "fnFieldCountCaseTable", fn := fun _ => fun
  | [d1, d2, d3, d4, d5, d6, d7, d8] => { results := [.lit (.bool true)], args := [d1, d2, d3, d4, d5, d6, d7, d8] }
  | _ => none }
def fnFieldCountCaseTableRow : OpenClaim := { program := "qxb6601639a", sum := "99e026adea53c2939e32e7e0f71cc492a82851dc4d4df877230cbaa77551de1f", func := "example.com/peerstow/peerstow/zzlaws_wire_b1.FnFieldCountCaseTable", spec := "fnFieldCountCaseTable", apart := false }
def FnFieldCountCaseTableSaid : Prop := fnFieldCountCaseTableRow.holds Try.pinned (OpenSpec.ofChange fnFieldCountCaseTableSpec)

/-- ITS FALSE NEIGHBOUR: 'it returns false'. Refute it at one input. -/
def fnFieldCountCaseTableWrong : ChangeSpec := { name := "fnFieldCountCaseTable", fn := fun _ => fun
  | [d1, d2, d3, d4, d5, d6, d7, d8] => { results := [.lit (.bool false)], args := [d1, d2, d3, d4, d5, d6, d7, d8] }
  | _ => none }
def FnFieldCountCaseTableWrongFalsely : Prop := fnFieldCountCaseTableRow.holds Try.pinned (OpenSpec.ofChange fnFieldCountCaseTableWrong)

/-- 'zzlaws_wire_b1.FnFieldCountEachFlagAddsOne': WHATEVER THE INPUT: true; the input reads as it did. -/
def fnFieldCountEachFlagAddsOneSpec : ChangeSpec := { name := "fnFieldCountEachFlagAddsOne", fn := fun _ => fun
  | [d1, d2, d3, d4, d5, d6, d7, d8] => { results := [.lit (.bool true)], args := [d1, d2, d3, d4, d5, d6, d7, d8] }
  | _ => none }
def fnFieldCountEachFlagAddsOneRow : OpenClaim := { program := "qxb6601639a", sum := "99e026adea53c2939e32e7e0f71cc492a82851dc4d4df877230cbaa77551de1f", func := "example.com/peerstow/peerstow/zzlaws_wire_b1.FnFieldCountEachFlagAddsOne", spec := "fnFieldCountEachFlagAddsOne", apart := false }
def FnFieldCountEachFlagAddsOneSaid : Prop := fnFieldCountEachFlagAddsOneRow.holds Try.pinned (OpenSpec.ofChange fnFieldCountEachFlagAddsOneSpec)

/-- ITS FALSE NEIGHBOUR: 'it returns false'. Refute it at one input. -/
def fnFieldCountEachFlagAddsOneWrong : ChangeSpec := { name := "fnFieldCountEachFlagAddsOne", fn := fun _ => fun
  | [d1, d2, d3, d4, d5, d6, d7, d8] => { results := [.lit (.bool false)], args := [d1, d2, d3, d4, d5, d6, d7, d8] }
  | _ => none }
def FnFieldCountEachFlagAddsOneWrongFalsely : Prop := fnFieldCountEachFlagAddsOneRow.holds Try.pinned (OpenSpec.ofChange fnFieldCountEachFlagAddsOneWrong)

end Rows
end Go.Proofs.Qxb6601639a
