/-
  No cell of these rows narrows 'for every input' (looked for: loops, veiled, ifaces, maps, wideKeys, modest, calm, conditions, laid).
  DERIVED. THE GIVEN ROWS OF THIS SEAT. 4 by the template 'for every input the law returns true; each argument reads behind the call as it read before'; 0 by the template 'total and deterministic' (their statements: Qxb6601635aTotals.lean).
  GIVEN WITH THE SEED: the statements are not yours to turn. If you find one false, say at which input.
  Laid BY PROGRAM, IN A SANDBOX (cutbox-rows.mjs): the forced cells as the released guide's own fill.sh prints them over the translation 953ecc3dd2f3f68a… (all of the seat's roots in one cut). By AI agents, Wed Nov 11 2026. No macro, syntax, notation, axiom, sorry.
-/
import Derived.Test.Qxb6601635aChecked
import GoSem.Claim
import GoSem.ClaimJoined
import GoSem.ClaimMapViews
import Derived.JoinedTies
import Derived.KernelRfl
namespace Go.Proofs.Qxb6601635a
/- THE CELL 'sum', in the pinned program and in every row, IS THE sha256 OF THE DUMP (.gsa) THAT Qxb6601635aProg.lean LOADS. Nothing in Lean hashes anything: it is a label: what it is worth is what the hold of that sum in a sandbox is worth. -/
noncomputable def Try.pinned : Pinned := { name := "qxb6601635a", sum := "953ecc3dd2f3f68aef9bd54c458de1f815a51ebd29c8914e0d9b19348594d21c", checked := Try.checked }
namespace Rows
def none {H : Type} : Left H := { results := [], args := [] }

/-- 'zzlaws_pkg_expr_b1.FnNameLengthSpec': WHATEVER THE INPUT: true; the input reads as it did. -/
def fnNameLengthSpecSpec : ChangeSpec := { name := "fnNameLengthSpec", fn := fun _ => fun
  | [d] => { results := [.lit (.bool true)], args := [d] }
  | _ => none }
def fnNameLengthSpecRow : OpenClaim := { program := "qxb6601635a", sum := "953ecc3dd2f3f68aef9bd54c458de1f815a51ebd29c8914e0d9b19348594d21c", func := "example.com/atoll/atoll/zzlaws_pkg_expr_b1.FnNameLengthSpec", spec := "fnNameLengthSpec", apart := false }
def FnNameLengthSpecSaid : Prop := fnNameLengthSpecRow.holds Try.pinned (OpenSpec.ofChange fnNameLengthSpecSpec)

/-- ITS FALSE NEIGHBOUR: 'it returns false'. Refute it at one input. -/
def fnNameLengthSpecWrong : ChangeSpec := { name := "fnNameLengthSpec", fn := fun _ => fun
  | [d] => { results := [.lit (.bool false)], args := [d] }
  | _ => none }
def FnNameLengthSpecWrongFalsely : Prop := fnNameLengthSpecRow.holds Try.pinned (OpenSpec.ofChange fnNameLengthSpecWrong)

/-- 'zzlaws_pkg_expr_b1.FnNameLengthConcat': WHATEVER THE INPUT: true; the input reads as it did. -/
def fnNameLengthConcatSpec : ChangeSpec := { name := "fnNameLengthConcat", fn := fun _ => fun
  | [d1, d2] => { results := [.lit (.bool true)], args := [d1, d2] }
  | _ => none }
def fnNameLengthConcatRow : OpenClaim := { program := "qxb6601635a", sum := "953ecc3dd2f3f68aef9bd54c458de1f815a51ebd29c8914e0d9b19348594d21c", func := "example.com/atoll/atoll/zzlaws_pkg_expr_b1.FnNameLengthConcat", spec := "fnNameLengthConcat", apart := false }
def FnNameLengthConcatSaid : Prop := fnNameLengthConcatRow.holds Try.pinned (OpenSpec.ofChange fnNameLengthConcatSpec)

/-- ITS FALSE NEIGHBOUR: 'it returns false'. Refute it at one input. -/
def fnNameLengthConcatWrong : ChangeSpec := { name := "fnNameLengthConcat", fn := fun _ => fun
  | [d1, d2] => { results := [.lit (.bool false)], args := [d1, d2] }
  | _ => none }
def FnNameLengthConcatWrongFalsely : Prop := fnNameLengthConcatRow.holds Try.pinned (OpenSpec.ofChange fnNameLengthConcatWrong)

/-- 'zzlaws_pkg_expr_b1.FnChildScriptOnRoot': WHATEVER THE INPUT: true; the input reads as it did. -/
def fnChildScriptOnRootSpec : ChangeSpec := { name := "fnChildScriptOnRoot", fn := fun _ => fun
  | [d1, d2] => { results := [.lit (.bool true)], args := [d1, d2] }
  | _ => none }
def fnChildScriptOnRootRow : OpenClaim := { program := "qxb6601635a", sum := "953ecc3dd2f3f68aef9bd54c458de1f815a51ebd29c8914e0d9b19348594d21c", func := "example.com/atoll/atoll/zzlaws_pkg_expr_b1.FnChildScriptOnRoot", spec := "fnChildScriptOnRoot", apart := false }
def FnChildScriptOnRootSaid : Prop := fnChildScriptOnRootRow.holds Try.pinned (OpenSpec.ofChange fnChildScriptOnRootSpec)

/-- ITS FALSE NEIGHBOUR: 'it returns false'. Refute it at one input. -/
def fnChildScriptOnRootWrong : ChangeSpec := { name := "fnChildScriptOnRoot", fn := fun _ => fun
  | [d1, d2] => { results := [.lit (.bool false)], args := [d1, d2] }
  | _ => none }
def FnChildScriptOnRootWrongFalsely : Prop := fnChildScriptOnRootRow.holds Try.pinned (OpenSpec.ofChange fnChildScriptOnRootWrong)

/-- 'zzlaws_pkg_expr_b1.FnChildPathWalkTwice': WHATEVER THE INPUT: true; the input reads as it did. -/
def fnChildPathWalkTwiceSpec : ChangeSpec := { name := "fnChildPathWalkTwice", fn := fun _ => fun
  | [d] => { results := [.lit (.bool true)], args := [d] }
  | _ => none }
def fnChildPathWalkTwiceRow : OpenClaim := { program := "qxb6601635a", sum := "953ecc3dd2f3f68aef9bd54c458de1f815a51ebd29c8914e0d9b19348594d21c", func := "example.com/atoll/atoll/zzlaws_pkg_expr_b1.FnChildPathWalkTwice", spec := "fnChildPathWalkTwice", apart := false }
def FnChildPathWalkTwiceSaid : Prop := fnChildPathWalkTwiceRow.holds Try.pinned (OpenSpec.ofChange fnChildPathWalkTwiceSpec)

/-- ITS FALSE NEIGHBOUR: 'it returns false'. Refute it at one input. -/
def fnChildPathWalkTwiceWrong : ChangeSpec := { name := "fnChildPathWalkTwice", fn := fun _ => fun
  | [d] => { results := [.lit (.bool false)], args := [d] }
  | _ => none }
def FnChildPathWalkTwiceWrongFalsely : Prop := fnChildPathWalkTwiceRow.holds Try.pinned (OpenSpec.ofChange fnChildPathWalkTwiceWrong)

end Rows
end Go.Proofs.Qxb6601635a
