/-
  No cell of these rows narrows 'for every input' (looked for: loops, veiled, ifaces, maps, wideKeys, modest, calm, conditions, laid).
  DERIVED. THE GIVEN ROWS OF THIS SEAT. 4 by the template 'for every input the law returns true; each argument reads behind the call as it read before'; 0 by the template 'total and deterministic' (their statements: Qxb6603452aTotals.lean).
  GIVEN WITH THE SEED: the statements are not yours to turn. If you find one false, say at which input.
  Laid BY PROGRAM, IN A SANDBOX (cutbox-rows.mjs): the forced cells as the released guide's own fill.sh prints them over the translation 56e8c334f0fc9cfb… (all of the seat's roots in one cut). By AI agents, Wed Nov 11 2026. No macro, syntax, notation, axiom, sorry.
-/
import Derived.Test.Qxb6603452aChecked
import GoSem.Claim
import GoSem.ClaimJoined
import GoSem.ClaimMapViews
import Derived.JoinedTies
import Derived.KernelRfl
namespace Go.Proofs.Qxb6603452a
/- THE CELL 'sum', in the pinned program and in every row, IS THE sha256 OF THE DUMP (.gsa) THAT Qxb6603452aProg.lean LOADS. Nothing in Lean hashes anything: it is a label: what it is worth is what the hold of that sum in a sandbox is worth. -/
noncomputable def Try.pinned : Pinned := { name := "qxb6603452a", sum := "56e8c334f0fc9cfb21fb04f79833a6958c7e25ba6982216017b59ab3ac09ac95", checked := Try.checked }
namespace Rows
def none {H : Type} : Left H := { results := [], args := [] }

/-- 'zzlaws_internal_diff_b1.FnBothAllowIsSortedIntersection': WHATEVER THE INPUT: true; the input reads as it did. -/
def fnBothAllowIsSortedIntersectionSpec : ChangeSpec := { name := "fnBothAllowIsSortedIntersection", fn := fun _ => fun
  | [d1, d2] => { results := [.lit (.bool true)], args := [d1, d2] }
  | _ => none }
def fnBothAllowIsSortedIntersectionRow : OpenClaim := { program := "qxb6603452a", sum := "56e8c334f0fc9cfb21fb04f79833a6958c7e25ba6982216017b59ab3ac09ac95", func := "example.com/seamgate/seamgate/zzlaws_internal_diff_b1.FnBothAllowIsSortedIntersection", spec := "fnBothAllowIsSortedIntersection", inPlace := ["internal/bytealg.abigen_runtime_cmpstring"], apart := false }
def FnBothAllowIsSortedIntersectionSaid : Prop := fnBothAllowIsSortedIntersectionRow.holds Try.pinned (OpenSpec.ofChange fnBothAllowIsSortedIntersectionSpec)

/-- ITS FALSE NEIGHBOUR: 'it returns false'. Refute it at one input. -/
def fnBothAllowIsSortedIntersectionWrong : ChangeSpec := { name := "fnBothAllowIsSortedIntersection", fn := fun _ => fun
  | [d1, d2] => { results := [.lit (.bool false)], args := [d1, d2] }
  | _ => none }
def FnBothAllowIsSortedIntersectionWrongFalsely : Prop := fnBothAllowIsSortedIntersectionRow.holds Try.pinned (OpenSpec.ofChange fnBothAllowIsSortedIntersectionWrong)

/-- 'zzlaws_internal_diff_b1.FnBothAllowCommutes': WHATEVER THE INPUT: true; the input reads as it did. -/
def fnBothAllowCommutesSpec : ChangeSpec := { name := "fnBothAllowCommutes", fn := fun _ => fun
  | [d1, d2] => { results := [.lit (.bool true)], args := [d1, d2] }
  | _ => none }
def fnBothAllowCommutesRow : OpenClaim := { program := "qxb6603452a", sum := "56e8c334f0fc9cfb21fb04f79833a6958c7e25ba6982216017b59ab3ac09ac95", func := "example.com/seamgate/seamgate/zzlaws_internal_diff_b1.FnBothAllowCommutes", spec := "fnBothAllowCommutes", inPlace := ["internal/bytealg.abigen_runtime_cmpstring"], apart := false }
def FnBothAllowCommutesSaid : Prop := fnBothAllowCommutesRow.holds Try.pinned (OpenSpec.ofChange fnBothAllowCommutesSpec)

/-- ITS FALSE NEIGHBOUR: 'it returns false'. Refute it at one input. -/
def fnBothAllowCommutesWrong : ChangeSpec := { name := "fnBothAllowCommutes", fn := fun _ => fun
  | [d1, d2] => { results := [.lit (.bool false)], args := [d1, d2] }
  | _ => none }
def FnBothAllowCommutesWrongFalsely : Prop := fnBothAllowCommutesRow.holds Try.pinned (OpenSpec.ofChange fnBothAllowCommutesWrong)

/-- 'zzlaws_internal_diff_b1.FnEnumMovesMatchesCommonCount': WHATEVER THE INPUT: true; the input reads as it did. -/
def fnEnumMovesMatchesCommonCountSpec : ChangeSpec := { name := "fnEnumMovesMatchesCommonCount", fn := fun _ => fun
  | [d1, d2] => { results := [.lit (.bool true)], args := [d1, d2] }
  | _ => none }
def fnEnumMovesMatchesCommonCountRow : OpenClaim := { program := "qxb6603452a", sum := "56e8c334f0fc9cfb21fb04f79833a6958c7e25ba6982216017b59ab3ac09ac95", func := "example.com/seamgate/seamgate/zzlaws_internal_diff_b1.FnEnumMovesMatchesCommonCount", spec := "fnEnumMovesMatchesCommonCount", apart := false }
def FnEnumMovesMatchesCommonCountSaid : Prop := fnEnumMovesMatchesCommonCountRow.holds Try.pinned (OpenSpec.ofChange fnEnumMovesMatchesCommonCountSpec)

/-- ITS FALSE NEIGHBOUR: 'it returns false'. Refute it at one input. -/
def fnEnumMovesMatchesCommonCountWrong : ChangeSpec := { name := "fnEnumMovesMatchesCommonCount", fn := fun _ => fun
  | [d1, d2] => { results := [.lit (.bool false)], args := [d1, d2] }
  | _ => none }
def FnEnumMovesMatchesCommonCountWrongFalsely : Prop := fnEnumMovesMatchesCommonCountRow.holds Try.pinned (OpenSpec.ofChange fnEnumMovesMatchesCommonCountWrong)

/-- 'zzlaws_internal_diff_b1.FnEnumMovesAgreesWithBothAllow': WHATEVER THE INPUT: true; the input reads as it did. -/
def fnEnumMovesAgreesWithBothAllowSpec : ChangeSpec := { name := "fnEnumMovesAgreesWithBothAllow", fn := fun _ => fun
  | [d1, d2] => { results := [.lit (.bool true)], args := [d1, d2] }
  | _ => none }
def fnEnumMovesAgreesWithBothAllowRow : OpenClaim := { program := "qxb6603452a", sum := "56e8c334f0fc9cfb21fb04f79833a6958c7e25ba6982216017b59ab3ac09ac95", func := "example.com/seamgate/seamgate/zzlaws_internal_diff_b1.FnEnumMovesAgreesWithBothAllow", spec := "fnEnumMovesAgreesWithBothAllow", inPlace := ["internal/bytealg.abigen_runtime_cmpstring"], apart := false }
def FnEnumMovesAgreesWithBothAllowSaid : Prop := fnEnumMovesAgreesWithBothAllowRow.holds Try.pinned (OpenSpec.ofChange fnEnumMovesAgreesWithBothAllowSpec)

/-- ITS FALSE NEIGHBOUR: 'it returns false'. Refute it at one input. -/
def fnEnumMovesAgreesWithBothAllowWrong : ChangeSpec := { name := "fnEnumMovesAgreesWithBothAllow", fn := fun _ => fun
  | [d1, d2] => { results := [.lit (.bool false)], args := [d1, d2] }
  | _ => none }
def FnEnumMovesAgreesWithBothAllowWrongFalsely : Prop := fnEnumMovesAgreesWithBothAllowRow.holds Try.pinned (OpenSpec.ofChange fnEnumMovesAgreesWithBothAllowWrong)

end Rows
end Go.Proofs.Qxb6603452a
