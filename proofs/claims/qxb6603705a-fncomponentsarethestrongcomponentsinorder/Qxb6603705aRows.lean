/-
  No cell of these rows narrows 'for every input' (looked for: loops, veiled, ifaces, maps, wideKeys, modest, calm, conditions, laid).
  DERIVED. THE GIVEN ROWS OF THIS SEAT. 3 by the template 'for every input the law returns true; each argument reads behind the call as it read before'; 0 by the template 'total and deterministic' (their statements: Qxb6603705aTotals.lean).
  GIVEN WITH THE SEED: the statements are not yours to turn. If you find one false, say at which input.
  Laid BY PROGRAM, IN A SANDBOX (cutbox-rows.mjs): the forced cells as the released guide's own fill.sh prints them over the translation 8e877bf575b3070c… (all of the seat's roots in one cut). By AI agents, Wed Nov 11 2026. No macro, syntax, notation, axiom, sorry.
-/
import Derived.Test.Qxb6603705aChecked
import GoSem.Claim
import GoSem.ClaimJoined
import GoSem.ClaimMapViews
import Derived.JoinedTies
import Derived.KernelRfl
namespace Go.Proofs.Qxb6603705a
/- THE CELL 'sum', in the pinned program and in every row, IS THE sha256 OF THE DUMP (.gsa) THAT Qxb6603705aProg.lean LOADS. Nothing in Lean hashes anything: it is a label: what it is worth is what the hold of that sum in a sandbox is worth. -/
noncomputable def Try.pinned : Pinned := { name := "qxb6603705a", sum := "8e877bf575b3070c191d5992736b306f0d936de222aa3452326cd4be29c5021e", checked := Try.checked }
namespace Rows
def none {H : Type} : Left H := { results := [], args := [] }

/-- 'zzlaws_internal_manifest_b1.FnComponentsAreTheStrongComponentsInOrder': WHATEVER THE INPUT: true; the input reads as it did. -/
def fnComponentsAreTheStrongComponentsInOrderSpec : ChangeSpec := { name := "fnComponentsAreTheStrongComponentsInOrder", fn := fun _ => fun
  | [d1, d2] => { results := [.lit (.bool true)], args := [d1, d2] }
  | _ => none }
def fnComponentsAreTheStrongComponentsInOrderRow : OpenClaim := { program := "qxb6603705a", sum := "8e877bf575b3070c191d5992736b306f0d936de222aa3452326cd4be29c5021e", func := "example.com/castellan/castellan/zzlaws_internal_manifest_b1.FnComponentsAreTheStrongComponentsInOrder", spec := "fnComponentsAreTheStrongComponentsInOrder", unfollowed := true, recurses := true, apart := false }
def FnComponentsAreTheStrongComponentsInOrderSaid : Prop := fnComponentsAreTheStrongComponentsInOrderRow.holds Try.pinned (OpenSpec.ofChange fnComponentsAreTheStrongComponentsInOrderSpec)

/-- ITS FALSE NEIGHBOUR: 'it returns false'. Refute it at one input. -/
def fnComponentsAreTheStrongComponentsInOrderWrong : ChangeSpec := { name := "fnComponentsAreTheStrongComponentsInOrder", fn := fun _ => fun
  | [d1, d2] => { results := [.lit (.bool false)], args := [d1, d2] }
  | _ => none }
def FnComponentsAreTheStrongComponentsInOrderWrongFalsely : Prop := fnComponentsAreTheStrongComponentsInOrderRow.holds Try.pinned (OpenSpec.ofChange fnComponentsAreTheStrongComponentsInOrderWrong)

/-- 'zzlaws_internal_manifest_b1.FnCycleIsAShortestReturnToItsFirstTag': WHATEVER THE INPUT: true; the input reads as it did. -/
def fnCycleIsAShortestReturnToItsFirstTagSpec : ChangeSpec := { name := "fnCycleIsAShortestReturnToItsFirstTag", fn := fun _ => fun
  | [d1, d2, d3] => { results := [.lit (.bool true)], args := [d1, d2, d3] }
  | _ => none }
def fnCycleIsAShortestReturnToItsFirstTagRow : OpenClaim := { program := "qxb6603705a", sum := "8e877bf575b3070c191d5992736b306f0d936de222aa3452326cd4be29c5021e", func := "example.com/castellan/castellan/zzlaws_internal_manifest_b1.FnCycleIsAShortestReturnToItsFirstTag", spec := "fnCycleIsAShortestReturnToItsFirstTag", apart := false }
def FnCycleIsAShortestReturnToItsFirstTagSaid : Prop := fnCycleIsAShortestReturnToItsFirstTagRow.holds Try.pinned (OpenSpec.ofChange fnCycleIsAShortestReturnToItsFirstTagSpec)

/-- ITS FALSE NEIGHBOUR: 'it returns false'. Refute it at one input. -/
def fnCycleIsAShortestReturnToItsFirstTagWrong : ChangeSpec := { name := "fnCycleIsAShortestReturnToItsFirstTag", fn := fun _ => fun
  | [d1, d2, d3] => { results := [.lit (.bool false)], args := [d1, d2, d3] }
  | _ => none }
def FnCycleIsAShortestReturnToItsFirstTagWrongFalsely : Prop := fnCycleIsAShortestReturnToItsFirstTagRow.holds Try.pinned (OpenSpec.ofChange fnCycleIsAShortestReturnToItsFirstTagWrong)

/-- 'zzlaws_internal_manifest_b1.FnEveryComponentOnACycleYieldsItsCycle': WHATEVER THE INPUT: true; the input reads as it did. -/
def fnEveryComponentOnACycleYieldsItsCycleSpec : ChangeSpec := { name := "fnEveryComponentOnACycleYieldsItsCycle", fn := fun _ => fun
  | [d1, d2] => { results := [.lit (.bool true)], args := [d1, d2] }
  | _ => none }
def fnEveryComponentOnACycleYieldsItsCycleRow : OpenClaim := { program := "qxb6603705a", sum := "8e877bf575b3070c191d5992736b306f0d936de222aa3452326cd4be29c5021e", func := "example.com/castellan/castellan/zzlaws_internal_manifest_b1.FnEveryComponentOnACycleYieldsItsCycle", spec := "fnEveryComponentOnACycleYieldsItsCycle", unfollowed := true, recurses := true, apart := false }
def FnEveryComponentOnACycleYieldsItsCycleSaid : Prop := fnEveryComponentOnACycleYieldsItsCycleRow.holds Try.pinned (OpenSpec.ofChange fnEveryComponentOnACycleYieldsItsCycleSpec)

/-- ITS FALSE NEIGHBOUR: 'it returns false'. Refute it at one input. -/
def fnEveryComponentOnACycleYieldsItsCycleWrong : ChangeSpec := { name := "fnEveryComponentOnACycleYieldsItsCycle", fn := fun _ => fun
  | [d1, d2] => { results := [.lit (.bool false)], args := [d1, d2] }
  | _ => none }
def FnEveryComponentOnACycleYieldsItsCycleWrongFalsely : Prop := fnEveryComponentOnACycleYieldsItsCycleRow.holds Try.pinned (OpenSpec.ofChange fnEveryComponentOnACycleYieldsItsCycleWrong)

end Rows
end Go.Proofs.Qxb6603705a
