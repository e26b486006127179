/-
  No cell of these rows narrows 'for every input' (looked for: loops, veiled, ifaces, maps, wideKeys, modest, calm, conditions, laid).
  DERIVED. THE GIVEN ROWS OF THIS SEAT. 5 by the template 'for every input the law returns true; each argument reads behind the call as it read before'; 0 by the template 'total and deterministic' (their statements: Qxb6603720aTotals.lean).
  GIVEN WITH THE SEED: the statements are not yours to turn. If you find one false, say at which input.
  Laid BY PROGRAM, IN A SANDBOX (cutbox-rows.mjs): the forced cells as the released guide's own fill.sh prints them over the translation 2f1e74bbf956f3d8… (all of the seat's roots in one cut). By AI agents, Wed Nov 11 2026. No macro, syntax, notation, axiom, sorry.
-/
import Derived.Test.Qxb6603720aChecked
import GoSem.Claim
import GoSem.ClaimJoined
import GoSem.ClaimMapViews
import Derived.JoinedTies
import Derived.KernelRfl
namespace Go.Proofs.Qxb6603720a
/- THE CELL 'sum', in the pinned program and in every row, IS THE sha256 OF THE DUMP (.gsa) THAT Qxb6603720aProg.lean LOADS. Nothing in Lean hashes anything: it is a label: what it is worth is what the hold of that sum in a sandbox is worth. -/
noncomputable def Try.pinned : Pinned := { name := "qxb6603720a", sum := "2f1e74bbf956f3d8547feaf6ce84c97f0928d718d070d300a45bf880d97d660f", checked := Try.checked }
namespace Rows
def none {H : Type} : Left H := { results := [], args := [] }

/-- 'zzlaws_internal_sim_b1.FnLargestGroupMatchesClosureModel': WHATEVER THE INPUT: true; the input reads as it did. -/
def fnLargestGroupMatchesClosureModelSpec : ChangeSpec := { name := "fnLargestGroupMatchesClosureModel", fn := fun _ => fun
  | [d] => { results := [.lit (.bool true)], args := [d] }
  | _ => none }
def fnLargestGroupMatchesClosureModelRow : OpenClaim := { program := "qxb6603720a", sum := "2f1e74bbf956f3d8547feaf6ce84c97f0928d718d070d300a45bf880d97d660f", func := "example.com/overlace/overlace/zzlaws_internal_sim_b1.FnLargestGroupMatchesClosureModel", spec := "fnLargestGroupMatchesClosureModel", recurses := true, apart := false }
def FnLargestGroupMatchesClosureModelSaid : Prop := fnLargestGroupMatchesClosureModelRow.holds Try.pinned (OpenSpec.ofChange fnLargestGroupMatchesClosureModelSpec)

/-- ITS FALSE NEIGHBOUR: 'it returns false'. Refute it at one input. -/
def fnLargestGroupMatchesClosureModelWrong : ChangeSpec := { name := "fnLargestGroupMatchesClosureModel", fn := fun _ => fun
  | [d] => { results := [.lit (.bool false)], args := [d] }
  | _ => none }
def FnLargestGroupMatchesClosureModelWrongFalsely : Prop := fnLargestGroupMatchesClosureModelRow.holds Try.pinned (OpenSpec.ofChange fnLargestGroupMatchesClosureModelWrong)

/-- 'zzlaws_internal_sim_b1.FnLargestGroupIgnoresAnIsolatedNewHost': WHATEVER THE INPUT: true; the input reads as it did. -/
def fnLargestGroupIgnoresAnIsolatedNewHostSpec : ChangeSpec := { name := "fnLargestGroupIgnoresAnIsolatedNewHost", fn := fun _ => fun
  | [d] => { results := [.lit (.bool true)], args := [d] }
  | _ => none }
def fnLargestGroupIgnoresAnIsolatedNewHostRow : OpenClaim := { program := "qxb6603720a", sum := "2f1e74bbf956f3d8547feaf6ce84c97f0928d718d070d300a45bf880d97d660f", func := "example.com/overlace/overlace/zzlaws_internal_sim_b1.FnLargestGroupIgnoresAnIsolatedNewHost", spec := "fnLargestGroupIgnoresAnIsolatedNewHost", recurses := true, apart := false }
def FnLargestGroupIgnoresAnIsolatedNewHostSaid : Prop := fnLargestGroupIgnoresAnIsolatedNewHostRow.holds Try.pinned (OpenSpec.ofChange fnLargestGroupIgnoresAnIsolatedNewHostSpec)

/-- ITS FALSE NEIGHBOUR: 'it returns false'. Refute it at one input. -/
def fnLargestGroupIgnoresAnIsolatedNewHostWrong : ChangeSpec := { name := "fnLargestGroupIgnoresAnIsolatedNewHost", fn := fun _ => fun
  | [d] => { results := [.lit (.bool false)], args := [d] }
  | _ => none }
def FnLargestGroupIgnoresAnIsolatedNewHostWrongFalsely : Prop := fnLargestGroupIgnoresAnIsolatedNewHostRow.holds Try.pinned (OpenSpec.ofChange fnLargestGroupIgnoresAnIsolatedNewHostWrong)

/-- 'zzlaws_internal_sim_b1.FnCentreIntegerVectorExact': WHATEVER THE INPUT: true; the input reads as it did. -/
def fnCentreIntegerVectorExactSpec : ChangeSpec := { name := "fnCentreIntegerVectorExact", fn := fun _ => fun
  | [d] => { results := [.lit (.bool true)], args := [d] }
  | _ => none }
def fnCentreIntegerVectorExactRow : OpenClaim := { program := "qxb6603720a", sum := "2f1e74bbf956f3d8547feaf6ce84c97f0928d718d070d300a45bf880d97d660f", func := "example.com/overlace/overlace/zzlaws_internal_sim_b1.FnCentreIntegerVectorExact", spec := "fnCentreIntegerVectorExact", apart := false }
def FnCentreIntegerVectorExactSaid : Prop := fnCentreIntegerVectorExactRow.holds Try.pinned (OpenSpec.ofChange fnCentreIntegerVectorExactSpec)

/-- ITS FALSE NEIGHBOUR: 'it returns false'. Refute it at one input. -/
def fnCentreIntegerVectorExactWrong : ChangeSpec := { name := "fnCentreIntegerVectorExact", fn := fun _ => fun
  | [d] => { results := [.lit (.bool false)], args := [d] }
  | _ => none }
def FnCentreIntegerVectorExactWrongFalsely : Prop := fnCentreIntegerVectorExactRow.holds Try.pinned (OpenSpec.ofChange fnCentreIntegerVectorExactWrong)

/-- 'zzlaws_internal_sim_b1.FnSkipGraphSearchEndsAtHolder': WHATEVER THE INPUT: true; the input reads as it did. -/
def fnSkipGraphSearchEndsAtHolderSpec : ChangeSpec := { name := "fnSkipGraphSearchEndsAtHolder", fn := fun _ => fun
  | [d1, d2, d3, d4, d5, d6] => { results := [.lit (.bool true)], args := [d1, d2, d3, d4, d5, d6] }
  | _ => none }
def fnSkipGraphSearchEndsAtHolderRow : OpenClaim := { program := "qxb6603720a", sum := "2f1e74bbf956f3d8547feaf6ce84c97f0928d718d070d300a45bf880d97d660f", func := "example.com/overlace/overlace/zzlaws_internal_sim_b1.FnSkipGraphSearchEndsAtHolder", spec := "fnSkipGraphSearchEndsAtHolder", apart := false }
def FnSkipGraphSearchEndsAtHolderSaid : Prop := fnSkipGraphSearchEndsAtHolderRow.holds Try.pinned (OpenSpec.ofChange fnSkipGraphSearchEndsAtHolderSpec)

/-- ITS FALSE NEIGHBOUR: 'it returns false'. Refute it at one input. -/
def fnSkipGraphSearchEndsAtHolderWrong : ChangeSpec := { name := "fnSkipGraphSearchEndsAtHolder", fn := fun _ => fun
  | [d1, d2, d3, d4, d5, d6] => { results := [.lit (.bool false)], args := [d1, d2, d3, d4, d5, d6] }
  | _ => none }
def FnSkipGraphSearchEndsAtHolderWrongFalsely : Prop := fnSkipGraphSearchEndsAtHolderRow.holds Try.pinned (OpenSpec.ofChange fnSkipGraphSearchEndsAtHolderWrong)

/-- 'zzlaws_internal_sim_b1.FnSkipGraphSearchAgreesAcrossSourcesAndKeys': WHATEVER THE INPUT: true; the input reads as it did. -/
def fnSkipGraphSearchAgreesAcrossSourcesAndKeysSpec : ChangeSpec := { name := "fnSkipGraphSearchAgreesAcrossSourcesAndKeys", fn := fun _ => fun
  | [d1, d2, d3, d4, d5, d6, d7, d8] => { results := [.lit (.bool true)], args := [d1, d2, d3, d4, d5, d6, d7, d8] }
  | _ => none }
def fnSkipGraphSearchAgreesAcrossSourcesAndKeysRow : OpenClaim := { program := "qxb6603720a", sum := "2f1e74bbf956f3d8547feaf6ce84c97f0928d718d070d300a45bf880d97d660f", func := "example.com/overlace/overlace/zzlaws_internal_sim_b1.FnSkipGraphSearchAgreesAcrossSourcesAndKeys", spec := "fnSkipGraphSearchAgreesAcrossSourcesAndKeys", apart := false }
def FnSkipGraphSearchAgreesAcrossSourcesAndKeysSaid : Prop := fnSkipGraphSearchAgreesAcrossSourcesAndKeysRow.holds Try.pinned (OpenSpec.ofChange fnSkipGraphSearchAgreesAcrossSourcesAndKeysSpec)

/-- ITS FALSE NEIGHBOUR: 'it returns false'. Refute it at one input. -/
def fnSkipGraphSearchAgreesAcrossSourcesAndKeysWrong : ChangeSpec := { name := "fnSkipGraphSearchAgreesAcrossSourcesAndKeys", fn := fun _ => fun
  | [d1, d2, d3, d4, d5, d6, d7, d8] => { results := [.lit (.bool false)], args := [d1, d2, d3, d4, d5, d6, d7, d8] }
  | _ => none }
def FnSkipGraphSearchAgreesAcrossSourcesAndKeysWrongFalsely : Prop := fnSkipGraphSearchAgreesAcrossSourcesAndKeysRow.holds Try.pinned (OpenSpec.ofChange fnSkipGraphSearchAgreesAcrossSourcesAndKeysWrong)

end Rows
end Go.Proofs.Qxb6603720a
