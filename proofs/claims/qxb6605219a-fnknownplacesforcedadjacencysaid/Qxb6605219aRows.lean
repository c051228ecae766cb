/-
  No cell of these rows narrows 'for every input' (looked for: loops, veiled, ifaces, maps, wideKeys, modest, calm, conditions, laid).
  DERIVED. THE GIVEN ROWS OF THIS SEAT. 3 by the template 'for every input the law returns true; each argument reads behind the call as it read before'; 0 by the template 'total and deterministic' (their statements: Qxb6605219aTotals.lean).
  GIVEN WITH THE SEED: the statements are not yours to turn. If you find one false, say at which input.
  Laid BY PROGRAM, IN A SANDBOX (cutbox-rows.mjs): the forced cells as the released guide's own fill.sh prints them over the translation 961c6895e432ecb1… (all of the seat's roots in one cut). By AI agents, Wed Nov 11 2026. No macro, syntax, notation, axiom, sorry.
-/
import Derived.Test.Qxb6605219aChecked
import GoSem.Claim
import GoSem.ClaimJoined
import GoSem.ClaimMapViews
import Derived.JoinedTies
import Derived.KernelRfl
namespace Go.Proofs.Qxb6605219a
/- THE CELL 'sum', in the pinned program and in every row, IS THE sha256 OF THE DUMP (.gsa) THAT Qxb6605219aProg.lean LOADS. Nothing in Lean hashes anything: it is a label: what it is worth is what the hold of that sum in a sandbox is worth. -/
noncomputable def Try.pinned : Pinned := { name := "qxb6605219a", sum := "961c6895e432ecb1596ae84324f56ad82c8fd1f4bf5ca045fc473194595121af", checked := Try.checked }
namespace Rows
def none {H : Type} : Left H := { results := [], args := [] }

/-- 'zzlaws_pkg_infer_b1.FnReadBeforeSplitsOffOwn': WHATEVER THE INPUT: true; the input reads as it did. -/
def fnReadBeforeSplitsOffOwnSpec : ChangeSpec := { name := "fnReadBeforeSplitsOffOwn", fn := fun _ => fun
  | [d1, d2, d3, d4] => { results := [.lit (.bool true)], args := [d1, d2, d3, d4] }
  | _ => none }
def fnReadBeforeSplitsOffOwnRow : OpenClaim := { program := "qxb6605219a", sum := "961c6895e432ecb1596ae84324f56ad82c8fd1f4bf5ca045fc473194595121af", func := "example.com/interleave/interleave/zzlaws_pkg_infer_b1.FnReadBeforeSplitsOffOwn", spec := "fnReadBeforeSplitsOffOwn", apart := false }
def FnReadBeforeSplitsOffOwnSaid : Prop := fnReadBeforeSplitsOffOwnRow.holds Try.pinned (OpenSpec.ofChange fnReadBeforeSplitsOffOwnSpec)

/-- ITS FALSE NEIGHBOUR: 'it returns false'. Refute it at one input. -/
def fnReadBeforeSplitsOffOwnWrong : ChangeSpec := { name := "fnReadBeforeSplitsOffOwn", fn := fun _ => fun
  | [d1, d2, d3, d4] => { results := [.lit (.bool false)], args := [d1, d2, d3, d4] }
  | _ => none }
def FnReadBeforeSplitsOffOwnWrongFalsely : Prop := fnReadBeforeSplitsOffOwnRow.holds Try.pinned (OpenSpec.ofChange fnReadBeforeSplitsOffOwnWrong)

/-- 'zzlaws_pkg_infer_b1.FnReadBeforeStripsInTwoSteps': WHATEVER THE INPUT: true; the input reads as it did. -/
def fnReadBeforeStripsInTwoStepsSpec : ChangeSpec := { name := "fnReadBeforeStripsInTwoSteps", fn := fun _ => fun
  | [d1, d2, d3] => { results := [.lit (.bool true)], args := [d1, d2, d3] }
  | _ => none }
def fnReadBeforeStripsInTwoStepsRow : OpenClaim := { program := "qxb6605219a", sum := "961c6895e432ecb1596ae84324f56ad82c8fd1f4bf5ca045fc473194595121af", func := "example.com/interleave/interleave/zzlaws_pkg_infer_b1.FnReadBeforeStripsInTwoSteps", spec := "fnReadBeforeStripsInTwoSteps", apart := false }
def FnReadBeforeStripsInTwoStepsSaid : Prop := fnReadBeforeStripsInTwoStepsRow.holds Try.pinned (OpenSpec.ofChange fnReadBeforeStripsInTwoStepsSpec)

/-- ITS FALSE NEIGHBOUR: 'it returns false'. Refute it at one input. -/
def fnReadBeforeStripsInTwoStepsWrong : ChangeSpec := { name := "fnReadBeforeStripsInTwoSteps", fn := fun _ => fun
  | [d1, d2, d3] => { results := [.lit (.bool false)], args := [d1, d2, d3] }
  | _ => none }
def FnReadBeforeStripsInTwoStepsWrongFalsely : Prop := fnReadBeforeStripsInTwoStepsRow.holds Try.pinned (OpenSpec.ofChange fnReadBeforeStripsInTwoStepsWrong)

/-- 'zzlaws_pkg_infer_b1.FnKnownPlacesForcedAdjacency': WHATEVER THE INPUT: true; the input reads as it did. -/
def fnKnownPlacesForcedAdjacencySpec : ChangeSpec := { name := "fnKnownPlacesForcedAdjacency", fn := fun _ => fun
  | [d1, d2, d3] => { results := [.lit (.bool true)], args := [d1, d2, d3] }
  | _ => none }
def fnKnownPlacesForcedAdjacencyRow : OpenClaim := { program := "qxb6605219a", sum := "961c6895e432ecb1596ae84324f56ad82c8fd1f4bf5ca045fc473194595121af", func := "example.com/interleave/interleave/zzlaws_pkg_infer_b1.FnKnownPlacesForcedAdjacency", spec := "fnKnownPlacesForcedAdjacency", apart := false }
def FnKnownPlacesForcedAdjacencySaid : Prop := fnKnownPlacesForcedAdjacencyRow.holds Try.pinned (OpenSpec.ofChange fnKnownPlacesForcedAdjacencySpec)

/-- ITS FALSE NEIGHBOUR: 'it returns false'. Refute it at one input. -/
def fnKnownPlacesForcedAdjacencyWrong : ChangeSpec := { name := "fnKnownPlacesForcedAdjacency", fn := fun _ => fun
  | [d1, d2, d3] => { results := [.lit (.bool false)], args := [d1, d2, d3] }
  | _ => none }
def FnKnownPlacesForcedAdjacencyWrongFalsely : Prop := fnKnownPlacesForcedAdjacencyRow.holds Try.pinned (OpenSpec.ofChange fnKnownPlacesForcedAdjacencyWrong)

end Rows
end Go.Proofs.Qxb6605219a
