/-
  No cell of these rows narrows 'for every input' (looked for: loops, veiled, ifaces, maps, wideKeys, modest, calm, conditions, laid).
  DERIVED. THE GIVEN ROWS OF THIS SEAT. 4 by the template 'for every input the law returns true; each argument reads behind the call as it read before'; 0 by the template 'total and deterministic' (their statements: Qxb6605262aTotals.lean).
  GIVEN WITH THE SEED: the statements are not yours to turn. If you find one false, say at which input.
  Laid BY PROGRAM, IN A SANDBOX (cutbox-rows.mjs): the forced cells as the released guide's own fill.sh prints them over the translation a4ea72f9f55edc43… (all of the seat's roots in one cut). By AI agents, Wed Nov 11 2026. No macro, syntax, notation, axiom, sorry.
-/
import Derived.Test.Qxb6605262aChecked
import GoSem.Claim
import GoSem.ClaimJoined
import GoSem.ClaimMapViews
import Derived.JoinedTies
import Derived.KernelRfl
namespace Go.Proofs.Qxb6605262a
/- THE CELL 'sum', in the pinned program and in every row, IS THE sha256 OF THE DUMP (.gsa) THAT Qxb6605262aProg.lean LOADS. Nothing in Lean hashes anything: it is a label: what it is worth is what the hold of that sum in a sandbox is worth. -/
noncomputable def Try.pinned : Pinned := { name := "qxb6605262a", sum := "a4ea72f9f55edc4381281dcd8f3fe9a813a0659587012f8d99b4110de997fdff", checked := Try.checked }
namespace Rows
def none {H : Type} : Left H := { results := [], args := [] }

/-- 'zzlaws_root_b1.FnAppendVarint9Exact': WHATEVER THE INPUT: true; the input reads as it did. -/
def fnAppendVarint9ExactSpec : ChangeSpec := { name := "fnAppendVarint9Exact", fn := fun _ => fun
  | [d1, d2] => { results := [.lit (.bool true)], args := [d1, d2] }
  | _ => none }
def fnAppendVarint9ExactRow : OpenClaim := { program := "qxb6605262a", sum := "a4ea72f9f55edc4381281dcd8f3fe9a813a0659587012f8d99b4110de997fdff", func := "example.com/holdfast/holdfast/zzlaws_root_b1.FnAppendVarint9Exact", spec := "fnAppendVarint9Exact", apart := false }
def FnAppendVarint9ExactSaid : Prop := fnAppendVarint9ExactRow.holds Try.pinned (OpenSpec.ofChange fnAppendVarint9ExactSpec)

/-- ITS FALSE NEIGHBOUR: 'it returns false'. Refute it at one input. -/
def fnAppendVarint9ExactWrong : ChangeSpec := { name := "fnAppendVarint9Exact", fn := fun _ => fun
  | [d1, d2] => { results := [.lit (.bool false)], args := [d1, d2] }
  | _ => none }
def FnAppendVarint9ExactWrongFalsely : Prop := fnAppendVarint9ExactRow.holds Try.pinned (OpenSpec.ofChange fnAppendVarint9ExactWrong)

/-- 'zzlaws_root_b1.FnAppendVarint9Stream': WHATEVER THE INPUT: true; the input reads as it did. -/
def fnAppendVarint9StreamSpec : ChangeSpec := { name := "fnAppendVarint9Stream", fn := fun _ => fun
  | [d] => { results := [.lit (.bool true)], args := [d] }
  | _ => none }
def fnAppendVarint9StreamRow : OpenClaim := { program := "qxb6605262a", sum := "a4ea72f9f55edc4381281dcd8f3fe9a813a0659587012f8d99b4110de997fdff", func := "example.com/holdfast/holdfast/zzlaws_root_b1.FnAppendVarint9Stream", spec := "fnAppendVarint9Stream", apart := false }
def FnAppendVarint9StreamSaid : Prop := fnAppendVarint9StreamRow.holds Try.pinned (OpenSpec.ofChange fnAppendVarint9StreamSpec)

/-- ITS FALSE NEIGHBOUR: 'it returns false'. Refute it at one input. -/
def fnAppendVarint9StreamWrong : ChangeSpec := { name := "fnAppendVarint9Stream", fn := fun _ => fun
  | [d] => { results := [.lit (.bool false)], args := [d] }
  | _ => none }
def FnAppendVarint9StreamWrongFalsely : Prop := fnAppendVarint9StreamRow.holds Try.pinned (OpenSpec.ofChange fnAppendVarint9StreamWrong)

/-- 'zzlaws_root_b1.FnThenExact': WHATEVER THE INPUT: true; the input reads as it did. -/
def fnThenExactSpec : ChangeSpec := { name := "fnThenExact", fn := fun _ => fun
  | [d1, d2, d3, d4, d5, d6, d7] => { results := [.lit (.bool true)], args := [d1, d2, d3, d4, d5, d6, d7] }
  | _ => none }
def fnThenExactRow : OpenClaim := { program := "qxb6605262a", sum := "a4ea72f9f55edc4381281dcd8f3fe9a813a0659587012f8d99b4110de997fdff", func := "example.com/holdfast/holdfast/zzlaws_root_b1.FnThenExact", spec := "fnThenExact", apart := false }
def FnThenExactSaid : Prop := fnThenExactRow.holds Try.pinned (OpenSpec.ofChange fnThenExactSpec)

/-- ITS FALSE NEIGHBOUR: 'it returns false'. Refute it at one input. -/
def fnThenExactWrong : ChangeSpec := { name := "fnThenExact", fn := fun _ => fun
  | [d1, d2, d3, d4, d5, d6, d7] => { results := [.lit (.bool false)], args := [d1, d2, d3, d4, d5, d6, d7] }
  | _ => none }
def FnThenExactWrongFalsely : Prop := fnThenExactRow.holds Try.pinned (OpenSpec.ofChange fnThenExactWrong)

/-- 'zzlaws_root_b1.FnThenComposes': WHATEVER THE INPUT: true; the input reads as it did. -/
def fnThenComposesSpec : ChangeSpec := { name := "fnThenComposes", fn := fun _ => fun
  | [d1, d2, d3, d4, d5, d6, d7, d8, d9] => { results := [.lit (.bool true)], args := [d1, d2, d3, d4, d5, d6, d7, d8, d9] }
  | _ => none }
def fnThenComposesRow : OpenClaim := { program := "qxb6605262a", sum := "a4ea72f9f55edc4381281dcd8f3fe9a813a0659587012f8d99b4110de997fdff", func := "example.com/holdfast/holdfast/zzlaws_root_b1.FnThenComposes", spec := "fnThenComposes", apart := false }
def FnThenComposesSaid : Prop := fnThenComposesRow.holds Try.pinned (OpenSpec.ofChange fnThenComposesSpec)

/-- ITS FALSE NEIGHBOUR: 'it returns false'. Refute it at one input. -/
def fnThenComposesWrong : ChangeSpec := { name := "fnThenComposes", fn := fun _ => fun
  | [d1, d2, d3, d4, d5, d6, d7, d8, d9] => { results := [.lit (.bool false)], args := [d1, d2, d3, d4, d5, d6, d7, d8, d9] }
  | _ => none }
def FnThenComposesWrongFalsely : Prop := fnThenComposesRow.holds Try.pinned (OpenSpec.ofChange fnThenComposesWrong)

end Rows
end Go.Proofs.Qxb6605262a
