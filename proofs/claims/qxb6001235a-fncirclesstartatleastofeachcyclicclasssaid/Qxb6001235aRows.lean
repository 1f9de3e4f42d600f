/-
  No cell of these rows narrows 'for every input' (looked for: loops, veiled, ifaces, maps, wideKeys, modest, calm, conditions, laid).
  DERIVED. THE GIVEN ROWS OF THIS SEAT. 7 by the template 'for every input the law returns true; each argument reads behind the call as it read before'; 0 by the template 'total and deterministic' (their statements: Qxb6001235aTotals.lean).
  GIVEN WITH THE SEED: the statements are not yours to turn. If you find one false, say at which input.
  Laid BY PROGRAM, IN A SANDBOX (cutbox-rows.mjs): the forced cells as the released guide's own fill.sh prints them over the translation cfe80fe4bcc9e670… (all of the seat's roots in one cut). By AI agents, Wed Nov 11 2026. No macro, syntax, notation, axiom, sorry.
-/
import Derived.Test.Qxb6001235aChecked
import GoSem.Claim
import GoSem.ClaimJoined
import GoSem.ClaimMapViews
import Derived.JoinedTies
import Derived.KernelRfl
namespace Go.Proofs.Qxb6001235a
/- THE CELL 'sum', in the pinned program and in every row, IS THE sha256 OF THE DUMP (.gsa) THAT Qxb6001235aProg.lean LOADS. Nothing in Lean hashes anything: it is a label: what it is worth is what the hold of that sum in a sandbox is worth. -/
noncomputable def Try.pinned : Pinned := { name := "qxb6001235a", sum := "cfe80fe4bcc9e670e333a590e25fb61c1473ce8169ffb42c0a6d84df81adda9a", checked := Try.checked }
namespace Rows
def none {H : Type} : Left H := { results := [], args := [] }

/-- 'zzlaws_internal_plan_b1.FnComponentsPartition': WHATEVER THE INPUT: true; the input reads as it did. -/
def fnComponentsPartitionSpec : ChangeSpec := { name := "fnComponentsPartition", fn := fun _ => fun
  | [d] => { results := [.lit (.bool true)], args := [d] }
  | _ => none }
def fnComponentsPartitionRow : OpenClaim := { program := "qxb6001235a", sum := "cfe80fe4bcc9e670e333a590e25fb61c1473ce8169ffb42c0a6d84df81adda9a", func := "example.com/batond/batond/zzlaws_internal_plan_b1.FnComponentsPartition", spec := "fnComponentsPartition", unfollowed := true, recurses := true, apart := false }
def FnComponentsPartitionSaid : Prop := fnComponentsPartitionRow.holds Try.pinned (OpenSpec.ofChange fnComponentsPartitionSpec)

/-- ITS FALSE NEIGHBOUR: 'it returns false'. Refute it at one input. -/
def fnComponentsPartitionWrong : ChangeSpec := { name := "fnComponentsPartition", fn := fun _ => fun
  | [d] => { results := [.lit (.bool false)], args := [d] }
  | _ => none }
def FnComponentsPartitionWrongFalsely : Prop := fnComponentsPartitionRow.holds Try.pinned (OpenSpec.ofChange fnComponentsPartitionWrong)

/-- 'zzlaws_internal_plan_b1.FnComponentsReverseTopological': WHATEVER THE INPUT: true; the input reads as it did. -/
def fnComponentsReverseTopologicalSpec : ChangeSpec := { name := "fnComponentsReverseTopological", fn := fun _ => fun
  | [d] => { results := [.lit (.bool true)], args := [d] }
  | _ => none }
def fnComponentsReverseTopologicalRow : OpenClaim := { program := "qxb6001235a", sum := "cfe80fe4bcc9e670e333a590e25fb61c1473ce8169ffb42c0a6d84df81adda9a", func := "example.com/batond/batond/zzlaws_internal_plan_b1.FnComponentsReverseTopological", spec := "fnComponentsReverseTopological", unfollowed := true, recurses := true, apart := false }
def FnComponentsReverseTopologicalSaid : Prop := fnComponentsReverseTopologicalRow.holds Try.pinned (OpenSpec.ofChange fnComponentsReverseTopologicalSpec)

/-- ITS FALSE NEIGHBOUR: 'it returns false'. Refute it at one input. -/
def fnComponentsReverseTopologicalWrong : ChangeSpec := { name := "fnComponentsReverseTopological", fn := fun _ => fun
  | [d] => { results := [.lit (.bool false)], args := [d] }
  | _ => none }
def FnComponentsReverseTopologicalWrongFalsely : Prop := fnComponentsReverseTopologicalRow.holds Try.pinned (OpenSpec.ofChange fnComponentsReverseTopologicalWrong)

/-- 'zzlaws_internal_plan_b1.FnComponentsAreMutualReachClasses': WHATEVER THE INPUT: true; the input reads as it did. -/
def fnComponentsAreMutualReachClassesSpec : ChangeSpec := { name := "fnComponentsAreMutualReachClasses", fn := fun _ => fun
  | [d] => { results := [.lit (.bool true)], args := [d] }
  | _ => none }
def fnComponentsAreMutualReachClassesRow : OpenClaim := { program := "qxb6001235a", sum := "cfe80fe4bcc9e670e333a590e25fb61c1473ce8169ffb42c0a6d84df81adda9a", func := "example.com/batond/batond/zzlaws_internal_plan_b1.FnComponentsAreMutualReachClasses", spec := "fnComponentsAreMutualReachClasses", unfollowed := true, recurses := true, apart := false }
def FnComponentsAreMutualReachClassesSaid : Prop := fnComponentsAreMutualReachClassesRow.holds Try.pinned (OpenSpec.ofChange fnComponentsAreMutualReachClassesSpec)

/-- ITS FALSE NEIGHBOUR: 'it returns false'. Refute it at one input. -/
def fnComponentsAreMutualReachClassesWrong : ChangeSpec := { name := "fnComponentsAreMutualReachClasses", fn := fun _ => fun
  | [d] => { results := [.lit (.bool false)], args := [d] }
  | _ => none }
def FnComponentsAreMutualReachClassesWrongFalsely : Prop := fnComponentsAreMutualReachClassesRow.holds Try.pinned (OpenSpec.ofChange fnComponentsAreMutualReachClassesWrong)

/-- 'zzlaws_internal_plan_b1.FnCircleThroughIsSimpleCircle': WHATEVER THE INPUT: true; the input reads as it did. -/
def fnCircleThroughIsSimpleCircleSpec : ChangeSpec := { name := "fnCircleThroughIsSimpleCircle", fn := fun _ => fun
  | [d1, d2] => { results := [.lit (.bool true)], args := [d1, d2] }
  | _ => none }
def fnCircleThroughIsSimpleCircleRow : OpenClaim := { program := "qxb6001235a", sum := "cfe80fe4bcc9e670e333a590e25fb61c1473ce8169ffb42c0a6d84df81adda9a", func := "example.com/batond/batond/zzlaws_internal_plan_b1.FnCircleThroughIsSimpleCircle", spec := "fnCircleThroughIsSimpleCircle", unfollowed := true, recurses := true, apart := false }
def FnCircleThroughIsSimpleCircleSaid : Prop := fnCircleThroughIsSimpleCircleRow.holds Try.pinned (OpenSpec.ofChange fnCircleThroughIsSimpleCircleSpec)

/-- ITS FALSE NEIGHBOUR: 'it returns false'. Refute it at one input. -/
def fnCircleThroughIsSimpleCircleWrong : ChangeSpec := { name := "fnCircleThroughIsSimpleCircle", fn := fun _ => fun
  | [d1, d2] => { results := [.lit (.bool false)], args := [d1, d2] }
  | _ => none }
def FnCircleThroughIsSimpleCircleWrongFalsely : Prop := fnCircleThroughIsSimpleCircleRow.holds Try.pinned (OpenSpec.ofChange fnCircleThroughIsSimpleCircleWrong)

/-- 'zzlaws_internal_plan_b1.FnCirclesNoneIffAcyclic': WHATEVER THE INPUT: true; the input reads as it did. -/
def fnCirclesNoneIffAcyclicSpec : ChangeSpec := { name := "fnCirclesNoneIffAcyclic", fn := fun _ => fun
  | [d] => { results := [.lit (.bool true)], args := [d] }
  | _ => none }
def fnCirclesNoneIffAcyclicRow : OpenClaim := { program := "qxb6001235a", sum := "cfe80fe4bcc9e670e333a590e25fb61c1473ce8169ffb42c0a6d84df81adda9a", func := "example.com/batond/batond/zzlaws_internal_plan_b1.FnCirclesNoneIffAcyclic", spec := "fnCirclesNoneIffAcyclic", unfollowed := true, recurses := true, apart := false }
def FnCirclesNoneIffAcyclicSaid : Prop := fnCirclesNoneIffAcyclicRow.holds Try.pinned (OpenSpec.ofChange fnCirclesNoneIffAcyclicSpec)

/-- ITS FALSE NEIGHBOUR: 'it returns false'. Refute it at one input. -/
def fnCirclesNoneIffAcyclicWrong : ChangeSpec := { name := "fnCirclesNoneIffAcyclic", fn := fun _ => fun
  | [d] => { results := [.lit (.bool false)], args := [d] }
  | _ => none }
def FnCirclesNoneIffAcyclicWrongFalsely : Prop := fnCirclesNoneIffAcyclicRow.holds Try.pinned (OpenSpec.ofChange fnCirclesNoneIffAcyclicWrong)

/-- 'zzlaws_internal_plan_b1.FnCirclesClosedDisjointOrdered': WHATEVER THE INPUT: true; the input reads as it did. -/
def fnCirclesClosedDisjointOrderedSpec : ChangeSpec := { name := "fnCirclesClosedDisjointOrdered", fn := fun _ => fun
  | [d] => { results := [.lit (.bool true)], args := [d] }
  | _ => none }
def fnCirclesClosedDisjointOrderedRow : OpenClaim := { program := "qxb6001235a", sum := "cfe80fe4bcc9e670e333a590e25fb61c1473ce8169ffb42c0a6d84df81adda9a", func := "example.com/batond/batond/zzlaws_internal_plan_b1.FnCirclesClosedDisjointOrdered", spec := "fnCirclesClosedDisjointOrdered", unfollowed := true, recurses := true, apart := false }
def FnCirclesClosedDisjointOrderedSaid : Prop := fnCirclesClosedDisjointOrderedRow.holds Try.pinned (OpenSpec.ofChange fnCirclesClosedDisjointOrderedSpec)

/-- ITS FALSE NEIGHBOUR: 'it returns false'. Refute it at one input. -/
def fnCirclesClosedDisjointOrderedWrong : ChangeSpec := { name := "fnCirclesClosedDisjointOrdered", fn := fun _ => fun
  | [d] => { results := [.lit (.bool false)], args := [d] }
  | _ => none }
def FnCirclesClosedDisjointOrderedWrongFalsely : Prop := fnCirclesClosedDisjointOrderedRow.holds Try.pinned (OpenSpec.ofChange fnCirclesClosedDisjointOrderedWrong)

/-- 'zzlaws_internal_plan_b1.FnCirclesStartAtLeastOfEachCyclicClass': WHATEVER THE INPUT: true; the input reads as it did. -/
def fnCirclesStartAtLeastOfEachCyclicClassSpec : ChangeSpec := { name := "fnCirclesStartAtLeastOfEachCyclicClass", fn := fun _ => fun
  | [d] => { results := [.lit (.bool true)], args := [d] }
  | _ => none }
def fnCirclesStartAtLeastOfEachCyclicClassRow : OpenClaim := { program := "qxb6001235a", sum := "cfe80fe4bcc9e670e333a590e25fb61c1473ce8169ffb42c0a6d84df81adda9a", func := "example.com/batond/batond/zzlaws_internal_plan_b1.FnCirclesStartAtLeastOfEachCyclicClass", spec := "fnCirclesStartAtLeastOfEachCyclicClass", unfollowed := true, recurses := true, apart := false }
def FnCirclesStartAtLeastOfEachCyclicClassSaid : Prop := fnCirclesStartAtLeastOfEachCyclicClassRow.holds Try.pinned (OpenSpec.ofChange fnCirclesStartAtLeastOfEachCyclicClassSpec)

/-- ITS FALSE NEIGHBOUR: 'it returns false'. Refute it at one input. -/
def fnCirclesStartAtLeastOfEachCyclicClassWrong : ChangeSpec := { name := "fnCirclesStartAtLeastOfEachCyclicClass", fn := fun _ => fun
  | [d] => { results := [.lit (.bool false)], args := [d] }
  | _ => none }
def FnCirclesStartAtLeastOfEachCyclicClassWrongFalsely : Prop := fnCirclesStartAtLeastOfEachCyclicClassRow.holds Try.pinned (OpenSpec.ofChange fnCirclesStartAtLeastOfEachCyclicClassWrong)

end Rows
end Go.Proofs.Qxb6001235a
