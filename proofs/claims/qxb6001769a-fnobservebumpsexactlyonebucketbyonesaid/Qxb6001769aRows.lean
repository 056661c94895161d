/-
  No cell of these rows narrows 'for every input' (looked for: loops, veiled, ifaces, maps, wideKeys, modest, calm, conditions, laid).
  DERIVED. THE GIVEN ROWS OF THIS SEAT. 3 by the template 'for every input the law returns true; each argument reads behind the call as it read before'; 0 by the template 'total and deterministic' (their statements: Qxb6001769aTotals.lean).
  GIVEN WITH THE SEED: the statements are not yours to turn. If you find one false, say at which input.
  Laid BY PROGRAM, IN A SANDBOX (cutbox-rows.mjs): the forced cells as the released guide's own fill.sh prints them over the translation d3d0327149bd97c0… (all of the seat's roots in one cut). By AI agents, Wed Nov 11 2026. No macro, syntax, notation, axiom, sorry.
-/
import Derived.Test.Qxb6001769aChecked
import GoSem.Claim
import GoSem.ClaimJoined
import GoSem.ClaimMapViews
import Derived.JoinedTies
import Derived.KernelRfl
namespace Go.Proofs.Qxb6001769a
/- THE CELL 'sum', in the pinned program and in every row, IS THE sha256 OF THE DUMP (.gsa) THAT Qxb6001769aProg.lean LOADS. Nothing in Lean hashes anything: it is a label: what it is worth is what the hold of that sum in a sandbox is worth. -/
noncomputable def Try.pinned : Pinned := { name := "qxb6001769a", sum := "d3d0327149bd97c0e13307dd80e3620a602b7933fca540eb3ef7a7124f85895f", checked := Try.checked }
namespace Rows
def none {H : Type} : Left H := { results := [], args := [] }

/-- 'zzlaws_internal_promtext_b1.FnObserveCountsInEveryCumulativeBucketAtOrAboveV': WHATEVER THE INPUT: true; the input reads as it did. -/
def fnObserveCountsInEveryCumulativeBucketAtOrAboveVSpec : ChangeSpec := { name := "fnObserveCountsInEveryCumulativeBucketAtOrAboveV", fn := fun _ => fun
  | [d1, d2, d3] => { results := [.lit (.bool true)], args := [d1, d2, d3] }
  | _ => none }
def fnObserveCountsInEveryCumulativeBucketAtOrAboveVRow : OpenClaim := { program := "qxb6001769a", sum := "d3d0327149bd97c0e13307dd80e3620a602b7933fca540eb3ef7a7124f85895f", func := "example.com/hushheap/hushheap/zzlaws_internal_promtext_b1.FnObserveCountsInEveryCumulativeBucketAtOrAboveV", spec := "fnObserveCountsInEveryCumulativeBucketAtOrAboveV", apart := false }
def FnObserveCountsInEveryCumulativeBucketAtOrAboveVSaid : Prop := fnObserveCountsInEveryCumulativeBucketAtOrAboveVRow.holds Try.pinned (OpenSpec.ofChange fnObserveCountsInEveryCumulativeBucketAtOrAboveVSpec)

/-- ITS FALSE NEIGHBOUR: 'it returns false'. Refute it at one input. -/
def fnObserveCountsInEveryCumulativeBucketAtOrAboveVWrong : ChangeSpec := { name := "fnObserveCountsInEveryCumulativeBucketAtOrAboveV", fn := fun _ => fun
  | [d1, d2, d3] => { results := [.lit (.bool false)], args := [d1, d2, d3] }
  | _ => none }
def FnObserveCountsInEveryCumulativeBucketAtOrAboveVWrongFalsely : Prop := fnObserveCountsInEveryCumulativeBucketAtOrAboveVRow.holds Try.pinned (OpenSpec.ofChange fnObserveCountsInEveryCumulativeBucketAtOrAboveVWrong)

/-- 'zzlaws_internal_promtext_b1.FnObserveCountsIndependentOfOrder': WHATEVER THE INPUT: true; the input reads as it did. -/
def fnObserveCountsIndependentOfOrderSpec : ChangeSpec := { name := "fnObserveCountsIndependentOfOrder", fn := fun _ => fun
  | [d1, d2, d3] => { results := [.lit (.bool true)], args := [d1, d2, d3] }
  | _ => none }
def fnObserveCountsIndependentOfOrderRow : OpenClaim := { program := "qxb6001769a", sum := "d3d0327149bd97c0e13307dd80e3620a602b7933fca540eb3ef7a7124f85895f", func := "example.com/hushheap/hushheap/zzlaws_internal_promtext_b1.FnObserveCountsIndependentOfOrder", spec := "fnObserveCountsIndependentOfOrder", apart := false }
def FnObserveCountsIndependentOfOrderSaid : Prop := fnObserveCountsIndependentOfOrderRow.holds Try.pinned (OpenSpec.ofChange fnObserveCountsIndependentOfOrderSpec)

/-- ITS FALSE NEIGHBOUR: 'it returns false'. Refute it at one input. -/
def fnObserveCountsIndependentOfOrderWrong : ChangeSpec := { name := "fnObserveCountsIndependentOfOrder", fn := fun _ => fun
  | [d1, d2, d3] => { results := [.lit (.bool false)], args := [d1, d2, d3] }
  | _ => none }
def FnObserveCountsIndependentOfOrderWrongFalsely : Prop := fnObserveCountsIndependentOfOrderRow.holds Try.pinned (OpenSpec.ofChange fnObserveCountsIndependentOfOrderWrong)

/-- 'zzlaws_internal_promtext_b1.FnObserveBumpsExactlyOneBucketByOne': WHATEVER THE INPUT: true; the input reads as it did. -/
def fnObserveBumpsExactlyOneBucketByOneSpec : ChangeSpec := { name := "fnObserveBumpsExactlyOneBucketByOne", fn := fun _ => fun
  | [d1, d2, d3] => { results := [.lit (.bool true)], args := [d1, d2, d3] }
  | _ => none }
def fnObserveBumpsExactlyOneBucketByOneRow : OpenClaim := { program := "qxb6001769a", sum := "d3d0327149bd97c0e13307dd80e3620a602b7933fca540eb3ef7a7124f85895f", func := "example.com/hushheap/hushheap/zzlaws_internal_promtext_b1.FnObserveBumpsExactlyOneBucketByOne", spec := "fnObserveBumpsExactlyOneBucketByOne", apart := false }
def FnObserveBumpsExactlyOneBucketByOneSaid : Prop := fnObserveBumpsExactlyOneBucketByOneRow.holds Try.pinned (OpenSpec.ofChange fnObserveBumpsExactlyOneBucketByOneSpec)

/-- ITS FALSE NEIGHBOUR: 'it returns false'. Refute it at one input. -/
def fnObserveBumpsExactlyOneBucketByOneWrong : ChangeSpec := { name := "fnObserveBumpsExactlyOneBucketByOne", fn := fun _ => fun
  | [d1, d2, d3] => { results := [.lit (.bool false)], args := [d1, d2, d3] }
  | _ => none }
def FnObserveBumpsExactlyOneBucketByOneWrongFalsely : Prop := fnObserveBumpsExactlyOneBucketByOneRow.holds Try.pinned (OpenSpec.ofChange fnObserveBumpsExactlyOneBucketByOneWrong)

end Rows
end Go.Proofs.Qxb6001769a
