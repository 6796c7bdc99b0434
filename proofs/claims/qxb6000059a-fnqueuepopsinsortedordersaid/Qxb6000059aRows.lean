/-
  No cell of these rows narrows 'for every input' (looked for: loops, veiled, ifaces, maps, wideKeys, modest, calm, conditions, laid).
  DERIVED. THE GIVEN ROWS OF THIS SEAT. 5 by the template 'for every input the law returns true; each argument reads behind the call as it read before'; 0 by the template 'total and deterministic' (their statements: Qxb6000059aTotals.lean).
  GIVEN WITH THE SEED: the statements are not yours to turn. If you find one false, say at which input.
  Laid BY PROGRAM, IN A SANDBOX (cutbox-rows.mjs): the forced cells as the released guide's own fill.sh prints them over the translation ee5ce87b7ba0b8f9… (all of the seat's roots in one cut). By AI agents, Wed Nov 11 2026. No macro, syntax, notation, axiom, sorry.
-/
import Derived.Test.Qxb6000059aChecked
import GoSem.Claim
import GoSem.ClaimJoined
import GoSem.ClaimMapViews
import Derived.JoinedTies
import Derived.KernelRfl
namespace Go.Proofs.Qxb6000059a
/- THE CELL 'sum', in the pinned program and in every row, IS THE sha256 OF THE DUMP (.gsa) THAT Qxb6000059aProg.lean LOADS. Nothing in Lean hashes anything: it is a label: what it is worth is what the hold of that sum in a sandbox is worth. -/
noncomputable def Try.pinned : Pinned := { name := "qxb6000059a", sum := "ee5ce87b7ba0b8f90d2b64e861e87a50cb61d0fc6173a422a102f922ead1d51a", checked := Try.checked }
namespace Rows
def none {H : Type} : Left H := { results := [], args := [] }

/-- 'zzlaws_internal_sim_b1.FnQueuePopsInSortedOrder': WHATEVER THE INPUT: true; the input reads as it did. -/
def fnQueuePopsInSortedOrderSpec : ChangeSpec := { name := "fnQueuePopsInSortedOrder", fn := fun _ => fun
  | [d1, d2] => { results := [.lit (.bool true)], args := [d1, d2] }
  | _ => none }
def fnQueuePopsInSortedOrderRow : OpenClaim := { program := "qxb6000059a", sum := "ee5ce87b7ba0b8f90d2b64e861e87a50cb61d0fc6173a422a102f922ead1d51a", func := "example.com/taskcrier/taskcrier/zzlaws_internal_sim_b1.FnQueuePopsInSortedOrder", spec := "fnQueuePopsInSortedOrder", apart := false }
def FnQueuePopsInSortedOrderSaid : Prop := fnQueuePopsInSortedOrderRow.holds Try.pinned (OpenSpec.ofChange fnQueuePopsInSortedOrderSpec)

/-- ITS FALSE NEIGHBOUR: 'it returns false'. Refute it at one input. -/
def fnQueuePopsInSortedOrderWrong : ChangeSpec := { name := "fnQueuePopsInSortedOrder", fn := fun _ => fun
  | [d1, d2] => { results := [.lit (.bool false)], args := [d1, d2] }
  | _ => none }
def FnQueuePopsInSortedOrderWrongFalsely : Prop := fnQueuePopsInSortedOrderRow.holds Try.pinned (OpenSpec.ofChange fnQueuePopsInSortedOrderWrong)

/-- 'zzlaws_internal_sim_b1.FnQueueScriptMatchesScanModel': WHATEVER THE INPUT: true; the input reads as it did. -/
def fnQueueScriptMatchesScanModelSpec : ChangeSpec := { name := "fnQueueScriptMatchesScanModel", fn := fun _ => fun
  | [d1, d2, d3] => { results := [.lit (.bool true)], args := [d1, d2, d3] }
  | _ => none }
def fnQueueScriptMatchesScanModelRow : OpenClaim := { program := "qxb6000059a", sum := "ee5ce87b7ba0b8f90d2b64e861e87a50cb61d0fc6173a422a102f922ead1d51a", func := "example.com/taskcrier/taskcrier/zzlaws_internal_sim_b1.FnQueueScriptMatchesScanModel", spec := "fnQueueScriptMatchesScanModel", apart := false }
def FnQueueScriptMatchesScanModelSaid : Prop := fnQueueScriptMatchesScanModelRow.holds Try.pinned (OpenSpec.ofChange fnQueueScriptMatchesScanModelSpec)

/-- ITS FALSE NEIGHBOUR: 'it returns false'. Refute it at one input. -/
def fnQueueScriptMatchesScanModelWrong : ChangeSpec := { name := "fnQueueScriptMatchesScanModel", fn := fun _ => fun
  | [d1, d2, d3] => { results := [.lit (.bool false)], args := [d1, d2, d3] }
  | _ => none }
def FnQueueScriptMatchesScanModelWrongFalsely : Prop := fnQueueScriptMatchesScanModelRow.holds Try.pinned (OpenSpec.ofChange fnQueueScriptMatchesScanModelWrong)

/-- 'zzlaws_internal_sim_b1.FnCapacityKCopies': WHATEVER THE INPUT: true; the input reads as it did. -/
def fnCapacityKCopiesSpec : ChangeSpec := { name := "fnCapacityKCopies", fn := fun _ => fun
  | [d1, d2] => { results := [.lit (.bool true)], args := [d1, d2] }
  | _ => none }
def fnCapacityKCopiesRow : OpenClaim := { program := "qxb6000059a", sum := "ee5ce87b7ba0b8f90d2b64e861e87a50cb61d0fc6173a422a102f922ead1d51a", func := "example.com/taskcrier/taskcrier/zzlaws_internal_sim_b1.FnCapacityKCopies", spec := "fnCapacityKCopies", apart := false }
def FnCapacityKCopiesSaid : Prop := fnCapacityKCopiesRow.holds Try.pinned (OpenSpec.ofChange fnCapacityKCopiesSpec)

/-- ITS FALSE NEIGHBOUR: 'it returns false'. Refute it at one input. -/
def fnCapacityKCopiesWrong : ChangeSpec := { name := "fnCapacityKCopies", fn := fun _ => fun
  | [d1, d2] => { results := [.lit (.bool false)], args := [d1, d2] }
  | _ => none }
def FnCapacityKCopiesWrongFalsely : Prop := fnCapacityKCopiesRow.holds Try.pinned (OpenSpec.ofChange fnCapacityKCopiesWrong)

/-- 'zzlaws_internal_sim_b1.FnCapacityScalesByDoubling': WHATEVER THE INPUT: true; the input reads as it did. -/
def fnCapacityScalesByDoublingSpec : ChangeSpec := { name := "fnCapacityScalesByDoubling", fn := fun _ => fun
  | [d1, d2] => { results := [.lit (.bool true)], args := [d1, d2] }
  | _ => none }
def fnCapacityScalesByDoublingRow : OpenClaim := { program := "qxb6000059a", sum := "ee5ce87b7ba0b8f90d2b64e861e87a50cb61d0fc6173a422a102f922ead1d51a", func := "example.com/taskcrier/taskcrier/zzlaws_internal_sim_b1.FnCapacityScalesByDoubling", spec := "fnCapacityScalesByDoubling", apart := false }
def FnCapacityScalesByDoublingSaid : Prop := fnCapacityScalesByDoublingRow.holds Try.pinned (OpenSpec.ofChange fnCapacityScalesByDoublingSpec)

/-- ITS FALSE NEIGHBOUR: 'it returns false'. Refute it at one input. -/
def fnCapacityScalesByDoublingWrong : ChangeSpec := { name := "fnCapacityScalesByDoubling", fn := fun _ => fun
  | [d1, d2] => { results := [.lit (.bool false)], args := [d1, d2] }
  | _ => none }
def FnCapacityScalesByDoublingWrongFalsely : Prop := fnCapacityScalesByDoublingRow.holds Try.pinned (OpenSpec.ofChange fnCapacityScalesByDoublingWrong)

/-- 'zzlaws_internal_sim_b1.FnCapacityMonotone': WHATEVER THE INPUT: true; the input reads as it did. -/
def fnCapacityMonotoneSpec : ChangeSpec := { name := "fnCapacityMonotone", fn := fun _ => fun
  | [d1, d2, d3, d4] => { results := [.lit (.bool true)], args := [d1, d2, d3, d4] }
  | _ => none }
def fnCapacityMonotoneRow : OpenClaim := { program := "qxb6000059a", sum := "ee5ce87b7ba0b8f90d2b64e861e87a50cb61d0fc6173a422a102f922ead1d51a", func := "example.com/taskcrier/taskcrier/zzlaws_internal_sim_b1.FnCapacityMonotone", spec := "fnCapacityMonotone", apart := false }
def FnCapacityMonotoneSaid : Prop := fnCapacityMonotoneRow.holds Try.pinned (OpenSpec.ofChange fnCapacityMonotoneSpec)

/-- ITS FALSE NEIGHBOUR: 'it returns false'. Refute it at one input. -/
def fnCapacityMonotoneWrong : ChangeSpec := { name := "fnCapacityMonotone", fn := fun _ => fun
  | [d1, d2, d3, d4] => { results := [.lit (.bool false)], args := [d1, d2, d3, d4] }
  | _ => none }
def FnCapacityMonotoneWrongFalsely : Prop := fnCapacityMonotoneRow.holds Try.pinned (OpenSpec.ofChange fnCapacityMonotoneWrong)

end Rows
end Go.Proofs.Qxb6000059a
