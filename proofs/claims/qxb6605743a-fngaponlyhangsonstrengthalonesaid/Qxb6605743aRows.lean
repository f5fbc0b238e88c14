/-
  No cell of these rows narrows 'for every input' (looked for: loops, veiled, ifaces, maps, wideKeys, modest, calm, conditions, laid).
  DERIVED. THE GIVEN ROWS OF THIS SEAT. 6 by the template 'for every input the law returns true; each argument reads behind the call as it read before'; 0 by the template 'total and deterministic' (their statements: Qxb6605743aTotals.lean).
  GIVEN WITH THE SEED: the statements are not yours to turn. If you find one false, say at which input.
  Laid BY PROGRAM, IN A SANDBOX (cutbox-rows.mjs): the forced cells as the released guide's own fill.sh prints them over the translation 722a4cf2fd6f8ccf… (all of the seat's roots in one cut). By AI agents, Wed Nov 11 2026. No macro, syntax, notation, axiom, sorry.
-/
import Derived.Test.Qxb6605743aChecked
import GoSem.Claim
import GoSem.ClaimJoined
import GoSem.ClaimMapViews
import Derived.JoinedTies
import Derived.KernelRfl
namespace Go.Proofs.Qxb6605743a
/- THE CELL 'sum', in the pinned program and in every row, IS THE sha256 OF THE DUMP (.gsa) THAT Qxb6605743aProg.lean LOADS. Nothing in Lean hashes anything: it is a label: what it is worth is what the hold of that sum in a sandbox is worth. -/
noncomputable def Try.pinned : Pinned := { name := "qxb6605743a", sum := "722a4cf2fd6f8ccf8ff80b44012d127e7e22e07bb115aed3a55a843f81ecc526", checked := Try.checked }
namespace Rows
def none {H : Type} : Left H := { results := [], args := [] }

/-- 'zzlaws_rowlock_b1.FnOnSupremumMergesNextKeyAndGap': WHATEVER THE INPUT: true; the input reads as it did. -/
def fnOnSupremumMergesNextKeyAndGapSpec : ChangeSpec := { name := "fnOnSupremumMergesNextKeyAndGap", fn := fun _ => fun
  | [d] => { results := [.lit (.bool true)], args := [d] }
  | _ => none }
def fnOnSupremumMergesNextKeyAndGapRow : OpenClaim := { program := "qxb6605743a", sum := "722a4cf2fd6f8ccf8ff80b44012d127e7e22e07bb115aed3a55a843f81ecc526", func := "example.com/fenceline/fenceline/zzlaws_rowlock_b1.FnOnSupremumMergesNextKeyAndGap", spec := "fnOnSupremumMergesNextKeyAndGap", apart := false }
def FnOnSupremumMergesNextKeyAndGapSaid : Prop := fnOnSupremumMergesNextKeyAndGapRow.holds Try.pinned (OpenSpec.ofChange fnOnSupremumMergesNextKeyAndGapSpec)

/-- ITS FALSE NEIGHBOUR: 'it returns false'. Refute it at one input. -/
def fnOnSupremumMergesNextKeyAndGapWrong : ChangeSpec := { name := "fnOnSupremumMergesNextKeyAndGap", fn := fun _ => fun
  | [d] => { results := [.lit (.bool false)], args := [d] }
  | _ => none }
def FnOnSupremumMergesNextKeyAndGapWrongFalsely : Prop := fnOnSupremumMergesNextKeyAndGapRow.holds Try.pinned (OpenSpec.ofChange fnOnSupremumMergesNextKeyAndGapWrong)

/-- 'zzlaws_rowlock_b1.FnGapOnlyHangsOnStrengthAlone': WHATEVER THE INPUT: true; the input reads as it did. -/
def fnGapOnlyHangsOnStrengthAloneSpec : ChangeSpec := { name := "fnGapOnlyHangsOnStrengthAlone", fn := fun _ => fun
  | [d] => { results := [.lit (.bool true)], args := [d] }
  | _ => none }
def fnGapOnlyHangsOnStrengthAloneRow : OpenClaim := { program := "qxb6605743a", sum := "722a4cf2fd6f8ccf8ff80b44012d127e7e22e07bb115aed3a55a843f81ecc526", func := "example.com/fenceline/fenceline/zzlaws_rowlock_b1.FnGapOnlyHangsOnStrengthAlone", spec := "fnGapOnlyHangsOnStrengthAlone", apart := false }
def FnGapOnlyHangsOnStrengthAloneSaid : Prop := fnGapOnlyHangsOnStrengthAloneRow.holds Try.pinned (OpenSpec.ofChange fnGapOnlyHangsOnStrengthAloneSpec)

/-- ITS FALSE NEIGHBOUR: 'it returns false'. Refute it at one input. -/
def fnGapOnlyHangsOnStrengthAloneWrong : ChangeSpec := { name := "fnGapOnlyHangsOnStrengthAlone", fn := fun _ => fun
  | [d] => { results := [.lit (.bool false)], args := [d] }
  | _ => none }
def FnGapOnlyHangsOnStrengthAloneWrongFalsely : Prop := fnGapOnlyHangsOnStrengthAloneRow.holds Try.pinned (OpenSpec.ofChange fnGapOnlyHangsOnStrengthAloneWrong)

/-- 'zzlaws_rowlock_b1.FnSplitEuclid': WHATEVER THE INPUT: true; the input reads as it did. -/
def fnSplitEuclidSpec : ChangeSpec := { name := "fnSplitEuclid", fn := fun _ => fun
  | [d] => { results := [.lit (.bool true)], args := [d] }
  | _ => none }
def fnSplitEuclidRow : OpenClaim := { program := "qxb6605743a", sum := "722a4cf2fd6f8ccf8ff80b44012d127e7e22e07bb115aed3a55a843f81ecc526", func := "example.com/fenceline/fenceline/zzlaws_rowlock_b1.FnSplitEuclid", spec := "fnSplitEuclid", apart := false }
def FnSplitEuclidSaid : Prop := fnSplitEuclidRow.holds Try.pinned (OpenSpec.ofChange fnSplitEuclidSpec)

/-- ITS FALSE NEIGHBOUR: 'it returns false'. Refute it at one input. -/
def fnSplitEuclidWrong : ChangeSpec := { name := "fnSplitEuclid", fn := fun _ => fun
  | [d] => { results := [.lit (.bool false)], args := [d] }
  | _ => none }
def FnSplitEuclidWrongFalsely : Prop := fnSplitEuclidRow.holds Try.pinned (OpenSpec.ofChange fnSplitEuclidWrong)

/-- 'zzlaws_rowlock_b1.FnSplitOfSpanAndBit': WHATEVER THE INPUT: true; the input reads as it did. -/
def fnSplitOfSpanAndBitSpec : ChangeSpec := { name := "fnSplitOfSpanAndBit", fn := fun _ => fun
  | [d1, d2] => { results := [.lit (.bool true)], args := [d1, d2] }
  | _ => none }
def fnSplitOfSpanAndBitRow : OpenClaim := { program := "qxb6605743a", sum := "722a4cf2fd6f8ccf8ff80b44012d127e7e22e07bb115aed3a55a843f81ecc526", func := "example.com/fenceline/fenceline/zzlaws_rowlock_b1.FnSplitOfSpanAndBit", spec := "fnSplitOfSpanAndBit", apart := false }
def FnSplitOfSpanAndBitSaid : Prop := fnSplitOfSpanAndBitRow.holds Try.pinned (OpenSpec.ofChange fnSplitOfSpanAndBitSpec)

/-- ITS FALSE NEIGHBOUR: 'it returns false'. Refute it at one input. -/
def fnSplitOfSpanAndBitWrong : ChangeSpec := { name := "fnSplitOfSpanAndBit", fn := fun _ => fun
  | [d1, d2] => { results := [.lit (.bool false)], args := [d1, d2] }
  | _ => none }
def FnSplitOfSpanAndBitWrongFalsely : Prop := fnSplitOfSpanAndBitRow.holds Try.pinned (OpenSpec.ofChange fnSplitOfSpanAndBitWrong)

/-- 'zzlaws_rowlock_b1.FnAllocatedIsRoomOfOneAllocation': WHATEVER THE INPUT: true; the input reads as it did. -/
def fnAllocatedIsRoomOfOneAllocationSpec : ChangeSpec := { name := "fnAllocatedIsRoomOfOneAllocation", fn := fun _ => fun
  | [d] => { results := [.lit (.bool true)], args := [d] }
  | _ => none }
def fnAllocatedIsRoomOfOneAllocationRow : OpenClaim := { program := "qxb6605743a", sum := "722a4cf2fd6f8ccf8ff80b44012d127e7e22e07bb115aed3a55a843f81ecc526", func := "example.com/fenceline/fenceline/zzlaws_rowlock_b1.FnAllocatedIsRoomOfOneAllocation", spec := "fnAllocatedIsRoomOfOneAllocation", apart := false }
def FnAllocatedIsRoomOfOneAllocationSaid : Prop := fnAllocatedIsRoomOfOneAllocationRow.holds Try.pinned (OpenSpec.ofChange fnAllocatedIsRoomOfOneAllocationSpec)

/-- ITS FALSE NEIGHBOUR: 'it returns false'. Refute it at one input. -/
def fnAllocatedIsRoomOfOneAllocationWrong : ChangeSpec := { name := "fnAllocatedIsRoomOfOneAllocation", fn := fun _ => fun
  | [d] => { results := [.lit (.bool false)], args := [d] }
  | _ => none }
def FnAllocatedIsRoomOfOneAllocationWrongFalsely : Prop := fnAllocatedIsRoomOfOneAllocationRow.holds Try.pinned (OpenSpec.ofChange fnAllocatedIsRoomOfOneAllocationWrong)

/-- 'zzlaws_rowlock_b1.FnAllocatedIsAClosure': WHATEVER THE INPUT: true; the input reads as it did. -/
def fnAllocatedIsAClosureSpec : ChangeSpec := { name := "fnAllocatedIsAClosure", fn := fun _ => fun
  | [d1, d2] => { results := [.lit (.bool true)], args := [d1, d2] }
  | _ => none }
def fnAllocatedIsAClosureRow : OpenClaim := { program := "qxb6605743a", sum := "722a4cf2fd6f8ccf8ff80b44012d127e7e22e07bb115aed3a55a843f81ecc526", func := "example.com/fenceline/fenceline/zzlaws_rowlock_b1.FnAllocatedIsAClosure", spec := "fnAllocatedIsAClosure", apart := false }
def FnAllocatedIsAClosureSaid : Prop := fnAllocatedIsAClosureRow.holds Try.pinned (OpenSpec.ofChange fnAllocatedIsAClosureSpec)

/-- ITS FALSE NEIGHBOUR: 'it returns false'. Refute it at one input. -/
def fnAllocatedIsAClosureWrong : ChangeSpec := { name := "fnAllocatedIsAClosure", fn := fun _ => fun
  | [d1, d2] => { results := [.lit (.bool false)], args := [d1, d2] }
  | _ => none }
def FnAllocatedIsAClosureWrongFalsely : Prop := fnAllocatedIsAClosureRow.holds Try.pinned (OpenSpec.ofChange fnAllocatedIsAClosureWrong)

end Rows
end Go.Proofs.Qxb6605743a
