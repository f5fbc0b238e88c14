/-
  No cell of these rows narrows 'for every input' (looked for: loops, veiled, ifaces, maps, wideKeys, modest, calm, conditions, laid).
  DERIVED. THE GIVEN ROWS OF THIS SEAT. 4 by the template 'for every input the law returns true; each argument reads behind the call as it read before'; 0 by the template 'total and deterministic' (their statements: Qxb6608524aTotals.lean).
  GIVEN WITH THE SEED: the statements are not yours to turn. If you find one false, say at which input.
  Laid BY PROGRAM, IN A SANDBOX (cutbox-rows.mjs): the forced cells as the released guide's own fill.sh prints them over the translation 53e88e804fa6ec63… (all of the seat's roots in one cut). By AI agents, Wed Nov 11 2026. No macro, syntax, notation, axiom, sorry.
-/
import Derived.Test.Qxb6608524aChecked
import GoSem.Claim
import GoSem.ClaimJoined
import GoSem.ClaimMapViews
import Derived.JoinedTies
import Derived.KernelRfl
namespace Go.Proofs.Qxb6608524a
/- THE CELL 'sum', in the pinned program and in every row, IS THE sha256 OF THE DUMP (.gsa) THAT Qxb6608524aProg.lean LOADS. Nothing in Lean hashes anything: it is a label: what it is worth is what the hold of that sum in a sandbox is worth. -/
noncomputable def Try.pinned : Pinned := { name := "qxb6608524a", sum := "53e88e804fa6ec63f3662434a3347a6e90d13d846fc0b24ccf3b91b1b83a496b", checked := Try.checked }
namespace Rows
def none {H : Type} : Left H := { results := [], args := [] }

/-- 'zzlaws_root_b1.FnClassOfLeastClassAndDoubling': WHATEVER THE INPUT: true; the input reads as it did. -/
def fnClassOfLeastClassAndDoublingSpec : ChangeSpec := { name := "fnClassOfLeastClassAndDoubling", fn := fun _ => fun
  | [d] => { results := [.lit (.bool true)], args := [d] }
  | _ => none }
def fnClassOfLeastClassAndDoublingRow : OpenClaim := { program := "qxb6608524a", sum := "53e88e804fa6ec63f3662434a3347a6e90d13d846fc0b24ccf3b91b1b83a496b", func := "example.com/indelta/indelta/zzlaws_root_b1.FnClassOfLeastClassAndDoubling", spec := "fnClassOfLeastClassAndDoubling", inPlace := ["math.Float64bits", "math.Float64frombits"], apart := false }
def FnClassOfLeastClassAndDoublingSaid : Prop := fnClassOfLeastClassAndDoublingRow.holds Try.pinned (OpenSpec.ofChange fnClassOfLeastClassAndDoublingSpec)

/-- ITS FALSE NEIGHBOUR: 'it returns false'. Refute it at one input. -/
def fnClassOfLeastClassAndDoublingWrong : ChangeSpec := { name := "fnClassOfLeastClassAndDoubling", fn := fun _ => fun
  | [d] => { results := [.lit (.bool false)], args := [d] }
  | _ => none }
def FnClassOfLeastClassAndDoublingWrongFalsely : Prop := fnClassOfLeastClassAndDoublingRow.holds Try.pinned (OpenSpec.ofChange fnClassOfLeastClassAndDoublingWrong)

/-- 'zzlaws_root_b1.FnClassOfStepsCountThresholds': WHATEVER THE INPUT: true; the input reads as it did. -/
def fnClassOfStepsCountThresholdsSpec : ChangeSpec := { name := "fnClassOfStepsCountThresholds", fn := fun _ => fun
  | [d1, d2] => { results := [.lit (.bool true)], args := [d1, d2] }
  | _ => none }
def fnClassOfStepsCountThresholdsRow : OpenClaim := { program := "qxb6608524a", sum := "53e88e804fa6ec63f3662434a3347a6e90d13d846fc0b24ccf3b91b1b83a496b", func := "example.com/indelta/indelta/zzlaws_root_b1.FnClassOfStepsCountThresholds", spec := "fnClassOfStepsCountThresholds", inPlace := ["math.Float64bits", "math.Float64frombits"], apart := false }
def FnClassOfStepsCountThresholdsSaid : Prop := fnClassOfStepsCountThresholdsRow.holds Try.pinned (OpenSpec.ofChange fnClassOfStepsCountThresholdsSpec)

/-- ITS FALSE NEIGHBOUR: 'it returns false'. Refute it at one input. -/
def fnClassOfStepsCountThresholdsWrong : ChangeSpec := { name := "fnClassOfStepsCountThresholds", fn := fun _ => fun
  | [d1, d2] => { results := [.lit (.bool false)], args := [d1, d2] }
  | _ => none }
def FnClassOfStepsCountThresholdsWrongFalsely : Prop := fnClassOfStepsCountThresholdsRow.holds Try.pinned (OpenSpec.ofChange fnClassOfStepsCountThresholdsWrong)

/-- 'zzlaws_root_b1.FnWithinAgreesWithScanAtAnyCut': WHATEVER THE INPUT: true; the input reads as it did. -/
def fnWithinAgreesWithScanAtAnyCutSpec : ChangeSpec := { name := "fnWithinAgreesWithScanAtAnyCut", fn := fun _ => fun
  | [d1, d2, d3, d4, d5, d6, d7, d8, d9] => { results := [.lit (.bool true)], args := [d1, d2, d3, d4, d5, d6, d7, d8, d9] }
  | _ => none }
def fnWithinAgreesWithScanAtAnyCutRow : OpenClaim := { program := "qxb6608524a", sum := "53e88e804fa6ec63f3662434a3347a6e90d13d846fc0b24ccf3b91b1b83a496b", func := "example.com/indelta/indelta/zzlaws_root_b1.FnWithinAgreesWithScanAtAnyCut", spec := "fnWithinAgreesWithScanAtAnyCut", unfollowed := true, recurses := true, apart := false }
def FnWithinAgreesWithScanAtAnyCutSaid : Prop := fnWithinAgreesWithScanAtAnyCutRow.holds Try.pinned (OpenSpec.ofChange fnWithinAgreesWithScanAtAnyCutSpec)

/-- ITS FALSE NEIGHBOUR: 'it returns false'. Refute it at one input. -/
def fnWithinAgreesWithScanAtAnyCutWrong : ChangeSpec := { name := "fnWithinAgreesWithScanAtAnyCut", fn := fun _ => fun
  | [d1, d2, d3, d4, d5, d6, d7, d8, d9] => { results := [.lit (.bool false)], args := [d1, d2, d3, d4, d5, d6, d7, d8, d9] }
  | _ => none }
def FnWithinAgreesWithScanAtAnyCutWrongFalsely : Prop := fnWithinAgreesWithScanAtAnyCutRow.holds Try.pinned (OpenSpec.ofChange fnWithinAgreesWithScanAtAnyCutWrong)

/-- 'zzlaws_root_b1.FnWithinDropOnePiece': WHATEVER THE INPUT: true; the input reads as it did. -/
def fnWithinDropOnePieceSpec : ChangeSpec := { name := "fnWithinDropOnePiece", fn := fun _ => fun
  | [d1, d2, d3, d4, d5, d6, d7, d8, d9] => { results := [.lit (.bool true)], args := [d1, d2, d3, d4, d5, d6, d7, d8, d9] }
  | _ => none }
def fnWithinDropOnePieceRow : OpenClaim := { program := "qxb6608524a", sum := "53e88e804fa6ec63f3662434a3347a6e90d13d846fc0b24ccf3b91b1b83a496b", func := "example.com/indelta/indelta/zzlaws_root_b1.FnWithinDropOnePiece", spec := "fnWithinDropOnePiece", unfollowed := true, recurses := true, apart := false }
def FnWithinDropOnePieceSaid : Prop := fnWithinDropOnePieceRow.holds Try.pinned (OpenSpec.ofChange fnWithinDropOnePieceSpec)

/-- ITS FALSE NEIGHBOUR: 'it returns false'. Refute it at one input. -/
def fnWithinDropOnePieceWrong : ChangeSpec := { name := "fnWithinDropOnePiece", fn := fun _ => fun
  | [d1, d2, d3, d4, d5, d6, d7, d8, d9] => { results := [.lit (.bool false)], args := [d1, d2, d3, d4, d5, d6, d7, d8, d9] }
  | _ => none }
def FnWithinDropOnePieceWrongFalsely : Prop := fnWithinDropOnePieceRow.holds Try.pinned (OpenSpec.ofChange fnWithinDropOnePieceWrong)

end Rows
end Go.Proofs.Qxb6608524a
