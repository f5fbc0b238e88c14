/-
  No cell of these rows narrows 'for every input' (looked for: loops, veiled, ifaces, maps, wideKeys, modest, calm, conditions, laid).
  DERIVED. THE GIVEN ROWS OF THIS SEAT. 4 by the template 'for every input the law returns true; each argument reads behind the call as it read before'; 0 by the template 'total and deterministic' (their statements: Qxb6605972aTotals.lean).
  GIVEN WITH THE SEED: the statements are not yours to turn. If you find one false, say at which input.
  Laid BY PROGRAM, IN A SANDBOX (cutbox-rows.mjs): the forced cells as the released guide's own fill.sh prints them over the translation 14441c2f95f36a18… (all of the seat's roots in one cut). By AI agents, Wed Nov 11 2026. No macro, syntax, notation, axiom, sorry.
-/
import Derived.Test.Qxb6605972aChecked
import GoSem.Claim
import GoSem.ClaimJoined
import GoSem.ClaimMapViews
import Derived.JoinedTies
import Derived.KernelRfl
namespace Go.Proofs.Qxb6605972a
/- THE CELL 'sum', in the pinned program and in every row, IS THE sha256 OF THE DUMP (.gsa) THAT Qxb6605972aProg.lean LOADS. Nothing in Lean hashes anything: it is a label: what it is worth is what the hold of that sum in a sandbox is worth. -/
noncomputable def Try.pinned : Pinned := { name := "qxb6605972a", sum := "14441c2f95f36a18d9257c7b0ad98b0fad3eee7ea16b4d1308e384954b46e628", checked := Try.checked }
namespace Rows
def none {H : Type} : Left H := { results := [], args := [] }

/-- 'zzlaws_internal_imaging_b1.FnIsFrameHeaderIsAStartOfFrameMarker': WHATEVER THE INPUT: true; the input reads as it did. -/
def fnIsFrameHeaderIsAStartOfFrameMarkerSpec : ChangeSpec := { name := "fnIsFrameHeaderIsAStartOfFrameMarker", fn := fun _ => fun
  | [d] => { results := [.lit (.bool true)], args := [d] }
  | _ => none }
def fnIsFrameHeaderIsAStartOfFrameMarkerRow : OpenClaim := { program := "qxb6605972a", sum := "14441c2f95f36a18d9257c7b0ad98b0fad3eee7ea16b4d1308e384954b46e628", func := "example.com/porchlight/porchlight/zzlaws_internal_imaging_b1.FnIsFrameHeaderIsAStartOfFrameMarker", spec := "fnIsFrameHeaderIsAStartOfFrameMarker", apart := false }
def FnIsFrameHeaderIsAStartOfFrameMarkerSaid : Prop := fnIsFrameHeaderIsAStartOfFrameMarkerRow.holds Try.pinned (OpenSpec.ofChange fnIsFrameHeaderIsAStartOfFrameMarkerSpec)

/-- ITS FALSE NEIGHBOUR: 'it returns false'. Refute it at one input. -/
def fnIsFrameHeaderIsAStartOfFrameMarkerWrong : ChangeSpec := { name := "fnIsFrameHeaderIsAStartOfFrameMarker", fn := fun _ => fun
  | [d] => { results := [.lit (.bool false)], args := [d] }
  | _ => none }
def FnIsFrameHeaderIsAStartOfFrameMarkerWrongFalsely : Prop := fnIsFrameHeaderIsAStartOfFrameMarkerRow.holds Try.pinned (OpenSpec.ofChange fnIsFrameHeaderIsAStartOfFrameMarkerWrong)

/-- 'zzlaws_internal_imaging_b1.FnIsFrameHeaderByItsCodingBits': WHATEVER THE INPUT: true; the input reads as it did. -/
def fnIsFrameHeaderByItsCodingBitsSpec : ChangeSpec := { name := "fnIsFrameHeaderByItsCodingBits", fn := fun _ => fun
  | [d] => { results := [.lit (.bool true)], args := [d] }
  | _ => none }
def fnIsFrameHeaderByItsCodingBitsRow : OpenClaim := { program := "qxb6605972a", sum := "14441c2f95f36a18d9257c7b0ad98b0fad3eee7ea16b4d1308e384954b46e628", func := "example.com/porchlight/porchlight/zzlaws_internal_imaging_b1.FnIsFrameHeaderByItsCodingBits", spec := "fnIsFrameHeaderByItsCodingBits", apart := false }
def FnIsFrameHeaderByItsCodingBitsSaid : Prop := fnIsFrameHeaderByItsCodingBitsRow.holds Try.pinned (OpenSpec.ofChange fnIsFrameHeaderByItsCodingBitsSpec)

/-- ITS FALSE NEIGHBOUR: 'it returns false'. Refute it at one input. -/
def fnIsFrameHeaderByItsCodingBitsWrong : ChangeSpec := { name := "fnIsFrameHeaderByItsCodingBits", fn := fun _ => fun
  | [d] => { results := [.lit (.bool false)], args := [d] }
  | _ => none }
def FnIsFrameHeaderByItsCodingBitsWrongFalsely : Prop := fnIsFrameHeaderByItsCodingBitsRow.holds Try.pinned (OpenSpec.ofChange fnIsFrameHeaderByItsCodingBitsWrong)

/-- 'zzlaws_internal_imaging_b1.FnToYCbCrIsTheUpsampledSamplesInYCbCr': WHATEVER THE INPUT: true; the input reads as it did. -/
def fnToYCbCrIsTheUpsampledSamplesInYCbCrSpec : ChangeSpec := { name := "fnToYCbCrIsTheUpsampledSamplesInYCbCr", fn := fun _ => fun
  | [d1, d2, d3, d4] => { results := [.lit (.bool true)], args := [d1, d2, d3, d4] }
  | _ => none }
def fnToYCbCrIsTheUpsampledSamplesInYCbCrRow : OpenClaim := { program := "qxb6605972a", sum := "14441c2f95f36a18d9257c7b0ad98b0fad3eee7ea16b4d1308e384954b46e628", func := "example.com/porchlight/porchlight/zzlaws_internal_imaging_b1.FnToYCbCrIsTheUpsampledSamplesInYCbCr", spec := "fnToYCbCrIsTheUpsampledSamplesInYCbCr", apart := false }
def FnToYCbCrIsTheUpsampledSamplesInYCbCrSaid : Prop := fnToYCbCrIsTheUpsampledSamplesInYCbCrRow.holds Try.pinned (OpenSpec.ofChange fnToYCbCrIsTheUpsampledSamplesInYCbCrSpec)

/-- ITS FALSE NEIGHBOUR: 'it returns false'. Refute it at one input. -/
def fnToYCbCrIsTheUpsampledSamplesInYCbCrWrong : ChangeSpec := { name := "fnToYCbCrIsTheUpsampledSamplesInYCbCr", fn := fun _ => fun
  | [d1, d2, d3, d4] => { results := [.lit (.bool false)], args := [d1, d2, d3, d4] }
  | _ => none }
def FnToYCbCrIsTheUpsampledSamplesInYCbCrWrongFalsely : Prop := fnToYCbCrIsTheUpsampledSamplesInYCbCrRow.holds Try.pinned (OpenSpec.ofChange fnToYCbCrIsTheUpsampledSamplesInYCbCrWrong)

/-- 'zzlaws_internal_imaging_b1.FnToYCbCrKeepsGreyNeutral': WHATEVER THE INPUT: true; the input reads as it did. -/
def fnToYCbCrKeepsGreyNeutralSpec : ChangeSpec := { name := "fnToYCbCrKeepsGreyNeutral", fn := fun _ => fun
  | [d1, d2, d3, d4, d5, d6] => { results := [.lit (.bool true)], args := [d1, d2, d3, d4, d5, d6] }
  | _ => none }
def fnToYCbCrKeepsGreyNeutralRow : OpenClaim := { program := "qxb6605972a", sum := "14441c2f95f36a18d9257c7b0ad98b0fad3eee7ea16b4d1308e384954b46e628", func := "example.com/porchlight/porchlight/zzlaws_internal_imaging_b1.FnToYCbCrKeepsGreyNeutral", spec := "fnToYCbCrKeepsGreyNeutral", apart := false }
def FnToYCbCrKeepsGreyNeutralSaid : Prop := fnToYCbCrKeepsGreyNeutralRow.holds Try.pinned (OpenSpec.ofChange fnToYCbCrKeepsGreyNeutralSpec)

/-- ITS FALSE NEIGHBOUR: 'it returns false'. Refute it at one input. -/
def fnToYCbCrKeepsGreyNeutralWrong : ChangeSpec := { name := "fnToYCbCrKeepsGreyNeutral", fn := fun _ => fun
  | [d1, d2, d3, d4, d5, d6] => { results := [.lit (.bool false)], args := [d1, d2, d3, d4, d5, d6] }
  | _ => none }
def FnToYCbCrKeepsGreyNeutralWrongFalsely : Prop := fnToYCbCrKeepsGreyNeutralRow.holds Try.pinned (OpenSpec.ofChange fnToYCbCrKeepsGreyNeutralWrong)

end Rows
end Go.Proofs.Qxb6605972a
