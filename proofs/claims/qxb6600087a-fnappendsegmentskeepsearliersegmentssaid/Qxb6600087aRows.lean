/-
  No cell of these rows narrows 'for every input' (looked for: loops, veiled, ifaces, maps, wideKeys, modest, calm, conditions, laid).
  DERIVED. THE GIVEN ROWS OF THIS SEAT. 4 by the template 'for every input the law returns true; each argument reads behind the call as it read before'; 0 by the template 'total and deterministic' (their statements: Qxb6600087aTotals.lean).
  GIVEN WITH THE SEED: the statements are not yours to turn. If you find one false, say at which input.
  Laid BY PROGRAM, IN A SANDBOX (cutbox-rows.mjs): the forced cells as the released guide's own fill.sh prints them over the translation be42a7608753d856… (all of the seat's roots in one cut). By AI agents, Wed Nov 11 2026. No macro, syntax, notation, axiom, sorry.
-/
import Derived.Test.Qxb6600087aChecked
import GoSem.Claim
import GoSem.ClaimJoined
import GoSem.ClaimMapViews
import Derived.JoinedTies
import Derived.KernelRfl
namespace Go.Proofs.Qxb6600087a
/- THE CELL 'sum', in the pinned program and in every row, IS THE sha256 OF THE DUMP (.gsa) THAT Qxb6600087aProg.lean LOADS. Nothing in Lean hashes anything: it is a label: what it is worth is what the hold of that sum in a sandbox is worth. -/
noncomputable def Try.pinned : Pinned := { name := "qxb6600087a", sum := "be42a7608753d8561426c6fd6dcd4bf6fad30680969eb4b8adc2384ae14d2753", checked := Try.checked }
namespace Rows
def none {H : Type} : Left H := { results := [], args := [] }

/-- 'zzlaws_internal_judge_b1.FnClassifySwapInvariant': WHATEVER THE INPUT: true; the input reads as it did. -/
def fnClassifySwapInvariantSpec : ChangeSpec := { name := "fnClassifySwapInvariant", fn := fun _ => fun
  | [d1, d2] => { results := [.lit (.bool true)], args := [d1, d2] }
  | _ => none }
def fnClassifySwapInvariantRow : OpenClaim := { program := "qxb6600087a", sum := "be42a7608753d8561426c6fd6dcd4bf6fad30680969eb4b8adc2384ae14d2753", func := "example.com/tannoy-relay/tannoy-relay/zzlaws_internal_judge_b1.FnClassifySwapInvariant", spec := "fnClassifySwapInvariant", apart := false }
def FnClassifySwapInvariantSaid : Prop := fnClassifySwapInvariantRow.holds Try.pinned (OpenSpec.ofChange fnClassifySwapInvariantSpec)

/-- ITS FALSE NEIGHBOUR: 'it returns false'. Refute it at one input. -/
def fnClassifySwapInvariantWrong : ChangeSpec := { name := "fnClassifySwapInvariant", fn := fun _ => fun
  | [d1, d2] => { results := [.lit (.bool false)], args := [d1, d2] }
  | _ => none }
def FnClassifySwapInvariantWrongFalsely : Prop := fnClassifySwapInvariantRow.holds Try.pinned (OpenSpec.ofChange fnClassifySwapInvariantWrong)

/-- 'zzlaws_internal_judge_b1.FnAppendSegmentsChunkingInvariant': WHATEVER THE INPUT: true; the input reads as it did. -/
def fnAppendSegmentsChunkingInvariantSpec : ChangeSpec := { name := "fnAppendSegmentsChunkingInvariant", fn := fun _ => fun
  | [d1, d2] => { results := [.lit (.bool true)], args := [d1, d2] }
  | _ => none }
def fnAppendSegmentsChunkingInvariantRow : OpenClaim := { program := "qxb6600087a", sum := "be42a7608753d8561426c6fd6dcd4bf6fad30680969eb4b8adc2384ae14d2753", func := "example.com/tannoy-relay/tannoy-relay/zzlaws_internal_judge_b1.FnAppendSegmentsChunkingInvariant", spec := "fnAppendSegmentsChunkingInvariant", apart := false }
def FnAppendSegmentsChunkingInvariantSaid : Prop := fnAppendSegmentsChunkingInvariantRow.holds Try.pinned (OpenSpec.ofChange fnAppendSegmentsChunkingInvariantSpec)

/-- ITS FALSE NEIGHBOUR: 'it returns false'. Refute it at one input. -/
def fnAppendSegmentsChunkingInvariantWrong : ChangeSpec := { name := "fnAppendSegmentsChunkingInvariant", fn := fun _ => fun
  | [d1, d2] => { results := [.lit (.bool false)], args := [d1, d2] }
  | _ => none }
def FnAppendSegmentsChunkingInvariantWrongFalsely : Prop := fnAppendSegmentsChunkingInvariantRow.holds Try.pinned (OpenSpec.ofChange fnAppendSegmentsChunkingInvariantWrong)

/-- 'zzlaws_internal_judge_b1.FnAppendSegmentsTilesCapture': WHATEVER THE INPUT: true; the input reads as it did. -/
def fnAppendSegmentsTilesCaptureSpec : ChangeSpec := { name := "fnAppendSegmentsTilesCapture", fn := fun _ => fun
  | [d] => { results := [.lit (.bool true)], args := [d] }
  | _ => none }
def fnAppendSegmentsTilesCaptureRow : OpenClaim := { program := "qxb6600087a", sum := "be42a7608753d8561426c6fd6dcd4bf6fad30680969eb4b8adc2384ae14d2753", func := "example.com/tannoy-relay/tannoy-relay/zzlaws_internal_judge_b1.FnAppendSegmentsTilesCapture", spec := "fnAppendSegmentsTilesCapture", apart := false }
def FnAppendSegmentsTilesCaptureSaid : Prop := fnAppendSegmentsTilesCaptureRow.holds Try.pinned (OpenSpec.ofChange fnAppendSegmentsTilesCaptureSpec)

/-- ITS FALSE NEIGHBOUR: 'it returns false'. Refute it at one input. -/
def fnAppendSegmentsTilesCaptureWrong : ChangeSpec := { name := "fnAppendSegmentsTilesCapture", fn := fun _ => fun
  | [d] => { results := [.lit (.bool false)], args := [d] }
  | _ => none }
def FnAppendSegmentsTilesCaptureWrongFalsely : Prop := fnAppendSegmentsTilesCaptureRow.holds Try.pinned (OpenSpec.ofChange fnAppendSegmentsTilesCaptureWrong)

/-- 'zzlaws_internal_judge_b1.FnAppendSegmentsKeepsEarlierSegments': WHATEVER THE INPUT: true; the input reads as it did. -/
def fnAppendSegmentsKeepsEarlierSegmentsSpec : ChangeSpec := { name := "fnAppendSegmentsKeepsEarlierSegments", fn := fun _ => fun
  | [d1, d2] => { results := [.lit (.bool true)], args := [d1, d2] }
  | _ => none }
def fnAppendSegmentsKeepsEarlierSegmentsRow : OpenClaim := { program := "qxb6600087a", sum := "be42a7608753d8561426c6fd6dcd4bf6fad30680969eb4b8adc2384ae14d2753", func := "example.com/tannoy-relay/tannoy-relay/zzlaws_internal_judge_b1.FnAppendSegmentsKeepsEarlierSegments", spec := "fnAppendSegmentsKeepsEarlierSegments", apart := false }
def FnAppendSegmentsKeepsEarlierSegmentsSaid : Prop := fnAppendSegmentsKeepsEarlierSegmentsRow.holds Try.pinned (OpenSpec.ofChange fnAppendSegmentsKeepsEarlierSegmentsSpec)

/-- ITS FALSE NEIGHBOUR: 'it returns false'. Refute it at one input. -/
def fnAppendSegmentsKeepsEarlierSegmentsWrong : ChangeSpec := { name := "fnAppendSegmentsKeepsEarlierSegments", fn := fun _ => fun
  | [d1, d2] => { results := [.lit (.bool false)], args := [d1, d2] }
  | _ => none }
def FnAppendSegmentsKeepsEarlierSegmentsWrongFalsely : Prop := fnAppendSegmentsKeepsEarlierSegmentsRow.holds Try.pinned (OpenSpec.ofChange fnAppendSegmentsKeepsEarlierSegmentsWrong)

end Rows
end Go.Proofs.Qxb6600087a
