/-
  No cell of these rows narrows 'for every input' (looked for: loops, veiled, ifaces, maps, wideKeys, modest, calm, conditions, laid).
  DERIVED. THE GIVEN ROWS OF THIS SEAT. 8 by the template 'for every input the law returns true; each argument reads behind the call as it read before'; 0 by the template 'total and deterministic' (their statements: Qxb6618938aTotals.lean).
  GIVEN WITH THE SEED: the statements are not yours to turn. If you find one false, say at which input.
  Laid BY PROGRAM, IN A SANDBOX (cutbox-rows.mjs): the forced cells as the released guide's own fill.sh prints them over the translation 765a5b5ee85a705b… (all of the seat's roots in one cut). By AI agents, Wed Nov 11 2026. No macro, syntax, notation, axiom, sorry.
-/
import Derived.Test.Qxb6618938aChecked
import GoSem.Claim
import GoSem.ClaimJoined
import GoSem.ClaimMapViews
import Derived.JoinedTies
import Derived.KernelRfl
namespace Go.Proofs.Qxb6618938a
/- THE CELL 'sum', in the pinned program and in every row, IS THE sha256 OF THE DUMP (.gsa) THAT Qxb6618938aProg.lean LOADS. Nothing in Lean hashes anything: it is a label: what it is worth is what the hold of that sum in a sandbox is worth. -/
noncomputable def Try.pinned : Pinned := { name := "qxb6618938a", sum := "765a5b5ee85a705b66d827b282c883c230b64032151b0ff6dc95e3ec7b451a3b", checked := Try.checked }
namespace Rows
def none {H : Type} : Left H := { results := [], args := [] }

/-- 'zzlaws_internal_goheap_b1.FnRoundUpLeastMultipleShift': WHATEVER THE INPUT: true; the input reads as it did. -/
def fnRoundUpLeastMultipleShiftSpec : ChangeSpec := { name := "fnRoundUpLeastMultipleShift", fn := fun _ => fun
  | [d1, d2, d3] => { results := [.lit (.bool true)], args := [d1, d2, d3] }
  | _ => none }
def fnRoundUpLeastMultipleShiftRow : OpenClaim := { program := "qxb6618938a", sum := "765a5b5ee85a705b66d827b282c883c230b64032151b0ff6dc95e3ec7b451a3b", func := "example.com/cortical-learning-nets/cortical-learning-nets/zzlaws_internal_goheap_b1.FnRoundUpLeastMultipleShift", spec := "fnRoundUpLeastMultipleShift", apart := false }
def FnRoundUpLeastMultipleShiftSaid : Prop := fnRoundUpLeastMultipleShiftRow.holds Try.pinned (OpenSpec.ofChange fnRoundUpLeastMultipleShiftSpec)

/-- ITS FALSE NEIGHBOUR: 'it returns false'. Refute it at one input. -/
def fnRoundUpLeastMultipleShiftWrong : ChangeSpec := { name := "fnRoundUpLeastMultipleShift", fn := fun _ => fun
  | [d1, d2, d3] => { results := [.lit (.bool false)], args := [d1, d2, d3] }
  | _ => none }
def FnRoundUpLeastMultipleShiftWrongFalsely : Prop := fnRoundUpLeastMultipleShiftRow.holds Try.pinned (OpenSpec.ofChange fnRoundUpLeastMultipleShiftWrong)

/-- 'zzlaws_internal_goheap_b1.FnRoundUpThroughFinerUnit': WHATEVER THE INPUT: true; the input reads as it did. -/
def fnRoundUpThroughFinerUnitSpec : ChangeSpec := { name := "fnRoundUpThroughFinerUnit", fn := fun _ => fun
  | [d1, d2, d3] => { results := [.lit (.bool true)], args := [d1, d2, d3] }
  | _ => none }
def fnRoundUpThroughFinerUnitRow : OpenClaim := { program := "qxb6618938a", sum := "765a5b5ee85a705b66d827b282c883c230b64032151b0ff6dc95e3ec7b451a3b", func := "example.com/cortical-learning-nets/cortical-learning-nets/zzlaws_internal_goheap_b1.FnRoundUpThroughFinerUnit", spec := "fnRoundUpThroughFinerUnit", apart := false }
def FnRoundUpThroughFinerUnitSaid : Prop := fnRoundUpThroughFinerUnitRow.holds Try.pinned (OpenSpec.ofChange fnRoundUpThroughFinerUnitSpec)

/-- ITS FALSE NEIGHBOUR: 'it returns false'. Refute it at one input. -/
def fnRoundUpThroughFinerUnitWrong : ChangeSpec := { name := "fnRoundUpThroughFinerUnit", fn := fun _ => fun
  | [d1, d2, d3] => { results := [.lit (.bool false)], args := [d1, d2, d3] }
  | _ => none }
def FnRoundUpThroughFinerUnitWrongFalsely : Prop := fnRoundUpThroughFinerUnitRow.holds Try.pinned (OpenSpec.ofChange fnRoundUpThroughFinerUnitWrong)

/-- 'zzlaws_internal_goheap_b1.FnMappedWholeChunksIdempotent': WHATEVER THE INPUT: true; the input reads as it did. -/
def fnMappedWholeChunksIdempotentSpec : ChangeSpec := { name := "fnMappedWholeChunksIdempotent", fn := fun _ => fun
  | [d] => { results := [.lit (.bool true)], args := [d] }
  | _ => none }
def fnMappedWholeChunksIdempotentRow : OpenClaim := { program := "qxb6618938a", sum := "765a5b5ee85a705b66d827b282c883c230b64032151b0ff6dc95e3ec7b451a3b", func := "example.com/cortical-learning-nets/cortical-learning-nets/zzlaws_internal_goheap_b1.FnMappedWholeChunksIdempotent", spec := "fnMappedWholeChunksIdempotent", apart := false }
def FnMappedWholeChunksIdempotentSaid : Prop := fnMappedWholeChunksIdempotentRow.holds Try.pinned (OpenSpec.ofChange fnMappedWholeChunksIdempotentSpec)

/-- ITS FALSE NEIGHBOUR: 'it returns false'. Refute it at one input. -/
def fnMappedWholeChunksIdempotentWrong : ChangeSpec := { name := "fnMappedWholeChunksIdempotent", fn := fun _ => fun
  | [d] => { results := [.lit (.bool false)], args := [d] }
  | _ => none }
def FnMappedWholeChunksIdempotentWrongFalsely : Prop := fnMappedWholeChunksIdempotentRow.holds Try.pinned (OpenSpec.ofChange fnMappedWholeChunksIdempotentWrong)

/-- 'zzlaws_internal_goheap_b1.FnMappedSplitCostsAtMostOneChunk': WHATEVER THE INPUT: true; the input reads as it did. -/
def fnMappedSplitCostsAtMostOneChunkSpec : ChangeSpec := { name := "fnMappedSplitCostsAtMostOneChunk", fn := fun _ => fun
  | [d1, d2] => { results := [.lit (.bool true)], args := [d1, d2] }
  | _ => none }
def fnMappedSplitCostsAtMostOneChunkRow : OpenClaim := { program := "qxb6618938a", sum := "765a5b5ee85a705b66d827b282c883c230b64032151b0ff6dc95e3ec7b451a3b", func := "example.com/cortical-learning-nets/cortical-learning-nets/zzlaws_internal_goheap_b1.FnMappedSplitCostsAtMostOneChunk", spec := "fnMappedSplitCostsAtMostOneChunk", apart := false }
def FnMappedSplitCostsAtMostOneChunkSaid : Prop := fnMappedSplitCostsAtMostOneChunkRow.holds Try.pinned (OpenSpec.ofChange fnMappedSplitCostsAtMostOneChunkSpec)

/-- ITS FALSE NEIGHBOUR: 'it returns false'. Refute it at one input. -/
def fnMappedSplitCostsAtMostOneChunkWrong : ChangeSpec := { name := "fnMappedSplitCostsAtMostOneChunk", fn := fun _ => fun
  | [d1, d2] => { results := [.lit (.bool false)], args := [d1, d2] }
  | _ => none }
def FnMappedSplitCostsAtMostOneChunkWrongFalsely : Prop := fnMappedSplitCostsAtMostOneChunkRow.holds Try.pinned (OpenSpec.ofChange fnMappedSplitCostsAtMostOneChunkWrong)

/-- 'zzlaws_internal_goheap_b1.FnAddressSpaceLeastArenaAboveThenOneMore': WHATEVER THE INPUT: true; the input reads as it did. -/
def fnAddressSpaceLeastArenaAboveThenOneMoreSpec : ChangeSpec := { name := "fnAddressSpaceLeastArenaAboveThenOneMore", fn := fun _ => fun
  | [d] => { results := [.lit (.bool true)], args := [d] }
  | _ => none }
def fnAddressSpaceLeastArenaAboveThenOneMoreRow : OpenClaim := { program := "qxb6618938a", sum := "765a5b5ee85a705b66d827b282c883c230b64032151b0ff6dc95e3ec7b451a3b", func := "example.com/cortical-learning-nets/cortical-learning-nets/zzlaws_internal_goheap_b1.FnAddressSpaceLeastArenaAboveThenOneMore", spec := "fnAddressSpaceLeastArenaAboveThenOneMore", apart := false }
def FnAddressSpaceLeastArenaAboveThenOneMoreSaid : Prop := fnAddressSpaceLeastArenaAboveThenOneMoreRow.holds Try.pinned (OpenSpec.ofChange fnAddressSpaceLeastArenaAboveThenOneMoreSpec)

/-- ITS FALSE NEIGHBOUR: 'it returns false'. Refute it at one input. -/
def fnAddressSpaceLeastArenaAboveThenOneMoreWrong : ChangeSpec := { name := "fnAddressSpaceLeastArenaAboveThenOneMore", fn := fun _ => fun
  | [d] => { results := [.lit (.bool false)], args := [d] }
  | _ => none }
def FnAddressSpaceLeastArenaAboveThenOneMoreWrongFalsely : Prop := fnAddressSpaceLeastArenaAboveThenOneMoreRow.holds Try.pinned (OpenSpec.ofChange fnAddressSpaceLeastArenaAboveThenOneMoreWrong)

/-- 'zzlaws_internal_goheap_b1.FnAddressSpaceHangsOnChunksAndShiftsByArenas': WHATEVER THE INPUT: true; the input reads as it did. -/
def fnAddressSpaceHangsOnChunksAndShiftsByArenasSpec : ChangeSpec := { name := "fnAddressSpaceHangsOnChunksAndShiftsByArenas", fn := fun _ => fun
  | [d1, d2] => { results := [.lit (.bool true)], args := [d1, d2] }
  | _ => none }
def fnAddressSpaceHangsOnChunksAndShiftsByArenasRow : OpenClaim := { program := "qxb6618938a", sum := "765a5b5ee85a705b66d827b282c883c230b64032151b0ff6dc95e3ec7b451a3b", func := "example.com/cortical-learning-nets/cortical-learning-nets/zzlaws_internal_goheap_b1.FnAddressSpaceHangsOnChunksAndShiftsByArenas", spec := "fnAddressSpaceHangsOnChunksAndShiftsByArenas", apart := false }
def FnAddressSpaceHangsOnChunksAndShiftsByArenasSaid : Prop := fnAddressSpaceHangsOnChunksAndShiftsByArenasRow.holds Try.pinned (OpenSpec.ofChange fnAddressSpaceHangsOnChunksAndShiftsByArenasSpec)

/-- ITS FALSE NEIGHBOUR: 'it returns false'. Refute it at one input. -/
def fnAddressSpaceHangsOnChunksAndShiftsByArenasWrong : ChangeSpec := { name := "fnAddressSpaceHangsOnChunksAndShiftsByArenas", fn := fun _ => fun
  | [d1, d2] => { results := [.lit (.bool false)], args := [d1, d2] }
  | _ => none }
def FnAddressSpaceHangsOnChunksAndShiftsByArenasWrongFalsely : Prop := fnAddressSpaceHangsOnChunksAndShiftsByArenasRow.holds Try.pinned (OpenSpec.ofChange fnAddressSpaceHangsOnChunksAndShiftsByArenasWrong)

/-- 'zzlaws_internal_goheap_b1.FnWithIndexShiftAndLeastIndex': WHATEVER THE INPUT: true; the input reads as it did. -/
def fnWithIndexShiftAndLeastIndexSpec : ChangeSpec := { name := "fnWithIndexShiftAndLeastIndex", fn := fun _ => fun
  | [d1, d2] => { results := [.lit (.bool true)], args := [d1, d2] }
  | _ => none }
def fnWithIndexShiftAndLeastIndexRow : OpenClaim := { program := "qxb6618938a", sum := "765a5b5ee85a705b66d827b282c883c230b64032151b0ff6dc95e3ec7b451a3b", func := "example.com/cortical-learning-nets/cortical-learning-nets/zzlaws_internal_goheap_b1.FnWithIndexShiftAndLeastIndex", spec := "fnWithIndexShiftAndLeastIndex", apart := false }
def FnWithIndexShiftAndLeastIndexSaid : Prop := fnWithIndexShiftAndLeastIndexRow.holds Try.pinned (OpenSpec.ofChange fnWithIndexShiftAndLeastIndexSpec)

/-- ITS FALSE NEIGHBOUR: 'it returns false'. Refute it at one input. -/
def fnWithIndexShiftAndLeastIndexWrong : ChangeSpec := { name := "fnWithIndexShiftAndLeastIndex", fn := fun _ => fun
  | [d1, d2] => { results := [.lit (.bool false)], args := [d1, d2] }
  | _ => none }
def FnWithIndexShiftAndLeastIndexWrongFalsely : Prop := fnWithIndexShiftAndLeastIndexRow.holds Try.pinned (OpenSpec.ofChange fnWithIndexShiftAndLeastIndexWrong)

/-- 'zzlaws_internal_goheap_b1.FnWithIndexSplitAddsAtMostOne': WHATEVER THE INPUT: true; the input reads as it did. -/
def fnWithIndexSplitAddsAtMostOneSpec : ChangeSpec := { name := "fnWithIndexSplitAddsAtMostOne", fn := fun _ => fun
  | [d1, d2] => { results := [.lit (.bool true)], args := [d1, d2] }
  | _ => none }
def fnWithIndexSplitAddsAtMostOneRow : OpenClaim := { program := "qxb6618938a", sum := "765a5b5ee85a705b66d827b282c883c230b64032151b0ff6dc95e3ec7b451a3b", func := "example.com/cortical-learning-nets/cortical-learning-nets/zzlaws_internal_goheap_b1.FnWithIndexSplitAddsAtMostOne", spec := "fnWithIndexSplitAddsAtMostOne", apart := false }
def FnWithIndexSplitAddsAtMostOneSaid : Prop := fnWithIndexSplitAddsAtMostOneRow.holds Try.pinned (OpenSpec.ofChange fnWithIndexSplitAddsAtMostOneSpec)

/-- ITS FALSE NEIGHBOUR: 'it returns false'. Refute it at one input. -/
def fnWithIndexSplitAddsAtMostOneWrong : ChangeSpec := { name := "fnWithIndexSplitAddsAtMostOne", fn := fun _ => fun
  | [d1, d2] => { results := [.lit (.bool false)], args := [d1, d2] }
  | _ => none }
def FnWithIndexSplitAddsAtMostOneWrongFalsely : Prop := fnWithIndexSplitAddsAtMostOneRow.holds Try.pinned (OpenSpec.ofChange fnWithIndexSplitAddsAtMostOneWrong)

end Rows
end Go.Proofs.Qxb6618938a
