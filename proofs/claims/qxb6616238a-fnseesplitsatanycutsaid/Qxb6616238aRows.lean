/-
  No cell of these rows narrows 'for every input' (looked for: loops, veiled, ifaces, maps, wideKeys, modest, calm, conditions, laid).
  DERIVED. THE GIVEN ROWS OF THIS SEAT. 6 by the template 'for every input the law returns true; each argument reads behind the call as it read before'; 0 by the template 'total and deterministic' (their statements: Qxb6616238aTotals.lean).
  GIVEN WITH THE SEED: the statements are not yours to turn. If you find one false, say at which input.
  Laid BY PROGRAM, IN A SANDBOX (cutbox-rows.mjs): the forced cells as the released guide's own fill.sh prints them over the translation 0250c92e5c8849cf… (all of the seat's roots in one cut). By AI agents, Wed Nov 11 2026. No macro, syntax, notation, axiom, sorry.
-/
import Derived.Test.Qxb6616238aChecked
import GoSem.Claim
import GoSem.ClaimJoined
import GoSem.ClaimMapViews
import Derived.JoinedTies
import Derived.KernelRfl
namespace Go.Proofs.Qxb6616238a
/- THE CELL 'sum', in the pinned program and in every row, IS THE sha256 OF THE DUMP (.gsa) THAT Qxb6616238aProg.lean LOADS. Nothing in Lean hashes anything: it is a label: what it is worth is what the hold of that sum in a sandbox is worth. -/
noncomputable def Try.pinned : Pinned := { name := "qxb6616238a", sum := "0250c92e5c8849cf5fb08906a0b422f0b71c7e8403080b728a4bf19955c9c47f", checked := Try.checked }
namespace Rows
def none {H : Type} : Left H := { results := [], args := [] }

/-- 'zzlaws_internal_consensus_b1.FnMaxSizeOneByteEveryEightNodes': WHATEVER THE INPUT: true; the input reads as it did. -/
def fnMaxSizeOneByteEveryEightNodesSpec : ChangeSpec := { name := "fnMaxSizeOneByteEveryEightNodes", fn := fun _ => fun
  | [d1, d2] => { results := [.lit (.bool true)], args := [d1, d2] }
  | _ => none }
def fnMaxSizeOneByteEveryEightNodesRow : OpenClaim := { program := "qxb6616238a", sum := "0250c92e5c8849cf5fb08906a0b422f0b71c7e8403080b728a4bf19955c9c47f", func := "example.com/tattler/tattler/zzlaws_internal_consensus_b1.FnMaxSizeOneByteEveryEightNodes", spec := "fnMaxSizeOneByteEveryEightNodes", plainKeys := false, apart := false }
def FnMaxSizeOneByteEveryEightNodesSaid : Prop := fnMaxSizeOneByteEveryEightNodesRow.holds Try.pinned (OpenSpec.ofChange fnMaxSizeOneByteEveryEightNodesSpec)

/-- ITS FALSE NEIGHBOUR: 'it returns false'. Refute it at one input. -/
def fnMaxSizeOneByteEveryEightNodesWrong : ChangeSpec := { name := "fnMaxSizeOneByteEveryEightNodes", fn := fun _ => fun
  | [d1, d2] => { results := [.lit (.bool false)], args := [d1, d2] }
  | _ => none }
def FnMaxSizeOneByteEveryEightNodesWrongFalsely : Prop := fnMaxSizeOneByteEveryEightNodesRow.holds Try.pinned (OpenSpec.ofChange fnMaxSizeOneByteEveryEightNodesWrong)

/-- 'zzlaws_internal_consensus_b1.FnDeliveredCountsAnInsertedSender': WHATEVER THE INPUT: true; the input reads as it did. -/
def fnDeliveredCountsAnInsertedSenderSpec : ChangeSpec := { name := "fnDeliveredCountsAnInsertedSender", fn := fun _ => fun
  | [d1, d2, d3] => { results := [.lit (.bool true)], args := [d1, d2, d3] }
  | _ => none }
def fnDeliveredCountsAnInsertedSenderRow : OpenClaim := { program := "qxb6616238a", sum := "0250c92e5c8849cf5fb08906a0b422f0b71c7e8403080b728a4bf19955c9c47f", func := "example.com/tattler/tattler/zzlaws_internal_consensus_b1.FnDeliveredCountsAnInsertedSender", spec := "fnDeliveredCountsAnInsertedSender", plainKeys := false, apart := false }
def FnDeliveredCountsAnInsertedSenderSaid : Prop := fnDeliveredCountsAnInsertedSenderRow.holds Try.pinned (OpenSpec.ofChange fnDeliveredCountsAnInsertedSenderSpec)

/-- ITS FALSE NEIGHBOUR: 'it returns false'. Refute it at one input. -/
def fnDeliveredCountsAnInsertedSenderWrong : ChangeSpec := { name := "fnDeliveredCountsAnInsertedSender", fn := fun _ => fun
  | [d1, d2, d3] => { results := [.lit (.bool false)], args := [d1, d2, d3] }
  | _ => none }
def FnDeliveredCountsAnInsertedSenderWrongFalsely : Prop := fnDeliveredCountsAnInsertedSenderRow.holds Try.pinned (OpenSpec.ofChange fnDeliveredCountsAnInsertedSenderWrong)

/-- 'zzlaws_internal_consensus_b1.FnSeeLaterSubsumesEarlier': WHATEVER THE INPUT: true; the input reads as it did. -/
def fnSeeLaterSubsumesEarlierSpec : ChangeSpec := { name := "fnSeeLaterSubsumesEarlier", fn := fun _ => fun
  | [d1, d2, d3, d4, d5, d6, d7] => { results := [.lit (.bool true)], args := [d1, d2, d3, d4, d5, d6, d7] }
  | _ => none }
def fnSeeLaterSubsumesEarlierRow : OpenClaim := { program := "qxb6616238a", sum := "0250c92e5c8849cf5fb08906a0b422f0b71c7e8403080b728a4bf19955c9c47f", func := "example.com/tattler/tattler/zzlaws_internal_consensus_b1.FnSeeLaterSubsumesEarlier", spec := "fnSeeLaterSubsumesEarlier", unfollowed := true, recurses := true, plainKeys := false, apart := false }
def FnSeeLaterSubsumesEarlierSaid : Prop := fnSeeLaterSubsumesEarlierRow.holds Try.pinned (OpenSpec.ofChange fnSeeLaterSubsumesEarlierSpec)

/-- ITS FALSE NEIGHBOUR: 'it returns false'. Refute it at one input. -/
def fnSeeLaterSubsumesEarlierWrong : ChangeSpec := { name := "fnSeeLaterSubsumesEarlier", fn := fun _ => fun
  | [d1, d2, d3, d4, d5, d6, d7] => { results := [.lit (.bool false)], args := [d1, d2, d3, d4, d5, d6, d7] }
  | _ => none }
def FnSeeLaterSubsumesEarlierWrongFalsely : Prop := fnSeeLaterSubsumesEarlierRow.holds Try.pinned (OpenSpec.ofChange fnSeeLaterSubsumesEarlierWrong)

/-- 'zzlaws_internal_consensus_b1.FnSeeSplitsAtAnyCut': WHATEVER THE INPUT: true; the input reads as it did. -/
def fnSeeSplitsAtAnyCutSpec : ChangeSpec := { name := "fnSeeSplitsAtAnyCut", fn := fun _ => fun
  | [d1, d2, d3, d4, d5, d6, d7, d8] => { results := [.lit (.bool true)], args := [d1, d2, d3, d4, d5, d6, d7, d8] }
  | _ => none }
def fnSeeSplitsAtAnyCutRow : OpenClaim := { program := "qxb6616238a", sum := "0250c92e5c8849cf5fb08906a0b422f0b71c7e8403080b728a4bf19955c9c47f", func := "example.com/tattler/tattler/zzlaws_internal_consensus_b1.FnSeeSplitsAtAnyCut", spec := "fnSeeSplitsAtAnyCut", unfollowed := true, recurses := true, plainKeys := false, apart := false }
def FnSeeSplitsAtAnyCutSaid : Prop := fnSeeSplitsAtAnyCutRow.holds Try.pinned (OpenSpec.ofChange fnSeeSplitsAtAnyCutSpec)

/-- ITS FALSE NEIGHBOUR: 'it returns false'. Refute it at one input. -/
def fnSeeSplitsAtAnyCutWrong : ChangeSpec := { name := "fnSeeSplitsAtAnyCut", fn := fun _ => fun
  | [d1, d2, d3, d4, d5, d6, d7, d8] => { results := [.lit (.bool false)], args := [d1, d2, d3, d4, d5, d6, d7, d8] }
  | _ => none }
def FnSeeSplitsAtAnyCutWrongFalsely : Prop := fnSeeSplitsAtAnyCutRow.holds Try.pinned (OpenSpec.ofChange fnSeeSplitsAtAnyCutWrong)

/-- 'zzlaws_internal_consensus_b1.FnEncodeKindAndDigestOnlyInHeader': WHATEVER THE INPUT: true; the input reads as it did. -/
def fnEncodeKindAndDigestOnlyInHeaderSpec : ChangeSpec := { name := "fnEncodeKindAndDigestOnlyInHeader", fn := fun _ => fun
  | [d1, d2, d3, d4, d5] => { results := [.lit (.bool true)], args := [d1, d2, d3, d4, d5] }
  | _ => none }
def fnEncodeKindAndDigestOnlyInHeaderRow : OpenClaim := { program := "qxb6616238a", sum := "0250c92e5c8849cf5fb08906a0b422f0b71c7e8403080b728a4bf19955c9c47f", func := "example.com/tattler/tattler/zzlaws_internal_consensus_b1.FnEncodeKindAndDigestOnlyInHeader", spec := "fnEncodeKindAndDigestOnlyInHeader", named := ["encoding/binary.LittleEndian"], plainKeys := false, apart := false }
def FnEncodeKindAndDigestOnlyInHeaderSaid : Prop := fnEncodeKindAndDigestOnlyInHeaderRow.holds Try.pinned (OpenSpec.ofChange fnEncodeKindAndDigestOnlyInHeaderSpec)

/-- ITS FALSE NEIGHBOUR: 'it returns false'. Refute it at one input. -/
def fnEncodeKindAndDigestOnlyInHeaderWrong : ChangeSpec := { name := "fnEncodeKindAndDigestOnlyInHeader", fn := fun _ => fun
  | [d1, d2, d3, d4, d5] => { results := [.lit (.bool false)], args := [d1, d2, d3, d4, d5] }
  | _ => none }
def FnEncodeKindAndDigestOnlyInHeaderWrongFalsely : Prop := fnEncodeKindAndDigestOnlyInHeaderRow.holds Try.pinned (OpenSpec.ofChange fnEncodeKindAndDigestOnlyInHeaderWrong)

/-- 'zzlaws_internal_consensus_b1.FnMaxSizeIsWorstEstimate': WHATEVER THE INPUT: true; the input reads as it did. -/
def fnMaxSizeIsWorstEstimateSpec : ChangeSpec := { name := "fnMaxSizeIsWorstEstimate", fn := fun _ => fun
  | [d1, d2, d3, d4, d5, d6, d7, d8, d9, d10, d11] => { results := [.lit (.bool true)], args := [d1, d2, d3, d4, d5, d6, d7, d8, d9, d10, d11] }
  | _ => none }
def fnMaxSizeIsWorstEstimateRow : OpenClaim := { program := "qxb6616238a", sum := "0250c92e5c8849cf5fb08906a0b422f0b71c7e8403080b728a4bf19955c9c47f", func := "example.com/tattler/tattler/zzlaws_internal_consensus_b1.FnMaxSizeIsWorstEstimate", spec := "fnMaxSizeIsWorstEstimate", named := ["encoding/binary.LittleEndian"], plainKeys := false, apart := false }
def FnMaxSizeIsWorstEstimateSaid : Prop := fnMaxSizeIsWorstEstimateRow.holds Try.pinned (OpenSpec.ofChange fnMaxSizeIsWorstEstimateSpec)

/-- ITS FALSE NEIGHBOUR: 'it returns false'. Refute it at one input. -/
def fnMaxSizeIsWorstEstimateWrong : ChangeSpec := { name := "fnMaxSizeIsWorstEstimate", fn := fun _ => fun
  | [d1, d2, d3, d4, d5, d6, d7, d8, d9, d10, d11] => { results := [.lit (.bool false)], args := [d1, d2, d3, d4, d5, d6, d7, d8, d9, d10, d11] }
  | _ => none }
def FnMaxSizeIsWorstEstimateWrongFalsely : Prop := fnMaxSizeIsWorstEstimateRow.holds Try.pinned (OpenSpec.ofChange fnMaxSizeIsWorstEstimateWrong)

end Rows
end Go.Proofs.Qxb6616238a
