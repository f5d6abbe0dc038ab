/-
  No cell of these rows narrows 'for every input' (looked for: loops, veiled, ifaces, maps, wideKeys, modest, calm, conditions, laid).
  DERIVED. THE GIVEN ROWS OF THIS SEAT. 7 by the template 'for every input the law returns true; each argument reads behind the call as it read before'; 0 by the template 'total and deterministic' (their statements: Qxb6601108aTotals.lean).
  GIVEN WITH THE SEED: the statements are not yours to turn. If you find one false, say at which input.
  Laid BY PROGRAM, IN A SANDBOX (cutbox-rows.mjs): the forced cells as the released guide's own fill.sh prints them over the translation 933804af3c38d073… (all of the seat's roots in one cut). By AI agents, Wed Nov 11 2026. No macro, syntax, notation, axiom, sorry.
-/
import Derived.Test.Qxb6601108aChecked
import GoSem.Claim
import GoSem.ClaimJoined
import GoSem.ClaimMapViews
import Derived.JoinedTies
import Derived.KernelRfl
namespace Go.Proofs.Qxb6601108a
/- THE CELL 'sum', in the pinned program and in every row, IS THE sha256 OF THE DUMP (.gsa) THAT Qxb6601108aProg.lean LOADS. Nothing in Lean hashes anything: it is a label: what it is worth is what the hold of that sum in a sandbox is worth. -/
noncomputable def Try.pinned : Pinned := { name := "qxb6601108a", sum := "933804af3c38d0738dbaf32d15d287cc0780dc1da2b4f8559ebe0e9b818b68e6", checked := Try.checked }
namespace Rows
def none {H : Type} : Left H := { results := [], args := [] }

/-- 'zzlaws_attr_b1.FnCutPriorityIsTheUniqueCanonicalHeader': WHATEVER THE INPUT: true; the input reads as it did. -/
def fnCutPriorityIsTheUniqueCanonicalHeaderSpec : ChangeSpec := { name := "fnCutPriorityIsTheUniqueCanonicalHeader", fn := fun _ => fun
  | [d] => { results := [.lit (.bool true)], args := [d] }
  | _ => none }
def fnCutPriorityIsTheUniqueCanonicalHeaderRow : OpenClaim := { program := "qxb6601108a", sum := "933804af3c38d0738dbaf32d15d287cc0780dc1da2b4f8559ebe0e9b818b68e6", func := "example.com/veralog/veralog/zzlaws_attr_b1.FnCutPriorityIsTheUniqueCanonicalHeader", spec := "fnCutPriorityIsTheUniqueCanonicalHeader", inPlace := ["internal/bytealg.IndexByte"], apart := false }
def FnCutPriorityIsTheUniqueCanonicalHeaderSaid : Prop := fnCutPriorityIsTheUniqueCanonicalHeaderRow.holds Try.pinned (OpenSpec.ofChange fnCutPriorityIsTheUniqueCanonicalHeaderSpec)

/-- ITS FALSE NEIGHBOUR: 'it returns false'. Refute it at one input. -/
def fnCutPriorityIsTheUniqueCanonicalHeaderWrong : ChangeSpec := { name := "fnCutPriorityIsTheUniqueCanonicalHeader", fn := fun _ => fun
  | [d] => { results := [.lit (.bool false)], args := [d] }
  | _ => none }
def FnCutPriorityIsTheUniqueCanonicalHeaderWrongFalsely : Prop := fnCutPriorityIsTheUniqueCanonicalHeaderRow.holds Try.pinned (OpenSpec.ofChange fnCutPriorityIsTheUniqueCanonicalHeaderWrong)

/-- 'zzlaws_attr_b1.FnCutPriorityKeepsItsAnswerUnderAnyTail': WHATEVER THE INPUT: true; the input reads as it did. -/
def fnCutPriorityKeepsItsAnswerUnderAnyTailSpec : ChangeSpec := { name := "fnCutPriorityKeepsItsAnswerUnderAnyTail", fn := fun _ => fun
  | [d1, d2] => { results := [.lit (.bool true)], args := [d1, d2] }
  | _ => none }
def fnCutPriorityKeepsItsAnswerUnderAnyTailRow : OpenClaim := { program := "qxb6601108a", sum := "933804af3c38d0738dbaf32d15d287cc0780dc1da2b4f8559ebe0e9b818b68e6", func := "example.com/veralog/veralog/zzlaws_attr_b1.FnCutPriorityKeepsItsAnswerUnderAnyTail", spec := "fnCutPriorityKeepsItsAnswerUnderAnyTail", inPlace := ["internal/bytealg.IndexByte"], apart := false }
def FnCutPriorityKeepsItsAnswerUnderAnyTailSaid : Prop := fnCutPriorityKeepsItsAnswerUnderAnyTailRow.holds Try.pinned (OpenSpec.ofChange fnCutPriorityKeepsItsAnswerUnderAnyTailSpec)

/-- ITS FALSE NEIGHBOUR: 'it returns false'. Refute it at one input. -/
def fnCutPriorityKeepsItsAnswerUnderAnyTailWrong : ChangeSpec := { name := "fnCutPriorityKeepsItsAnswerUnderAnyTail", fn := fun _ => fun
  | [d1, d2] => { results := [.lit (.bool false)], args := [d1, d2] }
  | _ => none }
def FnCutPriorityKeepsItsAnswerUnderAnyTailWrongFalsely : Prop := fnCutPriorityKeepsItsAnswerUnderAnyTailRow.holds Try.pinned (OpenSpec.ofChange fnCutPriorityKeepsItsAnswerUnderAnyTailWrong)

/-- 'zzlaws_attr_b1.FnCutPriorityReadsBackWhatWasWritten': WHATEVER THE INPUT: true; the input reads as it did. -/
def fnCutPriorityReadsBackWhatWasWrittenSpec : ChangeSpec := { name := "fnCutPriorityReadsBackWhatWasWritten", fn := fun _ => fun
  | [d1, d2] => { results := [.lit (.bool true)], args := [d1, d2] }
  | _ => none }
def fnCutPriorityReadsBackWhatWasWrittenRow : OpenClaim := { program := "qxb6601108a", sum := "933804af3c38d0738dbaf32d15d287cc0780dc1da2b4f8559ebe0e9b818b68e6", func := "example.com/veralog/veralog/zzlaws_attr_b1.FnCutPriorityReadsBackWhatWasWritten", spec := "fnCutPriorityReadsBackWhatWasWritten", inPlace := ["internal/bytealg.IndexByte"], apart := false }
def FnCutPriorityReadsBackWhatWasWrittenSaid : Prop := fnCutPriorityReadsBackWhatWasWrittenRow.holds Try.pinned (OpenSpec.ofChange fnCutPriorityReadsBackWhatWasWrittenSpec)

/-- ITS FALSE NEIGHBOUR: 'it returns false'. Refute it at one input. -/
def fnCutPriorityReadsBackWhatWasWrittenWrong : ChangeSpec := { name := "fnCutPriorityReadsBackWhatWasWritten", fn := fun _ => fun
  | [d1, d2] => { results := [.lit (.bool false)], args := [d1, d2] }
  | _ => none }
def FnCutPriorityReadsBackWhatWasWrittenWrongFalsely : Prop := fnCutPriorityReadsBackWhatWasWrittenRow.holds Try.pinned (OpenSpec.ofChange fnCutPriorityReadsBackWhatWasWrittenWrong)

/-- 'zzlaws_attr_b1.FnFacilitiesPartitionAndSeveritiesNest': WHATEVER THE INPUT: true; the input reads as it did. -/
def fnFacilitiesPartitionAndSeveritiesNestSpec : ChangeSpec := { name := "fnFacilitiesPartitionAndSeveritiesNest", fn := fun _ => fun
  | [d1, d2] => { results := [.lit (.bool true)], args := [d1, d2] }
  | _ => none }
def fnFacilitiesPartitionAndSeveritiesNestRow : OpenClaim := { program := "qxb6601108a", sum := "933804af3c38d0738dbaf32d15d287cc0780dc1da2b4f8559ebe0e9b818b68e6", func := "example.com/veralog/veralog/zzlaws_attr_b1.FnFacilitiesPartitionAndSeveritiesNest", spec := "fnFacilitiesPartitionAndSeveritiesNest", apart := false }
def FnFacilitiesPartitionAndSeveritiesNestSaid : Prop := fnFacilitiesPartitionAndSeveritiesNestRow.holds Try.pinned (OpenSpec.ofChange fnFacilitiesPartitionAndSeveritiesNestSpec)

/-- ITS FALSE NEIGHBOUR: 'it returns false'. Refute it at one input. -/
def fnFacilitiesPartitionAndSeveritiesNestWrong : ChangeSpec := { name := "fnFacilitiesPartitionAndSeveritiesNest", fn := fun _ => fun
  | [d1, d2] => { results := [.lit (.bool false)], args := [d1, d2] }
  | _ => none }
def FnFacilitiesPartitionAndSeveritiesNestWrongFalsely : Prop := fnFacilitiesPartitionAndSeveritiesNestRow.holds Try.pinned (OpenSpec.ofChange fnFacilitiesPartitionAndSeveritiesNestWrong)

/-- 'zzlaws_attr_b1.FnSummaryAnswersFacilityAndSeverityExactly': WHATEVER THE INPUT: true; the input reads as it did. -/
def fnSummaryAnswersFacilityAndSeverityExactlySpec : ChangeSpec := { name := "fnSummaryAnswersFacilityAndSeverityExactly", fn := fun _ => fun
  | [d1, d2, d3, d4] => { results := [.lit (.bool true)], args := [d1, d2, d3, d4] }
  | _ => none }
def fnSummaryAnswersFacilityAndSeverityExactlyRow : OpenClaim := { program := "qxb6601108a", sum := "933804af3c38d0738dbaf32d15d287cc0780dc1da2b4f8559ebe0e9b818b68e6", func := "example.com/veralog/veralog/zzlaws_attr_b1.FnSummaryAnswersFacilityAndSeverityExactly", spec := "fnSummaryAnswersFacilityAndSeverityExactly", apart := false }
def FnSummaryAnswersFacilityAndSeverityExactlySaid : Prop := fnSummaryAnswersFacilityAndSeverityExactlyRow.holds Try.pinned (OpenSpec.ofChange fnSummaryAnswersFacilityAndSeverityExactlySpec)

/-- ITS FALSE NEIGHBOUR: 'it returns false'. Refute it at one input. -/
def fnSummaryAnswersFacilityAndSeverityExactlyWrong : ChangeSpec := { name := "fnSummaryAnswersFacilityAndSeverityExactly", fn := fun _ => fun
  | [d1, d2, d3, d4] => { results := [.lit (.bool false)], args := [d1, d2, d3, d4] }
  | _ => none }
def FnSummaryAnswersFacilityAndSeverityExactlyWrongFalsely : Prop := fnSummaryAnswersFacilityAndSeverityExactlyRow.holds Try.pinned (OpenSpec.ofChange fnSummaryAnswersFacilityAndSeverityExactlyWrong)

/-- 'zzlaws_attr_b1.FnMayMatchReadsTheSummaryBitByBit': WHATEVER THE INPUT: true; the input reads as it did. -/
def fnMayMatchReadsTheSummaryBitByBitSpec : ChangeSpec := { name := "fnMayMatchReadsTheSummaryBitByBit", fn := fun _ => fun
  | [d1, d2, d3, d4] => { results := [.lit (.bool true)], args := [d1, d2, d3, d4] }
  | _ => none }
def fnMayMatchReadsTheSummaryBitByBitRow : OpenClaim := { program := "qxb6601108a", sum := "933804af3c38d0738dbaf32d15d287cc0780dc1da2b4f8559ebe0e9b818b68e6", func := "example.com/veralog/veralog/zzlaws_attr_b1.FnMayMatchReadsTheSummaryBitByBit", spec := "fnMayMatchReadsTheSummaryBitByBit", apart := false }
def FnMayMatchReadsTheSummaryBitByBitSaid : Prop := fnMayMatchReadsTheSummaryBitByBitRow.holds Try.pinned (OpenSpec.ofChange fnMayMatchReadsTheSummaryBitByBitSpec)

/-- ITS FALSE NEIGHBOUR: 'it returns false'. Refute it at one input. -/
def fnMayMatchReadsTheSummaryBitByBitWrong : ChangeSpec := { name := "fnMayMatchReadsTheSummaryBitByBit", fn := fun _ => fun
  | [d1, d2, d3, d4] => { results := [.lit (.bool false)], args := [d1, d2, d3, d4] }
  | _ => none }
def FnMayMatchReadsTheSummaryBitByBitWrongFalsely : Prop := fnMayMatchReadsTheSummaryBitByBitRow.holds Try.pinned (OpenSpec.ofChange fnMayMatchReadsTheSummaryBitByBitWrong)

/-- 'zzlaws_attr_b1.FnMayMatchGrowsWithTheUnionOfSummaries': WHATEVER THE INPUT: true; the input reads as it did. -/
def fnMayMatchGrowsWithTheUnionOfSummariesSpec : ChangeSpec := { name := "fnMayMatchGrowsWithTheUnionOfSummaries", fn := fun _ => fun
  | [d1, d2, d3, d4, d5] => { results := [.lit (.bool true)], args := [d1, d2, d3, d4, d5] }
  | _ => none }
def fnMayMatchGrowsWithTheUnionOfSummariesRow : OpenClaim := { program := "qxb6601108a", sum := "933804af3c38d0738dbaf32d15d287cc0780dc1da2b4f8559ebe0e9b818b68e6", func := "example.com/veralog/veralog/zzlaws_attr_b1.FnMayMatchGrowsWithTheUnionOfSummaries", spec := "fnMayMatchGrowsWithTheUnionOfSummaries", apart := false }
def FnMayMatchGrowsWithTheUnionOfSummariesSaid : Prop := fnMayMatchGrowsWithTheUnionOfSummariesRow.holds Try.pinned (OpenSpec.ofChange fnMayMatchGrowsWithTheUnionOfSummariesSpec)

/-- ITS FALSE NEIGHBOUR: 'it returns false'. Refute it at one input. -/
def fnMayMatchGrowsWithTheUnionOfSummariesWrong : ChangeSpec := { name := "fnMayMatchGrowsWithTheUnionOfSummaries", fn := fun _ => fun
  | [d1, d2, d3, d4, d5] => { results := [.lit (.bool false)], args := [d1, d2, d3, d4, d5] }
  | _ => none }
def FnMayMatchGrowsWithTheUnionOfSummariesWrongFalsely : Prop := fnMayMatchGrowsWithTheUnionOfSummariesRow.holds Try.pinned (OpenSpec.ofChange fnMayMatchGrowsWithTheUnionOfSummariesWrong)

end Rows
end Go.Proofs.Qxb6601108a
