/-
  DERIVED. GIVEN WITH THE SEED: THE CARDS: each row of YtdmdmnfdfkejbaaGreatDoorRows.lean that lists a variable, with what it lists TIED to the program's text (the seventh form; the later family's looks); each row that meets fmt, with fmt's text TOLD by the authors' own Lean function (tested against real Go, not proved from fmt's source: count such statements apart). THE CARD IS WHAT COUNTS. Prove the row's statement (the work); the ties are given (YtdmdmnfdfkejbaaGreatDoorTie.lean); close each card by the builder's one call (the guide's Derived/Test/ToyasCard.lean, 'card_holds'). Laid BY PROGRAM, IN A SANDBOX (cutbox-door.mjs). By AI agents, Wed Nov 11 2026. No macro, syntax, notation, axiom, sorry.
-/
import Derived.Test.YtdmdmnfdfkejbaaGreatDoorRows
import GoSem.ClaimSeven
namespace Go.Proofs.YtdmdmnfdfkejbaaGreatDoor
namespace Rows

/-- THE TIED CARD OF 'laws.FnCutHeartbeatRequest'. -/
def fnCutHeartbeatRequestCard : Claim7 := { stood := { row := fnCutHeartbeatRequestRow, standIns := [], harness := (true, "615a05299d8ae9a0af37b719a0a4197feb9f85023ee5980b9ec8e229b024561b"), looks := false }, kinds := [], alts := [], laidByText := true, laidKinds := [.sentinel], laidTests := true, laidLooks := .later }
def FnCutHeartbeatRequestCardSaid : Prop := Claim7.holds Tryz.pinned (.plain (OpenSpec.ofChange fnCutHeartbeatRequestSpec)) fnCutHeartbeatRequestCard

/-- THE TIED CARD OF 'laws.FnAgainApiVersionsRequest'. -/
def fnAgainApiVersionsRequestCard : Claim7 := { stood := { row := fnAgainApiVersionsRequestRow, standIns := [], harness := (true, "615a05299d8ae9a0af37b719a0a4197feb9f85023ee5980b9ec8e229b024561b"), looks := false }, kinds := [], alts := [], laidByText := true, laidKinds := [.sentinel], laidTests := true, laidLooks := .later }
def FnAgainApiVersionsRequestCardSaid : Prop := Claim7.holds Tryz.pinned (.plain (OpenSpec.ofChange fnAgainApiVersionsRequestSpec)) fnAgainApiVersionsRequestCard

/-- THE TIED CARD OF 'laws.FnAgainFindCoordinatorRequest'. -/
def fnAgainFindCoordinatorRequestCard : Claim7 := { stood := { row := fnAgainFindCoordinatorRequestRow, standIns := [], harness := (true, "615a05299d8ae9a0af37b719a0a4197feb9f85023ee5980b9ec8e229b024561b"), looks := false }, kinds := [], alts := [], laidByText := true, laidKinds := [.sentinel], laidTests := true, laidLooks := .later }
def FnAgainFindCoordinatorRequestCardSaid : Prop := Claim7.holds Tryz.pinned (.plain (OpenSpec.ofChange fnAgainFindCoordinatorRequestSpec)) fnAgainFindCoordinatorRequestCard

/-- THE TIED CARD OF 'laws.FnAgainDescribeProducersRequest'. -/
def fnAgainDescribeProducersRequestCard : Claim7 := { stood := { row := fnAgainDescribeProducersRequestRow, standIns := [], harness := (true, "615a05299d8ae9a0af37b719a0a4197feb9f85023ee5980b9ec8e229b024561b"), looks := false }, kinds := [], alts := [], laidByText := true, laidKinds := [.sentinel], laidTests := true, laidLooks := .later }
def FnAgainDescribeProducersRequestCardSaid : Prop := Claim7.holds Tryz.pinned (.plain (OpenSpec.ofChange fnAgainDescribeProducersRequestSpec)) fnAgainDescribeProducersRequestCard

/-- THE TIED CARD OF 'laws.FnAgainUpdateFeaturesRequest'. -/
def fnAgainUpdateFeaturesRequestCard : Claim7 := { stood := { row := fnAgainUpdateFeaturesRequestRow, standIns := [], harness := (true, "615a05299d8ae9a0af37b719a0a4197feb9f85023ee5980b9ec8e229b024561b"), looks := false }, kinds := [], alts := [], laidByText := true, laidKinds := [.sentinel], laidTests := true, laidLooks := .later }
def FnAgainUpdateFeaturesRequestCardSaid : Prop := Claim7.holds Tryz.pinned (.plain (OpenSpec.ofChange fnAgainUpdateFeaturesRequestSpec)) fnAgainUpdateFeaturesRequestCard

/-- THE TIED CARD OF 'laws.FnCutLeaveGroupResponse'. -/
def fnCutLeaveGroupResponseCard : Claim7 := { stood := { row := fnCutLeaveGroupResponseRow, standIns := [], harness := (true, "615a05299d8ae9a0af37b719a0a4197feb9f85023ee5980b9ec8e229b024561b"), looks := false }, kinds := [], alts := [], laidByText := true, laidKinds := [.sentinel], laidTests := true, laidLooks := .later }
def FnCutLeaveGroupResponseCardSaid : Prop := Claim7.holds Tryz.pinned (.plain (OpenSpec.ofChange fnCutLeaveGroupResponseSpec)) fnCutLeaveGroupResponseCard

/-- THE TIED CARD OF 'laws.FnCutDeleteRecordsRequest'. -/
def fnCutDeleteRecordsRequestCard : Claim7 := { stood := { row := fnCutDeleteRecordsRequestRow, standIns := [], harness := (true, "615a05299d8ae9a0af37b719a0a4197feb9f85023ee5980b9ec8e229b024561b"), looks := false }, kinds := [], alts := [], laidByText := true, laidKinds := [.sentinel], laidTests := true, laidLooks := .later }
def FnCutDeleteRecordsRequestCardSaid : Prop := Claim7.holds Tryz.pinned (.plain (OpenSpec.ofChange fnCutDeleteRecordsRequestSpec)) fnCutDeleteRecordsRequestCard

/-- THE TIED CARD OF 'laws.FnCutDescribeShareGroupOffsetsRequest'. -/
def fnCutDescribeShareGroupOffsetsRequestCard : Claim7 := { stood := { row := fnCutDescribeShareGroupOffsetsRequestRow, standIns := [], harness := (true, "615a05299d8ae9a0af37b719a0a4197feb9f85023ee5980b9ec8e229b024561b"), looks := false }, kinds := [], alts := [], laidByText := true, laidKinds := [.sentinel], laidTests := true, laidLooks := .later }
def FnCutDescribeShareGroupOffsetsRequestCardSaid : Prop := Claim7.holds Tryz.pinned (.plain (OpenSpec.ofChange fnCutDescribeShareGroupOffsetsRequestSpec)) fnCutDescribeShareGroupOffsetsRequestCard

/-- THE SECOND FORM's CARD OF 'laws.FnCutHeartbeatRequest'. -/
def fnCutHeartbeatRequestUptoCard : Claim7 := { stood := { row := fnCutHeartbeatRequestUptoRow, standIns := [], harness := (true, "615a05299d8ae9a0af37b719a0a4197feb9f85023ee5980b9ec8e229b024561b"), looks := false }, kinds := [], alts := [], laidByText := true, laidKinds := [.sentinel], laidTests := true, laidLooks := .later }
def FnCutHeartbeatRequestUptoCardSaid : Prop := Claim7.holds Tryz.pinned (.plain (OpenSpec.upto fnCutHeartbeatRequestSpec)) fnCutHeartbeatRequestUptoCard

/-- THE SECOND FORM's CARD OF 'laws.FnAgainApiVersionsRequest'. -/
def fnAgainApiVersionsRequestUptoCard : Claim7 := { stood := { row := fnAgainApiVersionsRequestUptoRow, standIns := [], harness := (true, "615a05299d8ae9a0af37b719a0a4197feb9f85023ee5980b9ec8e229b024561b"), looks := false }, kinds := [], alts := [], laidByText := true, laidKinds := [.sentinel], laidTests := true, laidLooks := .later }
def FnAgainApiVersionsRequestUptoCardSaid : Prop := Claim7.holds Tryz.pinned (.plain (OpenSpec.upto fnAgainApiVersionsRequestSpec)) fnAgainApiVersionsRequestUptoCard

/-- THE SECOND FORM's CARD OF 'laws.FnAgainFindCoordinatorRequest'. -/
def fnAgainFindCoordinatorRequestUptoCard : Claim7 := { stood := { row := fnAgainFindCoordinatorRequestUptoRow, standIns := [], harness := (true, "615a05299d8ae9a0af37b719a0a4197feb9f85023ee5980b9ec8e229b024561b"), looks := false }, kinds := [], alts := [], laidByText := true, laidKinds := [.sentinel], laidTests := true, laidLooks := .later }
def FnAgainFindCoordinatorRequestUptoCardSaid : Prop := Claim7.holds Tryz.pinned (.plain (OpenSpec.upto fnAgainFindCoordinatorRequestSpec)) fnAgainFindCoordinatorRequestUptoCard

/-- THE SECOND FORM's CARD OF 'laws.FnAgainDescribeProducersRequest'. -/
def fnAgainDescribeProducersRequestUptoCard : Claim7 := { stood := { row := fnAgainDescribeProducersRequestUptoRow, standIns := [], harness := (true, "615a05299d8ae9a0af37b719a0a4197feb9f85023ee5980b9ec8e229b024561b"), looks := false }, kinds := [], alts := [], laidByText := true, laidKinds := [.sentinel], laidTests := true, laidLooks := .later }
def FnAgainDescribeProducersRequestUptoCardSaid : Prop := Claim7.holds Tryz.pinned (.plain (OpenSpec.upto fnAgainDescribeProducersRequestSpec)) fnAgainDescribeProducersRequestUptoCard

/-- THE SECOND FORM's CARD OF 'laws.FnAgainUpdateFeaturesRequest'. -/
def fnAgainUpdateFeaturesRequestUptoCard : Claim7 := { stood := { row := fnAgainUpdateFeaturesRequestUptoRow, standIns := [], harness := (true, "615a05299d8ae9a0af37b719a0a4197feb9f85023ee5980b9ec8e229b024561b"), looks := false }, kinds := [], alts := [], laidByText := true, laidKinds := [.sentinel], laidTests := true, laidLooks := .later }
def FnAgainUpdateFeaturesRequestUptoCardSaid : Prop := Claim7.holds Tryz.pinned (.plain (OpenSpec.upto fnAgainUpdateFeaturesRequestSpec)) fnAgainUpdateFeaturesRequestUptoCard

/-- THE SECOND FORM's CARD OF 'laws.FnCutLeaveGroupResponse'. -/
def fnCutLeaveGroupResponseUptoCard : Claim7 := { stood := { row := fnCutLeaveGroupResponseUptoRow, standIns := [], harness := (true, "615a05299d8ae9a0af37b719a0a4197feb9f85023ee5980b9ec8e229b024561b"), looks := false }, kinds := [], alts := [], laidByText := true, laidKinds := [.sentinel], laidTests := true, laidLooks := .later }
def FnCutLeaveGroupResponseUptoCardSaid : Prop := Claim7.holds Tryz.pinned (.plain (OpenSpec.upto fnCutLeaveGroupResponseSpec)) fnCutLeaveGroupResponseUptoCard

/-- THE SECOND FORM's CARD OF 'laws.FnCutDeleteRecordsRequest'. -/
def fnCutDeleteRecordsRequestUptoCard : Claim7 := { stood := { row := fnCutDeleteRecordsRequestUptoRow, standIns := [], harness := (true, "615a05299d8ae9a0af37b719a0a4197feb9f85023ee5980b9ec8e229b024561b"), looks := false }, kinds := [], alts := [], laidByText := true, laidKinds := [.sentinel], laidTests := true, laidLooks := .later }
def FnCutDeleteRecordsRequestUptoCardSaid : Prop := Claim7.holds Tryz.pinned (.plain (OpenSpec.upto fnCutDeleteRecordsRequestSpec)) fnCutDeleteRecordsRequestUptoCard

/-- THE SECOND FORM's CARD OF 'laws.FnCutDescribeShareGroupOffsetsRequest'. -/
def fnCutDescribeShareGroupOffsetsRequestUptoCard : Claim7 := { stood := { row := fnCutDescribeShareGroupOffsetsRequestUptoRow, standIns := [], harness := (true, "615a05299d8ae9a0af37b719a0a4197feb9f85023ee5980b9ec8e229b024561b"), looks := false }, kinds := [], alts := [], laidByText := true, laidKinds := [.sentinel], laidTests := true, laidLooks := .later }
def FnCutDescribeShareGroupOffsetsRequestUptoCardSaid : Prop := Claim7.holds Tryz.pinned (.plain (OpenSpec.upto fnCutDescribeShareGroupOffsetsRequestSpec)) fnCutDescribeShareGroupOffsetsRequestUptoCard
end Rows
end Go.Proofs.YtdmdmnfdfkejbaaGreatDoor
