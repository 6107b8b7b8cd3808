/-
  DERIVED. GIVEN WITH THE SEED: THE CARDS: each row of YtjcndcolfllibaaGreatDoorRows.lean that lists a variable, with what it lists TIED to the program's text (the seventh form; the later family's looks); each row that meets fmt, with fmt's text TOLD by the authors' own Lean function (tested against real Go, not proved from fmt's source: count such statements apart). THE CARD IS WHAT COUNTS. Prove the row's statement (the work); the ties are given (YtjcndcolfllibaaGreatDoorTie.lean); close each card by the builder's one call (the guide's Derived/Test/ToyasCard.lean, 'card_holds'). Laid BY PROGRAM, IN A SANDBOX (cutbox-door.mjs). By AI agents, Wed Nov 11 2026. No macro, syntax, notation, axiom, sorry.
-/
import Derived.Test.YtjcndcolfllibaaGreatDoorRows
import GoSem.ClaimSeven
namespace Go.Proofs.YtjcndcolfllibaaGreatDoor
namespace Rows

/-- THE TIED CARD OF 'laws.FnAgainListTransactionsRequest'. -/
def fnAgainListTransactionsRequestCard : Claim7 := { stood := { row := fnAgainListTransactionsRequestRow, standIns := [], harness := (true, "8201e5ccff08fa1cde51fbd4ac8d1cba63d5162a8a395bc36146a2ace1813d12"), looks := false }, kinds := [], alts := [], laidByText := true, laidKinds := [.sentinel], laidTests := true, laidLooks := .later }
def FnAgainListTransactionsRequestCardSaid : Prop := Claim7.holds Tryz.pinned (.plain (OpenSpec.ofChange fnAgainListTransactionsRequestSpec)) fnAgainListTransactionsRequestCard

/-- THE TIED CARD OF 'laws.FnAgainElectLeadersResponse'. -/
def fnAgainElectLeadersResponseCard : Claim7 := { stood := { row := fnAgainElectLeadersResponseRow, standIns := [], harness := (true, "8201e5ccff08fa1cde51fbd4ac8d1cba63d5162a8a395bc36146a2ace1813d12"), looks := false }, kinds := [], alts := [], laidByText := true, laidKinds := [.sentinel], laidTests := true, laidLooks := .later }
def FnAgainElectLeadersResponseCardSaid : Prop := Claim7.holds Tryz.pinned (.plain (OpenSpec.ofChange fnAgainElectLeadersResponseSpec)) fnAgainElectLeadersResponseCard

/-- THE TIED CARD OF 'laws.FnAgainAlterClientQuotasResponse'. -/
def fnAgainAlterClientQuotasResponseCard : Claim7 := { stood := { row := fnAgainAlterClientQuotasResponseRow, standIns := [], harness := (true, "8201e5ccff08fa1cde51fbd4ac8d1cba63d5162a8a395bc36146a2ace1813d12"), looks := false }, kinds := [], alts := [], laidByText := true, laidKinds := [.sentinel], laidTests := true, laidLooks := .later }
def FnAgainAlterClientQuotasResponseCardSaid : Prop := Claim7.holds Tryz.pinned (.plain (OpenSpec.ofChange fnAgainAlterClientQuotasResponseSpec)) fnAgainAlterClientQuotasResponseCard

/-- THE TIED CARD OF 'laws.FnAgainDeleteACLsRequest'. -/
def fnAgainDeleteACLsRequestCard : Claim7 := { stood := { row := fnAgainDeleteACLsRequestRow, standIns := [], harness := (true, "8201e5ccff08fa1cde51fbd4ac8d1cba63d5162a8a395bc36146a2ace1813d12"), looks := false }, kinds := [], alts := [], laidByText := true, laidKinds := [.sentinel], laidTests := true, laidLooks := .later }
def FnAgainDeleteACLsRequestCardSaid : Prop := Claim7.holds Tryz.pinned (.plain (OpenSpec.ofChange fnAgainDeleteACLsRequestSpec)) fnAgainDeleteACLsRequestCard

/-- THE TIED CARD OF 'laws.FnAgainConsumerGroupHeartbeatResponse'. -/
def fnAgainConsumerGroupHeartbeatResponseCard : Claim7 := { stood := { row := fnAgainConsumerGroupHeartbeatResponseRow, standIns := [], harness := (true, "8201e5ccff08fa1cde51fbd4ac8d1cba63d5162a8a395bc36146a2ace1813d12"), looks := false }, kinds := [], alts := [], laidByText := true, laidKinds := [.sentinel], laidTests := true, laidLooks := .later }
def FnAgainConsumerGroupHeartbeatResponseCardSaid : Prop := Claim7.holds Tryz.pinned (.plain (OpenSpec.ofChange fnAgainConsumerGroupHeartbeatResponseSpec)) fnAgainConsumerGroupHeartbeatResponseCard

/-- THE TIED CARD OF 'laws.FnCutUpdateRaftVoterRequest'. -/
def fnCutUpdateRaftVoterRequestCard : Claim7 := { stood := { row := fnCutUpdateRaftVoterRequestRow, standIns := [], harness := (true, "8201e5ccff08fa1cde51fbd4ac8d1cba63d5162a8a395bc36146a2ace1813d12"), looks := false }, kinds := [], alts := [], laidByText := true, laidKinds := [.sentinel], laidTests := true, laidLooks := .later }
def FnCutUpdateRaftVoterRequestCardSaid : Prop := Claim7.holds Tryz.pinned (.plain (OpenSpec.ofChange fnCutUpdateRaftVoterRequestSpec)) fnCutUpdateRaftVoterRequestCard

/-- THE TIED CARD OF 'laws.FnCutAlterPartitionAssignmentsResponse'. -/
def fnCutAlterPartitionAssignmentsResponseCard : Claim7 := { stood := { row := fnCutAlterPartitionAssignmentsResponseRow, standIns := [], harness := (true, "8201e5ccff08fa1cde51fbd4ac8d1cba63d5162a8a395bc36146a2ace1813d12"), looks := false }, kinds := [], alts := [], laidByText := true, laidKinds := [.sentinel], laidTests := true, laidLooks := .later }
def FnCutAlterPartitionAssignmentsResponseCardSaid : Prop := Claim7.holds Tryz.pinned (.plain (OpenSpec.ofChange fnCutAlterPartitionAssignmentsResponseSpec)) fnCutAlterPartitionAssignmentsResponseCard

/-- THE TIED CARD OF 'laws.FnCutDescribeClusterResponse'. -/
def fnCutDescribeClusterResponseCard : Claim7 := { stood := { row := fnCutDescribeClusterResponseRow, standIns := [], harness := (true, "8201e5ccff08fa1cde51fbd4ac8d1cba63d5162a8a395bc36146a2ace1813d12"), looks := false }, kinds := [], alts := [], laidByText := true, laidKinds := [.sentinel], laidTests := true, laidLooks := .later }
def FnCutDescribeClusterResponseCardSaid : Prop := Claim7.holds Tryz.pinned (.plain (OpenSpec.ofChange fnCutDescribeClusterResponseSpec)) fnCutDescribeClusterResponseCard

/-- THE SECOND FORM's CARD OF 'laws.FnAgainListTransactionsRequest'. -/
def fnAgainListTransactionsRequestUptoCard : Claim7 := { stood := { row := fnAgainListTransactionsRequestUptoRow, standIns := [], harness := (true, "8201e5ccff08fa1cde51fbd4ac8d1cba63d5162a8a395bc36146a2ace1813d12"), looks := false }, kinds := [], alts := [], laidByText := true, laidKinds := [.sentinel], laidTests := true, laidLooks := .later }
def FnAgainListTransactionsRequestUptoCardSaid : Prop := Claim7.holds Tryz.pinned (.plain (OpenSpec.upto fnAgainListTransactionsRequestSpec)) fnAgainListTransactionsRequestUptoCard

/-- THE SECOND FORM's CARD OF 'laws.FnAgainElectLeadersResponse'. -/
def fnAgainElectLeadersResponseUptoCard : Claim7 := { stood := { row := fnAgainElectLeadersResponseUptoRow, standIns := [], harness := (true, "8201e5ccff08fa1cde51fbd4ac8d1cba63d5162a8a395bc36146a2ace1813d12"), looks := false }, kinds := [], alts := [], laidByText := true, laidKinds := [.sentinel], laidTests := true, laidLooks := .later }
def FnAgainElectLeadersResponseUptoCardSaid : Prop := Claim7.holds Tryz.pinned (.plain (OpenSpec.upto fnAgainElectLeadersResponseSpec)) fnAgainElectLeadersResponseUptoCard

/-- THE SECOND FORM's CARD OF 'laws.FnAgainAlterClientQuotasResponse'. -/
def fnAgainAlterClientQuotasResponseUptoCard : Claim7 := { stood := { row := fnAgainAlterClientQuotasResponseUptoRow, standIns := [], harness := (true, "8201e5ccff08fa1cde51fbd4ac8d1cba63d5162a8a395bc36146a2ace1813d12"), looks := false }, kinds := [], alts := [], laidByText := true, laidKinds := [.sentinel], laidTests := true, laidLooks := .later }
def FnAgainAlterClientQuotasResponseUptoCardSaid : Prop := Claim7.holds Tryz.pinned (.plain (OpenSpec.upto fnAgainAlterClientQuotasResponseSpec)) fnAgainAlterClientQuotasResponseUptoCard

/-- THE SECOND FORM's CARD OF 'laws.FnAgainDeleteACLsRequest'. -/
def fnAgainDeleteACLsRequestUptoCard : Claim7 := { stood := { row := fnAgainDeleteACLsRequestUptoRow, standIns := [], harness := (true, "8201e5ccff08fa1cde51fbd4ac8d1cba63d5162a8a395bc36146a2ace1813d12"), looks := false }, kinds := [], alts := [], laidByText := true, laidKinds := [.sentinel], laidTests := true, laidLooks := .later }
def FnAgainDeleteACLsRequestUptoCardSaid : Prop := Claim7.holds Tryz.pinned (.plain (OpenSpec.upto fnAgainDeleteACLsRequestSpec)) fnAgainDeleteACLsRequestUptoCard

/-- THE SECOND FORM's CARD OF 'laws.FnAgainConsumerGroupHeartbeatResponse'. -/
def fnAgainConsumerGroupHeartbeatResponseUptoCard : Claim7 := { stood := { row := fnAgainConsumerGroupHeartbeatResponseUptoRow, standIns := [], harness := (true, "8201e5ccff08fa1cde51fbd4ac8d1cba63d5162a8a395bc36146a2ace1813d12"), looks := false }, kinds := [], alts := [], laidByText := true, laidKinds := [.sentinel], laidTests := true, laidLooks := .later }
def FnAgainConsumerGroupHeartbeatResponseUptoCardSaid : Prop := Claim7.holds Tryz.pinned (.plain (OpenSpec.upto fnAgainConsumerGroupHeartbeatResponseSpec)) fnAgainConsumerGroupHeartbeatResponseUptoCard

/-- THE SECOND FORM's CARD OF 'laws.FnCutUpdateRaftVoterRequest'. -/
def fnCutUpdateRaftVoterRequestUptoCard : Claim7 := { stood := { row := fnCutUpdateRaftVoterRequestUptoRow, standIns := [], harness := (true, "8201e5ccff08fa1cde51fbd4ac8d1cba63d5162a8a395bc36146a2ace1813d12"), looks := false }, kinds := [], alts := [], laidByText := true, laidKinds := [.sentinel], laidTests := true, laidLooks := .later }
def FnCutUpdateRaftVoterRequestUptoCardSaid : Prop := Claim7.holds Tryz.pinned (.plain (OpenSpec.upto fnCutUpdateRaftVoterRequestSpec)) fnCutUpdateRaftVoterRequestUptoCard

/-- THE SECOND FORM's CARD OF 'laws.FnCutAlterPartitionAssignmentsResponse'. -/
def fnCutAlterPartitionAssignmentsResponseUptoCard : Claim7 := { stood := { row := fnCutAlterPartitionAssignmentsResponseUptoRow, standIns := [], harness := (true, "8201e5ccff08fa1cde51fbd4ac8d1cba63d5162a8a395bc36146a2ace1813d12"), looks := false }, kinds := [], alts := [], laidByText := true, laidKinds := [.sentinel], laidTests := true, laidLooks := .later }
def FnCutAlterPartitionAssignmentsResponseUptoCardSaid : Prop := Claim7.holds Tryz.pinned (.plain (OpenSpec.upto fnCutAlterPartitionAssignmentsResponseSpec)) fnCutAlterPartitionAssignmentsResponseUptoCard

/-- THE SECOND FORM's CARD OF 'laws.FnCutDescribeClusterResponse'. -/
def fnCutDescribeClusterResponseUptoCard : Claim7 := { stood := { row := fnCutDescribeClusterResponseUptoRow, standIns := [], harness := (true, "8201e5ccff08fa1cde51fbd4ac8d1cba63d5162a8a395bc36146a2ace1813d12"), looks := false }, kinds := [], alts := [], laidByText := true, laidKinds := [.sentinel], laidTests := true, laidLooks := .later }
def FnCutDescribeClusterResponseUptoCardSaid : Prop := Claim7.holds Tryz.pinned (.plain (OpenSpec.upto fnCutDescribeClusterResponseSpec)) fnCutDescribeClusterResponseUptoCard
end Rows
end Go.Proofs.YtjcndcolfllibaaGreatDoor
