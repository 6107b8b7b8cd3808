/-
  DERIVED. GIVEN WITH THE SEED: THE CARDS: each row of YtmapoohbongifaaGreatDoorRows.lean that lists a variable, with what it lists TIED to the program's text (the seventh form; the later family's looks); each row that meets fmt, with fmt's text TOLD by the authors' own Lean function (tested against real Go, not proved from fmt's source: count such statements apart). THE CARD IS WHAT COUNTS. Prove the row's statement (the work); the ties are given (YtmapoohbongifaaGreatDoorTie.lean); close each card by the builder's one call (the guide's Derived/Test/ToyasCard.lean, 'card_holds'). Laid BY PROGRAM, IN A SANDBOX (cutbox-door.mjs). By AI agents, Wed Nov 11 2026. No macro, syntax, notation, axiom, sorry.
-/
import Derived.Test.YtmapoohbongifaaGreatDoorRows
import GoSem.ClaimSeven
namespace Go.Proofs.YtmapoohbongifaaGreatDoor
namespace Rows

/-- THE TIED CARD OF 'laws.FnCutReadShareGroupStateResponse'. -/
def fnCutReadShareGroupStateResponseCard : Claim7 := { stood := { row := fnCutReadShareGroupStateResponseRow, standIns := [], harness := (true, "36de98c075bd74d452b5d3bf36aa3a1dee4b8b47ac496547df4f95c8af48a722"), looks := false }, kinds := [], alts := [], laidByText := true, laidKinds := [.sentinel], laidTests := true, laidLooks := .later }
def FnCutReadShareGroupStateResponseCardSaid : Prop := Claim7.holds Tryz.pinned (.plain (OpenSpec.ofChange fnCutReadShareGroupStateResponseSpec)) fnCutReadShareGroupStateResponseCard

/-- THE TIED CARD OF 'laws.FnAgainDescribeACLsResponse'. -/
def fnAgainDescribeACLsResponseCard : Claim7 := { stood := { row := fnAgainDescribeACLsResponseRow, standIns := [], harness := (true, "36de98c075bd74d452b5d3bf36aa3a1dee4b8b47ac496547df4f95c8af48a722"), looks := false }, kinds := [], alts := [], laidByText := true, laidKinds := [.sentinel], laidTests := true, laidLooks := .later }
def FnAgainDescribeACLsResponseCardSaid : Prop := Claim7.holds Tryz.pinned (.plain (OpenSpec.ofChange fnAgainDescribeACLsResponseSpec)) fnAgainDescribeACLsResponseCard

/-- THE TIED CARD OF 'laws.FnCutBeginQuorumEpochRequest'. -/
def fnCutBeginQuorumEpochRequestCard : Claim7 := { stood := { row := fnCutBeginQuorumEpochRequestRow, standIns := [], harness := (true, "36de98c075bd74d452b5d3bf36aa3a1dee4b8b47ac496547df4f95c8af48a722"), looks := false }, kinds := [], alts := [], laidByText := true, laidKinds := [.sentinel], laidTests := true, laidLooks := .later }
def FnCutBeginQuorumEpochRequestCardSaid : Prop := Claim7.holds Tryz.pinned (.plain (OpenSpec.ofChange fnCutBeginQuorumEpochRequestSpec)) fnCutBeginQuorumEpochRequestCard

/-- THE TIED CARD OF 'laws.FnCutOffsetCommitRequest'. -/
def fnCutOffsetCommitRequestCard : Claim7 := { stood := { row := fnCutOffsetCommitRequestRow, standIns := [], harness := (true, "36de98c075bd74d452b5d3bf36aa3a1dee4b8b47ac496547df4f95c8af48a722"), looks := false }, kinds := [], alts := [], laidByText := true, laidKinds := [.sentinel], laidTests := true, laidLooks := .later }
def FnCutOffsetCommitRequestCardSaid : Prop := Claim7.holds Tryz.pinned (.plain (OpenSpec.ofChange fnCutOffsetCommitRequestSpec)) fnCutOffsetCommitRequestCard

/-- THE TIED CARD OF 'laws.FnAgainJoinGroupResponse'. -/
def fnAgainJoinGroupResponseCard : Claim7 := { stood := { row := fnAgainJoinGroupResponseRow, standIns := [], harness := (true, "36de98c075bd74d452b5d3bf36aa3a1dee4b8b47ac496547df4f95c8af48a722"), looks := false }, kinds := [], alts := [], laidByText := true, laidKinds := [.sentinel], laidTests := true, laidLooks := .later }
def FnAgainJoinGroupResponseCardSaid : Prop := Claim7.holds Tryz.pinned (.plain (OpenSpec.ofChange fnAgainJoinGroupResponseSpec)) fnAgainJoinGroupResponseCard

/-- THE SECOND FORM's CARD OF 'laws.FnCutReadShareGroupStateResponse'. -/
def fnCutReadShareGroupStateResponseUptoCard : Claim7 := { stood := { row := fnCutReadShareGroupStateResponseUptoRow, standIns := [], harness := (true, "36de98c075bd74d452b5d3bf36aa3a1dee4b8b47ac496547df4f95c8af48a722"), looks := false }, kinds := [], alts := [], laidByText := true, laidKinds := [.sentinel], laidTests := true, laidLooks := .later }
def FnCutReadShareGroupStateResponseUptoCardSaid : Prop := Claim7.holds Tryz.pinned (.plain (OpenSpec.upto fnCutReadShareGroupStateResponseSpec)) fnCutReadShareGroupStateResponseUptoCard

/-- THE SECOND FORM's CARD OF 'laws.FnAgainDescribeACLsResponse'. -/
def fnAgainDescribeACLsResponseUptoCard : Claim7 := { stood := { row := fnAgainDescribeACLsResponseUptoRow, standIns := [], harness := (true, "36de98c075bd74d452b5d3bf36aa3a1dee4b8b47ac496547df4f95c8af48a722"), looks := false }, kinds := [], alts := [], laidByText := true, laidKinds := [.sentinel], laidTests := true, laidLooks := .later }
def FnAgainDescribeACLsResponseUptoCardSaid : Prop := Claim7.holds Tryz.pinned (.plain (OpenSpec.upto fnAgainDescribeACLsResponseSpec)) fnAgainDescribeACLsResponseUptoCard

/-- THE SECOND FORM's CARD OF 'laws.FnCutBeginQuorumEpochRequest'. -/
def fnCutBeginQuorumEpochRequestUptoCard : Claim7 := { stood := { row := fnCutBeginQuorumEpochRequestUptoRow, standIns := [], harness := (true, "36de98c075bd74d452b5d3bf36aa3a1dee4b8b47ac496547df4f95c8af48a722"), looks := false }, kinds := [], alts := [], laidByText := true, laidKinds := [.sentinel], laidTests := true, laidLooks := .later }
def FnCutBeginQuorumEpochRequestUptoCardSaid : Prop := Claim7.holds Tryz.pinned (.plain (OpenSpec.upto fnCutBeginQuorumEpochRequestSpec)) fnCutBeginQuorumEpochRequestUptoCard

/-- THE SECOND FORM's CARD OF 'laws.FnCutOffsetCommitRequest'. -/
def fnCutOffsetCommitRequestUptoCard : Claim7 := { stood := { row := fnCutOffsetCommitRequestUptoRow, standIns := [], harness := (true, "36de98c075bd74d452b5d3bf36aa3a1dee4b8b47ac496547df4f95c8af48a722"), looks := false }, kinds := [], alts := [], laidByText := true, laidKinds := [.sentinel], laidTests := true, laidLooks := .later }
def FnCutOffsetCommitRequestUptoCardSaid : Prop := Claim7.holds Tryz.pinned (.plain (OpenSpec.upto fnCutOffsetCommitRequestSpec)) fnCutOffsetCommitRequestUptoCard

/-- THE SECOND FORM's CARD OF 'laws.FnAgainJoinGroupResponse'. -/
def fnAgainJoinGroupResponseUptoCard : Claim7 := { stood := { row := fnAgainJoinGroupResponseUptoRow, standIns := [], harness := (true, "36de98c075bd74d452b5d3bf36aa3a1dee4b8b47ac496547df4f95c8af48a722"), looks := false }, kinds := [], alts := [], laidByText := true, laidKinds := [.sentinel], laidTests := true, laidLooks := .later }
def FnAgainJoinGroupResponseUptoCardSaid : Prop := Claim7.holds Tryz.pinned (.plain (OpenSpec.upto fnAgainJoinGroupResponseSpec)) fnAgainJoinGroupResponseUptoCard
end Rows
end Go.Proofs.YtmapoohbongifaaGreatDoor
