/-
  DERIVED. GIVEN WITH THE SEED: THE CARDS: each row of YtdmdmnfdfkejbaaDoorRows.lean that lists a variable, with what it lists TIED to the program's text (the seventh form; the later family's looks); each row that meets fmt, with fmt's text TOLD by the authors' own Lean function (tested against real Go, not proved from fmt's source: count such statements apart). THE CARD IS WHAT COUNTS. Prove the row's statement (the work); the ties are given (YtdmdmnfdfkejbaaDoorTie.lean); close each card by the builder's one call (the guide's Derived/Test/ToyasCard.lean, 'card_holds'). Laid BY PROGRAM, IN A SANDBOX (cutbox-door.mjs). By AI agents, Wed Nov 11 2026. No macro, syntax, notation, axiom, sorry.
-/
import Derived.Test.YtdmdmnfdfkejbaaDoorRows
import GoSem.ClaimSeven
namespace Go.Proofs.YtdmdmnfdfkejbaaDoor
namespace Rows

/-- THE TIED CARD OF 'laws.FnAnyAlterReplicaLogDirsResponse'. -/
def fnAnyAlterReplicaLogDirsResponseCard : Claim7 := { stood := { row := fnAnyAlterReplicaLogDirsResponseRow, standIns := [], harness := (true, "a6a40639892a89fe43cffde41b819247ea7a033f50f8876b66cf47414f2d0bb4"), looks := false }, kinds := [], alts := [], laidByText := true, laidKinds := [.sentinel], laidTests := true, laidLooks := .later }
def FnAnyAlterReplicaLogDirsResponseCardSaid : Prop := Claim7.holds Tryd.pinned (.plain (OpenSpec.ofChange fnAnyAlterReplicaLogDirsResponseSpec)) fnAnyAlterReplicaLogDirsResponseCard

/-- THE TIED CARD OF 'laws.FnAnyDeleteShareGroupStateRequest'. -/
def fnAnyDeleteShareGroupStateRequestCard : Claim7 := { stood := { row := fnAnyDeleteShareGroupStateRequestRow, standIns := [], harness := (true, "a6a40639892a89fe43cffde41b819247ea7a033f50f8876b66cf47414f2d0bb4"), looks := false }, kinds := [], alts := [], laidByText := true, laidKinds := [.sentinel], laidTests := true, laidLooks := .later }
def FnAnyDeleteShareGroupStateRequestCardSaid : Prop := Claim7.holds Tryd.pinned (.plain (OpenSpec.ofChange fnAnyDeleteShareGroupStateRequestSpec)) fnAnyDeleteShareGroupStateRequestCard

/-- THE TIED CARD OF 'laws.FnAnyTxnOffsetCommitResponse'. -/
def fnAnyTxnOffsetCommitResponseCard : Claim7 := { stood := { row := fnAnyTxnOffsetCommitResponseRow, standIns := [], harness := (true, "a6a40639892a89fe43cffde41b819247ea7a033f50f8876b66cf47414f2d0bb4"), looks := false }, kinds := [], alts := [], laidByText := true, laidKinds := [.sentinel], laidTests := true, laidLooks := .later }
def FnAnyTxnOffsetCommitResponseCardSaid : Prop := Claim7.holds Tryd.pinned (.plain (OpenSpec.ofChange fnAnyTxnOffsetCommitResponseSpec)) fnAnyTxnOffsetCommitResponseCard

/-- THE TIED CARD OF 'laws.FnAnyListGroupsResponse'. -/
def fnAnyListGroupsResponseCard : Claim7 := { stood := { row := fnAnyListGroupsResponseRow, standIns := [], harness := (true, "a6a40639892a89fe43cffde41b819247ea7a033f50f8876b66cf47414f2d0bb4"), looks := false }, kinds := [], alts := [], laidByText := true, laidKinds := [.sentinel], laidTests := true, laidLooks := .later }
def FnAnyListGroupsResponseCardSaid : Prop := Claim7.holds Tryd.pinned (.plain (OpenSpec.ofChange fnAnyListGroupsResponseSpec)) fnAnyListGroupsResponseCard

/-- THE SECOND FORM's CARD OF 'laws.FnAnyAlterReplicaLogDirsResponse'. -/
def fnAnyAlterReplicaLogDirsResponseUptoCard : Claim7 := { stood := { row := fnAnyAlterReplicaLogDirsResponseUptoRow, standIns := [], harness := (true, "a6a40639892a89fe43cffde41b819247ea7a033f50f8876b66cf47414f2d0bb4"), looks := false }, kinds := [], alts := [], laidByText := true, laidKinds := [.sentinel], laidTests := true, laidLooks := .later }
def FnAnyAlterReplicaLogDirsResponseUptoCardSaid : Prop := Claim7.holds Tryd.pinned (.plain (OpenSpec.upto fnAnyAlterReplicaLogDirsResponseSpec)) fnAnyAlterReplicaLogDirsResponseUptoCard

/-- THE SECOND FORM's CARD OF 'laws.FnAnyDeleteShareGroupStateRequest'. -/
def fnAnyDeleteShareGroupStateRequestUptoCard : Claim7 := { stood := { row := fnAnyDeleteShareGroupStateRequestUptoRow, standIns := [], harness := (true, "a6a40639892a89fe43cffde41b819247ea7a033f50f8876b66cf47414f2d0bb4"), looks := false }, kinds := [], alts := [], laidByText := true, laidKinds := [.sentinel], laidTests := true, laidLooks := .later }
def FnAnyDeleteShareGroupStateRequestUptoCardSaid : Prop := Claim7.holds Tryd.pinned (.plain (OpenSpec.upto fnAnyDeleteShareGroupStateRequestSpec)) fnAnyDeleteShareGroupStateRequestUptoCard

/-- THE SECOND FORM's CARD OF 'laws.FnAnyTxnOffsetCommitResponse'. -/
def fnAnyTxnOffsetCommitResponseUptoCard : Claim7 := { stood := { row := fnAnyTxnOffsetCommitResponseUptoRow, standIns := [], harness := (true, "a6a40639892a89fe43cffde41b819247ea7a033f50f8876b66cf47414f2d0bb4"), looks := false }, kinds := [], alts := [], laidByText := true, laidKinds := [.sentinel], laidTests := true, laidLooks := .later }
def FnAnyTxnOffsetCommitResponseUptoCardSaid : Prop := Claim7.holds Tryd.pinned (.plain (OpenSpec.upto fnAnyTxnOffsetCommitResponseSpec)) fnAnyTxnOffsetCommitResponseUptoCard

/-- THE SECOND FORM's CARD OF 'laws.FnAnyListGroupsResponse'. -/
def fnAnyListGroupsResponseUptoCard : Claim7 := { stood := { row := fnAnyListGroupsResponseUptoRow, standIns := [], harness := (true, "a6a40639892a89fe43cffde41b819247ea7a033f50f8876b66cf47414f2d0bb4"), looks := false }, kinds := [], alts := [], laidByText := true, laidKinds := [.sentinel], laidTests := true, laidLooks := .later }
def FnAnyListGroupsResponseUptoCardSaid : Prop := Claim7.holds Tryd.pinned (.plain (OpenSpec.upto fnAnyListGroupsResponseSpec)) fnAnyListGroupsResponseUptoCard
end Rows
end Go.Proofs.YtdmdmnfdfkejbaaDoor
