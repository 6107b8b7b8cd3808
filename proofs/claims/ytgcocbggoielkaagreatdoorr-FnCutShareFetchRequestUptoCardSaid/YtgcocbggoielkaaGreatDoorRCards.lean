/-
  DERIVED. GIVEN WITH THE SEED: THE CARDS: each row of YtgcocbggoielkaaGreatDoorRRows.lean that lists a variable, with what it lists TIED to the program's text (the seventh form; the later family's looks); each row that meets fmt, with fmt's text TOLD by the authors' own Lean function (tested against real Go, not proved from fmt's source: count such statements apart). THE CARD IS WHAT COUNTS. Prove the row's statement (the work); the ties are given (YtgcocbggoielkaaGreatDoorRTie.lean); close each card by the builder's one call (the guide's Derived/Test/ToyasCard.lean, 'card_holds'). Laid BY PROGRAM, IN A SANDBOX (cutbox-door.mjs). By AI agents, Wed Nov 11 2026. No macro, syntax, notation, axiom, sorry.
-/
import Derived.Test.YtgcocbggoielkaaGreatDoorRRows
import GoSem.ClaimSeven
namespace Go.Proofs.YtgcocbggoielkaaGreatDoorR
namespace Rows

/-- THE TIED CARD OF 'laws.FnCutShareFetchRequest'. -/
def fnCutShareFetchRequestCard : Claim7 := { stood := { row := fnCutShareFetchRequestRow, standIns := [], harness := (true, "1fae7492566f2aaad202629822aa7ec89654383687303d905c2a37f3f24aafee"), looks := false }, kinds := [], alts := [], laidByText := true, laidKinds := [.sentinel], laidTests := true, laidLooks := .later }
def FnCutShareFetchRequestCardSaid : Prop := Claim7.holds Tryz.pinned (.plain (OpenSpec.ofChange fnCutShareFetchRequestSpec)) fnCutShareFetchRequestCard

/-- THE TIED CARD OF 'laws.FnAgainProduceResponse'. -/
def fnAgainProduceResponseCard : Claim7 := { stood := { row := fnAgainProduceResponseRow, standIns := [], harness := (true, "1fae7492566f2aaad202629822aa7ec89654383687303d905c2a37f3f24aafee"), looks := false }, kinds := [], alts := [], laidByText := true, laidKinds := [.sentinel], laidTests := true, laidLooks := .later }
def FnAgainProduceResponseCardSaid : Prop := Claim7.holds Tryz.pinned (.plain (OpenSpec.ofChange fnAgainProduceResponseSpec)) fnAgainProduceResponseCard

/-- THE TIED CARD OF 'laws.FnCutControllerRegistrationResponse'. -/
def fnCutControllerRegistrationResponseCard : Claim7 := { stood := { row := fnCutControllerRegistrationResponseRow, standIns := [], harness := (true, "1fae7492566f2aaad202629822aa7ec89654383687303d905c2a37f3f24aafee"), looks := false }, kinds := [], alts := [], laidByText := true, laidKinds := [.sentinel], laidTests := true, laidLooks := .later }
def FnCutControllerRegistrationResponseCardSaid : Prop := Claim7.holds Tryz.pinned (.plain (OpenSpec.ofChange fnCutControllerRegistrationResponseSpec)) fnCutControllerRegistrationResponseCard

/-- THE TIED CARD OF 'laws.FnCutStreamsGroupTopologyDescriptionUpdateResponse'. -/
def fnCutStreamsGroupTopologyDescriptionUpdateResponseCard : Claim7 := { stood := { row := fnCutStreamsGroupTopologyDescriptionUpdateResponseRow, standIns := [], harness := (true, "1fae7492566f2aaad202629822aa7ec89654383687303d905c2a37f3f24aafee"), looks := false }, kinds := [], alts := [], laidByText := true, laidKinds := [.sentinel], laidTests := true, laidLooks := .later }
def FnCutStreamsGroupTopologyDescriptionUpdateResponseCardSaid : Prop := Claim7.holds Tryz.pinned (.plain (OpenSpec.ofChange fnCutStreamsGroupTopologyDescriptionUpdateResponseSpec)) fnCutStreamsGroupTopologyDescriptionUpdateResponseCard

/-- THE SECOND FORM's CARD OF 'laws.FnCutShareFetchRequest'. -/
def fnCutShareFetchRequestUptoCard : Claim7 := { stood := { row := fnCutShareFetchRequestUptoRow, standIns := [], harness := (true, "1fae7492566f2aaad202629822aa7ec89654383687303d905c2a37f3f24aafee"), looks := false }, kinds := [], alts := [], laidByText := true, laidKinds := [.sentinel], laidTests := true, laidLooks := .later }
def FnCutShareFetchRequestUptoCardSaid : Prop := Claim7.holds Tryz.pinned (.plain (OpenSpec.upto fnCutShareFetchRequestSpec)) fnCutShareFetchRequestUptoCard

/-- THE SECOND FORM's CARD OF 'laws.FnAgainProduceResponse'. -/
def fnAgainProduceResponseUptoCard : Claim7 := { stood := { row := fnAgainProduceResponseUptoRow, standIns := [], harness := (true, "1fae7492566f2aaad202629822aa7ec89654383687303d905c2a37f3f24aafee"), looks := false }, kinds := [], alts := [], laidByText := true, laidKinds := [.sentinel], laidTests := true, laidLooks := .later }
def FnAgainProduceResponseUptoCardSaid : Prop := Claim7.holds Tryz.pinned (.plain (OpenSpec.upto fnAgainProduceResponseSpec)) fnAgainProduceResponseUptoCard

/-- THE SECOND FORM's CARD OF 'laws.FnCutControllerRegistrationResponse'. -/
def fnCutControllerRegistrationResponseUptoCard : Claim7 := { stood := { row := fnCutControllerRegistrationResponseUptoRow, standIns := [], harness := (true, "1fae7492566f2aaad202629822aa7ec89654383687303d905c2a37f3f24aafee"), looks := false }, kinds := [], alts := [], laidByText := true, laidKinds := [.sentinel], laidTests := true, laidLooks := .later }
def FnCutControllerRegistrationResponseUptoCardSaid : Prop := Claim7.holds Tryz.pinned (.plain (OpenSpec.upto fnCutControllerRegistrationResponseSpec)) fnCutControllerRegistrationResponseUptoCard

/-- THE SECOND FORM's CARD OF 'laws.FnCutStreamsGroupTopologyDescriptionUpdateResponse'. -/
def fnCutStreamsGroupTopologyDescriptionUpdateResponseUptoCard : Claim7 := { stood := { row := fnCutStreamsGroupTopologyDescriptionUpdateResponseUptoRow, standIns := [], harness := (true, "1fae7492566f2aaad202629822aa7ec89654383687303d905c2a37f3f24aafee"), looks := false }, kinds := [], alts := [], laidByText := true, laidKinds := [.sentinel], laidTests := true, laidLooks := .later }
def FnCutStreamsGroupTopologyDescriptionUpdateResponseUptoCardSaid : Prop := Claim7.holds Tryz.pinned (.plain (OpenSpec.upto fnCutStreamsGroupTopologyDescriptionUpdateResponseSpec)) fnCutStreamsGroupTopologyDescriptionUpdateResponseUptoCard
end Rows
end Go.Proofs.YtgcocbggoielkaaGreatDoorR
