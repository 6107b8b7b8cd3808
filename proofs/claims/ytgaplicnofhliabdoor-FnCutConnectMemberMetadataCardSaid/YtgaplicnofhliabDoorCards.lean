/-
  DERIVED. GIVEN WITH THE SEED: THE CARDS: each row of YtgaplicnofhliabDoorRows.lean that lists a variable, with what it lists TIED to the program's text (the seventh form; the later family's looks); each row that meets fmt, with fmt's text TOLD by the authors' own Lean function (tested against real Go, not proved from fmt's source: count such statements apart). THE CARD IS WHAT COUNTS. Prove the row's statement (the work); the ties are given (YtgaplicnofhliabDoorTie.lean); close each card by the builder's one call (the guide's Derived/Test/ToyasCard.lean, 'card_holds'). Laid BY PROGRAM, IN A SANDBOX (cutbox-door.mjs). By AI agents, Wed Nov 11 2026. No macro, syntax, notation, axiom, sorry.
-/
import Derived.Test.YtgaplicnofhliabDoorRows
import GoSem.ClaimSeven
namespace Go.Proofs.YtgaplicnofhliabDoor
namespace Rows

/-- THE TIED CARD OF 'laws.FnCutConnectMemberMetadata'. -/
def fnCutConnectMemberMetadataCard : Claim7 := { stood := { row := fnCutConnectMemberMetadataRow, standIns := [], harness := (true, "f49cbba0407bd2dd279977cccc7b2accbbe2a057d6bd16616954dd102d883411"), looks := false }, kinds := [], alts := [], laidByText := true, laidKinds := [.sentinel], laidTests := true, laidLooks := .later }
def FnCutConnectMemberMetadataCardSaid : Prop := Claim7.holds Tryd.pinned (.plain (OpenSpec.ofChange fnCutConnectMemberMetadataSpec)) fnCutConnectMemberMetadataCard

/-- THE SECOND FORM's CARD OF 'laws.FnCutConnectMemberMetadata'. -/
def fnCutConnectMemberMetadataUptoCard : Claim7 := { stood := { row := fnCutConnectMemberMetadataUptoRow, standIns := [], harness := (true, "f49cbba0407bd2dd279977cccc7b2accbbe2a057d6bd16616954dd102d883411"), looks := false }, kinds := [], alts := [], laidByText := true, laidKinds := [.sentinel], laidTests := true, laidLooks := .later }
def FnCutConnectMemberMetadataUptoCardSaid : Prop := Claim7.holds Tryd.pinned (.plain (OpenSpec.upto fnCutConnectMemberMetadataSpec)) fnCutConnectMemberMetadataUptoCard
end Rows
end Go.Proofs.YtgaplicnofhliabDoor
