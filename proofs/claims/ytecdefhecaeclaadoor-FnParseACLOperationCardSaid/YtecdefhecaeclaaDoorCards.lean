/-
  DERIVED. GIVEN WITH THE SEED: THE CARDS: each row of YtecdefhecaeclaaDoorRows.lean that lists a variable, with what it lists TIED to the program's text (the seventh form; the later family's looks); each row that meets fmt, with fmt's text TOLD by the authors' own Lean function (tested against real Go, not proved from fmt's source: count such statements apart). THE CARD IS WHAT COUNTS. Prove the row's statement (the work); the ties are given (YtecdefhecaeclaaDoorTie.lean); close each card by the builder's one call (the guide's Derived/Test/ToyasCard.lean, 'card_holds'). Laid BY PROGRAM, IN A SANDBOX (cutbox-door.mjs). By AI agents, Wed Nov 11 2026. No macro, syntax, notation, axiom, sorry.
-/
import Derived.Test.YtecdefhecaeclaaDoorRows
import GoSem.ClaimSeven
namespace Go.Proofs.YtecdefhecaeclaaDoor
namespace Rows

/-- THE TIED CARD OF 'laws.FnParseACLOperation'. -/
def fnParseACLOperationCard : Claim7 := { stood := { row := fnParseACLOperationRow, standIns := [], harness := (true, "18ece04488bdc59fbfc3b3bd8f0780af0402de09f4c557df7ee3af60405d9249"), looks := false }, kinds := [], alts := [], laidByText := true, laidKinds := [.data, .listed, .data, .pinned, .pinned], laidTests := true, laidLooks := .later }
def FnParseACLOperationCardSaid : Prop := Claim7.holds Tryd.pinned (.plain (OpenSpec.ofChange fnParseACLOperationSpec)) fnParseACLOperationCard

/-- THE SECOND FORM's CARD OF 'laws.FnParseACLOperation'. -/
def fnParseACLOperationUptoCard : Claim7 := { stood := { row := fnParseACLOperationUptoRow, standIns := [], harness := (true, "18ece04488bdc59fbfc3b3bd8f0780af0402de09f4c557df7ee3af60405d9249"), looks := false }, kinds := [], alts := [], laidByText := true, laidKinds := [.data, .listed, .data, .pinned, .pinned], laidTests := true, laidLooks := .later }
def FnParseACLOperationUptoCardSaid : Prop := Claim7.holds Tryd.pinned (.plain (OpenSpec.upto fnParseACLOperationSpec)) fnParseACLOperationUptoCard
end Rows
end Go.Proofs.YtecdefhecaeclaaDoor
