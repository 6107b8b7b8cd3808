/-
  DERIVED. GIVEN WITH THE SEED: THE CARDS: each row of YtoiipagmhmohdaaDoorRows.lean that lists a variable, with what it lists TIED to the program's text (the seventh form; the later family's looks); each row that meets fmt, with fmt's text TOLD by the authors' own Lean function (tested against real Go, not proved from fmt's source: count such statements apart). THE CARD IS WHAT COUNTS. Prove the row's statement (the work); the ties are given (YtoiipagmhmohdaaDoorTie.lean); close each card by the builder's one call (the guide's Derived/Test/ToyasCard.lean, 'card_holds'). Laid BY PROGRAM, IN A SANDBOX (cutbox-door.mjs). By AI agents, Wed Nov 11 2026. No macro, syntax, notation, axiom, sorry.
-/
import Derived.Test.YtoiipagmhmohdaaDoorRows
import GoSem.ClaimSeven
namespace Go.Proofs.YtoiipagmhmohdaaDoor
namespace Rows

/-- THE TIED CARD OF 'laws.FnTellSticky'. -/
def fnTellStickyCard : Claim7 := { stood := { row := fnTellStickyRow, standIns := [], harness := (true, "ae7a529553ffbc69c53401b46d87f04e13ca76e44df4fce67f897e257cecdcb3"), looks := false }, kinds := [], alts := [], laidByText := true, laidKinds := [.sentinel], laidTests := true, laidLooks := .later }
def FnTellStickyCardSaid : Prop := Claim7.holds Tryd.pinned (.plain (OpenSpec.ofChange fnTellStickySpec)) fnTellStickyCard

/-- THE SECOND FORM's CARD OF 'laws.FnTellSticky'. -/
def fnTellStickyUptoCard : Claim7 := { stood := { row := fnTellStickyUptoRow, standIns := [], harness := (true, "ae7a529553ffbc69c53401b46d87f04e13ca76e44df4fce67f897e257cecdcb3"), looks := false }, kinds := [], alts := [], laidByText := true, laidKinds := [.sentinel], laidTests := true, laidLooks := .later }
def FnTellStickyUptoCardSaid : Prop := Claim7.holds Tryd.pinned (.plain (OpenSpec.upto fnTellStickySpec)) fnTellStickyUptoCard
end Rows
end Go.Proofs.YtoiipagmhmohdaaDoor
