/-
  DERIVED. GIVEN WITH THE SEED: THE CARDS: each row of YtdnpafdgglpagaaGreatDoorRows.lean that lists a variable, with what it lists TIED to the program's text (the seventh form; the later family's looks); each row that meets fmt, with fmt's text TOLD by the authors' own Lean function (tested against real Go, not proved from fmt's source: count such statements apart). THE CARD IS WHAT COUNTS. Prove the row's statement (the work); the ties are given (YtdnpafdgglpagaaGreatDoorTie.lean); close each card by the builder's one call (the guide's Derived/Test/ToyasCard.lean, 'card_holds'). Laid BY PROGRAM, IN A SANDBOX (cutbox-door.mjs). By AI agents, Wed Nov 11 2026. No macro, syntax, notation, axiom, sorry.
-/
import Derived.Test.YtdnpafdgglpagaaGreatDoorRows
import GoSem.ClaimSeven
namespace Go.Proofs.YtdnpafdgglpagaaGreatDoor
namespace Rows

/-- THE TIED CARD OF 'laws.FnAgainProduceResponse'. -/
def fnAgainProduceResponseCard : Claim7 := { stood := { row := fnAgainProduceResponseRow, standIns := [], harness := (true, "ac9a990d82402824976ac2e744c5ab529b086ab5352e04a631dd9486844586bc"), looks := false }, kinds := [], alts := [], laidByText := true, laidKinds := [.sentinel], laidTests := true, laidLooks := .later }
def FnAgainProduceResponseCardSaid : Prop := Claim7.holds Tryz.pinned (.plain (OpenSpec.ofChange fnAgainProduceResponseSpec)) fnAgainProduceResponseCard

/-- THE SECOND FORM's CARD OF 'laws.FnAgainProduceResponse'. -/
def fnAgainProduceResponseUptoCard : Claim7 := { stood := { row := fnAgainProduceResponseUptoRow, standIns := [], harness := (true, "ac9a990d82402824976ac2e744c5ab529b086ab5352e04a631dd9486844586bc"), looks := false }, kinds := [], alts := [], laidByText := true, laidKinds := [.sentinel], laidTests := true, laidLooks := .later }
def FnAgainProduceResponseUptoCardSaid : Prop := Claim7.holds Tryz.pinned (.plain (OpenSpec.upto fnAgainProduceResponseSpec)) fnAgainProduceResponseUptoCard
end Rows
end Go.Proofs.YtdnpafdgglpagaaGreatDoor
