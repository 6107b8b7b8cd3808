/-
  DERIVED. GIVEN WITH THE SEED: THE CARDS: each row of YtcchakpiemhpeaaDoorRows.lean that lists a variable, with what it lists TIED to the program's text (the seventh form; the later family's looks); each row that meets fmt, with fmt's text TOLD by the authors' own Lean function (tested against real Go, not proved from fmt's source: count such statements apart). THE CARD IS WHAT COUNTS. Prove the row's statement (the work); the ties are given (YtcchakpiemhpeaaDoorTie.lean); close each card by the builder's one call (the guide's Derived/Test/ToyasCard.lean, 'card_holds'). Laid BY PROGRAM, IN A SANDBOX (cutbox-door.mjs). By AI agents, Wed Nov 11 2026. No macro, syntax, notation, axiom, sorry.
-/
import Derived.Test.YtcchakpiemhpeaaDoorRows
import GoSem.ClaimSeven
namespace Go.Proofs.YtcchakpiemhpeaaDoor
namespace Rows

/-- THE TIED CARD OF 'laws.FnAnyDefaultPrincipalData'. -/
def fnAnyDefaultPrincipalDataCard : Claim7 := { stood := { row := fnAnyDefaultPrincipalDataRow, standIns := [], harness := (true, "f0b1c7fd2dc1ce87fe337e76105343b8f529b2d64cd2c363f4d5a2a2674d9535"), looks := false }, kinds := [], alts := [], laidByText := true, laidKinds := [.sentinel], laidTests := true, laidLooks := .later }
def FnAnyDefaultPrincipalDataCardSaid : Prop := Claim7.holds Tryd.pinned (.plain (OpenSpec.ofChange fnAnyDefaultPrincipalDataSpec)) fnAnyDefaultPrincipalDataCard

/-- THE SECOND FORM's CARD OF 'laws.FnAnyDefaultPrincipalData'. -/
def fnAnyDefaultPrincipalDataUptoCard : Claim7 := { stood := { row := fnAnyDefaultPrincipalDataUptoRow, standIns := [], harness := (true, "f0b1c7fd2dc1ce87fe337e76105343b8f529b2d64cd2c363f4d5a2a2674d9535"), looks := false }, kinds := [], alts := [], laidByText := true, laidKinds := [.sentinel], laidTests := true, laidLooks := .later }
def FnAnyDefaultPrincipalDataUptoCardSaid : Prop := Claim7.holds Tryd.pinned (.plain (OpenSpec.upto fnAnyDefaultPrincipalDataSpec)) fnAnyDefaultPrincipalDataUptoCard
end Rows
end Go.Proofs.YtcchakpiemhpeaaDoor
