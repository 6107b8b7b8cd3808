/-
  DERIVED. GIVEN WITH THE SEED: THE CARDS: each row of YtgaplicnofhliaaDoorRows.lean that lists a variable, with what it lists TIED to the program's text (the seventh form; the later family's looks); each row that meets fmt, with fmt's text TOLD by the authors' own Lean function (tested against real Go, not proved from fmt's source: count such statements apart). THE CARD IS WHAT COUNTS. Prove the row's statement (the work); the ties are given (YtgaplicnofhliaaDoorTie.lean); close each card by the builder's one call (the guide's Derived/Test/ToyasCard.lean, 'card_holds'). Laid BY PROGRAM, IN A SANDBOX (cutbox-door.mjs). By AI agents, Wed Nov 11 2026. No macro, syntax, notation, axiom, sorry.
-/
import Derived.Test.YtgaplicnofhliaaDoorRows
import GoSem.ClaimSeven
namespace Go.Proofs.YtgaplicnofhliaaDoor
namespace Rows

/-- THE TIED CARD OF 'laws.FnAgainSASLHandshakeRequest'. -/
def fnAgainSASLHandshakeRequestCard : Claim7 := { stood := { row := fnAgainSASLHandshakeRequestRow, standIns := [], harness := (true, "b19fe9a3c55ea83593106c755398a96627ad8ba5d16164ba546add7cae06280c"), looks := false }, kinds := [], alts := [], laidByText := true, laidKinds := [.sentinel], laidTests := true, laidLooks := .later }
def FnAgainSASLHandshakeRequestCardSaid : Prop := Claim7.holds Tryd.pinned (.plain (OpenSpec.ofChange fnAgainSASLHandshakeRequestSpec)) fnAgainSASLHandshakeRequestCard

/-- THE TIED CARD OF 'laws.FnTellSticky'. -/
def fnTellStickyCard : Claim7 := { stood := { row := fnTellStickyRow, standIns := [], harness := (true, "b19fe9a3c55ea83593106c755398a96627ad8ba5d16164ba546add7cae06280c"), looks := false }, kinds := [], alts := [], laidByText := true, laidKinds := [.sentinel], laidTests := true, laidLooks := .later }
def FnTellStickyCardSaid : Prop := Claim7.holds Tryd.pinned (.plain (OpenSpec.ofChange fnTellStickySpec)) fnTellStickyCard

/-- THE TIED CARD OF 'laws.FnTellHeader'. -/
def fnTellHeaderCard : Claim7 := { stood := { row := fnTellHeaderRow, standIns := [], harness := (true, "b19fe9a3c55ea83593106c755398a96627ad8ba5d16164ba546add7cae06280c"), looks := false }, kinds := [], alts := [], laidByText := true, laidKinds := [.sentinel], laidTests := true, laidLooks := .later }
def FnTellHeaderCardSaid : Prop := Claim7.holds Tryd.pinned (.plain (OpenSpec.ofChange fnTellHeaderSpec)) fnTellHeaderCard

/-- THE TIED CARD OF 'laws.FnAgainOffsetCommitKey'. -/
def fnAgainOffsetCommitKeyCard : Claim7 := { stood := { row := fnAgainOffsetCommitKeyRow, standIns := [], harness := (true, "b19fe9a3c55ea83593106c755398a96627ad8ba5d16164ba546add7cae06280c"), looks := false }, kinds := [], alts := [], laidByText := true, laidKinds := [.sentinel], laidTests := true, laidLooks := .later }
def FnAgainOffsetCommitKeyCardSaid : Prop := Claim7.holds Tryd.pinned (.plain (OpenSpec.ofChange fnAgainOffsetCommitKeySpec)) fnAgainOffsetCommitKeyCard

/-- THE SECOND FORM's CARD OF 'laws.FnAgainSASLHandshakeRequest'. -/
def fnAgainSASLHandshakeRequestUptoCard : Claim7 := { stood := { row := fnAgainSASLHandshakeRequestUptoRow, standIns := [], harness := (true, "b19fe9a3c55ea83593106c755398a96627ad8ba5d16164ba546add7cae06280c"), looks := false }, kinds := [], alts := [], laidByText := true, laidKinds := [.sentinel], laidTests := true, laidLooks := .later }
def FnAgainSASLHandshakeRequestUptoCardSaid : Prop := Claim7.holds Tryd.pinned (.plain (OpenSpec.upto fnAgainSASLHandshakeRequestSpec)) fnAgainSASLHandshakeRequestUptoCard

/-- THE SECOND FORM's CARD OF 'laws.FnTellSticky'. -/
def fnTellStickyUptoCard : Claim7 := { stood := { row := fnTellStickyUptoRow, standIns := [], harness := (true, "b19fe9a3c55ea83593106c755398a96627ad8ba5d16164ba546add7cae06280c"), looks := false }, kinds := [], alts := [], laidByText := true, laidKinds := [.sentinel], laidTests := true, laidLooks := .later }
def FnTellStickyUptoCardSaid : Prop := Claim7.holds Tryd.pinned (.plain (OpenSpec.upto fnTellStickySpec)) fnTellStickyUptoCard

/-- THE SECOND FORM's CARD OF 'laws.FnTellHeader'. -/
def fnTellHeaderUptoCard : Claim7 := { stood := { row := fnTellHeaderUptoRow, standIns := [], harness := (true, "b19fe9a3c55ea83593106c755398a96627ad8ba5d16164ba546add7cae06280c"), looks := false }, kinds := [], alts := [], laidByText := true, laidKinds := [.sentinel], laidTests := true, laidLooks := .later }
def FnTellHeaderUptoCardSaid : Prop := Claim7.holds Tryd.pinned (.plain (OpenSpec.upto fnTellHeaderSpec)) fnTellHeaderUptoCard

/-- THE SECOND FORM's CARD OF 'laws.FnAgainOffsetCommitKey'. -/
def fnAgainOffsetCommitKeyUptoCard : Claim7 := { stood := { row := fnAgainOffsetCommitKeyUptoRow, standIns := [], harness := (true, "b19fe9a3c55ea83593106c755398a96627ad8ba5d16164ba546add7cae06280c"), looks := false }, kinds := [], alts := [], laidByText := true, laidKinds := [.sentinel], laidTests := true, laidLooks := .later }
def FnAgainOffsetCommitKeyUptoCardSaid : Prop := Claim7.holds Tryd.pinned (.plain (OpenSpec.upto fnAgainOffsetCommitKeySpec)) fnAgainOffsetCommitKeyUptoCard
end Rows
end Go.Proofs.YtgaplicnofhliaaDoor
