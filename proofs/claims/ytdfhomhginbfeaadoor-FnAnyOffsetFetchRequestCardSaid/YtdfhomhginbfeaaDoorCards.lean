/-
  DERIVED. GIVEN WITH THE SEED: THE CARDS: each row of YtdfhomhginbfeaaDoorRows.lean that lists a variable, with what it lists TIED to the program's text (the seventh form; the later family's looks); each row that meets fmt, with fmt's text TOLD by the authors' own Lean function (tested against real Go, not proved from fmt's source: count such statements apart). THE CARD IS WHAT COUNTS. Prove the row's statement (the work); the ties are given (YtdfhomhginbfeaaDoorTie.lean); close each card by the builder's one call (the guide's Derived/Test/ToyasCard.lean, 'card_holds'). Laid BY PROGRAM, IN A SANDBOX (cutbox-door.mjs). By AI agents, Wed Nov 11 2026. No macro, syntax, notation, axiom, sorry.
-/
import Derived.Test.YtdfhomhginbfeaaDoorRows
import GoSem.ClaimSeven
namespace Go.Proofs.YtdfhomhginbfeaaDoor
namespace Rows

/-- THE TIED CARD OF 'laws.FnAnyDescribeDelegationTokenResponse'. -/
def fnAnyDescribeDelegationTokenResponseCard : Claim7 := { stood := { row := fnAnyDescribeDelegationTokenResponseRow, standIns := [], harness := (true, "81aba627767dce15de6d0cfd1afc481a6f7228b7d8252d1c2ac122f32aeeeac3"), looks := false }, kinds := [], alts := [], laidByText := true, laidKinds := [.sentinel], laidTests := true, laidLooks := .later }
def FnAnyDescribeDelegationTokenResponseCardSaid : Prop := Claim7.holds Tryd.pinned (.plain (OpenSpec.ofChange fnAnyDescribeDelegationTokenResponseSpec)) fnAnyDescribeDelegationTokenResponseCard

/-- THE TIED CARD OF 'laws.FnAnyBrokerRegistrationRequest'. -/
def fnAnyBrokerRegistrationRequestCard : Claim7 := { stood := { row := fnAnyBrokerRegistrationRequestRow, standIns := [], harness := (true, "81aba627767dce15de6d0cfd1afc481a6f7228b7d8252d1c2ac122f32aeeeac3"), looks := false }, kinds := [], alts := [], laidByText := true, laidKinds := [.sentinel], laidTests := true, laidLooks := .later }
def FnAnyBrokerRegistrationRequestCardSaid : Prop := Claim7.holds Tryd.pinned (.plain (OpenSpec.ofChange fnAnyBrokerRegistrationRequestSpec)) fnAnyBrokerRegistrationRequestCard

/-- THE TIED CARD OF 'laws.FnAnyOffsetFetchRequest'. -/
def fnAnyOffsetFetchRequestCard : Claim7 := { stood := { row := fnAnyOffsetFetchRequestRow, standIns := [], harness := (true, "81aba627767dce15de6d0cfd1afc481a6f7228b7d8252d1c2ac122f32aeeeac3"), looks := false }, kinds := [], alts := [], laidByText := true, laidKinds := [.sentinel], laidTests := true, laidLooks := .later }
def FnAnyOffsetFetchRequestCardSaid : Prop := Claim7.holds Tryd.pinned (.plain (OpenSpec.ofChange fnAnyOffsetFetchRequestSpec)) fnAnyOffsetFetchRequestCard

/-- THE SECOND FORM's CARD OF 'laws.FnAnyDescribeDelegationTokenResponse'. -/
def fnAnyDescribeDelegationTokenResponseUptoCard : Claim7 := { stood := { row := fnAnyDescribeDelegationTokenResponseUptoRow, standIns := [], harness := (true, "81aba627767dce15de6d0cfd1afc481a6f7228b7d8252d1c2ac122f32aeeeac3"), looks := false }, kinds := [], alts := [], laidByText := true, laidKinds := [.sentinel], laidTests := true, laidLooks := .later }
def FnAnyDescribeDelegationTokenResponseUptoCardSaid : Prop := Claim7.holds Tryd.pinned (.plain (OpenSpec.upto fnAnyDescribeDelegationTokenResponseSpec)) fnAnyDescribeDelegationTokenResponseUptoCard

/-- THE SECOND FORM's CARD OF 'laws.FnAnyBrokerRegistrationRequest'. -/
def fnAnyBrokerRegistrationRequestUptoCard : Claim7 := { stood := { row := fnAnyBrokerRegistrationRequestUptoRow, standIns := [], harness := (true, "81aba627767dce15de6d0cfd1afc481a6f7228b7d8252d1c2ac122f32aeeeac3"), looks := false }, kinds := [], alts := [], laidByText := true, laidKinds := [.sentinel], laidTests := true, laidLooks := .later }
def FnAnyBrokerRegistrationRequestUptoCardSaid : Prop := Claim7.holds Tryd.pinned (.plain (OpenSpec.upto fnAnyBrokerRegistrationRequestSpec)) fnAnyBrokerRegistrationRequestUptoCard

/-- THE SECOND FORM's CARD OF 'laws.FnAnyOffsetFetchRequest'. -/
def fnAnyOffsetFetchRequestUptoCard : Claim7 := { stood := { row := fnAnyOffsetFetchRequestUptoRow, standIns := [], harness := (true, "81aba627767dce15de6d0cfd1afc481a6f7228b7d8252d1c2ac122f32aeeeac3"), looks := false }, kinds := [], alts := [], laidByText := true, laidKinds := [.sentinel], laidTests := true, laidLooks := .later }
def FnAnyOffsetFetchRequestUptoCardSaid : Prop := Claim7.holds Tryd.pinned (.plain (OpenSpec.upto fnAnyOffsetFetchRequestSpec)) fnAnyOffsetFetchRequestUptoCard
end Rows
end Go.Proofs.YtdfhomhginbfeaaDoor
