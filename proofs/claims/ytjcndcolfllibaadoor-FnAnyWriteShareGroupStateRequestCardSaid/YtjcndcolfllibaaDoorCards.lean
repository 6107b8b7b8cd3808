/-
  DERIVED. GIVEN WITH THE SEED: THE CARDS: each row of YtjcndcolfllibaaDoorRows.lean that lists a variable, with what it lists TIED to the program's text (the seventh form; the later family's looks); each row that meets fmt, with fmt's text TOLD by the authors' own Lean function (tested against real Go, not proved from fmt's source: count such statements apart). THE CARD IS WHAT COUNTS. Prove the row's statement (the work); the ties are given (YtjcndcolfllibaaDoorTie.lean); close each card by the builder's one call (the guide's Derived/Test/ToyasCard.lean, 'card_holds'). Laid BY PROGRAM, IN A SANDBOX (cutbox-door.mjs). By AI agents, Wed Nov 11 2026. No macro, syntax, notation, axiom, sorry.
-/
import Derived.Test.YtjcndcolfllibaaDoorRows
import GoSem.ClaimSeven
namespace Go.Proofs.YtjcndcolfllibaaDoor
namespace Rows

/-- THE TIED CARD OF 'laws.FnAnyShareGroupHeartbeatRequest'. -/
def fnAnyShareGroupHeartbeatRequestCard : Claim7 := { stood := { row := fnAnyShareGroupHeartbeatRequestRow, standIns := [], harness := (true, "5bcc2dffcaec7c88d38e08473c37002f3a05b4204d1f390a9bf6bc152b14c2be"), looks := false }, kinds := [], alts := [], laidByText := true, laidKinds := [.sentinel], laidTests := true, laidLooks := .later }
def FnAnyShareGroupHeartbeatRequestCardSaid : Prop := Claim7.holds Tryd.pinned (.plain (OpenSpec.ofChange fnAnyShareGroupHeartbeatRequestSpec)) fnAnyShareGroupHeartbeatRequestCard

/-- THE TIED CARD OF 'laws.FnAnyCreateDelegationTokenResponse'. -/
def fnAnyCreateDelegationTokenResponseCard : Claim7 := { stood := { row := fnAnyCreateDelegationTokenResponseRow, standIns := [], harness := (true, "5bcc2dffcaec7c88d38e08473c37002f3a05b4204d1f390a9bf6bc152b14c2be"), looks := false }, kinds := [], alts := [], laidByText := true, laidKinds := [.sentinel], laidTests := true, laidLooks := .later }
def FnAnyCreateDelegationTokenResponseCardSaid : Prop := Claim7.holds Tryd.pinned (.plain (OpenSpec.ofChange fnAnyCreateDelegationTokenResponseSpec)) fnAnyCreateDelegationTokenResponseCard

/-- THE TIED CARD OF 'laws.FnAnyAddRaftVoterRequest'. -/
def fnAnyAddRaftVoterRequestCard : Claim7 := { stood := { row := fnAnyAddRaftVoterRequestRow, standIns := [], harness := (true, "5bcc2dffcaec7c88d38e08473c37002f3a05b4204d1f390a9bf6bc152b14c2be"), looks := false }, kinds := [], alts := [], laidByText := true, laidKinds := [.sentinel], laidTests := true, laidLooks := .later }
def FnAnyAddRaftVoterRequestCardSaid : Prop := Claim7.holds Tryd.pinned (.plain (OpenSpec.ofChange fnAnyAddRaftVoterRequestSpec)) fnAnyAddRaftVoterRequestCard

/-- THE TIED CARD OF 'laws.FnAnyWriteShareGroupStateRequest'. -/
def fnAnyWriteShareGroupStateRequestCard : Claim7 := { stood := { row := fnAnyWriteShareGroupStateRequestRow, standIns := [], harness := (true, "5bcc2dffcaec7c88d38e08473c37002f3a05b4204d1f390a9bf6bc152b14c2be"), looks := false }, kinds := [], alts := [], laidByText := true, laidKinds := [.sentinel], laidTests := true, laidLooks := .later }
def FnAnyWriteShareGroupStateRequestCardSaid : Prop := Claim7.holds Tryd.pinned (.plain (OpenSpec.ofChange fnAnyWriteShareGroupStateRequestSpec)) fnAnyWriteShareGroupStateRequestCard

/-- THE SECOND FORM's CARD OF 'laws.FnAnyShareGroupHeartbeatRequest'. -/
def fnAnyShareGroupHeartbeatRequestUptoCard : Claim7 := { stood := { row := fnAnyShareGroupHeartbeatRequestUptoRow, standIns := [], harness := (true, "5bcc2dffcaec7c88d38e08473c37002f3a05b4204d1f390a9bf6bc152b14c2be"), looks := false }, kinds := [], alts := [], laidByText := true, laidKinds := [.sentinel], laidTests := true, laidLooks := .later }
def FnAnyShareGroupHeartbeatRequestUptoCardSaid : Prop := Claim7.holds Tryd.pinned (.plain (OpenSpec.upto fnAnyShareGroupHeartbeatRequestSpec)) fnAnyShareGroupHeartbeatRequestUptoCard

/-- THE SECOND FORM's CARD OF 'laws.FnAnyCreateDelegationTokenResponse'. -/
def fnAnyCreateDelegationTokenResponseUptoCard : Claim7 := { stood := { row := fnAnyCreateDelegationTokenResponseUptoRow, standIns := [], harness := (true, "5bcc2dffcaec7c88d38e08473c37002f3a05b4204d1f390a9bf6bc152b14c2be"), looks := false }, kinds := [], alts := [], laidByText := true, laidKinds := [.sentinel], laidTests := true, laidLooks := .later }
def FnAnyCreateDelegationTokenResponseUptoCardSaid : Prop := Claim7.holds Tryd.pinned (.plain (OpenSpec.upto fnAnyCreateDelegationTokenResponseSpec)) fnAnyCreateDelegationTokenResponseUptoCard

/-- THE SECOND FORM's CARD OF 'laws.FnAnyAddRaftVoterRequest'. -/
def fnAnyAddRaftVoterRequestUptoCard : Claim7 := { stood := { row := fnAnyAddRaftVoterRequestUptoRow, standIns := [], harness := (true, "5bcc2dffcaec7c88d38e08473c37002f3a05b4204d1f390a9bf6bc152b14c2be"), looks := false }, kinds := [], alts := [], laidByText := true, laidKinds := [.sentinel], laidTests := true, laidLooks := .later }
def FnAnyAddRaftVoterRequestUptoCardSaid : Prop := Claim7.holds Tryd.pinned (.plain (OpenSpec.upto fnAnyAddRaftVoterRequestSpec)) fnAnyAddRaftVoterRequestUptoCard

/-- THE SECOND FORM's CARD OF 'laws.FnAnyWriteShareGroupStateRequest'. -/
def fnAnyWriteShareGroupStateRequestUptoCard : Claim7 := { stood := { row := fnAnyWriteShareGroupStateRequestUptoRow, standIns := [], harness := (true, "5bcc2dffcaec7c88d38e08473c37002f3a05b4204d1f390a9bf6bc152b14c2be"), looks := false }, kinds := [], alts := [], laidByText := true, laidKinds := [.sentinel], laidTests := true, laidLooks := .later }
def FnAnyWriteShareGroupStateRequestUptoCardSaid : Prop := Claim7.holds Tryd.pinned (.plain (OpenSpec.upto fnAnyWriteShareGroupStateRequestSpec)) fnAnyWriteShareGroupStateRequestUptoCard
end Rows
end Go.Proofs.YtjcndcolfllibaaDoor
