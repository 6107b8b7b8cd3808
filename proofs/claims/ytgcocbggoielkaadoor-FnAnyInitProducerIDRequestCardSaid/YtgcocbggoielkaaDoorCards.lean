/-
  DERIVED. GIVEN WITH THE SEED: THE CARDS: each row of YtgcocbggoielkaaDoorRows.lean that lists a variable, with what it lists TIED to the program's text (the seventh form; the later family's looks); each row that meets fmt, with fmt's text TOLD by the authors' own Lean function (tested against real Go, not proved from fmt's source: count such statements apart). THE CARD IS WHAT COUNTS. Prove the row's statement (the work); the ties are given (YtgcocbggoielkaaDoorTie.lean); close each card by the builder's one call (the guide's Derived/Test/ToyasCard.lean, 'card_holds'). Laid BY PROGRAM, IN A SANDBOX (cutbox-door.mjs). By AI agents, Wed Nov 11 2026. No macro, syntax, notation, axiom, sorry.
-/
import Derived.Test.YtgcocbggoielkaaDoorRows
import GoSem.ClaimSeven
namespace Go.Proofs.YtgcocbggoielkaaDoor
namespace Rows

/-- THE TIED CARD OF 'laws.FnAnyExpireDelegationTokenResponse'. -/
def fnAnyExpireDelegationTokenResponseCard : Claim7 := { stood := { row := fnAnyExpireDelegationTokenResponseRow, standIns := [], harness := (true, "3a44463694c17eee7ef8efada3e7963dfd0912be8612f6489613640a73e12b8e"), looks := false }, kinds := [], alts := [], laidByText := true, laidKinds := [.sentinel], laidTests := true, laidLooks := .later }
def FnAnyExpireDelegationTokenResponseCardSaid : Prop := Claim7.holds Tryd.pinned (.plain (OpenSpec.ofChange fnAnyExpireDelegationTokenResponseSpec)) fnAnyExpireDelegationTokenResponseCard

/-- THE TIED CARD OF 'laws.FnCutEndTxnResponse'. -/
def fnCutEndTxnResponseCard : Claim7 := { stood := { row := fnCutEndTxnResponseRow, standIns := [], harness := (true, "3a44463694c17eee7ef8efada3e7963dfd0912be8612f6489613640a73e12b8e"), looks := false }, kinds := [], alts := [], laidByText := true, laidKinds := [.sentinel], laidTests := true, laidLooks := .later }
def FnCutEndTxnResponseCardSaid : Prop := Claim7.holds Tryd.pinned (.plain (OpenSpec.ofChange fnCutEndTxnResponseSpec)) fnCutEndTxnResponseCard

/-- THE TIED CARD OF 'laws.FnAnyDefaultPrincipalData'. -/
def fnAnyDefaultPrincipalDataCard : Claim7 := { stood := { row := fnAnyDefaultPrincipalDataRow, standIns := [], harness := (true, "3a44463694c17eee7ef8efada3e7963dfd0912be8612f6489613640a73e12b8e"), looks := false }, kinds := [], alts := [], laidByText := true, laidKinds := [.sentinel], laidTests := true, laidLooks := .later }
def FnAnyDefaultPrincipalDataCardSaid : Prop := Claim7.holds Tryd.pinned (.plain (OpenSpec.ofChange fnAnyDefaultPrincipalDataSpec)) fnAnyDefaultPrincipalDataCard

/-- THE TIED CARD OF 'laws.FnAnyRemoveRaftVoterResponse'. -/
def fnAnyRemoveRaftVoterResponseCard : Claim7 := { stood := { row := fnAnyRemoveRaftVoterResponseRow, standIns := [], harness := (true, "3a44463694c17eee7ef8efada3e7963dfd0912be8612f6489613640a73e12b8e"), looks := false }, kinds := [], alts := [], laidByText := true, laidKinds := [.sentinel], laidTests := true, laidLooks := .later }
def FnAnyRemoveRaftVoterResponseCardSaid : Prop := Claim7.holds Tryd.pinned (.plain (OpenSpec.ofChange fnAnyRemoveRaftVoterResponseSpec)) fnAnyRemoveRaftVoterResponseCard

/-- THE TIED CARD OF 'laws.FnCutAddOffsetsToTxnRequest'. -/
def fnCutAddOffsetsToTxnRequestCard : Claim7 := { stood := { row := fnCutAddOffsetsToTxnRequestRow, standIns := [], harness := (true, "3a44463694c17eee7ef8efada3e7963dfd0912be8612f6489613640a73e12b8e"), looks := false }, kinds := [], alts := [], laidByText := true, laidKinds := [.sentinel], laidTests := true, laidLooks := .later }
def FnCutAddOffsetsToTxnRequestCardSaid : Prop := Claim7.holds Tryd.pinned (.plain (OpenSpec.ofChange fnCutAddOffsetsToTxnRequestSpec)) fnCutAddOffsetsToTxnRequestCard

/-- THE TIED CARD OF 'laws.FnAnyDescribeTransactionsRequest'. -/
def fnAnyDescribeTransactionsRequestCard : Claim7 := { stood := { row := fnAnyDescribeTransactionsRequestRow, standIns := [], harness := (true, "3a44463694c17eee7ef8efada3e7963dfd0912be8612f6489613640a73e12b8e"), looks := false }, kinds := [], alts := [], laidByText := true, laidKinds := [.sentinel], laidTests := true, laidLooks := .later }
def FnAnyDescribeTransactionsRequestCardSaid : Prop := Claim7.holds Tryd.pinned (.plain (OpenSpec.ofChange fnAnyDescribeTransactionsRequestSpec)) fnAnyDescribeTransactionsRequestCard

/-- THE TIED CARD OF 'laws.FnAnyInitProducerIDRequest'. -/
def fnAnyInitProducerIDRequestCard : Claim7 := { stood := { row := fnAnyInitProducerIDRequestRow, standIns := [], harness := (true, "3a44463694c17eee7ef8efada3e7963dfd0912be8612f6489613640a73e12b8e"), looks := false }, kinds := [], alts := [], laidByText := true, laidKinds := [.sentinel], laidTests := true, laidLooks := .later }
def FnAnyInitProducerIDRequestCardSaid : Prop := Claim7.holds Tryd.pinned (.plain (OpenSpec.ofChange fnAnyInitProducerIDRequestSpec)) fnAnyInitProducerIDRequestCard

/-- THE SECOND FORM's CARD OF 'laws.FnAnyExpireDelegationTokenResponse'. -/
def fnAnyExpireDelegationTokenResponseUptoCard : Claim7 := { stood := { row := fnAnyExpireDelegationTokenResponseUptoRow, standIns := [], harness := (true, "3a44463694c17eee7ef8efada3e7963dfd0912be8612f6489613640a73e12b8e"), looks := false }, kinds := [], alts := [], laidByText := true, laidKinds := [.sentinel], laidTests := true, laidLooks := .later }
def FnAnyExpireDelegationTokenResponseUptoCardSaid : Prop := Claim7.holds Tryd.pinned (.plain (OpenSpec.upto fnAnyExpireDelegationTokenResponseSpec)) fnAnyExpireDelegationTokenResponseUptoCard

/-- THE SECOND FORM's CARD OF 'laws.FnCutEndTxnResponse'. -/
def fnCutEndTxnResponseUptoCard : Claim7 := { stood := { row := fnCutEndTxnResponseUptoRow, standIns := [], harness := (true, "3a44463694c17eee7ef8efada3e7963dfd0912be8612f6489613640a73e12b8e"), looks := false }, kinds := [], alts := [], laidByText := true, laidKinds := [.sentinel], laidTests := true, laidLooks := .later }
def FnCutEndTxnResponseUptoCardSaid : Prop := Claim7.holds Tryd.pinned (.plain (OpenSpec.upto fnCutEndTxnResponseSpec)) fnCutEndTxnResponseUptoCard

/-- THE SECOND FORM's CARD OF 'laws.FnAnyDefaultPrincipalData'. -/
def fnAnyDefaultPrincipalDataUptoCard : Claim7 := { stood := { row := fnAnyDefaultPrincipalDataUptoRow, standIns := [], harness := (true, "3a44463694c17eee7ef8efada3e7963dfd0912be8612f6489613640a73e12b8e"), looks := false }, kinds := [], alts := [], laidByText := true, laidKinds := [.sentinel], laidTests := true, laidLooks := .later }
def FnAnyDefaultPrincipalDataUptoCardSaid : Prop := Claim7.holds Tryd.pinned (.plain (OpenSpec.upto fnAnyDefaultPrincipalDataSpec)) fnAnyDefaultPrincipalDataUptoCard

/-- THE SECOND FORM's CARD OF 'laws.FnAnyRemoveRaftVoterResponse'. -/
def fnAnyRemoveRaftVoterResponseUptoCard : Claim7 := { stood := { row := fnAnyRemoveRaftVoterResponseUptoRow, standIns := [], harness := (true, "3a44463694c17eee7ef8efada3e7963dfd0912be8612f6489613640a73e12b8e"), looks := false }, kinds := [], alts := [], laidByText := true, laidKinds := [.sentinel], laidTests := true, laidLooks := .later }
def FnAnyRemoveRaftVoterResponseUptoCardSaid : Prop := Claim7.holds Tryd.pinned (.plain (OpenSpec.upto fnAnyRemoveRaftVoterResponseSpec)) fnAnyRemoveRaftVoterResponseUptoCard

/-- THE SECOND FORM's CARD OF 'laws.FnCutAddOffsetsToTxnRequest'. -/
def fnCutAddOffsetsToTxnRequestUptoCard : Claim7 := { stood := { row := fnCutAddOffsetsToTxnRequestUptoRow, standIns := [], harness := (true, "3a44463694c17eee7ef8efada3e7963dfd0912be8612f6489613640a73e12b8e"), looks := false }, kinds := [], alts := [], laidByText := true, laidKinds := [.sentinel], laidTests := true, laidLooks := .later }
def FnCutAddOffsetsToTxnRequestUptoCardSaid : Prop := Claim7.holds Tryd.pinned (.plain (OpenSpec.upto fnCutAddOffsetsToTxnRequestSpec)) fnCutAddOffsetsToTxnRequestUptoCard

/-- THE SECOND FORM's CARD OF 'laws.FnAnyDescribeTransactionsRequest'. -/
def fnAnyDescribeTransactionsRequestUptoCard : Claim7 := { stood := { row := fnAnyDescribeTransactionsRequestUptoRow, standIns := [], harness := (true, "3a44463694c17eee7ef8efada3e7963dfd0912be8612f6489613640a73e12b8e"), looks := false }, kinds := [], alts := [], laidByText := true, laidKinds := [.sentinel], laidTests := true, laidLooks := .later }
def FnAnyDescribeTransactionsRequestUptoCardSaid : Prop := Claim7.holds Tryd.pinned (.plain (OpenSpec.upto fnAnyDescribeTransactionsRequestSpec)) fnAnyDescribeTransactionsRequestUptoCard

/-- THE SECOND FORM's CARD OF 'laws.FnAnyInitProducerIDRequest'. -/
def fnAnyInitProducerIDRequestUptoCard : Claim7 := { stood := { row := fnAnyInitProducerIDRequestUptoRow, standIns := [], harness := (true, "3a44463694c17eee7ef8efada3e7963dfd0912be8612f6489613640a73e12b8e"), looks := false }, kinds := [], alts := [], laidByText := true, laidKinds := [.sentinel], laidTests := true, laidLooks := .later }
def FnAnyInitProducerIDRequestUptoCardSaid : Prop := Claim7.holds Tryd.pinned (.plain (OpenSpec.upto fnAnyInitProducerIDRequestSpec)) fnAnyInitProducerIDRequestUptoCard
end Rows
end Go.Proofs.YtgcocbggoielkaaDoor
