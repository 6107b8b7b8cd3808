/-
  No cell of these rows narrows 'for every input' (looked for: loops, veiled, ifaces, maps, wideKeys, modest, calm, conditions, laid).
  DERIVED. THE GIVEN ROWS OF THIS SEAT. 12 by the template 'for every input the law returns true; each argument reads behind the call as it read before'; 0 by the template 'total and deterministic' (their statements: YtioodpjcpadkoaaTotals.lean).
  GIVEN WITH THE SEED: the statements are not yours to turn. If you find one false, say at which input.
  Laid BY PROGRAM, IN A SANDBOX (cutbox-rows.mjs): the forced cells as the released guide's own fill.sh prints them over the translation 82f8cb32fda60164… (all of the seat's roots in one cut). By AI agents, Wed Nov 11 2026. No macro, syntax, notation, axiom, sorry.
-/
import Derived.Test.YtioodpjcpadkoaaChecked
import GoSem.Claim
import GoSem.ClaimJoined
import GoSem.ClaimMapViews
import Derived.JoinedTies
import Derived.KernelRfl
namespace Go.Proofs.Ytioodpjcpadkoaa
/- THE CELL 'sum', in the pinned program and in every row, IS THE sha256 OF THE DUMP (.gsa) THAT YtioodpjcpadkoaaProg.lean LOADS. Nothing in Lean hashes anything: it is a label: what it is worth is what the hold of that sum in a sandbox is worth. -/
noncomputable def Try.pinned : Pinned := { name := "ytioodpjcpadkoaa", sum := "82f8cb32fda6016431694a1cdc1688fa70ec9d4d3d611071744f1d23cb7a9991", checked := Try.checked }
namespace Rows
def none {H : Type} : Left H := { results := [], args := [] }

/-- 'laws.FnNewExpireDelegationTokenRequest': WHATEVER THE INPUT: true; the input reads as it did. -/
def fnNewExpireDelegationTokenRequestSpec : ChangeSpec := { name := "fnNewExpireDelegationTokenRequest", fn := fun _ => fun
  | [d] => { results := [.lit (.bool true)], args := [d] }
  | _ => none }
def fnNewExpireDelegationTokenRequestRow : OpenClaim := { program := "ytioodpjcpadkoaa", sum := "82f8cb32fda6016431694a1cdc1688fa70ec9d4d3d611071744f1d23cb7a9991", func := "pub-kmsg/laws.FnNewExpireDelegationTokenRequest", spec := "fnNewExpireDelegationTokenRequest", inPlace := ["internal/reflectlite.ValueOf", "internal/reflectlite.Swapper", "(internal/reflectlite.Value).Len"], unfollowed := true, recurses := true, apart := false }
def FnNewExpireDelegationTokenRequestSaid : Prop := fnNewExpireDelegationTokenRequestRow.holds Try.pinned (OpenSpec.ofChange fnNewExpireDelegationTokenRequestSpec)

/-- ITS FALSE NEIGHBOUR: 'it returns false'. Refute it at one input. -/
def fnNewExpireDelegationTokenRequestWrong : ChangeSpec := { name := "fnNewExpireDelegationTokenRequest", fn := fun _ => fun
  | [d] => { results := [.lit (.bool false)], args := [d] }
  | _ => none }
def FnNewExpireDelegationTokenRequestWrongFalsely : Prop := fnNewExpireDelegationTokenRequestRow.holds Try.pinned (OpenSpec.ofChange fnNewExpireDelegationTokenRequestWrong)

/-- 'laws.FnNewBrokerHeartbeatResponse': WHATEVER THE INPUT: true; the input reads as it did. -/
def fnNewBrokerHeartbeatResponseSpec : ChangeSpec := { name := "fnNewBrokerHeartbeatResponse", fn := fun _ => fun
  | [d] => { results := [.lit (.bool true)], args := [d] }
  | _ => none }
def fnNewBrokerHeartbeatResponseRow : OpenClaim := { program := "ytioodpjcpadkoaa", sum := "82f8cb32fda6016431694a1cdc1688fa70ec9d4d3d611071744f1d23cb7a9991", func := "pub-kmsg/laws.FnNewBrokerHeartbeatResponse", spec := "fnNewBrokerHeartbeatResponse", inPlace := ["internal/reflectlite.ValueOf", "internal/reflectlite.Swapper", "(internal/reflectlite.Value).Len"], unfollowed := true, recurses := true, apart := false }
def FnNewBrokerHeartbeatResponseSaid : Prop := fnNewBrokerHeartbeatResponseRow.holds Try.pinned (OpenSpec.ofChange fnNewBrokerHeartbeatResponseSpec)

/-- ITS FALSE NEIGHBOUR: 'it returns false'. Refute it at one input. -/
def fnNewBrokerHeartbeatResponseWrong : ChangeSpec := { name := "fnNewBrokerHeartbeatResponse", fn := fun _ => fun
  | [d] => { results := [.lit (.bool false)], args := [d] }
  | _ => none }
def FnNewBrokerHeartbeatResponseWrongFalsely : Prop := fnNewBrokerHeartbeatResponseRow.holds Try.pinned (OpenSpec.ofChange fnNewBrokerHeartbeatResponseWrong)

/-- 'laws.FnNewRemoveRaftVoterRequest': WHATEVER THE INPUT: true; the input reads as it did. -/
def fnNewRemoveRaftVoterRequestSpec : ChangeSpec := { name := "fnNewRemoveRaftVoterRequest", fn := fun _ => fun
  | [d] => { results := [.lit (.bool true)], args := [d] }
  | _ => none }
def fnNewRemoveRaftVoterRequestRow : OpenClaim := { program := "ytioodpjcpadkoaa", sum := "82f8cb32fda6016431694a1cdc1688fa70ec9d4d3d611071744f1d23cb7a9991", func := "pub-kmsg/laws.FnNewRemoveRaftVoterRequest", spec := "fnNewRemoveRaftVoterRequest", inPlace := ["internal/reflectlite.ValueOf", "internal/reflectlite.Swapper", "(internal/reflectlite.Value).Len"], unfollowed := true, recurses := true, apart := false }
def FnNewRemoveRaftVoterRequestSaid : Prop := fnNewRemoveRaftVoterRequestRow.holds Try.pinned (OpenSpec.ofChange fnNewRemoveRaftVoterRequestSpec)

/-- ITS FALSE NEIGHBOUR: 'it returns false'. Refute it at one input. -/
def fnNewRemoveRaftVoterRequestWrong : ChangeSpec := { name := "fnNewRemoveRaftVoterRequest", fn := fun _ => fun
  | [d] => { results := [.lit (.bool false)], args := [d] }
  | _ => none }
def FnNewRemoveRaftVoterRequestWrongFalsely : Prop := fnNewRemoveRaftVoterRequestRow.holds Try.pinned (OpenSpec.ofChange fnNewRemoveRaftVoterRequestWrong)

/-- 'laws.FnNewListGroupsRequest': WHATEVER THE INPUT: true; the input reads as it did. -/
def fnNewListGroupsRequestSpec : ChangeSpec := { name := "fnNewListGroupsRequest", fn := fun _ => fun
  | [d] => { results := [.lit (.bool true)], args := [d] }
  | _ => none }
def fnNewListGroupsRequestRow : OpenClaim := { program := "ytioodpjcpadkoaa", sum := "82f8cb32fda6016431694a1cdc1688fa70ec9d4d3d611071744f1d23cb7a9991", func := "pub-kmsg/laws.FnNewListGroupsRequest", spec := "fnNewListGroupsRequest", inPlace := ["internal/reflectlite.ValueOf", "internal/reflectlite.Swapper", "(internal/reflectlite.Value).Len"], unfollowed := true, recurses := true, apart := false }
def FnNewListGroupsRequestSaid : Prop := fnNewListGroupsRequestRow.holds Try.pinned (OpenSpec.ofChange fnNewListGroupsRequestSpec)

/-- ITS FALSE NEIGHBOUR: 'it returns false'. Refute it at one input. -/
def fnNewListGroupsRequestWrong : ChangeSpec := { name := "fnNewListGroupsRequest", fn := fun _ => fun
  | [d] => { results := [.lit (.bool false)], args := [d] }
  | _ => none }
def FnNewListGroupsRequestWrongFalsely : Prop := fnNewListGroupsRequestRow.holds Try.pinned (OpenSpec.ofChange fnNewListGroupsRequestWrong)

/-- 'laws.FnNewDescribeDelegationTokenRequest': WHATEVER THE INPUT: true; the input reads as it did. -/
def fnNewDescribeDelegationTokenRequestSpec : ChangeSpec := { name := "fnNewDescribeDelegationTokenRequest", fn := fun _ => fun
  | [d] => { results := [.lit (.bool true)], args := [d] }
  | _ => none }
def fnNewDescribeDelegationTokenRequestRow : OpenClaim := { program := "ytioodpjcpadkoaa", sum := "82f8cb32fda6016431694a1cdc1688fa70ec9d4d3d611071744f1d23cb7a9991", func := "pub-kmsg/laws.FnNewDescribeDelegationTokenRequest", spec := "fnNewDescribeDelegationTokenRequest", inPlace := ["internal/reflectlite.ValueOf", "internal/reflectlite.Swapper", "(internal/reflectlite.Value).Len"], unfollowed := true, recurses := true, apart := false }
def FnNewDescribeDelegationTokenRequestSaid : Prop := fnNewDescribeDelegationTokenRequestRow.holds Try.pinned (OpenSpec.ofChange fnNewDescribeDelegationTokenRequestSpec)

/-- ITS FALSE NEIGHBOUR: 'it returns false'. Refute it at one input. -/
def fnNewDescribeDelegationTokenRequestWrong : ChangeSpec := { name := "fnNewDescribeDelegationTokenRequest", fn := fun _ => fun
  | [d] => { results := [.lit (.bool false)], args := [d] }
  | _ => none }
def FnNewDescribeDelegationTokenRequestWrongFalsely : Prop := fnNewDescribeDelegationTokenRequestRow.holds Try.pinned (OpenSpec.ofChange fnNewDescribeDelegationTokenRequestWrong)

/-- 'laws.FnNewAlterReplicaLogDirsRequest': WHATEVER THE INPUT: true; the input reads as it did. -/
def fnNewAlterReplicaLogDirsRequestSpec : ChangeSpec := { name := "fnNewAlterReplicaLogDirsRequest", fn := fun _ => fun
  | [d] => { results := [.lit (.bool true)], args := [d] }
  | _ => none }
def fnNewAlterReplicaLogDirsRequestRow : OpenClaim := { program := "ytioodpjcpadkoaa", sum := "82f8cb32fda6016431694a1cdc1688fa70ec9d4d3d611071744f1d23cb7a9991", func := "pub-kmsg/laws.FnNewAlterReplicaLogDirsRequest", spec := "fnNewAlterReplicaLogDirsRequest", inPlace := ["internal/reflectlite.ValueOf", "internal/reflectlite.Swapper", "(internal/reflectlite.Value).Len"], unfollowed := true, recurses := true, apart := false }
def FnNewAlterReplicaLogDirsRequestSaid : Prop := fnNewAlterReplicaLogDirsRequestRow.holds Try.pinned (OpenSpec.ofChange fnNewAlterReplicaLogDirsRequestSpec)

/-- ITS FALSE NEIGHBOUR: 'it returns false'. Refute it at one input. -/
def fnNewAlterReplicaLogDirsRequestWrong : ChangeSpec := { name := "fnNewAlterReplicaLogDirsRequest", fn := fun _ => fun
  | [d] => { results := [.lit (.bool false)], args := [d] }
  | _ => none }
def FnNewAlterReplicaLogDirsRequestWrongFalsely : Prop := fnNewAlterReplicaLogDirsRequestRow.holds Try.pinned (OpenSpec.ofChange fnNewAlterReplicaLogDirsRequestWrong)

/-- 'laws.FnNewIncrementalAlterConfigsResponse': WHATEVER THE INPUT: true; the input reads as it did. -/
def fnNewIncrementalAlterConfigsResponseSpec : ChangeSpec := { name := "fnNewIncrementalAlterConfigsResponse", fn := fun _ => fun
  | [d] => { results := [.lit (.bool true)], args := [d] }
  | _ => none }
def fnNewIncrementalAlterConfigsResponseRow : OpenClaim := { program := "ytioodpjcpadkoaa", sum := "82f8cb32fda6016431694a1cdc1688fa70ec9d4d3d611071744f1d23cb7a9991", func := "pub-kmsg/laws.FnNewIncrementalAlterConfigsResponse", spec := "fnNewIncrementalAlterConfigsResponse", inPlace := ["internal/reflectlite.ValueOf", "internal/reflectlite.Swapper", "(internal/reflectlite.Value).Len"], unfollowed := true, recurses := true, apart := false }
def FnNewIncrementalAlterConfigsResponseSaid : Prop := fnNewIncrementalAlterConfigsResponseRow.holds Try.pinned (OpenSpec.ofChange fnNewIncrementalAlterConfigsResponseSpec)

/-- ITS FALSE NEIGHBOUR: 'it returns false'. Refute it at one input. -/
def fnNewIncrementalAlterConfigsResponseWrong : ChangeSpec := { name := "fnNewIncrementalAlterConfigsResponse", fn := fun _ => fun
  | [d] => { results := [.lit (.bool false)], args := [d] }
  | _ => none }
def FnNewIncrementalAlterConfigsResponseWrongFalsely : Prop := fnNewIncrementalAlterConfigsResponseRow.holds Try.pinned (OpenSpec.ofChange fnNewIncrementalAlterConfigsResponseWrong)

/-- 'laws.FnNewDeleteShareGroupOffsetsResponse': WHATEVER THE INPUT: true; the input reads as it did. -/
def fnNewDeleteShareGroupOffsetsResponseSpec : ChangeSpec := { name := "fnNewDeleteShareGroupOffsetsResponse", fn := fun _ => fun
  | [d] => { results := [.lit (.bool true)], args := [d] }
  | _ => none }
def fnNewDeleteShareGroupOffsetsResponseRow : OpenClaim := { program := "ytioodpjcpadkoaa", sum := "82f8cb32fda6016431694a1cdc1688fa70ec9d4d3d611071744f1d23cb7a9991", func := "pub-kmsg/laws.FnNewDeleteShareGroupOffsetsResponse", spec := "fnNewDeleteShareGroupOffsetsResponse", inPlace := ["internal/reflectlite.ValueOf", "internal/reflectlite.Swapper", "(internal/reflectlite.Value).Len"], unfollowed := true, recurses := true, apart := false }
def FnNewDeleteShareGroupOffsetsResponseSaid : Prop := fnNewDeleteShareGroupOffsetsResponseRow.holds Try.pinned (OpenSpec.ofChange fnNewDeleteShareGroupOffsetsResponseSpec)

/-- ITS FALSE NEIGHBOUR: 'it returns false'. Refute it at one input. -/
def fnNewDeleteShareGroupOffsetsResponseWrong : ChangeSpec := { name := "fnNewDeleteShareGroupOffsetsResponse", fn := fun _ => fun
  | [d] => { results := [.lit (.bool false)], args := [d] }
  | _ => none }
def FnNewDeleteShareGroupOffsetsResponseWrongFalsely : Prop := fnNewDeleteShareGroupOffsetsResponseRow.holds Try.pinned (OpenSpec.ofChange fnNewDeleteShareGroupOffsetsResponseWrong)

/-- 'laws.FnNewCreateDelegationTokenRequest': WHATEVER THE INPUT: true; the input reads as it did. -/
def fnNewCreateDelegationTokenRequestSpec : ChangeSpec := { name := "fnNewCreateDelegationTokenRequest", fn := fun _ => fun
  | [d] => { results := [.lit (.bool true)], args := [d] }
  | _ => none }
def fnNewCreateDelegationTokenRequestRow : OpenClaim := { program := "ytioodpjcpadkoaa", sum := "82f8cb32fda6016431694a1cdc1688fa70ec9d4d3d611071744f1d23cb7a9991", func := "pub-kmsg/laws.FnNewCreateDelegationTokenRequest", spec := "fnNewCreateDelegationTokenRequest", inPlace := ["internal/reflectlite.ValueOf", "internal/reflectlite.Swapper", "(internal/reflectlite.Value).Len"], unfollowed := true, recurses := true, apart := false }
def FnNewCreateDelegationTokenRequestSaid : Prop := fnNewCreateDelegationTokenRequestRow.holds Try.pinned (OpenSpec.ofChange fnNewCreateDelegationTokenRequestSpec)

/-- ITS FALSE NEIGHBOUR: 'it returns false'. Refute it at one input. -/
def fnNewCreateDelegationTokenRequestWrong : ChangeSpec := { name := "fnNewCreateDelegationTokenRequest", fn := fun _ => fun
  | [d] => { results := [.lit (.bool false)], args := [d] }
  | _ => none }
def FnNewCreateDelegationTokenRequestWrongFalsely : Prop := fnNewCreateDelegationTokenRequestRow.holds Try.pinned (OpenSpec.ofChange fnNewCreateDelegationTokenRequestWrong)

/-- 'laws.FnNewVoteResponse': WHATEVER THE INPUT: true; the input reads as it did. -/
def fnNewVoteResponseSpec : ChangeSpec := { name := "fnNewVoteResponse", fn := fun _ => fun
  | [d] => { results := [.lit (.bool true)], args := [d] }
  | _ => none }
def fnNewVoteResponseRow : OpenClaim := { program := "ytioodpjcpadkoaa", sum := "82f8cb32fda6016431694a1cdc1688fa70ec9d4d3d611071744f1d23cb7a9991", func := "pub-kmsg/laws.FnNewVoteResponse", spec := "fnNewVoteResponse", inPlace := ["internal/reflectlite.ValueOf", "internal/reflectlite.Swapper", "(internal/reflectlite.Value).Len"], unfollowed := true, recurses := true, apart := false }
def FnNewVoteResponseSaid : Prop := fnNewVoteResponseRow.holds Try.pinned (OpenSpec.ofChange fnNewVoteResponseSpec)

/-- ITS FALSE NEIGHBOUR: 'it returns false'. Refute it at one input. -/
def fnNewVoteResponseWrong : ChangeSpec := { name := "fnNewVoteResponse", fn := fun _ => fun
  | [d] => { results := [.lit (.bool false)], args := [d] }
  | _ => none }
def FnNewVoteResponseWrongFalsely : Prop := fnNewVoteResponseRow.holds Try.pinned (OpenSpec.ofChange fnNewVoteResponseWrong)

/-- 'laws.FnNewAddPartitionsToTxnResponse': WHATEVER THE INPUT: true; the input reads as it did. -/
def fnNewAddPartitionsToTxnResponseSpec : ChangeSpec := { name := "fnNewAddPartitionsToTxnResponse", fn := fun _ => fun
  | [d] => { results := [.lit (.bool true)], args := [d] }
  | _ => none }
def fnNewAddPartitionsToTxnResponseRow : OpenClaim := { program := "ytioodpjcpadkoaa", sum := "82f8cb32fda6016431694a1cdc1688fa70ec9d4d3d611071744f1d23cb7a9991", func := "pub-kmsg/laws.FnNewAddPartitionsToTxnResponse", spec := "fnNewAddPartitionsToTxnResponse", inPlace := ["internal/reflectlite.ValueOf", "internal/reflectlite.Swapper", "(internal/reflectlite.Value).Len"], unfollowed := true, recurses := true, apart := false }
def FnNewAddPartitionsToTxnResponseSaid : Prop := fnNewAddPartitionsToTxnResponseRow.holds Try.pinned (OpenSpec.ofChange fnNewAddPartitionsToTxnResponseSpec)

/-- ITS FALSE NEIGHBOUR: 'it returns false'. Refute it at one input. -/
def fnNewAddPartitionsToTxnResponseWrong : ChangeSpec := { name := "fnNewAddPartitionsToTxnResponse", fn := fun _ => fun
  | [d] => { results := [.lit (.bool false)], args := [d] }
  | _ => none }
def FnNewAddPartitionsToTxnResponseWrongFalsely : Prop := fnNewAddPartitionsToTxnResponseRow.holds Try.pinned (OpenSpec.ofChange fnNewAddPartitionsToTxnResponseWrong)

/-- 'laws.FnNewTxnOffsetCommitRequest': WHATEVER THE INPUT: true; the input reads as it did. -/
def fnNewTxnOffsetCommitRequestSpec : ChangeSpec := { name := "fnNewTxnOffsetCommitRequest", fn := fun _ => fun
  | [d] => { results := [.lit (.bool true)], args := [d] }
  | _ => none }
def fnNewTxnOffsetCommitRequestRow : OpenClaim := { program := "ytioodpjcpadkoaa", sum := "82f8cb32fda6016431694a1cdc1688fa70ec9d4d3d611071744f1d23cb7a9991", func := "pub-kmsg/laws.FnNewTxnOffsetCommitRequest", spec := "fnNewTxnOffsetCommitRequest", inPlace := ["internal/reflectlite.ValueOf", "internal/reflectlite.Swapper", "(internal/reflectlite.Value).Len"], unfollowed := true, recurses := true, apart := false }
def FnNewTxnOffsetCommitRequestSaid : Prop := fnNewTxnOffsetCommitRequestRow.holds Try.pinned (OpenSpec.ofChange fnNewTxnOffsetCommitRequestSpec)

/-- ITS FALSE NEIGHBOUR: 'it returns false'. Refute it at one input. -/
def fnNewTxnOffsetCommitRequestWrong : ChangeSpec := { name := "fnNewTxnOffsetCommitRequest", fn := fun _ => fun
  | [d] => { results := [.lit (.bool false)], args := [d] }
  | _ => none }
def FnNewTxnOffsetCommitRequestWrongFalsely : Prop := fnNewTxnOffsetCommitRequestRow.holds Try.pinned (OpenSpec.ofChange fnNewTxnOffsetCommitRequestWrong)

/- THE SECOND FORM. 'bulk': how many values and letters a reading holds, each counted each time it is reached (what is shared counts as often as it is met; a slice's spare places count too). A statement '..UptoSaid' is the law's where the arguments, and the package variables that the reading takes, are together of bulk at most 1048576: NARROWER than '..Said'. Prove '..Said' where nothing that the law and all that it calls make is longer than what came in: it says more and counts as full. Else prove '..UptoSaid'. A law counts once. -/
mutual
def uptoBulk {H : Type} : DataW H → Nat
  | .lit (.string bytes) => bytes.length + 1
  | .lit _ => 1
  | .nil => 1
  | .ptr d => uptoBulk d + 1
  | .slice elems spare => uptoBulkAll elems + uptoBulkAll spare + 1
  | .agg parts => uptoBulkAll parts + 1
  | .iface _ d => uptoBulk d + 1
  | .map entries => uptoBulkEntries entries + 1
  | .held _ => 1
def uptoBulkAll {H : Type} : List (DataW H) → Nat
  | [] => 0
  | d :: r => uptoBulk d + uptoBulkAll r
def uptoBulkEntries {H : Type} : List (Lit × DataW H) → Nat
  | [] => 0
  | x :: r => uptoBulkEntry x + uptoBulkEntries r
def uptoBulkEntry {H : Type} : Lit × DataW H → Nat
  | (.string bytes, d) => bytes.length + uptoBulk d + 1
  | (_, d) => uptoBulk d + 1
 end
def uptoSmall : (H : Type) → List (DataW H) → Bool := fun _ ds => decide (uptoBulkAll ds ≤ 1048576)
def OpenSpec.upto (s : _root_.Go.ChangeSpec) : _root_.Go.OpenSpec := { _root_.Go.OpenSpec.ofChange s with cond := some uptoSmall }

/-- 'laws.FnNewExpireDelegationTokenRequest', WHERE WHAT IT READS IS OF BULK AT MOST 1048576: true; the input reads as it did. -/
def fnNewExpireDelegationTokenRequestUptoRow : OpenClaim := { program := "ytioodpjcpadkoaa", sum := "82f8cb32fda6016431694a1cdc1688fa70ec9d4d3d611071744f1d23cb7a9991", func := "pub-kmsg/laws.FnNewExpireDelegationTokenRequest", spec := "fnNewExpireDelegationTokenRequest", inPlace := ["internal/reflectlite.ValueOf", "internal/reflectlite.Swapper", "(internal/reflectlite.Value).Len"], unfollowed := true, recurses := true, apart := false, narrowed := true }
def FnNewExpireDelegationTokenRequestUptoSaid : Prop := fnNewExpireDelegationTokenRequestUptoRow.holds Try.pinned (OpenSpec.upto fnNewExpireDelegationTokenRequestSpec)

/-- 'laws.FnNewBrokerHeartbeatResponse', WHERE WHAT IT READS IS OF BULK AT MOST 1048576: true; the input reads as it did. -/
def fnNewBrokerHeartbeatResponseUptoRow : OpenClaim := { program := "ytioodpjcpadkoaa", sum := "82f8cb32fda6016431694a1cdc1688fa70ec9d4d3d611071744f1d23cb7a9991", func := "pub-kmsg/laws.FnNewBrokerHeartbeatResponse", spec := "fnNewBrokerHeartbeatResponse", inPlace := ["internal/reflectlite.ValueOf", "internal/reflectlite.Swapper", "(internal/reflectlite.Value).Len"], unfollowed := true, recurses := true, apart := false, narrowed := true }
def FnNewBrokerHeartbeatResponseUptoSaid : Prop := fnNewBrokerHeartbeatResponseUptoRow.holds Try.pinned (OpenSpec.upto fnNewBrokerHeartbeatResponseSpec)

/-- 'laws.FnNewRemoveRaftVoterRequest', WHERE WHAT IT READS IS OF BULK AT MOST 1048576: true; the input reads as it did. -/
def fnNewRemoveRaftVoterRequestUptoRow : OpenClaim := { program := "ytioodpjcpadkoaa", sum := "82f8cb32fda6016431694a1cdc1688fa70ec9d4d3d611071744f1d23cb7a9991", func := "pub-kmsg/laws.FnNewRemoveRaftVoterRequest", spec := "fnNewRemoveRaftVoterRequest", inPlace := ["internal/reflectlite.ValueOf", "internal/reflectlite.Swapper", "(internal/reflectlite.Value).Len"], unfollowed := true, recurses := true, apart := false, narrowed := true }
def FnNewRemoveRaftVoterRequestUptoSaid : Prop := fnNewRemoveRaftVoterRequestUptoRow.holds Try.pinned (OpenSpec.upto fnNewRemoveRaftVoterRequestSpec)

/-- 'laws.FnNewListGroupsRequest', WHERE WHAT IT READS IS OF BULK AT MOST 1048576: true; the input reads as it did. -/
def fnNewListGroupsRequestUptoRow : OpenClaim := { program := "ytioodpjcpadkoaa", sum := "82f8cb32fda6016431694a1cdc1688fa70ec9d4d3d611071744f1d23cb7a9991", func := "pub-kmsg/laws.FnNewListGroupsRequest", spec := "fnNewListGroupsRequest", inPlace := ["internal/reflectlite.ValueOf", "internal/reflectlite.Swapper", "(internal/reflectlite.Value).Len"], unfollowed := true, recurses := true, apart := false, narrowed := true }
def FnNewListGroupsRequestUptoSaid : Prop := fnNewListGroupsRequestUptoRow.holds Try.pinned (OpenSpec.upto fnNewListGroupsRequestSpec)

/-- 'laws.FnNewDescribeDelegationTokenRequest', WHERE WHAT IT READS IS OF BULK AT MOST 1048576: true; the input reads as it did. -/
def fnNewDescribeDelegationTokenRequestUptoRow : OpenClaim := { program := "ytioodpjcpadkoaa", sum := "82f8cb32fda6016431694a1cdc1688fa70ec9d4d3d611071744f1d23cb7a9991", func := "pub-kmsg/laws.FnNewDescribeDelegationTokenRequest", spec := "fnNewDescribeDelegationTokenRequest", inPlace := ["internal/reflectlite.ValueOf", "internal/reflectlite.Swapper", "(internal/reflectlite.Value).Len"], unfollowed := true, recurses := true, apart := false, narrowed := true }
def FnNewDescribeDelegationTokenRequestUptoSaid : Prop := fnNewDescribeDelegationTokenRequestUptoRow.holds Try.pinned (OpenSpec.upto fnNewDescribeDelegationTokenRequestSpec)

/-- 'laws.FnNewAlterReplicaLogDirsRequest', WHERE WHAT IT READS IS OF BULK AT MOST 1048576: true; the input reads as it did. -/
def fnNewAlterReplicaLogDirsRequestUptoRow : OpenClaim := { program := "ytioodpjcpadkoaa", sum := "82f8cb32fda6016431694a1cdc1688fa70ec9d4d3d611071744f1d23cb7a9991", func := "pub-kmsg/laws.FnNewAlterReplicaLogDirsRequest", spec := "fnNewAlterReplicaLogDirsRequest", inPlace := ["internal/reflectlite.ValueOf", "internal/reflectlite.Swapper", "(internal/reflectlite.Value).Len"], unfollowed := true, recurses := true, apart := false, narrowed := true }
def FnNewAlterReplicaLogDirsRequestUptoSaid : Prop := fnNewAlterReplicaLogDirsRequestUptoRow.holds Try.pinned (OpenSpec.upto fnNewAlterReplicaLogDirsRequestSpec)

/-- 'laws.FnNewIncrementalAlterConfigsResponse', WHERE WHAT IT READS IS OF BULK AT MOST 1048576: true; the input reads as it did. -/
def fnNewIncrementalAlterConfigsResponseUptoRow : OpenClaim := { program := "ytioodpjcpadkoaa", sum := "82f8cb32fda6016431694a1cdc1688fa70ec9d4d3d611071744f1d23cb7a9991", func := "pub-kmsg/laws.FnNewIncrementalAlterConfigsResponse", spec := "fnNewIncrementalAlterConfigsResponse", inPlace := ["internal/reflectlite.ValueOf", "internal/reflectlite.Swapper", "(internal/reflectlite.Value).Len"], unfollowed := true, recurses := true, apart := false, narrowed := true }
def FnNewIncrementalAlterConfigsResponseUptoSaid : Prop := fnNewIncrementalAlterConfigsResponseUptoRow.holds Try.pinned (OpenSpec.upto fnNewIncrementalAlterConfigsResponseSpec)

/-- 'laws.FnNewDeleteShareGroupOffsetsResponse', WHERE WHAT IT READS IS OF BULK AT MOST 1048576: true; the input reads as it did. -/
def fnNewDeleteShareGroupOffsetsResponseUptoRow : OpenClaim := { program := "ytioodpjcpadkoaa", sum := "82f8cb32fda6016431694a1cdc1688fa70ec9d4d3d611071744f1d23cb7a9991", func := "pub-kmsg/laws.FnNewDeleteShareGroupOffsetsResponse", spec := "fnNewDeleteShareGroupOffsetsResponse", inPlace := ["internal/reflectlite.ValueOf", "internal/reflectlite.Swapper", "(internal/reflectlite.Value).Len"], unfollowed := true, recurses := true, apart := false, narrowed := true }
def FnNewDeleteShareGroupOffsetsResponseUptoSaid : Prop := fnNewDeleteShareGroupOffsetsResponseUptoRow.holds Try.pinned (OpenSpec.upto fnNewDeleteShareGroupOffsetsResponseSpec)

/-- 'laws.FnNewCreateDelegationTokenRequest', WHERE WHAT IT READS IS OF BULK AT MOST 1048576: true; the input reads as it did. -/
def fnNewCreateDelegationTokenRequestUptoRow : OpenClaim := { program := "ytioodpjcpadkoaa", sum := "82f8cb32fda6016431694a1cdc1688fa70ec9d4d3d611071744f1d23cb7a9991", func := "pub-kmsg/laws.FnNewCreateDelegationTokenRequest", spec := "fnNewCreateDelegationTokenRequest", inPlace := ["internal/reflectlite.ValueOf", "internal/reflectlite.Swapper", "(internal/reflectlite.Value).Len"], unfollowed := true, recurses := true, apart := false, narrowed := true }
def FnNewCreateDelegationTokenRequestUptoSaid : Prop := fnNewCreateDelegationTokenRequestUptoRow.holds Try.pinned (OpenSpec.upto fnNewCreateDelegationTokenRequestSpec)

/-- 'laws.FnNewVoteResponse', WHERE WHAT IT READS IS OF BULK AT MOST 1048576: true; the input reads as it did. -/
def fnNewVoteResponseUptoRow : OpenClaim := { program := "ytioodpjcpadkoaa", sum := "82f8cb32fda6016431694a1cdc1688fa70ec9d4d3d611071744f1d23cb7a9991", func := "pub-kmsg/laws.FnNewVoteResponse", spec := "fnNewVoteResponse", inPlace := ["internal/reflectlite.ValueOf", "internal/reflectlite.Swapper", "(internal/reflectlite.Value).Len"], unfollowed := true, recurses := true, apart := false, narrowed := true }
def FnNewVoteResponseUptoSaid : Prop := fnNewVoteResponseUptoRow.holds Try.pinned (OpenSpec.upto fnNewVoteResponseSpec)

/-- 'laws.FnNewAddPartitionsToTxnResponse', WHERE WHAT IT READS IS OF BULK AT MOST 1048576: true; the input reads as it did. -/
def fnNewAddPartitionsToTxnResponseUptoRow : OpenClaim := { program := "ytioodpjcpadkoaa", sum := "82f8cb32fda6016431694a1cdc1688fa70ec9d4d3d611071744f1d23cb7a9991", func := "pub-kmsg/laws.FnNewAddPartitionsToTxnResponse", spec := "fnNewAddPartitionsToTxnResponse", inPlace := ["internal/reflectlite.ValueOf", "internal/reflectlite.Swapper", "(internal/reflectlite.Value).Len"], unfollowed := true, recurses := true, apart := false, narrowed := true }
def FnNewAddPartitionsToTxnResponseUptoSaid : Prop := fnNewAddPartitionsToTxnResponseUptoRow.holds Try.pinned (OpenSpec.upto fnNewAddPartitionsToTxnResponseSpec)

/-- 'laws.FnNewTxnOffsetCommitRequest', WHERE WHAT IT READS IS OF BULK AT MOST 1048576: true; the input reads as it did. -/
def fnNewTxnOffsetCommitRequestUptoRow : OpenClaim := { program := "ytioodpjcpadkoaa", sum := "82f8cb32fda6016431694a1cdc1688fa70ec9d4d3d611071744f1d23cb7a9991", func := "pub-kmsg/laws.FnNewTxnOffsetCommitRequest", spec := "fnNewTxnOffsetCommitRequest", inPlace := ["internal/reflectlite.ValueOf", "internal/reflectlite.Swapper", "(internal/reflectlite.Value).Len"], unfollowed := true, recurses := true, apart := false, narrowed := true }
def FnNewTxnOffsetCommitRequestUptoSaid : Prop := fnNewTxnOffsetCommitRequestUptoRow.holds Try.pinned (OpenSpec.upto fnNewTxnOffsetCommitRequestSpec)

end Rows
end Go.Proofs.Ytioodpjcpadkoaa
