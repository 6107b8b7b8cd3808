/-
  NARROWER THAN 'FOR EVERY INPUT', by the rows' own cells (each row's printed sentence says how): FnAgainListTransactionsRequest: loops, laid · FnAgainElectLeadersResponse: loops, laid · FnAgainAlterClientQuotasResponse: loops, laid · FnAgainDeleteACLsRequest: loops, laid · FnAgainConsumerGroupHeartbeatResponse: loops, laid · FnCutUpdateRaftVoterRequest: loops, laid · FnCutAlterPartitionAssignmentsResponse: loops, laid · FnCutDescribeClusterResponse: loops, laid.
  DERIVED. THE GIVEN ROWS OF THIS SEAT. 8 by the template 'for every input the law returns true; each argument reads behind the call as it read before'; 0 by the template 'total and deterministic' (their statements: YtjcndcolfllibaaGreatDoorTotals.lean).
  GIVEN WITH THE SEED: the statements are not yours to turn. If you find one false, say at which input.
  Laid BY PROGRAM, IN A SANDBOX (cutbox-rows.mjs): the forced cells as the released guide's own fill.sh prints them over the translation b98f2603ef58ef79… (all of the seat's roots in one cut). By AI agents, Wed Nov 11 2026. No macro, syntax, notation, axiom, sorry.
-/
import Derived.Test.YtjcndcolfllibaaGreatDoorChecked
import GoSem.Claim
import GoSem.ClaimJoined
import GoSem.ClaimMapViews
import Derived.JoinedTies
import Derived.KernelRfl
namespace Go.Proofs.YtjcndcolfllibaaGreatDoor
/- THE CELL 'sum', in the pinned program and in every row, IS THE sha256 OF THE DUMP (.gsa) THAT YtjcndcolfllibaaGreatDoorProg.lean LOADS. Nothing in Lean hashes anything: it is a label: what it is worth is what the hold of that sum in a sandbox is worth. -/
noncomputable def Tryz.pinned : Pinned := { name := "ytjcndcolfllibaagreatdoor", sum := "b98f2603ef58ef79bb4f47e827f2b08f841dec3717245f9fd852c8a3e777ad74", checked := Tryz.checked }
namespace Rows
def none {H : Type} : Left H := { results := [], args := [] }

/- WHAT THE LISTED PACKAGE-LEVEL VARIABLES READ AS WHEN THE CALL BEGINS. Each datum BY PROGRAM (the guide's laid-datum.mjs) off the statement by which the dump's own 'gosem.cut.vars' lays the variable. In a bare row this is a premise. The card (YtjcndcolfllibaaGreatDoorCards.lean) ties it to the program's text. -/
def laid_pub_kmsg_pub_kmsg_inner_kbin_ErrNotEnoughData {H : Type} : DataW H := .iface "*errors.errorString" (.ptr (.agg [.lit (.string [114, 101, 115, 112, 111, 110, 115, 101, 32, 100, 105, 100, 32, 110, 111, 116, 32, 99, 111, 110, 116, 97, 105, 110, 32, 101, 110, 111, 117, 103, 104, 32, 100, 97, 116, 97, 32, 116, 111, 32, 98, 101, 32, 118, 97, 108, 105, 100])]))

/-- 'laws.FnAgainListTransactionsRequest': WHATEVER THE INPUT: true; the input reads as it did. -/
def fnAgainListTransactionsRequestSpec : ChangeSpec := { name := "fnAgainListTransactionsRequest", fn := fun _ => fun
  | [d1, d2] => { results := [.lit (.bool true)], args := [d1, d2] }
  | _ => none }
def fnAgainListTransactionsRequestRow : OpenClaim := { program := "ytjcndcolfllibaagreatdoor", sum := "b98f2603ef58ef79bb4f47e827f2b08f841dec3717245f9fd852c8a3e777ad74", func := "pub-kmsg/laws.FnAgainListTransactionsRequest", spec := "fnAgainListTransactionsRequest", inPlace := ["internal/reflectlite.ValueOf", "internal/reflectlite.Swapper", "(internal/reflectlite.Value).Len"], unfollowed := true, recurses := true, named := ["encoding/binary.BigEndian", "pub-kmsg/pub/kmsg/inner/kbin.ErrNotEnoughData"], loops := true, apart := false, laid := [("pub-kmsg/pub/kmsg/inner/kbin.ErrNotEnoughData", laid_pub_kmsg_pub_kmsg_inner_kbin_ErrNotEnoughData)] }
def FnAgainListTransactionsRequestSaid : Prop := fnAgainListTransactionsRequestRow.holds Tryz.pinned (OpenSpec.ofChange fnAgainListTransactionsRequestSpec)

/-- ITS FALSE NEIGHBOUR: 'it returns false'. Refute it at one input. -/
def fnAgainListTransactionsRequestWrong : ChangeSpec := { name := "fnAgainListTransactionsRequest", fn := fun _ => fun
  | [d1, d2] => { results := [.lit (.bool false)], args := [d1, d2] }
  | _ => none }
def FnAgainListTransactionsRequestWrongFalsely : Prop := fnAgainListTransactionsRequestRow.holds Tryz.pinned (OpenSpec.ofChange fnAgainListTransactionsRequestWrong)

/-- 'laws.FnAgainElectLeadersResponse': WHATEVER THE INPUT: true; the input reads as it did. -/
def fnAgainElectLeadersResponseSpec : ChangeSpec := { name := "fnAgainElectLeadersResponse", fn := fun _ => fun
  | [d1, d2] => { results := [.lit (.bool true)], args := [d1, d2] }
  | _ => none }
def fnAgainElectLeadersResponseRow : OpenClaim := { program := "ytjcndcolfllibaagreatdoor", sum := "b98f2603ef58ef79bb4f47e827f2b08f841dec3717245f9fd852c8a3e777ad74", func := "pub-kmsg/laws.FnAgainElectLeadersResponse", spec := "fnAgainElectLeadersResponse", inPlace := ["internal/reflectlite.ValueOf", "internal/reflectlite.Swapper", "(internal/reflectlite.Value).Len"], unfollowed := true, recurses := true, named := ["encoding/binary.BigEndian", "pub-kmsg/pub/kmsg/inner/kbin.ErrNotEnoughData"], loops := true, apart := false, laid := [("pub-kmsg/pub/kmsg/inner/kbin.ErrNotEnoughData", laid_pub_kmsg_pub_kmsg_inner_kbin_ErrNotEnoughData)] }
def FnAgainElectLeadersResponseSaid : Prop := fnAgainElectLeadersResponseRow.holds Tryz.pinned (OpenSpec.ofChange fnAgainElectLeadersResponseSpec)

/-- ITS FALSE NEIGHBOUR: 'it returns false'. Refute it at one input. -/
def fnAgainElectLeadersResponseWrong : ChangeSpec := { name := "fnAgainElectLeadersResponse", fn := fun _ => fun
  | [d1, d2] => { results := [.lit (.bool false)], args := [d1, d2] }
  | _ => none }
def FnAgainElectLeadersResponseWrongFalsely : Prop := fnAgainElectLeadersResponseRow.holds Tryz.pinned (OpenSpec.ofChange fnAgainElectLeadersResponseWrong)

/-- 'laws.FnAgainAlterClientQuotasResponse': WHATEVER THE INPUT: true; the input reads as it did. -/
def fnAgainAlterClientQuotasResponseSpec : ChangeSpec := { name := "fnAgainAlterClientQuotasResponse", fn := fun _ => fun
  | [d1, d2] => { results := [.lit (.bool true)], args := [d1, d2] }
  | _ => none }
def fnAgainAlterClientQuotasResponseRow : OpenClaim := { program := "ytjcndcolfllibaagreatdoor", sum := "b98f2603ef58ef79bb4f47e827f2b08f841dec3717245f9fd852c8a3e777ad74", func := "pub-kmsg/laws.FnAgainAlterClientQuotasResponse", spec := "fnAgainAlterClientQuotasResponse", inPlace := ["internal/reflectlite.ValueOf", "internal/reflectlite.Swapper", "(internal/reflectlite.Value).Len"], unfollowed := true, recurses := true, named := ["encoding/binary.BigEndian", "pub-kmsg/pub/kmsg/inner/kbin.ErrNotEnoughData"], loops := true, apart := false, laid := [("pub-kmsg/pub/kmsg/inner/kbin.ErrNotEnoughData", laid_pub_kmsg_pub_kmsg_inner_kbin_ErrNotEnoughData)] }
def FnAgainAlterClientQuotasResponseSaid : Prop := fnAgainAlterClientQuotasResponseRow.holds Tryz.pinned (OpenSpec.ofChange fnAgainAlterClientQuotasResponseSpec)

/-- ITS FALSE NEIGHBOUR: 'it returns false'. Refute it at one input. -/
def fnAgainAlterClientQuotasResponseWrong : ChangeSpec := { name := "fnAgainAlterClientQuotasResponse", fn := fun _ => fun
  | [d1, d2] => { results := [.lit (.bool false)], args := [d1, d2] }
  | _ => none }
def FnAgainAlterClientQuotasResponseWrongFalsely : Prop := fnAgainAlterClientQuotasResponseRow.holds Tryz.pinned (OpenSpec.ofChange fnAgainAlterClientQuotasResponseWrong)

/-- 'laws.FnAgainDeleteACLsRequest': WHATEVER THE INPUT: true; the input reads as it did. -/
def fnAgainDeleteACLsRequestSpec : ChangeSpec := { name := "fnAgainDeleteACLsRequest", fn := fun _ => fun
  | [d1, d2] => { results := [.lit (.bool true)], args := [d1, d2] }
  | _ => none }
def fnAgainDeleteACLsRequestRow : OpenClaim := { program := "ytjcndcolfllibaagreatdoor", sum := "b98f2603ef58ef79bb4f47e827f2b08f841dec3717245f9fd852c8a3e777ad74", func := "pub-kmsg/laws.FnAgainDeleteACLsRequest", spec := "fnAgainDeleteACLsRequest", inPlace := ["internal/reflectlite.ValueOf", "internal/reflectlite.Swapper", "(internal/reflectlite.Value).Len"], unfollowed := true, recurses := true, named := ["encoding/binary.BigEndian", "pub-kmsg/pub/kmsg/inner/kbin.ErrNotEnoughData"], loops := true, apart := false, laid := [("pub-kmsg/pub/kmsg/inner/kbin.ErrNotEnoughData", laid_pub_kmsg_pub_kmsg_inner_kbin_ErrNotEnoughData)] }
def FnAgainDeleteACLsRequestSaid : Prop := fnAgainDeleteACLsRequestRow.holds Tryz.pinned (OpenSpec.ofChange fnAgainDeleteACLsRequestSpec)

/-- ITS FALSE NEIGHBOUR: 'it returns false'. Refute it at one input. -/
def fnAgainDeleteACLsRequestWrong : ChangeSpec := { name := "fnAgainDeleteACLsRequest", fn := fun _ => fun
  | [d1, d2] => { results := [.lit (.bool false)], args := [d1, d2] }
  | _ => none }
def FnAgainDeleteACLsRequestWrongFalsely : Prop := fnAgainDeleteACLsRequestRow.holds Tryz.pinned (OpenSpec.ofChange fnAgainDeleteACLsRequestWrong)

/-- 'laws.FnAgainConsumerGroupHeartbeatResponse': WHATEVER THE INPUT: true; the input reads as it did. -/
def fnAgainConsumerGroupHeartbeatResponseSpec : ChangeSpec := { name := "fnAgainConsumerGroupHeartbeatResponse", fn := fun _ => fun
  | [d1, d2] => { results := [.lit (.bool true)], args := [d1, d2] }
  | _ => none }
def fnAgainConsumerGroupHeartbeatResponseRow : OpenClaim := { program := "ytjcndcolfllibaagreatdoor", sum := "b98f2603ef58ef79bb4f47e827f2b08f841dec3717245f9fd852c8a3e777ad74", func := "pub-kmsg/laws.FnAgainConsumerGroupHeartbeatResponse", spec := "fnAgainConsumerGroupHeartbeatResponse", inPlace := ["internal/reflectlite.ValueOf", "internal/reflectlite.Swapper", "(internal/reflectlite.Value).Len"], unfollowed := true, recurses := true, named := ["encoding/binary.BigEndian", "pub-kmsg/pub/kmsg/inner/kbin.ErrNotEnoughData"], loops := true, apart := false, laid := [("pub-kmsg/pub/kmsg/inner/kbin.ErrNotEnoughData", laid_pub_kmsg_pub_kmsg_inner_kbin_ErrNotEnoughData)] }
def FnAgainConsumerGroupHeartbeatResponseSaid : Prop := fnAgainConsumerGroupHeartbeatResponseRow.holds Tryz.pinned (OpenSpec.ofChange fnAgainConsumerGroupHeartbeatResponseSpec)

/-- ITS FALSE NEIGHBOUR: 'it returns false'. Refute it at one input. -/
def fnAgainConsumerGroupHeartbeatResponseWrong : ChangeSpec := { name := "fnAgainConsumerGroupHeartbeatResponse", fn := fun _ => fun
  | [d1, d2] => { results := [.lit (.bool false)], args := [d1, d2] }
  | _ => none }
def FnAgainConsumerGroupHeartbeatResponseWrongFalsely : Prop := fnAgainConsumerGroupHeartbeatResponseRow.holds Tryz.pinned (OpenSpec.ofChange fnAgainConsumerGroupHeartbeatResponseWrong)

/-- 'laws.FnCutUpdateRaftVoterRequest': WHATEVER THE INPUT: true; the input reads as it did. -/
def fnCutUpdateRaftVoterRequestSpec : ChangeSpec := { name := "fnCutUpdateRaftVoterRequest", fn := fun _ => fun
  | [d1, d2, d3] => { results := [.lit (.bool true)], args := [d1, d2, d3] }
  | _ => none }
def fnCutUpdateRaftVoterRequestRow : OpenClaim := { program := "ytjcndcolfllibaagreatdoor", sum := "b98f2603ef58ef79bb4f47e827f2b08f841dec3717245f9fd852c8a3e777ad74", func := "pub-kmsg/laws.FnCutUpdateRaftVoterRequest", spec := "fnCutUpdateRaftVoterRequest", inPlace := ["internal/reflectlite.ValueOf", "internal/reflectlite.Swapper", "(internal/reflectlite.Value).Len"], unfollowed := true, recurses := true, named := ["encoding/binary.BigEndian", "pub-kmsg/pub/kmsg/inner/kbin.ErrNotEnoughData"], loops := true, apart := false, laid := [("pub-kmsg/pub/kmsg/inner/kbin.ErrNotEnoughData", laid_pub_kmsg_pub_kmsg_inner_kbin_ErrNotEnoughData)] }
def FnCutUpdateRaftVoterRequestSaid : Prop := fnCutUpdateRaftVoterRequestRow.holds Tryz.pinned (OpenSpec.ofChange fnCutUpdateRaftVoterRequestSpec)

/-- ITS FALSE NEIGHBOUR: 'it returns false'. Refute it at one input. -/
def fnCutUpdateRaftVoterRequestWrong : ChangeSpec := { name := "fnCutUpdateRaftVoterRequest", fn := fun _ => fun
  | [d1, d2, d3] => { results := [.lit (.bool false)], args := [d1, d2, d3] }
  | _ => none }
def FnCutUpdateRaftVoterRequestWrongFalsely : Prop := fnCutUpdateRaftVoterRequestRow.holds Tryz.pinned (OpenSpec.ofChange fnCutUpdateRaftVoterRequestWrong)

/-- 'laws.FnCutAlterPartitionAssignmentsResponse': WHATEVER THE INPUT: true; the input reads as it did. -/
def fnCutAlterPartitionAssignmentsResponseSpec : ChangeSpec := { name := "fnCutAlterPartitionAssignmentsResponse", fn := fun _ => fun
  | [d1, d2, d3] => { results := [.lit (.bool true)], args := [d1, d2, d3] }
  | _ => none }
def fnCutAlterPartitionAssignmentsResponseRow : OpenClaim := { program := "ytjcndcolfllibaagreatdoor", sum := "b98f2603ef58ef79bb4f47e827f2b08f841dec3717245f9fd852c8a3e777ad74", func := "pub-kmsg/laws.FnCutAlterPartitionAssignmentsResponse", spec := "fnCutAlterPartitionAssignmentsResponse", inPlace := ["internal/reflectlite.ValueOf", "internal/reflectlite.Swapper", "(internal/reflectlite.Value).Len"], unfollowed := true, recurses := true, named := ["encoding/binary.BigEndian", "pub-kmsg/pub/kmsg/inner/kbin.ErrNotEnoughData"], loops := true, apart := false, laid := [("pub-kmsg/pub/kmsg/inner/kbin.ErrNotEnoughData", laid_pub_kmsg_pub_kmsg_inner_kbin_ErrNotEnoughData)] }
def FnCutAlterPartitionAssignmentsResponseSaid : Prop := fnCutAlterPartitionAssignmentsResponseRow.holds Tryz.pinned (OpenSpec.ofChange fnCutAlterPartitionAssignmentsResponseSpec)

/-- ITS FALSE NEIGHBOUR: 'it returns false'. Refute it at one input. -/
def fnCutAlterPartitionAssignmentsResponseWrong : ChangeSpec := { name := "fnCutAlterPartitionAssignmentsResponse", fn := fun _ => fun
  | [d1, d2, d3] => { results := [.lit (.bool false)], args := [d1, d2, d3] }
  | _ => none }
def FnCutAlterPartitionAssignmentsResponseWrongFalsely : Prop := fnCutAlterPartitionAssignmentsResponseRow.holds Tryz.pinned (OpenSpec.ofChange fnCutAlterPartitionAssignmentsResponseWrong)

/-- 'laws.FnCutDescribeClusterResponse': WHATEVER THE INPUT: true; the input reads as it did. -/
def fnCutDescribeClusterResponseSpec : ChangeSpec := { name := "fnCutDescribeClusterResponse", fn := fun _ => fun
  | [d1, d2, d3] => { results := [.lit (.bool true)], args := [d1, d2, d3] }
  | _ => none }
def fnCutDescribeClusterResponseRow : OpenClaim := { program := "ytjcndcolfllibaagreatdoor", sum := "b98f2603ef58ef79bb4f47e827f2b08f841dec3717245f9fd852c8a3e777ad74", func := "pub-kmsg/laws.FnCutDescribeClusterResponse", spec := "fnCutDescribeClusterResponse", inPlace := ["internal/reflectlite.ValueOf", "internal/reflectlite.Swapper", "(internal/reflectlite.Value).Len"], unfollowed := true, recurses := true, named := ["encoding/binary.BigEndian", "pub-kmsg/pub/kmsg/inner/kbin.ErrNotEnoughData"], loops := true, apart := false, laid := [("pub-kmsg/pub/kmsg/inner/kbin.ErrNotEnoughData", laid_pub_kmsg_pub_kmsg_inner_kbin_ErrNotEnoughData)] }
def FnCutDescribeClusterResponseSaid : Prop := fnCutDescribeClusterResponseRow.holds Tryz.pinned (OpenSpec.ofChange fnCutDescribeClusterResponseSpec)

/-- ITS FALSE NEIGHBOUR: 'it returns false'. Refute it at one input. -/
def fnCutDescribeClusterResponseWrong : ChangeSpec := { name := "fnCutDescribeClusterResponse", fn := fun _ => fun
  | [d1, d2, d3] => { results := [.lit (.bool false)], args := [d1, d2, d3] }
  | _ => none }
def FnCutDescribeClusterResponseWrongFalsely : Prop := fnCutDescribeClusterResponseRow.holds Tryz.pinned (OpenSpec.ofChange fnCutDescribeClusterResponseWrong)

/- THE SECOND FORM. 'bulk': how many values and letters a reading holds, each counted each time it is reached (what is shared counts as often as it is met; a slice's spare places count too). A statement '..UptoSaid' is the law's where the arguments, and the package variables that the reading takes, are together of bulk at most 1048576: NARROWER than '..Said'. Prove '..Said' where nothing that the law and all that it calls make is longer than what came in: it says more and counts as full. Else prove '..UptoSaid'. A law counts once. -/
mutual
def uptoBulk {H : Type} : DataW H → Nat
  | .lit (.string bytes) => bytes.length + 1
  | .lit _ => 1
  | .nil => 1
  | .ptr d => uptoBulk d + 1
  | .slice elems spare => uptoBulkAll elems + uptoBulkAll spare + 1
  | .agg parts => uptoBulkAll parts + 1
  | .iface _ d => uptoBulk d + 1
  | .map entries => uptoBulkEntries entries + 1
  | .held _ => 1
def uptoBulkAll {H : Type} : List (DataW H) → Nat
  | [] => 0
  | d :: r => uptoBulk d + uptoBulkAll r
def uptoBulkEntries {H : Type} : List (Lit × DataW H) → Nat
  | [] => 0
  | x :: r => uptoBulkEntry x + uptoBulkEntries r
def uptoBulkEntry {H : Type} : Lit × DataW H → Nat
  | (.string bytes, d) => bytes.length + uptoBulk d + 1
  | (_, d) => uptoBulk d + 1
 end
def uptoSmall : (H : Type) → List (DataW H) → Bool := fun _ ds => decide (uptoBulkAll ds ≤ 1048576)
def OpenSpec.upto (s : _root_.Go.ChangeSpec) : _root_.Go.OpenSpec := { _root_.Go.OpenSpec.ofChange s with cond := some uptoSmall }

/-- 'laws.FnAgainListTransactionsRequest', WHERE WHAT IT READS IS OF BULK AT MOST 1048576: true; the input reads as it did. -/
def fnAgainListTransactionsRequestUptoRow : OpenClaim := { program := "ytjcndcolfllibaagreatdoor", sum := "b98f2603ef58ef79bb4f47e827f2b08f841dec3717245f9fd852c8a3e777ad74", func := "pub-kmsg/laws.FnAgainListTransactionsRequest", spec := "fnAgainListTransactionsRequest", inPlace := ["internal/reflectlite.ValueOf", "internal/reflectlite.Swapper", "(internal/reflectlite.Value).Len"], unfollowed := true, recurses := true, named := ["encoding/binary.BigEndian", "pub-kmsg/pub/kmsg/inner/kbin.ErrNotEnoughData"], loops := true, apart := false, laid := [("pub-kmsg/pub/kmsg/inner/kbin.ErrNotEnoughData", laid_pub_kmsg_pub_kmsg_inner_kbin_ErrNotEnoughData)], narrowed := true }
def FnAgainListTransactionsRequestUptoSaid : Prop := fnAgainListTransactionsRequestUptoRow.holds Tryz.pinned (OpenSpec.upto fnAgainListTransactionsRequestSpec)

/-- 'laws.FnAgainElectLeadersResponse', WHERE WHAT IT READS IS OF BULK AT MOST 1048576: true; the input reads as it did. -/
def fnAgainElectLeadersResponseUptoRow : OpenClaim := { program := "ytjcndcolfllibaagreatdoor", sum := "b98f2603ef58ef79bb4f47e827f2b08f841dec3717245f9fd852c8a3e777ad74", func := "pub-kmsg/laws.FnAgainElectLeadersResponse", spec := "fnAgainElectLeadersResponse", inPlace := ["internal/reflectlite.ValueOf", "internal/reflectlite.Swapper", "(internal/reflectlite.Value).Len"], unfollowed := true, recurses := true, named := ["encoding/binary.BigEndian", "pub-kmsg/pub/kmsg/inner/kbin.ErrNotEnoughData"], loops := true, apart := false, laid := [("pub-kmsg/pub/kmsg/inner/kbin.ErrNotEnoughData", laid_pub_kmsg_pub_kmsg_inner_kbin_ErrNotEnoughData)], narrowed := true }
def FnAgainElectLeadersResponseUptoSaid : Prop := fnAgainElectLeadersResponseUptoRow.holds Tryz.pinned (OpenSpec.upto fnAgainElectLeadersResponseSpec)

/-- 'laws.FnAgainAlterClientQuotasResponse', WHERE WHAT IT READS IS OF BULK AT MOST 1048576: true; the input reads as it did. -/
def fnAgainAlterClientQuotasResponseUptoRow : OpenClaim := { program := "ytjcndcolfllibaagreatdoor", sum := "b98f2603ef58ef79bb4f47e827f2b08f841dec3717245f9fd852c8a3e777ad74", func := "pub-kmsg/laws.FnAgainAlterClientQuotasResponse", spec := "fnAgainAlterClientQuotasResponse", inPlace := ["internal/reflectlite.ValueOf", "internal/reflectlite.Swapper", "(internal/reflectlite.Value).Len"], unfollowed := true, recurses := true, named := ["encoding/binary.BigEndian", "pub-kmsg/pub/kmsg/inner/kbin.ErrNotEnoughData"], loops := true, apart := false, laid := [("pub-kmsg/pub/kmsg/inner/kbin.ErrNotEnoughData", laid_pub_kmsg_pub_kmsg_inner_kbin_ErrNotEnoughData)], narrowed := true }
def FnAgainAlterClientQuotasResponseUptoSaid : Prop := fnAgainAlterClientQuotasResponseUptoRow.holds Tryz.pinned (OpenSpec.upto fnAgainAlterClientQuotasResponseSpec)

/-- 'laws.FnAgainDeleteACLsRequest', WHERE WHAT IT READS IS OF BULK AT MOST 1048576: true; the input reads as it did. -/
def fnAgainDeleteACLsRequestUptoRow : OpenClaim := { program := "ytjcndcolfllibaagreatdoor", sum := "b98f2603ef58ef79bb4f47e827f2b08f841dec3717245f9fd852c8a3e777ad74", func := "pub-kmsg/laws.FnAgainDeleteACLsRequest", spec := "fnAgainDeleteACLsRequest", inPlace := ["internal/reflectlite.ValueOf", "internal/reflectlite.Swapper", "(internal/reflectlite.Value).Len"], unfollowed := true, recurses := true, named := ["encoding/binary.BigEndian", "pub-kmsg/pub/kmsg/inner/kbin.ErrNotEnoughData"], loops := true, apart := false, laid := [("pub-kmsg/pub/kmsg/inner/kbin.ErrNotEnoughData", laid_pub_kmsg_pub_kmsg_inner_kbin_ErrNotEnoughData)], narrowed := true }
def FnAgainDeleteACLsRequestUptoSaid : Prop := fnAgainDeleteACLsRequestUptoRow.holds Tryz.pinned (OpenSpec.upto fnAgainDeleteACLsRequestSpec)

/-- 'laws.FnAgainConsumerGroupHeartbeatResponse', WHERE WHAT IT READS IS OF BULK AT MOST 1048576: true; the input reads as it did. -/
def fnAgainConsumerGroupHeartbeatResponseUptoRow : OpenClaim := { program := "ytjcndcolfllibaagreatdoor", sum := "b98f2603ef58ef79bb4f47e827f2b08f841dec3717245f9fd852c8a3e777ad74", func := "pub-kmsg/laws.FnAgainConsumerGroupHeartbeatResponse", spec := "fnAgainConsumerGroupHeartbeatResponse", inPlace := ["internal/reflectlite.ValueOf", "internal/reflectlite.Swapper", "(internal/reflectlite.Value).Len"], unfollowed := true, recurses := true, named := ["encoding/binary.BigEndian", "pub-kmsg/pub/kmsg/inner/kbin.ErrNotEnoughData"], loops := true, apart := false, laid := [("pub-kmsg/pub/kmsg/inner/kbin.ErrNotEnoughData", laid_pub_kmsg_pub_kmsg_inner_kbin_ErrNotEnoughData)], narrowed := true }
def FnAgainConsumerGroupHeartbeatResponseUptoSaid : Prop := fnAgainConsumerGroupHeartbeatResponseUptoRow.holds Tryz.pinned (OpenSpec.upto fnAgainConsumerGroupHeartbeatResponseSpec)

/-- 'laws.FnCutUpdateRaftVoterRequest', WHERE WHAT IT READS IS OF BULK AT MOST 1048576: true; the input reads as it did. -/
def fnCutUpdateRaftVoterRequestUptoRow : OpenClaim := { program := "ytjcndcolfllibaagreatdoor", sum := "b98f2603ef58ef79bb4f47e827f2b08f841dec3717245f9fd852c8a3e777ad74", func := "pub-kmsg/laws.FnCutUpdateRaftVoterRequest", spec := "fnCutUpdateRaftVoterRequest", inPlace := ["internal/reflectlite.ValueOf", "internal/reflectlite.Swapper", "(internal/reflectlite.Value).Len"], unfollowed := true, recurses := true, named := ["encoding/binary.BigEndian", "pub-kmsg/pub/kmsg/inner/kbin.ErrNotEnoughData"], loops := true, apart := false, laid := [("pub-kmsg/pub/kmsg/inner/kbin.ErrNotEnoughData", laid_pub_kmsg_pub_kmsg_inner_kbin_ErrNotEnoughData)], narrowed := true }
def FnCutUpdateRaftVoterRequestUptoSaid : Prop := fnCutUpdateRaftVoterRequestUptoRow.holds Tryz.pinned (OpenSpec.upto fnCutUpdateRaftVoterRequestSpec)

/-- 'laws.FnCutAlterPartitionAssignmentsResponse', WHERE WHAT IT READS IS OF BULK AT MOST 1048576: true; the input reads as it did. -/
def fnCutAlterPartitionAssignmentsResponseUptoRow : OpenClaim := { program := "ytjcndcolfllibaagreatdoor", sum := "b98f2603ef58ef79bb4f47e827f2b08f841dec3717245f9fd852c8a3e777ad74", func := "pub-kmsg/laws.FnCutAlterPartitionAssignmentsResponse", spec := "fnCutAlterPartitionAssignmentsResponse", inPlace := ["internal/reflectlite.ValueOf", "internal/reflectlite.Swapper", "(internal/reflectlite.Value).Len"], unfollowed := true, recurses := true, named := ["encoding/binary.BigEndian", "pub-kmsg/pub/kmsg/inner/kbin.ErrNotEnoughData"], loops := true, apart := false, laid := [("pub-kmsg/pub/kmsg/inner/kbin.ErrNotEnoughData", laid_pub_kmsg_pub_kmsg_inner_kbin_ErrNotEnoughData)], narrowed := true }
def FnCutAlterPartitionAssignmentsResponseUptoSaid : Prop := fnCutAlterPartitionAssignmentsResponseUptoRow.holds Tryz.pinned (OpenSpec.upto fnCutAlterPartitionAssignmentsResponseSpec)

/-- 'laws.FnCutDescribeClusterResponse', WHERE WHAT IT READS IS OF BULK AT MOST 1048576: true; the input reads as it did. -/
def fnCutDescribeClusterResponseUptoRow : OpenClaim := { program := "ytjcndcolfllibaagreatdoor", sum := "b98f2603ef58ef79bb4f47e827f2b08f841dec3717245f9fd852c8a3e777ad74", func := "pub-kmsg/laws.FnCutDescribeClusterResponse", spec := "fnCutDescribeClusterResponse", inPlace := ["internal/reflectlite.ValueOf", "internal/reflectlite.Swapper", "(internal/reflectlite.Value).Len"], unfollowed := true, recurses := true, named := ["encoding/binary.BigEndian", "pub-kmsg/pub/kmsg/inner/kbin.ErrNotEnoughData"], loops := true, apart := false, laid := [("pub-kmsg/pub/kmsg/inner/kbin.ErrNotEnoughData", laid_pub_kmsg_pub_kmsg_inner_kbin_ErrNotEnoughData)], narrowed := true }
def FnCutDescribeClusterResponseUptoSaid : Prop := fnCutDescribeClusterResponseUptoRow.holds Tryz.pinned (OpenSpec.upto fnCutDescribeClusterResponseSpec)

end Rows
end Go.Proofs.YtjcndcolfllibaaGreatDoor
