/-
  NARROWER THAN 'FOR EVERY INPUT', by the rows' own cells (each row's printed sentence says how): FnCutHeartbeatRequest: loops, laid · FnAgainApiVersionsRequest: loops, laid · FnAgainFindCoordinatorRequest: loops, laid · FnAgainDescribeProducersRequest: loops, laid · FnAgainUpdateFeaturesRequest: loops, laid · FnCutLeaveGroupResponse: loops, laid · FnCutDeleteRecordsRequest: loops, laid · FnCutDescribeShareGroupOffsetsRequest: loops, laid.
  DERIVED. THE GIVEN ROWS OF THIS SEAT. 8 by the template 'for every input the law returns true; each argument reads behind the call as it read before'; 0 by the template 'total and deterministic' (their statements: YtdmdmnfdfkejbaaGreatDoorTotals.lean).
  GIVEN WITH THE SEED: the statements are not yours to turn. If you find one false, say at which input.
  Laid BY PROGRAM, IN A SANDBOX (cutbox-rows.mjs): the forced cells as the released guide's own fill.sh prints them over the translation be280f5ef7c32030… (all of the seat's roots in one cut). By AI agents, Wed Nov 11 2026. No macro, syntax, notation, axiom, sorry.
-/
import Derived.Test.YtdmdmnfdfkejbaaGreatDoorChecked
import GoSem.Claim
import GoSem.ClaimJoined
import GoSem.ClaimMapViews
import Derived.JoinedTies
import Derived.KernelRfl
namespace Go.Proofs.YtdmdmnfdfkejbaaGreatDoor
/- THE CELL 'sum', in the pinned program and in every row, IS THE sha256 OF THE DUMP (.gsa) THAT YtdmdmnfdfkejbaaGreatDoorProg.lean LOADS. Nothing in Lean hashes anything: it is a label: what it is worth is what the hold of that sum in a sandbox is worth. -/
noncomputable def Tryz.pinned : Pinned := { name := "ytdmdmnfdfkejbaagreatdoor", sum := "be280f5ef7c32030e569dc740542cc9fdf5638c3b5011f7130cff77b872cd4e6", checked := Tryz.checked }
namespace Rows
def none {H : Type} : Left H := { results := [], args := [] }

/- WHAT THE LISTED PACKAGE-LEVEL VARIABLES READ AS WHEN THE CALL BEGINS. Each datum BY PROGRAM (the guide's laid-datum.mjs) off the statement by which the dump's own 'gosem.cut.vars' lays the variable. In a bare row this is a premise. The card (YtdmdmnfdfkejbaaGreatDoorCards.lean) ties it to the program's text. -/
def laid_pub_kmsg_pub_kmsg_inner_kbin_ErrNotEnoughData {H : Type} : DataW H := .iface "*errors.errorString" (.ptr (.agg [.lit (.string [114, 101, 115, 112, 111, 110, 115, 101, 32, 100, 105, 100, 32, 110, 111, 116, 32, 99, 111, 110, 116, 97, 105, 110, 32, 101, 110, 111, 117, 103, 104, 32, 100, 97, 116, 97, 32, 116, 111, 32, 98, 101, 32, 118, 97, 108, 105, 100])]))

/-- 'laws.FnCutHeartbeatRequest': WHATEVER THE INPUT: true; the input reads as it did. -/
def fnCutHeartbeatRequestSpec : ChangeSpec := { name := "fnCutHeartbeatRequest", fn := fun _ => fun
  | [d1, d2, d3] => { results := [.lit (.bool true)], args := [d1, d2, d3] }
  | _ => none }
def fnCutHeartbeatRequestRow : OpenClaim := { program := "ytdmdmnfdfkejbaagreatdoor", sum := "be280f5ef7c32030e569dc740542cc9fdf5638c3b5011f7130cff77b872cd4e6", func := "pub-kmsg/laws.FnCutHeartbeatRequest", spec := "fnCutHeartbeatRequest", inPlace := ["internal/reflectlite.ValueOf", "internal/reflectlite.Swapper", "(internal/reflectlite.Value).Len"], unfollowed := true, recurses := true, named := ["encoding/binary.BigEndian", "pub-kmsg/pub/kmsg/inner/kbin.ErrNotEnoughData"], loops := true, apart := false, laid := [("pub-kmsg/pub/kmsg/inner/kbin.ErrNotEnoughData", laid_pub_kmsg_pub_kmsg_inner_kbin_ErrNotEnoughData)] }
def FnCutHeartbeatRequestSaid : Prop := fnCutHeartbeatRequestRow.holds Tryz.pinned (OpenSpec.ofChange fnCutHeartbeatRequestSpec)

/-- ITS FALSE NEIGHBOUR: 'it returns false'. Refute it at one input. -/
def fnCutHeartbeatRequestWrong : ChangeSpec := { name := "fnCutHeartbeatRequest", fn := fun _ => fun
  | [d1, d2, d3] => { results := [.lit (.bool false)], args := [d1, d2, d3] }
  | _ => none }
def FnCutHeartbeatRequestWrongFalsely : Prop := fnCutHeartbeatRequestRow.holds Tryz.pinned (OpenSpec.ofChange fnCutHeartbeatRequestWrong)

/-- 'laws.FnAgainApiVersionsRequest': WHATEVER THE INPUT: true; the input reads as it did. -/
def fnAgainApiVersionsRequestSpec : ChangeSpec := { name := "fnAgainApiVersionsRequest", fn := fun _ => fun
  | [d1, d2] => { results := [.lit (.bool true)], args := [d1, d2] }
  | _ => none }
def fnAgainApiVersionsRequestRow : OpenClaim := { program := "ytdmdmnfdfkejbaagreatdoor", sum := "be280f5ef7c32030e569dc740542cc9fdf5638c3b5011f7130cff77b872cd4e6", func := "pub-kmsg/laws.FnAgainApiVersionsRequest", spec := "fnAgainApiVersionsRequest", inPlace := ["internal/reflectlite.ValueOf", "internal/reflectlite.Swapper", "(internal/reflectlite.Value).Len"], unfollowed := true, recurses := true, named := ["encoding/binary.BigEndian", "pub-kmsg/pub/kmsg/inner/kbin.ErrNotEnoughData"], loops := true, apart := false, laid := [("pub-kmsg/pub/kmsg/inner/kbin.ErrNotEnoughData", laid_pub_kmsg_pub_kmsg_inner_kbin_ErrNotEnoughData)] }
def FnAgainApiVersionsRequestSaid : Prop := fnAgainApiVersionsRequestRow.holds Tryz.pinned (OpenSpec.ofChange fnAgainApiVersionsRequestSpec)

/-- ITS FALSE NEIGHBOUR: 'it returns false'. Refute it at one input. -/
def fnAgainApiVersionsRequestWrong : ChangeSpec := { name := "fnAgainApiVersionsRequest", fn := fun _ => fun
  | [d1, d2] => { results := [.lit (.bool false)], args := [d1, d2] }
  | _ => none }
def FnAgainApiVersionsRequestWrongFalsely : Prop := fnAgainApiVersionsRequestRow.holds Tryz.pinned (OpenSpec.ofChange fnAgainApiVersionsRequestWrong)

/-- 'laws.FnAgainFindCoordinatorRequest': WHATEVER THE INPUT: true; the input reads as it did. -/
def fnAgainFindCoordinatorRequestSpec : ChangeSpec := { name := "fnAgainFindCoordinatorRequest", fn := fun _ => fun
  | [d1, d2] => { results := [.lit (.bool true)], args := [d1, d2] }
  | _ => none }
def fnAgainFindCoordinatorRequestRow : OpenClaim := { program := "ytdmdmnfdfkejbaagreatdoor", sum := "be280f5ef7c32030e569dc740542cc9fdf5638c3b5011f7130cff77b872cd4e6", func := "pub-kmsg/laws.FnAgainFindCoordinatorRequest", spec := "fnAgainFindCoordinatorRequest", inPlace := ["internal/reflectlite.ValueOf", "internal/reflectlite.Swapper", "(internal/reflectlite.Value).Len"], unfollowed := true, recurses := true, named := ["encoding/binary.BigEndian", "pub-kmsg/pub/kmsg/inner/kbin.ErrNotEnoughData"], loops := true, apart := false, laid := [("pub-kmsg/pub/kmsg/inner/kbin.ErrNotEnoughData", laid_pub_kmsg_pub_kmsg_inner_kbin_ErrNotEnoughData)] }
def FnAgainFindCoordinatorRequestSaid : Prop := fnAgainFindCoordinatorRequestRow.holds Tryz.pinned (OpenSpec.ofChange fnAgainFindCoordinatorRequestSpec)

/-- ITS FALSE NEIGHBOUR: 'it returns false'. Refute it at one input. -/
def fnAgainFindCoordinatorRequestWrong : ChangeSpec := { name := "fnAgainFindCoordinatorRequest", fn := fun _ => fun
  | [d1, d2] => { results := [.lit (.bool false)], args := [d1, d2] }
  | _ => none }
def FnAgainFindCoordinatorRequestWrongFalsely : Prop := fnAgainFindCoordinatorRequestRow.holds Tryz.pinned (OpenSpec.ofChange fnAgainFindCoordinatorRequestWrong)

/-- 'laws.FnAgainDescribeProducersRequest': WHATEVER THE INPUT: true; the input reads as it did. -/
def fnAgainDescribeProducersRequestSpec : ChangeSpec := { name := "fnAgainDescribeProducersRequest", fn := fun _ => fun
  | [d1, d2] => { results := [.lit (.bool true)], args := [d1, d2] }
  | _ => none }
def fnAgainDescribeProducersRequestRow : OpenClaim := { program := "ytdmdmnfdfkejbaagreatdoor", sum := "be280f5ef7c32030e569dc740542cc9fdf5638c3b5011f7130cff77b872cd4e6", func := "pub-kmsg/laws.FnAgainDescribeProducersRequest", spec := "fnAgainDescribeProducersRequest", inPlace := ["internal/reflectlite.ValueOf", "internal/reflectlite.Swapper", "(internal/reflectlite.Value).Len"], unfollowed := true, recurses := true, named := ["encoding/binary.BigEndian", "pub-kmsg/pub/kmsg/inner/kbin.ErrNotEnoughData"], loops := true, apart := false, laid := [("pub-kmsg/pub/kmsg/inner/kbin.ErrNotEnoughData", laid_pub_kmsg_pub_kmsg_inner_kbin_ErrNotEnoughData)] }
def FnAgainDescribeProducersRequestSaid : Prop := fnAgainDescribeProducersRequestRow.holds Tryz.pinned (OpenSpec.ofChange fnAgainDescribeProducersRequestSpec)

/-- ITS FALSE NEIGHBOUR: 'it returns false'. Refute it at one input. -/
def fnAgainDescribeProducersRequestWrong : ChangeSpec := { name := "fnAgainDescribeProducersRequest", fn := fun _ => fun
  | [d1, d2] => { results := [.lit (.bool false)], args := [d1, d2] }
  | _ => none }
def FnAgainDescribeProducersRequestWrongFalsely : Prop := fnAgainDescribeProducersRequestRow.holds Tryz.pinned (OpenSpec.ofChange fnAgainDescribeProducersRequestWrong)

/-- 'laws.FnAgainUpdateFeaturesRequest': WHATEVER THE INPUT: true; the input reads as it did. -/
def fnAgainUpdateFeaturesRequestSpec : ChangeSpec := { name := "fnAgainUpdateFeaturesRequest", fn := fun _ => fun
  | [d1, d2] => { results := [.lit (.bool true)], args := [d1, d2] }
  | _ => none }
def fnAgainUpdateFeaturesRequestRow : OpenClaim := { program := "ytdmdmnfdfkejbaagreatdoor", sum := "be280f5ef7c32030e569dc740542cc9fdf5638c3b5011f7130cff77b872cd4e6", func := "pub-kmsg/laws.FnAgainUpdateFeaturesRequest", spec := "fnAgainUpdateFeaturesRequest", inPlace := ["internal/reflectlite.ValueOf", "internal/reflectlite.Swapper", "(internal/reflectlite.Value).Len"], unfollowed := true, recurses := true, named := ["encoding/binary.BigEndian", "pub-kmsg/pub/kmsg/inner/kbin.ErrNotEnoughData"], loops := true, apart := false, laid := [("pub-kmsg/pub/kmsg/inner/kbin.ErrNotEnoughData", laid_pub_kmsg_pub_kmsg_inner_kbin_ErrNotEnoughData)] }
def FnAgainUpdateFeaturesRequestSaid : Prop := fnAgainUpdateFeaturesRequestRow.holds Tryz.pinned (OpenSpec.ofChange fnAgainUpdateFeaturesRequestSpec)

/-- ITS FALSE NEIGHBOUR: 'it returns false'. Refute it at one input. -/
def fnAgainUpdateFeaturesRequestWrong : ChangeSpec := { name := "fnAgainUpdateFeaturesRequest", fn := fun _ => fun
  | [d1, d2] => { results := [.lit (.bool false)], args := [d1, d2] }
  | _ => none }
def FnAgainUpdateFeaturesRequestWrongFalsely : Prop := fnAgainUpdateFeaturesRequestRow.holds Tryz.pinned (OpenSpec.ofChange fnAgainUpdateFeaturesRequestWrong)

/-- 'laws.FnCutLeaveGroupResponse': WHATEVER THE INPUT: true; the input reads as it did. -/
def fnCutLeaveGroupResponseSpec : ChangeSpec := { name := "fnCutLeaveGroupResponse", fn := fun _ => fun
  | [d1, d2, d3] => { results := [.lit (.bool true)], args := [d1, d2, d3] }
  | _ => none }
def fnCutLeaveGroupResponseRow : OpenClaim := { program := "ytdmdmnfdfkejbaagreatdoor", sum := "be280f5ef7c32030e569dc740542cc9fdf5638c3b5011f7130cff77b872cd4e6", func := "pub-kmsg/laws.FnCutLeaveGroupResponse", spec := "fnCutLeaveGroupResponse", inPlace := ["internal/reflectlite.ValueOf", "internal/reflectlite.Swapper", "(internal/reflectlite.Value).Len"], unfollowed := true, recurses := true, named := ["encoding/binary.BigEndian", "pub-kmsg/pub/kmsg/inner/kbin.ErrNotEnoughData"], loops := true, apart := false, laid := [("pub-kmsg/pub/kmsg/inner/kbin.ErrNotEnoughData", laid_pub_kmsg_pub_kmsg_inner_kbin_ErrNotEnoughData)] }
def FnCutLeaveGroupResponseSaid : Prop := fnCutLeaveGroupResponseRow.holds Tryz.pinned (OpenSpec.ofChange fnCutLeaveGroupResponseSpec)

/-- ITS FALSE NEIGHBOUR: 'it returns false'. Refute it at one input. -/
def fnCutLeaveGroupResponseWrong : ChangeSpec := { name := "fnCutLeaveGroupResponse", fn := fun _ => fun
  | [d1, d2, d3] => { results := [.lit (.bool false)], args := [d1, d2, d3] }
  | _ => none }
def FnCutLeaveGroupResponseWrongFalsely : Prop := fnCutLeaveGroupResponseRow.holds Tryz.pinned (OpenSpec.ofChange fnCutLeaveGroupResponseWrong)

/-- 'laws.FnCutDeleteRecordsRequest': WHATEVER THE INPUT: true; the input reads as it did. -/
def fnCutDeleteRecordsRequestSpec : ChangeSpec := { name := "fnCutDeleteRecordsRequest", fn := fun _ => fun
  | [d1, d2, d3] => { results := [.lit (.bool true)], args := [d1, d2, d3] }
  | _ => none }
def fnCutDeleteRecordsRequestRow : OpenClaim := { program := "ytdmdmnfdfkejbaagreatdoor", sum := "be280f5ef7c32030e569dc740542cc9fdf5638c3b5011f7130cff77b872cd4e6", func := "pub-kmsg/laws.FnCutDeleteRecordsRequest", spec := "fnCutDeleteRecordsRequest", inPlace := ["internal/reflectlite.ValueOf", "internal/reflectlite.Swapper", "(internal/reflectlite.Value).Len"], unfollowed := true, recurses := true, named := ["encoding/binary.BigEndian", "pub-kmsg/pub/kmsg/inner/kbin.ErrNotEnoughData"], loops := true, apart := false, laid := [("pub-kmsg/pub/kmsg/inner/kbin.ErrNotEnoughData", laid_pub_kmsg_pub_kmsg_inner_kbin_ErrNotEnoughData)] }
def FnCutDeleteRecordsRequestSaid : Prop := fnCutDeleteRecordsRequestRow.holds Tryz.pinned (OpenSpec.ofChange fnCutDeleteRecordsRequestSpec)

/-- ITS FALSE NEIGHBOUR: 'it returns false'. Refute it at one input. -/
def fnCutDeleteRecordsRequestWrong : ChangeSpec := { name := "fnCutDeleteRecordsRequest", fn := fun _ => fun
  | [d1, d2, d3] => { results := [.lit (.bool false)], args := [d1, d2, d3] }
  | _ => none }
def FnCutDeleteRecordsRequestWrongFalsely : Prop := fnCutDeleteRecordsRequestRow.holds Tryz.pinned (OpenSpec.ofChange fnCutDeleteRecordsRequestWrong)

/-- 'laws.FnCutDescribeShareGroupOffsetsRequest': WHATEVER THE INPUT: true; the input reads as it did. -/
def fnCutDescribeShareGroupOffsetsRequestSpec : ChangeSpec := { name := "fnCutDescribeShareGroupOffsetsRequest", fn := fun _ => fun
  | [d1, d2, d3] => { results := [.lit (.bool true)], args := [d1, d2, d3] }
  | _ => none }
def fnCutDescribeShareGroupOffsetsRequestRow : OpenClaim := { program := "ytdmdmnfdfkejbaagreatdoor", sum := "be280f5ef7c32030e569dc740542cc9fdf5638c3b5011f7130cff77b872cd4e6", func := "pub-kmsg/laws.FnCutDescribeShareGroupOffsetsRequest", spec := "fnCutDescribeShareGroupOffsetsRequest", inPlace := ["internal/reflectlite.ValueOf", "internal/reflectlite.Swapper", "(internal/reflectlite.Value).Len"], unfollowed := true, recurses := true, named := ["encoding/binary.BigEndian", "pub-kmsg/pub/kmsg/inner/kbin.ErrNotEnoughData"], loops := true, apart := false, laid := [("pub-kmsg/pub/kmsg/inner/kbin.ErrNotEnoughData", laid_pub_kmsg_pub_kmsg_inner_kbin_ErrNotEnoughData)] }
def FnCutDescribeShareGroupOffsetsRequestSaid : Prop := fnCutDescribeShareGroupOffsetsRequestRow.holds Tryz.pinned (OpenSpec.ofChange fnCutDescribeShareGroupOffsetsRequestSpec)

/-- ITS FALSE NEIGHBOUR: 'it returns false'. Refute it at one input. -/
def fnCutDescribeShareGroupOffsetsRequestWrong : ChangeSpec := { name := "fnCutDescribeShareGroupOffsetsRequest", fn := fun _ => fun
  | [d1, d2, d3] => { results := [.lit (.bool false)], args := [d1, d2, d3] }
  | _ => none }
def FnCutDescribeShareGroupOffsetsRequestWrongFalsely : Prop := fnCutDescribeShareGroupOffsetsRequestRow.holds Tryz.pinned (OpenSpec.ofChange fnCutDescribeShareGroupOffsetsRequestWrong)

/- THE SECOND FORM. 'bulk': how many values and letters a reading holds, each counted each time it is reached (what is shared counts as often as it is met; a slice's spare places count too). A statement '..UptoSaid' is the law's where the arguments, and the package variables that the reading takes, are together of bulk at most 1048576: NARROWER than '..Said'. Prove '..Said' where nothing that the law and all that it calls make is longer than what came in: it says more and counts as full. Else prove '..UptoSaid'. A law counts once. -/
mutual
def uptoBulk {H : Type} : DataW H → Nat
  | .lit (.string bytes) => bytes.length + 1
  | .lit _ => 1
  | .nil => 1
  | .ptr d => uptoBulk d + 1
  | .slice elems spare => uptoBulkAll elems + uptoBulkAll spare + 1
  | .agg parts => uptoBulkAll parts + 1
  | .iface _ d => uptoBulk d + 1
  | .map entries => uptoBulkEntries entries + 1
  | .held _ => 1
def uptoBulkAll {H : Type} : List (DataW H) → Nat
  | [] => 0
  | d :: r => uptoBulk d + uptoBulkAll r
def uptoBulkEntries {H : Type} : List (Lit × DataW H) → Nat
  | [] => 0
  | x :: r => uptoBulkEntry x + uptoBulkEntries r
def uptoBulkEntry {H : Type} : Lit × DataW H → Nat
  | (.string bytes, d) => bytes.length + uptoBulk d + 1
  | (_, d) => uptoBulk d + 1
 end
def uptoSmall : (H : Type) → List (DataW H) → Bool := fun _ ds => decide (uptoBulkAll ds ≤ 1048576)
def OpenSpec.upto (s : _root_.Go.ChangeSpec) : _root_.Go.OpenSpec := { _root_.Go.OpenSpec.ofChange s with cond := some uptoSmall }

/-- 'laws.FnCutHeartbeatRequest', WHERE WHAT IT READS IS OF BULK AT MOST 1048576: true; the input reads as it did. -/
def fnCutHeartbeatRequestUptoRow : OpenClaim := { program := "ytdmdmnfdfkejbaagreatdoor", sum := "be280f5ef7c32030e569dc740542cc9fdf5638c3b5011f7130cff77b872cd4e6", func := "pub-kmsg/laws.FnCutHeartbeatRequest", spec := "fnCutHeartbeatRequest", inPlace := ["internal/reflectlite.ValueOf", "internal/reflectlite.Swapper", "(internal/reflectlite.Value).Len"], unfollowed := true, recurses := true, named := ["encoding/binary.BigEndian", "pub-kmsg/pub/kmsg/inner/kbin.ErrNotEnoughData"], loops := true, apart := false, laid := [("pub-kmsg/pub/kmsg/inner/kbin.ErrNotEnoughData", laid_pub_kmsg_pub_kmsg_inner_kbin_ErrNotEnoughData)], narrowed := true }
def FnCutHeartbeatRequestUptoSaid : Prop := fnCutHeartbeatRequestUptoRow.holds Tryz.pinned (OpenSpec.upto fnCutHeartbeatRequestSpec)

/-- 'laws.FnAgainApiVersionsRequest', WHERE WHAT IT READS IS OF BULK AT MOST 1048576: true; the input reads as it did. -/
def fnAgainApiVersionsRequestUptoRow : OpenClaim := { program := "ytdmdmnfdfkejbaagreatdoor", sum := "be280f5ef7c32030e569dc740542cc9fdf5638c3b5011f7130cff77b872cd4e6", func := "pub-kmsg/laws.FnAgainApiVersionsRequest", spec := "fnAgainApiVersionsRequest", inPlace := ["internal/reflectlite.ValueOf", "internal/reflectlite.Swapper", "(internal/reflectlite.Value).Len"], unfollowed := true, recurses := true, named := ["encoding/binary.BigEndian", "pub-kmsg/pub/kmsg/inner/kbin.ErrNotEnoughData"], loops := true, apart := false, laid := [("pub-kmsg/pub/kmsg/inner/kbin.ErrNotEnoughData", laid_pub_kmsg_pub_kmsg_inner_kbin_ErrNotEnoughData)], narrowed := true }
def FnAgainApiVersionsRequestUptoSaid : Prop := fnAgainApiVersionsRequestUptoRow.holds Tryz.pinned (OpenSpec.upto fnAgainApiVersionsRequestSpec)

/-- 'laws.FnAgainFindCoordinatorRequest', WHERE WHAT IT READS IS OF BULK AT MOST 1048576: true; the input reads as it did. -/
def fnAgainFindCoordinatorRequestUptoRow : OpenClaim := { program := "ytdmdmnfdfkejbaagreatdoor", sum := "be280f5ef7c32030e569dc740542cc9fdf5638c3b5011f7130cff77b872cd4e6", func := "pub-kmsg/laws.FnAgainFindCoordinatorRequest", spec := "fnAgainFindCoordinatorRequest", inPlace := ["internal/reflectlite.ValueOf", "internal/reflectlite.Swapper", "(internal/reflectlite.Value).Len"], unfollowed := true, recurses := true, named := ["encoding/binary.BigEndian", "pub-kmsg/pub/kmsg/inner/kbin.ErrNotEnoughData"], loops := true, apart := false, laid := [("pub-kmsg/pub/kmsg/inner/kbin.ErrNotEnoughData", laid_pub_kmsg_pub_kmsg_inner_kbin_ErrNotEnoughData)], narrowed := true }
def FnAgainFindCoordinatorRequestUptoSaid : Prop := fnAgainFindCoordinatorRequestUptoRow.holds Tryz.pinned (OpenSpec.upto fnAgainFindCoordinatorRequestSpec)

/-- 'laws.FnAgainDescribeProducersRequest', WHERE WHAT IT READS IS OF BULK AT MOST 1048576: true; the input reads as it did. -/
def fnAgainDescribeProducersRequestUptoRow : OpenClaim := { program := "ytdmdmnfdfkejbaagreatdoor", sum := "be280f5ef7c32030e569dc740542cc9fdf5638c3b5011f7130cff77b872cd4e6", func := "pub-kmsg/laws.FnAgainDescribeProducersRequest", spec := "fnAgainDescribeProducersRequest", inPlace := ["internal/reflectlite.ValueOf", "internal/reflectlite.Swapper", "(internal/reflectlite.Value).Len"], unfollowed := true, recurses := true, named := ["encoding/binary.BigEndian", "pub-kmsg/pub/kmsg/inner/kbin.ErrNotEnoughData"], loops := true, apart := false, laid := [("pub-kmsg/pub/kmsg/inner/kbin.ErrNotEnoughData", laid_pub_kmsg_pub_kmsg_inner_kbin_ErrNotEnoughData)], narrowed := true }
def FnAgainDescribeProducersRequestUptoSaid : Prop := fnAgainDescribeProducersRequestUptoRow.holds Tryz.pinned (OpenSpec.upto fnAgainDescribeProducersRequestSpec)

/-- 'laws.FnAgainUpdateFeaturesRequest', WHERE WHAT IT READS IS OF BULK AT MOST 1048576: true; the input reads as it did. -/
def fnAgainUpdateFeaturesRequestUptoRow : OpenClaim := { program := "ytdmdmnfdfkejbaagreatdoor", sum := "be280f5ef7c32030e569dc740542cc9fdf5638c3b5011f7130cff77b872cd4e6", func := "pub-kmsg/laws.FnAgainUpdateFeaturesRequest", spec := "fnAgainUpdateFeaturesRequest", inPlace := ["internal/reflectlite.ValueOf", "internal/reflectlite.Swapper", "(internal/reflectlite.Value).Len"], unfollowed := true, recurses := true, named := ["encoding/binary.BigEndian", "pub-kmsg/pub/kmsg/inner/kbin.ErrNotEnoughData"], loops := true, apart := false, laid := [("pub-kmsg/pub/kmsg/inner/kbin.ErrNotEnoughData", laid_pub_kmsg_pub_kmsg_inner_kbin_ErrNotEnoughData)], narrowed := true }
def FnAgainUpdateFeaturesRequestUptoSaid : Prop := fnAgainUpdateFeaturesRequestUptoRow.holds Tryz.pinned (OpenSpec.upto fnAgainUpdateFeaturesRequestSpec)

/-- 'laws.FnCutLeaveGroupResponse', WHERE WHAT IT READS IS OF BULK AT MOST 1048576: true; the input reads as it did. -/
def fnCutLeaveGroupResponseUptoRow : OpenClaim := { program := "ytdmdmnfdfkejbaagreatdoor", sum := "be280f5ef7c32030e569dc740542cc9fdf5638c3b5011f7130cff77b872cd4e6", func := "pub-kmsg/laws.FnCutLeaveGroupResponse", spec := "fnCutLeaveGroupResponse", inPlace := ["internal/reflectlite.ValueOf", "internal/reflectlite.Swapper", "(internal/reflectlite.Value).Len"], unfollowed := true, recurses := true, named := ["encoding/binary.BigEndian", "pub-kmsg/pub/kmsg/inner/kbin.ErrNotEnoughData"], loops := true, apart := false, laid := [("pub-kmsg/pub/kmsg/inner/kbin.ErrNotEnoughData", laid_pub_kmsg_pub_kmsg_inner_kbin_ErrNotEnoughData)], narrowed := true }
def FnCutLeaveGroupResponseUptoSaid : Prop := fnCutLeaveGroupResponseUptoRow.holds Tryz.pinned (OpenSpec.upto fnCutLeaveGroupResponseSpec)

/-- 'laws.FnCutDeleteRecordsRequest', WHERE WHAT IT READS IS OF BULK AT MOST 1048576: true; the input reads as it did. -/
def fnCutDeleteRecordsRequestUptoRow : OpenClaim := { program := "ytdmdmnfdfkejbaagreatdoor", sum := "be280f5ef7c32030e569dc740542cc9fdf5638c3b5011f7130cff77b872cd4e6", func := "pub-kmsg/laws.FnCutDeleteRecordsRequest", spec := "fnCutDeleteRecordsRequest", inPlace := ["internal/reflectlite.ValueOf", "internal/reflectlite.Swapper", "(internal/reflectlite.Value).Len"], unfollowed := true, recurses := true, named := ["encoding/binary.BigEndian", "pub-kmsg/pub/kmsg/inner/kbin.ErrNotEnoughData"], loops := true, apart := false, laid := [("pub-kmsg/pub/kmsg/inner/kbin.ErrNotEnoughData", laid_pub_kmsg_pub_kmsg_inner_kbin_ErrNotEnoughData)], narrowed := true }
def FnCutDeleteRecordsRequestUptoSaid : Prop := fnCutDeleteRecordsRequestUptoRow.holds Tryz.pinned (OpenSpec.upto fnCutDeleteRecordsRequestSpec)

/-- 'laws.FnCutDescribeShareGroupOffsetsRequest', WHERE WHAT IT READS IS OF BULK AT MOST 1048576: true; the input reads as it did. -/
def fnCutDescribeShareGroupOffsetsRequestUptoRow : OpenClaim := { program := "ytdmdmnfdfkejbaagreatdoor", sum := "be280f5ef7c32030e569dc740542cc9fdf5638c3b5011f7130cff77b872cd4e6", func := "pub-kmsg/laws.FnCutDescribeShareGroupOffsetsRequest", spec := "fnCutDescribeShareGroupOffsetsRequest", inPlace := ["internal/reflectlite.ValueOf", "internal/reflectlite.Swapper", "(internal/reflectlite.Value).Len"], unfollowed := true, recurses := true, named := ["encoding/binary.BigEndian", "pub-kmsg/pub/kmsg/inner/kbin.ErrNotEnoughData"], loops := true, apart := false, laid := [("pub-kmsg/pub/kmsg/inner/kbin.ErrNotEnoughData", laid_pub_kmsg_pub_kmsg_inner_kbin_ErrNotEnoughData)], narrowed := true }
def FnCutDescribeShareGroupOffsetsRequestUptoSaid : Prop := fnCutDescribeShareGroupOffsetsRequestUptoRow.holds Tryz.pinned (OpenSpec.upto fnCutDescribeShareGroupOffsetsRequestSpec)

end Rows
end Go.Proofs.YtdmdmnfdfkejbaaGreatDoor
