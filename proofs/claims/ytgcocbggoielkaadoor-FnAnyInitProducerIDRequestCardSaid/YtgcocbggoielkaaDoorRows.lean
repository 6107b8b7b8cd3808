/-
  NARROWER THAN 'FOR EVERY INPUT', by the rows' own cells (each row's printed sentence says how): FnAnyExpireDelegationTokenResponse: laid · FnCutEndTxnResponse: loops, laid · FnAnyDefaultPrincipalData: laid · FnAnyRemoveRaftVoterResponse: laid · FnCutAddOffsetsToTxnRequest: loops, laid · FnAnyDescribeTransactionsRequest: laid · FnAnyInitProducerIDRequest: laid.
  DERIVED. THE GIVEN ROWS OF THIS SEAT. 7 by the template 'for every input the law returns true; each argument reads behind the call as it read before'; 0 by the template 'total and deterministic' (their statements: YtgcocbggoielkaaDoorTotals.lean).
  GIVEN WITH THE SEED: the statements are not yours to turn. If you find one false, say at which input.
  Laid BY PROGRAM, IN A SANDBOX (cutbox-rows.mjs): the forced cells as the released guide's own fill.sh prints them over the translation 0562dd93eaf14b9a… (all of the seat's roots in one cut). By AI agents, Wed Nov 11 2026. No macro, syntax, notation, axiom, sorry.
-/
import Derived.Test.YtgcocbggoielkaaDoorChecked
import GoSem.Claim
import GoSem.ClaimJoined
import GoSem.ClaimMapViews
import Derived.JoinedTies
import Derived.KernelRfl
namespace Go.Proofs.YtgcocbggoielkaaDoor
/- THE CELL 'sum', in the pinned program and in every row, IS THE sha256 OF THE DUMP (.gsa) THAT YtgcocbggoielkaaDoorProg.lean LOADS. Nothing in Lean hashes anything: it is a label: what it is worth is what the hold of that sum in a sandbox is worth. -/
noncomputable def Tryd.pinned : Pinned := { name := "ytgcocbggoielkaadoor", sum := "0562dd93eaf14b9a1fbdaa94bcaf14bf0c0d1a92618f837ea55921ea54ab0b0b", checked := Tryd.checked }
namespace Rows
def none {H : Type} : Left H := { results := [], args := [] }

/- WHAT THE LISTED PACKAGE-LEVEL VARIABLES READ AS WHEN THE CALL BEGINS. Each datum BY PROGRAM (the guide's laid-datum.mjs) off the statement by which the dump's own 'gosem.cut.vars' lays the variable. In a bare row this is a premise. The card (YtgcocbggoielkaaDoorCards.lean) ties it to the program's text. -/
def laid_pub_kmsg_pub_kmsg_inner_kbin_ErrNotEnoughData {H : Type} : DataW H := .iface "*errors.errorString" (.ptr (.agg [.lit (.string [114, 101, 115, 112, 111, 110, 115, 101, 32, 100, 105, 100, 32, 110, 111, 116, 32, 99, 111, 110, 116, 97, 105, 110, 32, 101, 110, 111, 117, 103, 104, 32, 100, 97, 116, 97, 32, 116, 111, 32, 98, 101, 32, 118, 97, 108, 105, 100])]))

/-- 'laws.FnAnyExpireDelegationTokenResponse': WHATEVER THE INPUT: true; the input reads as it did. -/
def fnAnyExpireDelegationTokenResponseSpec : ChangeSpec := { name := "fnAnyExpireDelegationTokenResponse", fn := fun _ => fun
  | [d1, d2] => { results := [.lit (.bool true)], args := [d1, d2] }
  | _ => none }
def fnAnyExpireDelegationTokenResponseRow : OpenClaim := { program := "ytgcocbggoielkaadoor", sum := "0562dd93eaf14b9a1fbdaa94bcaf14bf0c0d1a92618f837ea55921ea54ab0b0b", func := "pub-kmsg/laws.FnAnyExpireDelegationTokenResponse", spec := "fnAnyExpireDelegationTokenResponse", inPlace := ["internal/reflectlite.ValueOf", "internal/reflectlite.Swapper", "(internal/reflectlite.Value).Len"], unfollowed := true, recurses := true, named := ["encoding/binary.BigEndian", "pub-kmsg/pub/kmsg/inner/kbin.ErrNotEnoughData"], apart := false, laid := [("pub-kmsg/pub/kmsg/inner/kbin.ErrNotEnoughData", laid_pub_kmsg_pub_kmsg_inner_kbin_ErrNotEnoughData)] }
def FnAnyExpireDelegationTokenResponseSaid : Prop := fnAnyExpireDelegationTokenResponseRow.holds Tryd.pinned (OpenSpec.ofChange fnAnyExpireDelegationTokenResponseSpec)

/-- ITS FALSE NEIGHBOUR: 'it returns false'. Refute it at one input. -/
def fnAnyExpireDelegationTokenResponseWrong : ChangeSpec := { name := "fnAnyExpireDelegationTokenResponse", fn := fun _ => fun
  | [d1, d2] => { results := [.lit (.bool false)], args := [d1, d2] }
  | _ => none }
def FnAnyExpireDelegationTokenResponseWrongFalsely : Prop := fnAnyExpireDelegationTokenResponseRow.holds Tryd.pinned (OpenSpec.ofChange fnAnyExpireDelegationTokenResponseWrong)

/-- 'laws.FnCutEndTxnResponse': WHATEVER THE INPUT: true; the input reads as it did. -/
def fnCutEndTxnResponseSpec : ChangeSpec := { name := "fnCutEndTxnResponse", fn := fun _ => fun
  | [d1, d2, d3] => { results := [.lit (.bool true)], args := [d1, d2, d3] }
  | _ => none }
def fnCutEndTxnResponseRow : OpenClaim := { program := "ytgcocbggoielkaadoor", sum := "0562dd93eaf14b9a1fbdaa94bcaf14bf0c0d1a92618f837ea55921ea54ab0b0b", func := "pub-kmsg/laws.FnCutEndTxnResponse", spec := "fnCutEndTxnResponse", inPlace := ["internal/reflectlite.ValueOf", "internal/reflectlite.Swapper", "(internal/reflectlite.Value).Len"], unfollowed := true, recurses := true, named := ["encoding/binary.BigEndian", "pub-kmsg/pub/kmsg/inner/kbin.ErrNotEnoughData"], loops := true, apart := false, laid := [("pub-kmsg/pub/kmsg/inner/kbin.ErrNotEnoughData", laid_pub_kmsg_pub_kmsg_inner_kbin_ErrNotEnoughData)] }
def FnCutEndTxnResponseSaid : Prop := fnCutEndTxnResponseRow.holds Tryd.pinned (OpenSpec.ofChange fnCutEndTxnResponseSpec)

/-- ITS FALSE NEIGHBOUR: 'it returns false'. Refute it at one input. -/
def fnCutEndTxnResponseWrong : ChangeSpec := { name := "fnCutEndTxnResponse", fn := fun _ => fun
  | [d1, d2, d3] => { results := [.lit (.bool false)], args := [d1, d2, d3] }
  | _ => none }
def FnCutEndTxnResponseWrongFalsely : Prop := fnCutEndTxnResponseRow.holds Tryd.pinned (OpenSpec.ofChange fnCutEndTxnResponseWrong)

/-- 'laws.FnAnyDefaultPrincipalData': WHATEVER THE INPUT: true; the input reads as it did. -/
def fnAnyDefaultPrincipalDataSpec : ChangeSpec := { name := "fnAnyDefaultPrincipalData", fn := fun _ => fun
  | [d] => { results := [.lit (.bool true)], args := [d] }
  | _ => none }
def fnAnyDefaultPrincipalDataRow : OpenClaim := { program := "ytgcocbggoielkaadoor", sum := "0562dd93eaf14b9a1fbdaa94bcaf14bf0c0d1a92618f837ea55921ea54ab0b0b", func := "pub-kmsg/laws.FnAnyDefaultPrincipalData", spec := "fnAnyDefaultPrincipalData", inPlace := ["internal/reflectlite.ValueOf", "internal/reflectlite.Swapper", "(internal/reflectlite.Value).Len"], unfollowed := true, recurses := true, named := ["encoding/binary.BigEndian", "pub-kmsg/pub/kmsg/inner/kbin.ErrNotEnoughData"], apart := false, laid := [("pub-kmsg/pub/kmsg/inner/kbin.ErrNotEnoughData", laid_pub_kmsg_pub_kmsg_inner_kbin_ErrNotEnoughData)] }
def FnAnyDefaultPrincipalDataSaid : Prop := fnAnyDefaultPrincipalDataRow.holds Tryd.pinned (OpenSpec.ofChange fnAnyDefaultPrincipalDataSpec)

/-- ITS FALSE NEIGHBOUR: 'it returns false'. Refute it at one input. -/
def fnAnyDefaultPrincipalDataWrong : ChangeSpec := { name := "fnAnyDefaultPrincipalData", fn := fun _ => fun
  | [d] => { results := [.lit (.bool false)], args := [d] }
  | _ => none }
def FnAnyDefaultPrincipalDataWrongFalsely : Prop := fnAnyDefaultPrincipalDataRow.holds Tryd.pinned (OpenSpec.ofChange fnAnyDefaultPrincipalDataWrong)

/-- 'laws.FnAnyRemoveRaftVoterResponse': WHATEVER THE INPUT: true; the input reads as it did. -/
def fnAnyRemoveRaftVoterResponseSpec : ChangeSpec := { name := "fnAnyRemoveRaftVoterResponse", fn := fun _ => fun
  | [d1, d2] => { results := [.lit (.bool true)], args := [d1, d2] }
  | _ => none }
def fnAnyRemoveRaftVoterResponseRow : OpenClaim := { program := "ytgcocbggoielkaadoor", sum := "0562dd93eaf14b9a1fbdaa94bcaf14bf0c0d1a92618f837ea55921ea54ab0b0b", func := "pub-kmsg/laws.FnAnyRemoveRaftVoterResponse", spec := "fnAnyRemoveRaftVoterResponse", inPlace := ["internal/reflectlite.ValueOf", "internal/reflectlite.Swapper", "(internal/reflectlite.Value).Len"], unfollowed := true, recurses := true, named := ["encoding/binary.BigEndian", "pub-kmsg/pub/kmsg/inner/kbin.ErrNotEnoughData"], apart := false, laid := [("pub-kmsg/pub/kmsg/inner/kbin.ErrNotEnoughData", laid_pub_kmsg_pub_kmsg_inner_kbin_ErrNotEnoughData)] }
def FnAnyRemoveRaftVoterResponseSaid : Prop := fnAnyRemoveRaftVoterResponseRow.holds Tryd.pinned (OpenSpec.ofChange fnAnyRemoveRaftVoterResponseSpec)

/-- ITS FALSE NEIGHBOUR: 'it returns false'. Refute it at one input. -/
def fnAnyRemoveRaftVoterResponseWrong : ChangeSpec := { name := "fnAnyRemoveRaftVoterResponse", fn := fun _ => fun
  | [d1, d2] => { results := [.lit (.bool false)], args := [d1, d2] }
  | _ => none }
def FnAnyRemoveRaftVoterResponseWrongFalsely : Prop := fnAnyRemoveRaftVoterResponseRow.holds Tryd.pinned (OpenSpec.ofChange fnAnyRemoveRaftVoterResponseWrong)

/-- 'laws.FnCutAddOffsetsToTxnRequest': WHATEVER THE INPUT: true; the input reads as it did. -/
def fnCutAddOffsetsToTxnRequestSpec : ChangeSpec := { name := "fnCutAddOffsetsToTxnRequest", fn := fun _ => fun
  | [d1, d2, d3] => { results := [.lit (.bool true)], args := [d1, d2, d3] }
  | _ => none }
def fnCutAddOffsetsToTxnRequestRow : OpenClaim := { program := "ytgcocbggoielkaadoor", sum := "0562dd93eaf14b9a1fbdaa94bcaf14bf0c0d1a92618f837ea55921ea54ab0b0b", func := "pub-kmsg/laws.FnCutAddOffsetsToTxnRequest", spec := "fnCutAddOffsetsToTxnRequest", inPlace := ["internal/reflectlite.ValueOf", "internal/reflectlite.Swapper", "(internal/reflectlite.Value).Len"], unfollowed := true, recurses := true, named := ["encoding/binary.BigEndian", "pub-kmsg/pub/kmsg/inner/kbin.ErrNotEnoughData"], loops := true, apart := false, laid := [("pub-kmsg/pub/kmsg/inner/kbin.ErrNotEnoughData", laid_pub_kmsg_pub_kmsg_inner_kbin_ErrNotEnoughData)] }
def FnCutAddOffsetsToTxnRequestSaid : Prop := fnCutAddOffsetsToTxnRequestRow.holds Tryd.pinned (OpenSpec.ofChange fnCutAddOffsetsToTxnRequestSpec)

/-- ITS FALSE NEIGHBOUR: 'it returns false'. Refute it at one input. -/
def fnCutAddOffsetsToTxnRequestWrong : ChangeSpec := { name := "fnCutAddOffsetsToTxnRequest", fn := fun _ => fun
  | [d1, d2, d3] => { results := [.lit (.bool false)], args := [d1, d2, d3] }
  | _ => none }
def FnCutAddOffsetsToTxnRequestWrongFalsely : Prop := fnCutAddOffsetsToTxnRequestRow.holds Tryd.pinned (OpenSpec.ofChange fnCutAddOffsetsToTxnRequestWrong)

/-- 'laws.FnAnyDescribeTransactionsRequest': WHATEVER THE INPUT: true; the input reads as it did. -/
def fnAnyDescribeTransactionsRequestSpec : ChangeSpec := { name := "fnAnyDescribeTransactionsRequest", fn := fun _ => fun
  | [d1, d2] => { results := [.lit (.bool true)], args := [d1, d2] }
  | _ => none }
def fnAnyDescribeTransactionsRequestRow : OpenClaim := { program := "ytgcocbggoielkaadoor", sum := "0562dd93eaf14b9a1fbdaa94bcaf14bf0c0d1a92618f837ea55921ea54ab0b0b", func := "pub-kmsg/laws.FnAnyDescribeTransactionsRequest", spec := "fnAnyDescribeTransactionsRequest", inPlace := ["internal/reflectlite.ValueOf", "internal/reflectlite.Swapper", "(internal/reflectlite.Value).Len"], unfollowed := true, recurses := true, named := ["encoding/binary.BigEndian", "pub-kmsg/pub/kmsg/inner/kbin.ErrNotEnoughData"], apart := false, laid := [("pub-kmsg/pub/kmsg/inner/kbin.ErrNotEnoughData", laid_pub_kmsg_pub_kmsg_inner_kbin_ErrNotEnoughData)] }
def FnAnyDescribeTransactionsRequestSaid : Prop := fnAnyDescribeTransactionsRequestRow.holds Tryd.pinned (OpenSpec.ofChange fnAnyDescribeTransactionsRequestSpec)

/-- ITS FALSE NEIGHBOUR: 'it returns false'. Refute it at one input. -/
def fnAnyDescribeTransactionsRequestWrong : ChangeSpec := { name := "fnAnyDescribeTransactionsRequest", fn := fun _ => fun
  | [d1, d2] => { results := [.lit (.bool false)], args := [d1, d2] }
  | _ => none }
def FnAnyDescribeTransactionsRequestWrongFalsely : Prop := fnAnyDescribeTransactionsRequestRow.holds Tryd.pinned (OpenSpec.ofChange fnAnyDescribeTransactionsRequestWrong)

/-- 'laws.FnAnyInitProducerIDRequest': WHATEVER THE INPUT: true; the input reads as it did. -/
def fnAnyInitProducerIDRequestSpec : ChangeSpec := { name := "fnAnyInitProducerIDRequest", fn := fun _ => fun
  | [d1, d2] => { results := [.lit (.bool true)], args := [d1, d2] }
  | _ => none }
def fnAnyInitProducerIDRequestRow : OpenClaim := { program := "ytgcocbggoielkaadoor", sum := "0562dd93eaf14b9a1fbdaa94bcaf14bf0c0d1a92618f837ea55921ea54ab0b0b", func := "pub-kmsg/laws.FnAnyInitProducerIDRequest", spec := "fnAnyInitProducerIDRequest", inPlace := ["internal/reflectlite.ValueOf", "internal/reflectlite.Swapper", "(internal/reflectlite.Value).Len"], unfollowed := true, recurses := true, named := ["encoding/binary.BigEndian", "pub-kmsg/pub/kmsg/inner/kbin.ErrNotEnoughData"], apart := false, laid := [("pub-kmsg/pub/kmsg/inner/kbin.ErrNotEnoughData", laid_pub_kmsg_pub_kmsg_inner_kbin_ErrNotEnoughData)] }
def FnAnyInitProducerIDRequestSaid : Prop := fnAnyInitProducerIDRequestRow.holds Tryd.pinned (OpenSpec.ofChange fnAnyInitProducerIDRequestSpec)

/-- ITS FALSE NEIGHBOUR: 'it returns false'. Refute it at one input. -/
def fnAnyInitProducerIDRequestWrong : ChangeSpec := { name := "fnAnyInitProducerIDRequest", fn := fun _ => fun
  | [d1, d2] => { results := [.lit (.bool false)], args := [d1, d2] }
  | _ => none }
def FnAnyInitProducerIDRequestWrongFalsely : Prop := fnAnyInitProducerIDRequestRow.holds Tryd.pinned (OpenSpec.ofChange fnAnyInitProducerIDRequestWrong)

/- THE SECOND FORM. 'bulk': how many values and letters a reading holds, each counted each time it is reached (what is shared counts as often as it is met; a slice's spare places count too). A statement '..UptoSaid' is the law's where the arguments, and the package variables that the reading takes, are together of bulk at most 1048576: NARROWER than '..Said'. Prove '..Said' where nothing that the law and all that it calls make is longer than what came in: it says more and counts as full. Else prove '..UptoSaid'. A law counts once. -/
mutual
def uptoBulk {H : Type} : DataW H → Nat
  | .lit (.string bytes) => bytes.length + 1
  | .lit _ => 1
  | .nil => 1
  | .ptr d => uptoBulk d + 1
  | .slice elems spare => uptoBulkAll elems + uptoBulkAll spare + 1
  | .agg parts => uptoBulkAll parts + 1
  | .iface _ d => uptoBulk d + 1
  | .map entries => uptoBulkEntries entries + 1
  | .held _ => 1
def uptoBulkAll {H : Type} : List (DataW H) → Nat
  | [] => 0
  | d :: r => uptoBulk d + uptoBulkAll r
def uptoBulkEntries {H : Type} : List (Lit × DataW H) → Nat
  | [] => 0
  | x :: r => uptoBulkEntry x + uptoBulkEntries r
def uptoBulkEntry {H : Type} : Lit × DataW H → Nat
  | (.string bytes, d) => bytes.length + uptoBulk d + 1
  | (_, d) => uptoBulk d + 1
 end
def uptoSmall : (H : Type) → List (DataW H) → Bool := fun _ ds => decide (uptoBulkAll ds ≤ 1048576)
def OpenSpec.upto (s : _root_.Go.ChangeSpec) : _root_.Go.OpenSpec := { _root_.Go.OpenSpec.ofChange s with cond := some uptoSmall }

/-- 'laws.FnAnyExpireDelegationTokenResponse', WHERE WHAT IT READS IS OF BULK AT MOST 1048576: true; the input reads as it did. -/
def fnAnyExpireDelegationTokenResponseUptoRow : OpenClaim := { program := "ytgcocbggoielkaadoor", sum := "0562dd93eaf14b9a1fbdaa94bcaf14bf0c0d1a92618f837ea55921ea54ab0b0b", func := "pub-kmsg/laws.FnAnyExpireDelegationTokenResponse", spec := "fnAnyExpireDelegationTokenResponse", inPlace := ["internal/reflectlite.ValueOf", "internal/reflectlite.Swapper", "(internal/reflectlite.Value).Len"], unfollowed := true, recurses := true, named := ["encoding/binary.BigEndian", "pub-kmsg/pub/kmsg/inner/kbin.ErrNotEnoughData"], apart := false, laid := [("pub-kmsg/pub/kmsg/inner/kbin.ErrNotEnoughData", laid_pub_kmsg_pub_kmsg_inner_kbin_ErrNotEnoughData)], narrowed := true }
def FnAnyExpireDelegationTokenResponseUptoSaid : Prop := fnAnyExpireDelegationTokenResponseUptoRow.holds Tryd.pinned (OpenSpec.upto fnAnyExpireDelegationTokenResponseSpec)

/-- 'laws.FnCutEndTxnResponse', WHERE WHAT IT READS IS OF BULK AT MOST 1048576: true; the input reads as it did. -/
def fnCutEndTxnResponseUptoRow : OpenClaim := { program := "ytgcocbggoielkaadoor", sum := "0562dd93eaf14b9a1fbdaa94bcaf14bf0c0d1a92618f837ea55921ea54ab0b0b", func := "pub-kmsg/laws.FnCutEndTxnResponse", spec := "fnCutEndTxnResponse", inPlace := ["internal/reflectlite.ValueOf", "internal/reflectlite.Swapper", "(internal/reflectlite.Value).Len"], unfollowed := true, recurses := true, named := ["encoding/binary.BigEndian", "pub-kmsg/pub/kmsg/inner/kbin.ErrNotEnoughData"], loops := true, apart := false, laid := [("pub-kmsg/pub/kmsg/inner/kbin.ErrNotEnoughData", laid_pub_kmsg_pub_kmsg_inner_kbin_ErrNotEnoughData)], narrowed := true }
def FnCutEndTxnResponseUptoSaid : Prop := fnCutEndTxnResponseUptoRow.holds Tryd.pinned (OpenSpec.upto fnCutEndTxnResponseSpec)

/-- 'laws.FnAnyDefaultPrincipalData', WHERE WHAT IT READS IS OF BULK AT MOST 1048576: true; the input reads as it did. -/
def fnAnyDefaultPrincipalDataUptoRow : OpenClaim := { program := "ytgcocbggoielkaadoor", sum := "0562dd93eaf14b9a1fbdaa94bcaf14bf0c0d1a92618f837ea55921ea54ab0b0b", func := "pub-kmsg/laws.FnAnyDefaultPrincipalData", spec := "fnAnyDefaultPrincipalData", inPlace := ["internal/reflectlite.ValueOf", "internal/reflectlite.Swapper", "(internal/reflectlite.Value).Len"], unfollowed := true, recurses := true, named := ["encoding/binary.BigEndian", "pub-kmsg/pub/kmsg/inner/kbin.ErrNotEnoughData"], apart := false, laid := [("pub-kmsg/pub/kmsg/inner/kbin.ErrNotEnoughData", laid_pub_kmsg_pub_kmsg_inner_kbin_ErrNotEnoughData)], narrowed := true }
def FnAnyDefaultPrincipalDataUptoSaid : Prop := fnAnyDefaultPrincipalDataUptoRow.holds Tryd.pinned (OpenSpec.upto fnAnyDefaultPrincipalDataSpec)

/-- 'laws.FnAnyRemoveRaftVoterResponse', WHERE WHAT IT READS IS OF BULK AT MOST 1048576: true; the input reads as it did. -/
def fnAnyRemoveRaftVoterResponseUptoRow : OpenClaim := { program := "ytgcocbggoielkaadoor", sum := "0562dd93eaf14b9a1fbdaa94bcaf14bf0c0d1a92618f837ea55921ea54ab0b0b", func := "pub-kmsg/laws.FnAnyRemoveRaftVoterResponse", spec := "fnAnyRemoveRaftVoterResponse", inPlace := ["internal/reflectlite.ValueOf", "internal/reflectlite.Swapper", "(internal/reflectlite.Value).Len"], unfollowed := true, recurses := true, named := ["encoding/binary.BigEndian", "pub-kmsg/pub/kmsg/inner/kbin.ErrNotEnoughData"], apart := false, laid := [("pub-kmsg/pub/kmsg/inner/kbin.ErrNotEnoughData", laid_pub_kmsg_pub_kmsg_inner_kbin_ErrNotEnoughData)], narrowed := true }
def FnAnyRemoveRaftVoterResponseUptoSaid : Prop := fnAnyRemoveRaftVoterResponseUptoRow.holds Tryd.pinned (OpenSpec.upto fnAnyRemoveRaftVoterResponseSpec)

/-- 'laws.FnCutAddOffsetsToTxnRequest', WHERE WHAT IT READS IS OF BULK AT MOST 1048576: true; the input reads as it did. -/
def fnCutAddOffsetsToTxnRequestUptoRow : OpenClaim := { program := "ytgcocbggoielkaadoor", sum := "0562dd93eaf14b9a1fbdaa94bcaf14bf0c0d1a92618f837ea55921ea54ab0b0b", func := "pub-kmsg/laws.FnCutAddOffsetsToTxnRequest", spec := "fnCutAddOffsetsToTxnRequest", inPlace := ["internal/reflectlite.ValueOf", "internal/reflectlite.Swapper", "(internal/reflectlite.Value).Len"], unfollowed := true, recurses := true, named := ["encoding/binary.BigEndian", "pub-kmsg/pub/kmsg/inner/kbin.ErrNotEnoughData"], loops := true, apart := false, laid := [("pub-kmsg/pub/kmsg/inner/kbin.ErrNotEnoughData", laid_pub_kmsg_pub_kmsg_inner_kbin_ErrNotEnoughData)], narrowed := true }
def FnCutAddOffsetsToTxnRequestUptoSaid : Prop := fnCutAddOffsetsToTxnRequestUptoRow.holds Tryd.pinned (OpenSpec.upto fnCutAddOffsetsToTxnRequestSpec)

/-- 'laws.FnAnyDescribeTransactionsRequest', WHERE WHAT IT READS IS OF BULK AT MOST 1048576: true; the input reads as it did. -/
def fnAnyDescribeTransactionsRequestUptoRow : OpenClaim := { program := "ytgcocbggoielkaadoor", sum := "0562dd93eaf14b9a1fbdaa94bcaf14bf0c0d1a92618f837ea55921ea54ab0b0b", func := "pub-kmsg/laws.FnAnyDescribeTransactionsRequest", spec := "fnAnyDescribeTransactionsRequest", inPlace := ["internal/reflectlite.ValueOf", "internal/reflectlite.Swapper", "(internal/reflectlite.Value).Len"], unfollowed := true, recurses := true, named := ["encoding/binary.BigEndian", "pub-kmsg/pub/kmsg/inner/kbin.ErrNotEnoughData"], apart := false, laid := [("pub-kmsg/pub/kmsg/inner/kbin.ErrNotEnoughData", laid_pub_kmsg_pub_kmsg_inner_kbin_ErrNotEnoughData)], narrowed := true }
def FnAnyDescribeTransactionsRequestUptoSaid : Prop := fnAnyDescribeTransactionsRequestUptoRow.holds Tryd.pinned (OpenSpec.upto fnAnyDescribeTransactionsRequestSpec)

/-- 'laws.FnAnyInitProducerIDRequest', WHERE WHAT IT READS IS OF BULK AT MOST 1048576: true; the input reads as it did. -/
def fnAnyInitProducerIDRequestUptoRow : OpenClaim := { program := "ytgcocbggoielkaadoor", sum := "0562dd93eaf14b9a1fbdaa94bcaf14bf0c0d1a92618f837ea55921ea54ab0b0b", func := "pub-kmsg/laws.FnAnyInitProducerIDRequest", spec := "fnAnyInitProducerIDRequest", inPlace := ["internal/reflectlite.ValueOf", "internal/reflectlite.Swapper", "(internal/reflectlite.Value).Len"], unfollowed := true, recurses := true, named := ["encoding/binary.BigEndian", "pub-kmsg/pub/kmsg/inner/kbin.ErrNotEnoughData"], apart := false, laid := [("pub-kmsg/pub/kmsg/inner/kbin.ErrNotEnoughData", laid_pub_kmsg_pub_kmsg_inner_kbin_ErrNotEnoughData)], narrowed := true }
def FnAnyInitProducerIDRequestUptoSaid : Prop := fnAnyInitProducerIDRequestUptoRow.holds Tryd.pinned (OpenSpec.upto fnAnyInitProducerIDRequestSpec)

end Rows
end Go.Proofs.YtgcocbggoielkaaDoor
