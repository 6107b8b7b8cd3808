/- What this seat's program is: the functions that read. No condition. -/
import Derived.Test.YtmapoohbongifaaGreatDoorQX
import Derived.Test.YtmapoohbongifaaGreatDoorM10
namespace Go.Proofs.YtmapoohbongifaaGreatDoor.K
open Go Go.RowKit Go.Proofs Go.Proofs.YtmapoohbongifaaGreatDoor.T
set_option linter.unusedVariables false
def rids : RIds := { tRd := 160, tTags := 70, tI8 := 99, tI16 := 42, tI32 := 21, tBool := 4, rBool := 142, rI8 := 123, rI16 := 116, rI32 := 115, rI64 := 121, rU16 := 139, rUuid := 113, rStr := 134, rUStr := 132, rCStr := 133, rUCStr := 131, rNStr := 120, rUNStr := 119, rCNStr := 118, rUCNStr := 117, rBytes := 145, rCBytes := 144, rNBytes := 0, rArr := 109, rCArr := 108, rOk := 110, rCompl := 111, rTags := 124 }
def R : RTy := { TR := 160, TB := 22, U8 := 5, I := 3, Bo := 4 }
/-- the error that the package returns -/
def errV (a : Addr) : Value := .iface 223 (.pointer (some a))
abbrev GlE (a : Addr) : World → Prop := fun w => w.cell? ⟨0, 0, none⟩ = some (errV a)
theorem rdO : rdOK PP R = true := by kernel_rfl
theorem hBE : aggN PP 181 = some 0 := by kernel_rfl
theorem hBE1 : oneB PP 181 = false := by kernel_rfl
theorem b110 : (Go.Proofs.Tryz.f110).body.map strip = some (sc_ROk R) := by kernel_rfl
theorem ok110 : FnOK PP 110 := fnOK_of Go.Proofs.Tryz.func110 b110 (by kernel_rfl)
theorem b111 : (Go.Proofs.Tryz.f111).body.map strip = some (sc_RComplete R 52 0) := by kernel_rfl
theorem ok111 : FnOK PP 111 := fnOK_of Go.Proofs.Tryz.func111 b111 (by kernel_rfl)
theorem b149 : (Go.Proofs.Tryz.f149).body.map strip = some (sc_BE16 181 R.TB R.U8 27 158) := by kernel_rfl
theorem be2 : BeC PP 149 2 .u16 := beC2 hm rdO (by kernel_rfl) Go.Proofs.Tryz.func149 b149 (by kernel_rfl) (by kernel_rfl) (by kernel_rfl)
theorem b148 : (Go.Proofs.Tryz.f148).body.map strip = some (sc_BE32 181 R.TB R.U8 63 158) := by kernel_rfl
theorem be4 : BeC PP 148 4 .u32 := beC4 hm rdO (by kernel_rfl) Go.Proofs.Tryz.func148 b148 (by kernel_rfl) (by kernel_rfl) (by kernel_rfl)
theorem b157 : (Go.Proofs.Tryz.f157).body.map strip = some (sc_BE64 181 R.TB R.U8 79 158) := by kernel_rfl
theorem be8 : BeC PP 157 8 .u64 := beC8 hm rdO (by kernel_rfl) Go.Proofs.Tryz.func157 b157 (by kernel_rfl) (by kernel_rfl) (by kernel_rfl)
theorem b142 : (Go.Proofs.Tryz.f142).body.map strip = some (sc_RBool R) := by kernel_rfl
theorem rBoolC : RC PP rids.tRd 1 142 (pFix 1) (fun v => ∃ x, v = .bool x) (fun _ _ n v => v = .bool (n != 0)) := rBool_ok rfl rdO Go.Proofs.Tryz.func142 b142 (by kernel_rfl) (by kernel_rfl) (by kernel_rfl)
theorem b123 : (Go.Proofs.Tryz.f123).body.map strip = some (sc_RInt8 R 99) := by kernel_rfl
theorem rI8C : RC PP rids.tRd 1 123 (pInt 1) (fun v => ∃ n, v = .int .i8 n) (fun _ _ n v => v = .int .i8 n) := rInt8_ok rfl rdO (by kernel_rfl) Go.Proofs.Tryz.func123 b123 (by kernel_rfl) (by kernel_rfl) (by kernel_rfl)
theorem b116 : (Go.Proofs.Tryz.f116).body.map strip = some (sc_RNumS R 181 149 1 27 42 2 .i16) := by kernel_rfl
theorem rI16C : RC PP rids.tRd 1 116 (pInt 2) (fun v => ∃ n, v = .int .i16 n) (fun _ _ n v => v = .int .i16 n) := rNumS_ok (ku := .u16) rfl hm rdO hBE hBE1 be2 (by decide) (by kernel_rfl) (by kernel_rfl) (fun n hn => wrap_i16s hn) Go.Proofs.Tryz.func116 b116 (by kernel_rfl) (by kernel_rfl) (by kernel_rfl)
theorem b115 : (Go.Proofs.Tryz.f115).body.map strip = some (sc_RNumS R 181 148 1 63 21 4 .i32) := by kernel_rfl
theorem rI32C : RC PP rids.tRd 1 115 (pInt 4) (fun v => ∃ n, v = .int .i32 n) (fun _ _ n v => v = .int .i32 n) := rNumS_ok (ku := .u32) rfl hm rdO hBE hBE1 be4 (by decide) (by kernel_rfl) (by kernel_rfl) (fun n hn => wrap_i32s hn) Go.Proofs.Tryz.func115 b115 (by kernel_rfl) (by kernel_rfl) (by kernel_rfl)
theorem b139 : (Go.Proofs.Tryz.f139).body.map strip = some (sc_RNumU R 181 149 1 2 .u16) := by kernel_rfl
theorem rU16C : RC PP rids.tRd 1 139 (pFix 2) (fun v => ∃ n, v = .int .u16 n) (fun _ _ n v => v = .int .u16 (n : Int)) := rNumU_ok rfl hm rdO hBE hBE1 be2 (by decide) Go.Proofs.Tryz.func139 b139 (by kernel_rfl) (by kernel_rfl) (by kernel_rfl)
theorem b151 : (Go.Proofs.Tryz.f151).body.map strip = some (sc_RNumU R 181 157 1 8 .u64) := by kernel_rfl
theorem rU64C : RC PP rids.tRd 1 151 (pFix 8) (fun v => ∃ n, v = .int .u64 n) (fun _ _ n v => v = .int .u64 (n : Int)) := rNumU_ok rfl hm rdO hBE hBE1 be8 (by decide) Go.Proofs.Tryz.func151 b151 (by kernel_rfl) (by kernel_rfl) (by kernel_rfl)
theorem b121 : (Go.Proofs.Tryz.f121).body.map strip = some (sc_RInt64 79 2 151) := by kernel_rfl
theorem rI64C : RC PP rids.tRd 1 121 (pInt 8) (fun v => ∃ n, v = .int .i64 n) (fun _ _ n v => v = .int .i64 n) := rInt64_ok (by kernel_rfl) (by kernel_rfl) rU64C Go.Proofs.Tryz.func121 b121 (by kernel_rfl) (by kernel_rfl) (by kernel_rfl)
theorem b156 : (Go.Proofs.Tryz.f156).body.map strip = some (sc_KUvarint R.TB R.I R.U8 63 158) := by kernel_rfl
theorem kuvC : UvC PP 156 := uvC rdO (by kernel_rfl) Go.Proofs.Tryz.func156 b156 (by kernel_rfl) (by kernel_rfl) (by kernel_rfl)
theorem b146 : (Go.Proofs.Tryz.f146).body.map strip = some (sc_RUvarint R 156) := by kernel_rfl
theorem rUvC : RC PP rids.tRd 1 146 pUv (fun v => ∃ n : Nat, n < 4294967296 ∧ v = .int .u32 (n : Int)) (fun _ _ n v => v = .int .u32 (n : Int)) := rUvarint_ok rfl rdO kuvC Go.Proofs.Tryz.func146 b146 (by kernel_rfl) (by kernel_rfl) (by kernel_rfl)
theorem rUvC2 : RC PP rids.tRd 1 146 pUv (fun v => ∃ n, v = .int .u32 n) (fun _ _ n v => v = .int .u32 (n : Int)) := rUvC.ty (fun v ⟨n, _, h⟩ => ⟨(n : Int), h⟩)
theorem b147 : (Go.Proofs.Tryz.f147).body.map strip = some (sc_RSpan R) := by kernel_rfl
theorem spC : SpC PP rids.tRd 147 := rSpan_ok rfl rdO Go.Proofs.Tryz.func147 b147 (by kernel_rfl) (by kernel_rfl) (by kernel_rfl)
theorem b134 : (Go.Proofs.Tryz.f134).body.map strip = some (sc_RStr 42 3 22 9 116 147) := by kernel_rfl
theorem rStrC : RC PP rids.tRd 1 134 (pPrim false false .str) (tyP false .str) (okP false .str) := rStr_ok rfl rdO (by kernel_rfl) (by kernel_rfl) (by kernel_rfl) rI16C spC Go.Proofs.Tryz.func134 b134 (by kernel_rfl) (by kernel_rfl) (by kernel_rfl)
theorem b133 : (Go.Proofs.Tryz.f133).body.map strip = some (sc_RCStr 63 3 22 9 146 147) := by kernel_rfl
theorem rCStrC : RC PP rids.tRd 1 133 (pPrim true false .str) (tyP false .str) (okP false .str) := rCStr_ok rfl rdO (by kernel_rfl) (by kernel_rfl) (by kernel_rfl) rUvC2 spC Go.Proofs.Tryz.func133 b133 (by kernel_rfl) (by kernel_rfl) (by kernel_rfl)
theorem b120 : (Go.Proofs.Tryz.f120).body.map strip = some (sc_RNStr 42 3 22 9 116 147) := by kernel_rfl
theorem rNStrC : RC PP rids.tRd 1 120 (pPrim false true .str) (tyP true .str) (okP true .str) := rNStr_ok rfl rdO (by kernel_rfl) (by kernel_rfl) (by kernel_rfl) (by kernel_rfl) rI16C spC Go.Proofs.Tryz.func120 b120 (by kernel_rfl) (by kernel_rfl) (by kernel_rfl)
theorem b118 : (Go.Proofs.Tryz.f118).body.map strip = some (sc_RCNStr 63 3 22 9 146 147) := by kernel_rfl
theorem rCNStrC : RC PP rids.tRd 1 118 (pPrim true true .str) (tyP true .str) (okP true .str) := rCNStr_ok rfl rdO (by kernel_rfl) (by kernel_rfl) (by kernel_rfl) (by kernel_rfl) rUvC2 spC Go.Proofs.Tryz.func118 b118 (by kernel_rfl) (by kernel_rfl) (by kernel_rfl)
theorem b145 : (Go.Proofs.Tryz.f145).body.map strip = some (sc_RBytes 21 22 3 115 147) := by kernel_rfl
theorem rBytesC : RC PP rids.tRd 1 145 (pPrim false false .bytes) (tyP false .bytes) (okP false .bytes) := rBytes_ok (T2 := 0) (T3 := 0) rfl rdO (by kernel_rfl) (by kernel_rfl) (by kernel_rfl) (info_ex (by kernel_rfl)) rI32C spC Go.Proofs.Tryz.func145 b145 (by kernel_rfl) (by kernel_rfl) (by kernel_rfl)
theorem b144 : (Go.Proofs.Tryz.f144).body.map strip = some (sc_RCBytes 63 3 22 146 147) := by kernel_rfl
theorem rCBytesC : RC PP rids.tRd 1 144 (pPrim true false .bytes) (tyP false .bytes) (okP false .bytes) := rCBytes_ok (T2 := 0) (T3 := 0) rfl rdO (by kernel_rfl) (by kernel_rfl) (by kernel_rfl) (info_ex (by kernel_rfl)) rUvC2 spC Go.Proofs.Tryz.func144 b144 (by kernel_rfl) (by kernel_rfl) (by kernel_rfl)
theorem b109 : (Go.Proofs.Tryz.f109).body.map strip = some (sc_RArr R 21 115) := by kernel_rfl
theorem rArrC : RC PP rids.tRd 1 109 (pLen false) (fun v => ∃ n, v = .int .i32 n) (fun _ _ n v => v = .int .i32 n) := rArr_ok rfl rdO (by kernel_rfl) rI32C Go.Proofs.Tryz.func109 b109 (by kernel_rfl) (by kernel_rfl) (by kernel_rfl)
theorem b108 : (Go.Proofs.Tryz.f108).body.map strip = some (sc_RCArr R 63 21 146) := by kernel_rfl
theorem rCArrC : RC PP rids.tRd 1 108 (pLen true) (fun v => ∃ n, v = .int .i32 n) (fun _ _ n v => v = .int .i32 n) := rCArr_ok rfl rdO (by kernel_rfl) (by kernel_rfl) rUvC2 Go.Proofs.Tryz.func108 b108 (by kernel_rfl) (by kernel_rfl) (by kernel_rfl)
theorem b113 : (Go.Proofs.Tryz.f113).body.map strip = some (sc_RUuid 84 22 147) := by kernel_rfl
theorem rUuidC : RC PP rids.tRd 1 113 (pPrim false false .uuid) (tyP false .uuid) (okP false .uuid) := rUuidFn_ok (tU8 := X.U8) hm (by kernel_rfl) (by kernel_rfl) (info_ex3 (by kernel_rfl)) (by kernel_rfl) spC Go.Proofs.Tryz.func113 b113 (by kernel_rfl) (by kernel_rfl) (by kernel_rfl)
theorem b152 : (Go.Proofs.Tryz.f152).body.map strip = some (sc_TSet 70 68) := by kernel_rfl
theorem tSetC : SetC PP 70 152 := tSet_ok (by kernel_rfl) (by kernel_rfl) Go.Proofs.Tryz.func152 b152 (by kernel_rfl) (by kernel_rfl) (by kernel_rfl)
theorem b124 : (Go.Proofs.Tryz.f124).body.map strip = some (sc_ReadTags 70 63 3 146 147 152) := by kernel_rfl
theorem rTagsC : RC PP rids.tRd 1 124 (pTags true) (fun v => ∃ m, v = .agg #[m] ∧ m.oneCell' = true) (fun w F u v => ∃ m, v = .agg #[m] ∧ TagsV w F u m) := rTagsFn_ok (by kernel_rfl) (info_ex2 (by kernel_rfl)) (by kernel_rfl) (by kernel_rfl) rUvC spC tSetC Go.Proofs.Tryz.func124 b124 (by kernel_rfl) (by kernel_rfl) (by kernel_rfl)
theorem kr (a : Addr) : KR PP rids rids.tRd 1 (errV a) (GlE a) where
  num := fun k h1 h2 => by
    cases k
    · exact num_bool rBoolC
    · exact num_i8 rI8C
    · exact num_i16 rI16C
    · exact num_i32 rI32C
    · exact num_i64 rI64C
    · exact num_u16 rU16C
    all_goals exact absurd h1 (by decide)
  uuid := fun _ => rUuidC
  str := fun _ => rStrC
  cstr := fun _ => rCStrC
  nstr := fun _ => rNStrC
  cnstr := fun _ => rCNStrC
  bytes := fun _ => rBytesC
  cbytes := fun _ => rCBytesC
  nbytes := fun h => absurd rfl h
  arr := fun _ => rArrC
  carr := fun _ => rCArrC
  tags := fun _ => rTagsC
  okF := fun _ => ok110
  ok := fun _ w S rb st h => rOk_ok rdO Go.Proofs.Tryz.func110 b110 (by kernel_rfl) (by kernel_rfl) w S rb st h
  complF := ok111
  compl := fun w S rb st hg h => rComplete_ok rdO (by kernel_rfl) (.inr trivial) Go.Proofs.Tryz.func111 b111 (by kernel_rfl) (by kernel_rfl) w S rb st hg h
end Go.Proofs.YtmapoohbongifaaGreatDoor.K
