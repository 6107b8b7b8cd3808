/- What this seat's program is: the functions that read. No condition. -/
import Derived.Test.YtjcndcolfllibaaDoorQX
import Derived.Test.YtjcndcolfllibaaDoorM10
namespace Go.Proofs.YtjcndcolfllibaaDoor.K
open Go Go.RowKit Go.Proofs Go.Proofs.YtjcndcolfllibaaDoor.T
set_option linter.unusedVariables false
def rids : RIds := { tRd := 92, tTags := 48, tI8 := 87, tI16 := 29, tI32 := 21, tBool := 4, rBool := 91, rI8 := 95, rI16 := 83, rI32 := 69, rI64 := 84, rU16 := 90, rUuid := 88, rStr := 68, rUStr := 66, rCStr := 67, rUCStr := 65, rNStr := 73, rUNStr := 72, rCNStr := 71, rUCNStr := 70, rBytes := 86, rCBytes := 85, rNBytes := 0, rArr := 75, rCArr := 74, rOk := 76, rCompl := 77, rTags := 78 }
def R : RTy := { TR := 92, TB := 22, U8 := 5, I := 3, Bo := 4 }
/-- the error that the package returns -/
def errV (a : Addr) : Value := .iface 157 (.pointer (some a))
abbrev GlE (a : Addr) : World → Prop := fun w => w.cell? ⟨1, 0, none⟩ = some (errV a)
theorem rdO : rdOK PP R = true := by kernel_rfl
theorem hBE : aggN PP 116 = some 0 := by kernel_rfl
theorem hBE1 : oneB PP 116 = false := by kernel_rfl
theorem b76 : (Go.Proofs.Tryd.f76).body.map strip = some (sc_ROk R) := by kernel_rfl
theorem ok76 : FnOK PP 76 := fnOK_of Go.Proofs.Tryd.func76 b76 (by kernel_rfl)
theorem b77 : (Go.Proofs.Tryd.f77).body.map strip = some (sc_RComplete R 35 1) := by kernel_rfl
theorem ok77 : FnOK PP 77 := fnOK_of Go.Proofs.Tryd.func77 b77 (by kernel_rfl)
theorem b104 : (Go.Proofs.Tryd.f104).body.map strip = some (sc_BE16 116 R.TB R.U8 70 101) := by kernel_rfl
theorem be2 : BeC PP 104 2 .u16 := beC2 hm rdO (by kernel_rfl) Go.Proofs.Tryd.func104 b104 (by kernel_rfl) (by kernel_rfl) (by kernel_rfl)
theorem b99 : (Go.Proofs.Tryd.f99).body.map strip = some (sc_BE32 116 R.TB R.U8 57 101) := by kernel_rfl
theorem be4 : BeC PP 99 4 .u32 := beC4 hm rdO (by kernel_rfl) Go.Proofs.Tryd.func99 b99 (by kernel_rfl) (by kernel_rfl) (by kernel_rfl)
theorem b112 : (Go.Proofs.Tryd.f112).body.map strip = some (sc_BE64 116 R.TB R.U8 108 101) := by kernel_rfl
theorem be8 : BeC PP 112 8 .u64 := beC8 hm rdO (by kernel_rfl) Go.Proofs.Tryd.func112 b112 (by kernel_rfl) (by kernel_rfl) (by kernel_rfl)
theorem b91 : (Go.Proofs.Tryd.f91).body.map strip = some (sc_RBool R) := by kernel_rfl
theorem rBoolC : RC PP rids.tRd 0 91 (pFix 1) (fun v => ∃ x, v = .bool x) (fun _ _ n v => v = .bool (n != 0)) := rBool_ok rfl rdO Go.Proofs.Tryd.func91 b91 (by kernel_rfl) (by kernel_rfl) (by kernel_rfl)
theorem b95 : (Go.Proofs.Tryd.f95).body.map strip = some (sc_RInt8 R 87) := by kernel_rfl
theorem rI8C : RC PP rids.tRd 0 95 (pInt 1) (fun v => ∃ n, v = .int .i8 n) (fun _ _ n v => v = .int .i8 n) := rInt8_ok rfl rdO (by kernel_rfl) Go.Proofs.Tryd.func95 b95 (by kernel_rfl) (by kernel_rfl) (by kernel_rfl)
theorem b83 : (Go.Proofs.Tryd.f83).body.map strip = some (sc_RNumS R 116 104 0 70 29 2 .i16) := by kernel_rfl
theorem rI16C : RC PP rids.tRd 0 83 (pInt 2) (fun v => ∃ n, v = .int .i16 n) (fun _ _ n v => v = .int .i16 n) := rNumS_ok (ku := .u16) rfl hm rdO hBE hBE1 be2 (by decide) (by kernel_rfl) (by kernel_rfl) (fun n hn => wrap_i16s hn) Go.Proofs.Tryd.func83 b83 (by kernel_rfl) (by kernel_rfl) (by kernel_rfl)
theorem b69 : (Go.Proofs.Tryd.f69).body.map strip = some (sc_RNumS R 116 99 0 57 21 4 .i32) := by kernel_rfl
theorem rI32C : RC PP rids.tRd 0 69 (pInt 4) (fun v => ∃ n, v = .int .i32 n) (fun _ _ n v => v = .int .i32 n) := rNumS_ok (ku := .u32) rfl hm rdO hBE hBE1 be4 (by decide) (by kernel_rfl) (by kernel_rfl) (fun n hn => wrap_i32s hn) Go.Proofs.Tryd.func69 b69 (by kernel_rfl) (by kernel_rfl) (by kernel_rfl)
theorem b90 : (Go.Proofs.Tryd.f90).body.map strip = some (sc_RNumU R 116 104 0 2 .u16) := by kernel_rfl
theorem rU16C : RC PP rids.tRd 0 90 (pFix 2) (fun v => ∃ n, v = .int .u16 n) (fun _ _ n v => v = .int .u16 (n : Int)) := rNumU_ok rfl hm rdO hBE hBE1 be2 (by decide) Go.Proofs.Tryd.func90 b90 (by kernel_rfl) (by kernel_rfl) (by kernel_rfl)
theorem b105 : (Go.Proofs.Tryd.f105).body.map strip = some (sc_RNumU R 116 112 0 8 .u64) := by kernel_rfl
theorem rU64C : RC PP rids.tRd 0 105 (pFix 8) (fun v => ∃ n, v = .int .u64 n) (fun _ _ n v => v = .int .u64 (n : Int)) := rNumU_ok rfl hm rdO hBE hBE1 be8 (by decide) Go.Proofs.Tryd.func105 b105 (by kernel_rfl) (by kernel_rfl) (by kernel_rfl)
theorem b84 : (Go.Proofs.Tryd.f84).body.map strip = some (sc_RInt64 108 2 105) := by kernel_rfl
theorem rI64C : RC PP rids.tRd 0 84 (pInt 8) (fun v => ∃ n, v = .int .i64 n) (fun _ _ n v => v = .int .i64 n) := rInt64_ok (by kernel_rfl) (by kernel_rfl) rU64C Go.Proofs.Tryd.func84 b84 (by kernel_rfl) (by kernel_rfl) (by kernel_rfl)
theorem b106 : (Go.Proofs.Tryd.f106).body.map strip = some (sc_KUvarint R.TB R.I R.U8 57 101) := by kernel_rfl
theorem kuvC : UvC PP 106 := uvC rdO (by kernel_rfl) Go.Proofs.Tryd.func106 b106 (by kernel_rfl) (by kernel_rfl) (by kernel_rfl)
theorem b96 : (Go.Proofs.Tryd.f96).body.map strip = some (sc_RUvarint R 106) := by kernel_rfl
theorem rUvC : RC PP rids.tRd 0 96 pUv (fun v => ∃ n : Nat, n < 4294967296 ∧ v = .int .u32 (n : Int)) (fun _ _ n v => v = .int .u32 (n : Int)) := rUvarint_ok rfl rdO kuvC Go.Proofs.Tryd.func96 b96 (by kernel_rfl) (by kernel_rfl) (by kernel_rfl)
theorem rUvC2 : RC PP rids.tRd 0 96 pUv (fun v => ∃ n, v = .int .u32 n) (fun _ _ n v => v = .int .u32 (n : Int)) := rUvC.ty (fun v ⟨n, _, h⟩ => ⟨(n : Int), h⟩)
theorem b98 : (Go.Proofs.Tryd.f98).body.map strip = some (sc_RSpan R) := by kernel_rfl
theorem spC : SpC PP rids.tRd 98 := rSpan_ok rfl rdO Go.Proofs.Tryd.func98 b98 (by kernel_rfl) (by kernel_rfl) (by kernel_rfl)
theorem b68 : (Go.Proofs.Tryd.f68).body.map strip = some (sc_RStr 29 3 22 9 83 98) := by kernel_rfl
theorem rStrC : RC PP rids.tRd 0 68 (pPrim false false .str) (tyP false .str) (okP false .str) := rStr_ok rfl rdO (by kernel_rfl) (by kernel_rfl) (by kernel_rfl) rI16C spC Go.Proofs.Tryd.func68 b68 (by kernel_rfl) (by kernel_rfl) (by kernel_rfl)
theorem b67 : (Go.Proofs.Tryd.f67).body.map strip = some (sc_RCStr 57 3 22 9 96 98) := by kernel_rfl
theorem rCStrC : RC PP rids.tRd 0 67 (pPrim true false .str) (tyP false .str) (okP false .str) := rCStr_ok rfl rdO (by kernel_rfl) (by kernel_rfl) (by kernel_rfl) rUvC2 spC Go.Proofs.Tryd.func67 b67 (by kernel_rfl) (by kernel_rfl) (by kernel_rfl)
theorem b73 : (Go.Proofs.Tryd.f73).body.map strip = some (sc_RNStr 29 3 22 9 83 98) := by kernel_rfl
theorem rNStrC : RC PP rids.tRd 0 73 (pPrim false true .str) (tyP true .str) (okP true .str) := rNStr_ok rfl rdO (by kernel_rfl) (by kernel_rfl) (by kernel_rfl) (by kernel_rfl) rI16C spC Go.Proofs.Tryd.func73 b73 (by kernel_rfl) (by kernel_rfl) (by kernel_rfl)
theorem b71 : (Go.Proofs.Tryd.f71).body.map strip = some (sc_RCNStr 57 3 22 9 96 98) := by kernel_rfl
theorem rCNStrC : RC PP rids.tRd 0 71 (pPrim true true .str) (tyP true .str) (okP true .str) := rCNStr_ok rfl rdO (by kernel_rfl) (by kernel_rfl) (by kernel_rfl) (by kernel_rfl) rUvC2 spC Go.Proofs.Tryd.func71 b71 (by kernel_rfl) (by kernel_rfl) (by kernel_rfl)
theorem b86 : (Go.Proofs.Tryd.f86).body.map strip = some (sc_RBytes 21 22 3 69 98) := by kernel_rfl
theorem rBytesC : RC PP rids.tRd 0 86 (pPrim false false .bytes) (tyP false .bytes) (okP false .bytes) := rBytes_ok (T2 := 0) (T3 := 0) rfl rdO (by kernel_rfl) (by kernel_rfl) (by kernel_rfl) (info_ex (by kernel_rfl)) rI32C spC Go.Proofs.Tryd.func86 b86 (by kernel_rfl) (by kernel_rfl) (by kernel_rfl)
theorem b85 : (Go.Proofs.Tryd.f85).body.map strip = some (sc_RCBytes 57 3 22 96 98) := by kernel_rfl
theorem rCBytesC : RC PP rids.tRd 0 85 (pPrim true false .bytes) (tyP false .bytes) (okP false .bytes) := rCBytes_ok (T2 := 0) (T3 := 0) rfl rdO (by kernel_rfl) (by kernel_rfl) (by kernel_rfl) (info_ex (by kernel_rfl)) rUvC2 spC Go.Proofs.Tryd.func85 b85 (by kernel_rfl) (by kernel_rfl) (by kernel_rfl)
theorem b75 : (Go.Proofs.Tryd.f75).body.map strip = some (sc_RArr R 21 69) := by kernel_rfl
theorem rArrC : RC PP rids.tRd 0 75 (pLen false) (fun v => ∃ n, v = .int .i32 n) (fun _ _ n v => v = .int .i32 n) := rArr_ok rfl rdO (by kernel_rfl) rI32C Go.Proofs.Tryd.func75 b75 (by kernel_rfl) (by kernel_rfl) (by kernel_rfl)
theorem b74 : (Go.Proofs.Tryd.f74).body.map strip = some (sc_RCArr R 57 21 96) := by kernel_rfl
theorem rCArrC : RC PP rids.tRd 0 74 (pLen true) (fun v => ∃ n, v = .int .i32 n) (fun _ _ n v => v = .int .i32 n) := rCArr_ok rfl rdO (by kernel_rfl) (by kernel_rfl) rUvC2 Go.Proofs.Tryd.func74 b74 (by kernel_rfl) (by kernel_rfl) (by kernel_rfl)
theorem b88 : (Go.Proofs.Tryd.f88).body.map strip = some (sc_RUuid 63 22 98) := by kernel_rfl
theorem rUuidC : RC PP rids.tRd 0 88 (pPrim false false .uuid) (tyP false .uuid) (okP false .uuid) := rUuidFn_ok (tU8 := X.U8) hm (by kernel_rfl) (by kernel_rfl) (info_ex3 (by kernel_rfl)) (by kernel_rfl) spC Go.Proofs.Tryd.func88 b88 (by kernel_rfl) (by kernel_rfl) (by kernel_rfl)
theorem b100 : (Go.Proofs.Tryd.f100).body.map strip = some (sc_TSet 48 46) := by kernel_rfl
theorem tSetC : SetC PP 48 100 := tSet_ok (by kernel_rfl) (by kernel_rfl) Go.Proofs.Tryd.func100 b100 (by kernel_rfl) (by kernel_rfl) (by kernel_rfl)
theorem b78 : (Go.Proofs.Tryd.f78).body.map strip = some (sc_ReadTags 48 57 3 96 98 100) := by kernel_rfl
theorem rTagsC : RC PP rids.tRd 0 78 (pTags true) (fun v => ∃ m, v = .agg #[m] ∧ m.oneCell' = true) (fun w F u v => ∃ m, v = .agg #[m] ∧ TagsV w F u m) := rTagsFn_ok (by kernel_rfl) (info_ex2 (by kernel_rfl)) (by kernel_rfl) (by kernel_rfl) rUvC spC tSetC Go.Proofs.Tryd.func78 b78 (by kernel_rfl) (by kernel_rfl) (by kernel_rfl)
theorem kr (a : Addr) : KR PP rids rids.tRd 0 (errV a) (GlE a) where
  num := fun k h1 h2 => by
    cases k
    · exact num_bool rBoolC
    · exact num_i8 rI8C
    · exact num_i16 rI16C
    · exact num_i32 rI32C
    · exact num_i64 rI64C
    · exact num_u16 rU16C
    all_goals exact absurd h1 (by decide)
  uuid := fun _ => rUuidC
  str := fun _ => rStrC
  cstr := fun _ => rCStrC
  nstr := fun _ => rNStrC
  cnstr := fun _ => rCNStrC
  bytes := fun _ => rBytesC
  cbytes := fun _ => rCBytesC
  nbytes := fun h => absurd rfl h
  arr := fun _ => rArrC
  carr := fun _ => rCArrC
  tags := fun _ => rTagsC
  okF := fun _ => ok76
  ok := fun _ w S rb st h => rOk_ok rdO Go.Proofs.Tryd.func76 b76 (by kernel_rfl) (by kernel_rfl) w S rb st h
  complF := ok77
  compl := fun w S rb st hg h => rComplete_ok rdO (by kernel_rfl) (.inr trivial) Go.Proofs.Tryd.func77 b77 (by kernel_rfl) (by kernel_rfl) w S rb st hg h
end Go.Proofs.YtjcndcolfllibaaDoor.K
