/- What this seat's program is: the functions that read. No condition. -/
import Derived.Test.YtgcocbggoielkaaGreatDoorRQX
import Derived.Test.YtgcocbggoielkaaGreatDoorRM10
namespace Go.Proofs.YtgcocbggoielkaaGreatDoorR.K
open Go Go.RowKit Go.Proofs Go.Proofs.YtgcocbggoielkaaGreatDoorR.T
set_option linter.unusedVariables false
def rids : RIds := { tRd := 144, tTags := 71, tI8 := 66, tI16 := 42, tI32 := 21, tBool := 4, rBool := 99, rI8 := 98, rI16 := 124, rI32 := 97, rI64 := 108, rU16 := 0, rUuid := 105, rStr := 122, rUStr := 120, rCStr := 121, rUCStr := 119, rNStr := 96, rUNStr := 95, rCNStr := 94, rUCNStr := 93, rBytes := 0, rCBytes := 0, rNBytes := 0, rArr := 101, rCArr := 100, rOk := 102, rCompl := 103, rTags := 109 }
def R : RTy := { TR := 144, TB := 22, U8 := 5, I := 3, Bo := 4 }
/-- the error that the package returns -/
def errV (a : Addr) : Value := .iface 207 (.pointer (some a))
abbrev GlE (a : Addr) : World → Prop := fun w => w.cell? ⟨1, 0, none⟩ = some (errV a)
theorem rdO : rdOK PP R = true := by kernel_rfl
theorem hBE : aggN PP 167 = some 0 := by kernel_rfl
theorem hBE1 : oneB PP 167 = false := by kernel_rfl
theorem b102 : (Go.Proofs.Tryz.f102).body.map strip = some (sc_ROk R) := by kernel_rfl
theorem ok102 : FnOK PP 102 := fnOK_of Go.Proofs.Tryz.func102 b102 (by kernel_rfl)
theorem b103 : (Go.Proofs.Tryz.f103).body.map strip = some (sc_RComplete R 52 1) := by kernel_rfl
theorem ok103 : FnOK PP 103 := fnOK_of Go.Proofs.Tryz.func103 b103 (by kernel_rfl)
theorem b138 : (Go.Proofs.Tryz.f138).body.map strip = some (sc_BE16 167 R.TB R.U8 27 142) := by kernel_rfl
theorem be2 : BeC PP 138 2 .u16 := beC2 hm rdO (by kernel_rfl) Go.Proofs.Tryz.func138 b138 (by kernel_rfl) (by kernel_rfl) (by kernel_rfl)
theorem b133 : (Go.Proofs.Tryz.f133).body.map strip = some (sc_BE32 167 R.TB R.U8 61 142) := by kernel_rfl
theorem be4 : BeC PP 133 4 .u32 := beC4 hm rdO (by kernel_rfl) Go.Proofs.Tryz.func133 b133 (by kernel_rfl) (by kernel_rfl) (by kernel_rfl)
theorem b140 : (Go.Proofs.Tryz.f140).body.map strip = some (sc_BE64 167 R.TB R.U8 80 142) := by kernel_rfl
theorem be8 : BeC PP 140 8 .u64 := beC8 hm rdO (by kernel_rfl) Go.Proofs.Tryz.func140 b140 (by kernel_rfl) (by kernel_rfl) (by kernel_rfl)
theorem b99 : (Go.Proofs.Tryz.f99).body.map strip = some (sc_RBool R) := by kernel_rfl
theorem rBoolC : RC PP rids.tRd 0 99 (pFix 1) (fun v => ∃ x, v = .bool x) (fun _ _ n v => v = .bool (n != 0)) := rBool_ok rfl rdO Go.Proofs.Tryz.func99 b99 (by kernel_rfl) (by kernel_rfl) (by kernel_rfl)
theorem b98 : (Go.Proofs.Tryz.f98).body.map strip = some (sc_RInt8 R 66) := by kernel_rfl
theorem rI8C : RC PP rids.tRd 0 98 (pInt 1) (fun v => ∃ n, v = .int .i8 n) (fun _ _ n v => v = .int .i8 n) := rInt8_ok rfl rdO (by kernel_rfl) Go.Proofs.Tryz.func98 b98 (by kernel_rfl) (by kernel_rfl) (by kernel_rfl)
theorem b124 : (Go.Proofs.Tryz.f124).body.map strip = some (sc_RNumS R 167 138 0 27 42 2 .i16) := by kernel_rfl
theorem rI16C : RC PP rids.tRd 0 124 (pInt 2) (fun v => ∃ n, v = .int .i16 n) (fun _ _ n v => v = .int .i16 n) := rNumS_ok (ku := .u16) rfl hm rdO hBE hBE1 be2 (by decide) (by kernel_rfl) (by kernel_rfl) (fun n hn => wrap_i16s hn) Go.Proofs.Tryz.func124 b124 (by kernel_rfl) (by kernel_rfl) (by kernel_rfl)
theorem b97 : (Go.Proofs.Tryz.f97).body.map strip = some (sc_RNumS R 167 133 0 61 21 4 .i32) := by kernel_rfl
theorem rI32C : RC PP rids.tRd 0 97 (pInt 4) (fun v => ∃ n, v = .int .i32 n) (fun _ _ n v => v = .int .i32 n) := rNumS_ok (ku := .u32) rfl hm rdO hBE hBE1 be4 (by decide) (by kernel_rfl) (by kernel_rfl) (fun n hn => wrap_i32s hn) Go.Proofs.Tryz.func97 b97 (by kernel_rfl) (by kernel_rfl) (by kernel_rfl)
theorem b134 : (Go.Proofs.Tryz.f134).body.map strip = some (sc_RNumU R 167 140 0 8 .u64) := by kernel_rfl
theorem rU64C : RC PP rids.tRd 0 134 (pFix 8) (fun v => ∃ n, v = .int .u64 n) (fun _ _ n v => v = .int .u64 (n : Int)) := rNumU_ok rfl hm rdO hBE hBE1 be8 (by decide) Go.Proofs.Tryz.func134 b134 (by kernel_rfl) (by kernel_rfl) (by kernel_rfl)
theorem b108 : (Go.Proofs.Tryz.f108).body.map strip = some (sc_RInt64 80 2 134) := by kernel_rfl
theorem rI64C : RC PP rids.tRd 0 108 (pInt 8) (fun v => ∃ n, v = .int .i64 n) (fun _ _ n v => v = .int .i64 n) := rInt64_ok (by kernel_rfl) (by kernel_rfl) rU64C Go.Proofs.Tryz.func108 b108 (by kernel_rfl) (by kernel_rfl) (by kernel_rfl)
theorem b139 : (Go.Proofs.Tryz.f139).body.map strip = some (sc_KUvarint R.TB R.I R.U8 61 142) := by kernel_rfl
theorem kuvC : UvC PP 139 := uvC rdO (by kernel_rfl) Go.Proofs.Tryz.func139 b139 (by kernel_rfl) (by kernel_rfl) (by kernel_rfl)
theorem b126 : (Go.Proofs.Tryz.f126).body.map strip = some (sc_RUvarint R 139) := by kernel_rfl
theorem rUvC : RC PP rids.tRd 0 126 pUv (fun v => ∃ n : Nat, n < 4294967296 ∧ v = .int .u32 (n : Int)) (fun _ _ n v => v = .int .u32 (n : Int)) := rUvarint_ok rfl rdO kuvC Go.Proofs.Tryz.func126 b126 (by kernel_rfl) (by kernel_rfl) (by kernel_rfl)
theorem rUvC2 : RC PP rids.tRd 0 126 pUv (fun v => ∃ n, v = .int .u32 n) (fun _ _ n v => v = .int .u32 (n : Int)) := rUvC.ty (fun v ⟨n, _, h⟩ => ⟨(n : Int), h⟩)
theorem b128 : (Go.Proofs.Tryz.f128).body.map strip = some (sc_RSpan R) := by kernel_rfl
theorem spC : SpC PP rids.tRd 128 := rSpan_ok rfl rdO Go.Proofs.Tryz.func128 b128 (by kernel_rfl) (by kernel_rfl) (by kernel_rfl)
theorem b122 : (Go.Proofs.Tryz.f122).body.map strip = some (sc_RStr 42 3 22 9 124 128) := by kernel_rfl
theorem rStrC : RC PP rids.tRd 0 122 (pPrim false false .str) (tyP false .str) (okP false .str) := rStr_ok rfl rdO (by kernel_rfl) (by kernel_rfl) (by kernel_rfl) rI16C spC Go.Proofs.Tryz.func122 b122 (by kernel_rfl) (by kernel_rfl) (by kernel_rfl)
theorem b121 : (Go.Proofs.Tryz.f121).body.map strip = some (sc_RCStr 61 3 22 9 126 128) := by kernel_rfl
theorem rCStrC : RC PP rids.tRd 0 121 (pPrim true false .str) (tyP false .str) (okP false .str) := rCStr_ok rfl rdO (by kernel_rfl) (by kernel_rfl) (by kernel_rfl) rUvC2 spC Go.Proofs.Tryz.func121 b121 (by kernel_rfl) (by kernel_rfl) (by kernel_rfl)
theorem b96 : (Go.Proofs.Tryz.f96).body.map strip = some (sc_RNStr 42 3 22 9 124 128) := by kernel_rfl
theorem rNStrC : RC PP rids.tRd 0 96 (pPrim false true .str) (tyP true .str) (okP true .str) := rNStr_ok rfl rdO (by kernel_rfl) (by kernel_rfl) (by kernel_rfl) (by kernel_rfl) rI16C spC Go.Proofs.Tryz.func96 b96 (by kernel_rfl) (by kernel_rfl) (by kernel_rfl)
theorem b94 : (Go.Proofs.Tryz.f94).body.map strip = some (sc_RCNStr 61 3 22 9 126 128) := by kernel_rfl
theorem rCNStrC : RC PP rids.tRd 0 94 (pPrim true true .str) (tyP true .str) (okP true .str) := rCNStr_ok rfl rdO (by kernel_rfl) (by kernel_rfl) (by kernel_rfl) (by kernel_rfl) rUvC2 spC Go.Proofs.Tryz.func94 b94 (by kernel_rfl) (by kernel_rfl) (by kernel_rfl)
theorem b101 : (Go.Proofs.Tryz.f101).body.map strip = some (sc_RArr R 21 97) := by kernel_rfl
theorem rArrC : RC PP rids.tRd 0 101 (pLen false) (fun v => ∃ n, v = .int .i32 n) (fun _ _ n v => v = .int .i32 n) := rArr_ok rfl rdO (by kernel_rfl) rI32C Go.Proofs.Tryz.func101 b101 (by kernel_rfl) (by kernel_rfl) (by kernel_rfl)
theorem b100 : (Go.Proofs.Tryz.f100).body.map strip = some (sc_RCArr R 61 21 126) := by kernel_rfl
theorem rCArrC : RC PP rids.tRd 0 100 (pLen true) (fun v => ∃ n, v = .int .i32 n) (fun _ _ n v => v = .int .i32 n) := rCArr_ok rfl rdO (by kernel_rfl) (by kernel_rfl) rUvC2 Go.Proofs.Tryz.func100 b100 (by kernel_rfl) (by kernel_rfl) (by kernel_rfl)
theorem b105 : (Go.Proofs.Tryz.f105).body.map strip = some (sc_RUuid 89 22 128) := by kernel_rfl
theorem rUuidC : RC PP rids.tRd 0 105 (pPrim false false .uuid) (tyP false .uuid) (okP false .uuid) := rUuidFn_ok (tU8 := X.U8) hm (by kernel_rfl) (by kernel_rfl) (info_ex3 (by kernel_rfl)) (by kernel_rfl) spC Go.Proofs.Tryz.func105 b105 (by kernel_rfl) (by kernel_rfl) (by kernel_rfl)
theorem b127 : (Go.Proofs.Tryz.f127).body.map strip = some (sc_TSet 71 69) := by kernel_rfl
theorem tSetC : SetC PP 71 127 := tSet_ok (by kernel_rfl) (by kernel_rfl) Go.Proofs.Tryz.func127 b127 (by kernel_rfl) (by kernel_rfl) (by kernel_rfl)
theorem b109 : (Go.Proofs.Tryz.f109).body.map strip = some (sc_ReadTags 71 61 3 126 128 127) := by kernel_rfl
theorem rTagsC : RC PP rids.tRd 0 109 (pTags true) (fun v => ∃ m, v = .agg #[m] ∧ m.oneCell' = true) (fun w F u v => ∃ m, v = .agg #[m] ∧ TagsV w F u m) := rTagsFn_ok (by kernel_rfl) (info_ex2 (by kernel_rfl)) (by kernel_rfl) (by kernel_rfl) rUvC spC tSetC Go.Proofs.Tryz.func109 b109 (by kernel_rfl) (by kernel_rfl) (by kernel_rfl)
theorem kr (a : Addr) : KR PP rids rids.tRd 0 (errV a) (GlE a) where
  num := fun k h1 h2 => by
    cases k
    · exact num_bool rBoolC
    · exact num_i8 rI8C
    · exact num_i16 rI16C
    · exact num_i32 rI32C
    · exact num_i64 rI64C
    · exact absurd rfl h2
    all_goals exact absurd h1 (by decide)
  uuid := fun _ => rUuidC
  str := fun _ => rStrC
  cstr := fun _ => rCStrC
  nstr := fun _ => rNStrC
  cnstr := fun _ => rCNStrC
  bytes := fun h => absurd rfl h
  cbytes := fun h => absurd rfl h
  nbytes := fun h => absurd rfl h
  arr := fun _ => rArrC
  carr := fun _ => rCArrC
  tags := fun _ => rTagsC
  okF := fun _ => ok102
  ok := fun _ w S rb st h => rOk_ok rdO Go.Proofs.Tryz.func102 b102 (by kernel_rfl) (by kernel_rfl) w S rb st h
  complF := ok103
  compl := fun w S rb st hg h => rComplete_ok rdO (by kernel_rfl) (.inr trivial) Go.Proofs.Tryz.func103 b103 (by kernel_rfl) (by kernel_rfl) w S rb st hg h
end Go.Proofs.YtgcocbggoielkaaGreatDoorR.K
