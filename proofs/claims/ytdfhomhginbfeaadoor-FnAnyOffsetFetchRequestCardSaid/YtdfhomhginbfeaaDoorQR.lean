/- What this seat's program is: the functions that read. No condition. -/
import Derived.Test.YtdfhomhginbfeaaDoorQX
import Derived.Test.YtdfhomhginbfeaaDoorM10
namespace Go.Proofs.YtdfhomhginbfeaaDoor.K
open Go Go.RowKit Go.Proofs Go.Proofs.YtdfhomhginbfeaaDoor.T
set_option linter.unusedVariables false
def rids : RIds := { tRd := 99, tTags := 45, tI8 := 0, tI16 := 29, tI32 := 21, tBool := 4, rBool := 83, rI8 := 0, rI16 := 54, rI32 := 69, rI64 := 64, rU16 := 77, rUuid := 75, rStr := 63, rUStr := 61, rCStr := 62, rUCStr := 60, rNStr := 82, rUNStr := 81, rCNStr := 80, rUCNStr := 79, rBytes := 66, rCBytes := 65, rNBytes := 0, rArr := 56, rCArr := 55, rOk := 57, rCompl := 58, rTags := 68 }
def R : RTy := { TR := 99, TB := 22, U8 := 5, I := 3, Bo := 4 }
/-- the error that the package returns -/
def errV (a : Addr) : Value := .iface 163 (.pointer (some a))
abbrev GlE (a : Addr) : World → Prop := fun w => w.cell? ⟨1, 0, none⟩ = some (errV a)
theorem rdO : rdOK PP R = true := by kernel_rfl
theorem hBE : aggN PP 119 = some 0 := by kernel_rfl
theorem hBE1 : oneB PP 119 = false := by kernel_rfl
theorem b57 : (Go.Proofs.Tryd.f57).body.map strip = some (sc_ROk R) := by kernel_rfl
theorem ok57 : FnOK PP 57 := fnOK_of Go.Proofs.Tryd.func57 b57 (by kernel_rfl)
theorem b58 : (Go.Proofs.Tryd.f58).body.map strip = some (sc_RComplete R 35 1) := by kernel_rfl
theorem ok58 : FnOK PP 58 := fnOK_of Go.Proofs.Tryd.func58 b58 (by kernel_rfl)
theorem b87 : (Go.Proofs.Tryd.f87).body.map strip = some (sc_BE16 119 R.TB R.U8 73 111) := by kernel_rfl
theorem be2 : BeC PP 87 2 .u16 := beC2 hm rdO (by kernel_rfl) Go.Proofs.Tryd.func87 b87 (by kernel_rfl) (by kernel_rfl) (by kernel_rfl)
theorem b93 : (Go.Proofs.Tryd.f93).body.map strip = some (sc_BE32 119 R.TB R.U8 62 111) := by kernel_rfl
theorem be4 : BeC PP 93 4 .u32 := beC4 hm rdO (by kernel_rfl) Go.Proofs.Tryd.func93 b93 (by kernel_rfl) (by kernel_rfl) (by kernel_rfl)
theorem b98 : (Go.Proofs.Tryd.f98).body.map strip = some (sc_BE64 119 R.TB R.U8 109 111) := by kernel_rfl
theorem be8 : BeC PP 98 8 .u64 := beC8 hm rdO (by kernel_rfl) Go.Proofs.Tryd.func98 b98 (by kernel_rfl) (by kernel_rfl) (by kernel_rfl)
theorem b83 : (Go.Proofs.Tryd.f83).body.map strip = some (sc_RBool R) := by kernel_rfl
theorem rBoolC : RC PP rids.tRd 0 83 (pFix 1) (fun v => ∃ x, v = .bool x) (fun _ _ n v => v = .bool (n != 0)) := rBool_ok rfl rdO Go.Proofs.Tryd.func83 b83 (by kernel_rfl) (by kernel_rfl) (by kernel_rfl)
theorem b54 : (Go.Proofs.Tryd.f54).body.map strip = some (sc_RNumS R 119 87 0 73 29 2 .i16) := by kernel_rfl
theorem rI16C : RC PP rids.tRd 0 54 (pInt 2) (fun v => ∃ n, v = .int .i16 n) (fun _ _ n v => v = .int .i16 n) := rNumS_ok (ku := .u16) rfl hm rdO hBE hBE1 be2 (by decide) (by kernel_rfl) (by kernel_rfl) (fun n hn => wrap_i16s hn) Go.Proofs.Tryd.func54 b54 (by kernel_rfl) (by kernel_rfl) (by kernel_rfl)
theorem b69 : (Go.Proofs.Tryd.f69).body.map strip = some (sc_RNumS R 119 93 0 62 21 4 .i32) := by kernel_rfl
theorem rI32C : RC PP rids.tRd 0 69 (pInt 4) (fun v => ∃ n, v = .int .i32 n) (fun _ _ n v => v = .int .i32 n) := rNumS_ok (ku := .u32) rfl hm rdO hBE hBE1 be4 (by decide) (by kernel_rfl) (by kernel_rfl) (fun n hn => wrap_i32s hn) Go.Proofs.Tryd.func69 b69 (by kernel_rfl) (by kernel_rfl) (by kernel_rfl)
theorem b77 : (Go.Proofs.Tryd.f77).body.map strip = some (sc_RNumU R 119 87 0 2 .u16) := by kernel_rfl
theorem rU16C : RC PP rids.tRd 0 77 (pFix 2) (fun v => ∃ n, v = .int .u16 n) (fun _ _ n v => v = .int .u16 (n : Int)) := rNumU_ok rfl hm rdO hBE hBE1 be2 (by decide) Go.Proofs.Tryd.func77 b77 (by kernel_rfl) (by kernel_rfl) (by kernel_rfl)
theorem b91 : (Go.Proofs.Tryd.f91).body.map strip = some (sc_RNumU R 119 98 0 8 .u64) := by kernel_rfl
theorem rU64C : RC PP rids.tRd 0 91 (pFix 8) (fun v => ∃ n, v = .int .u64 n) (fun _ _ n v => v = .int .u64 (n : Int)) := rNumU_ok rfl hm rdO hBE hBE1 be8 (by decide) Go.Proofs.Tryd.func91 b91 (by kernel_rfl) (by kernel_rfl) (by kernel_rfl)
theorem b64 : (Go.Proofs.Tryd.f64).body.map strip = some (sc_RInt64 109 2 91) := by kernel_rfl
theorem rI64C : RC PP rids.tRd 0 64 (pInt 8) (fun v => ∃ n, v = .int .i64 n) (fun _ _ n v => v = .int .i64 n) := rInt64_ok (by kernel_rfl) (by kernel_rfl) rU64C Go.Proofs.Tryd.func64 b64 (by kernel_rfl) (by kernel_rfl) (by kernel_rfl)
theorem b97 : (Go.Proofs.Tryd.f97).body.map strip = some (sc_KUvarint R.TB R.I R.U8 62 111) := by kernel_rfl
theorem kuvC : UvC PP 97 := uvC rdO (by kernel_rfl) Go.Proofs.Tryd.func97 b97 (by kernel_rfl) (by kernel_rfl) (by kernel_rfl)
theorem b88 : (Go.Proofs.Tryd.f88).body.map strip = some (sc_RUvarint R 97) := by kernel_rfl
theorem rUvC : RC PP rids.tRd 0 88 pUv (fun v => ∃ n : Nat, n < 4294967296 ∧ v = .int .u32 (n : Int)) (fun _ _ n v => v = .int .u32 (n : Int)) := rUvarint_ok rfl rdO kuvC Go.Proofs.Tryd.func88 b88 (by kernel_rfl) (by kernel_rfl) (by kernel_rfl)
theorem rUvC2 : RC PP rids.tRd 0 88 pUv (fun v => ∃ n, v = .int .u32 n) (fun _ _ n v => v = .int .u32 (n : Int)) := rUvC.ty (fun v ⟨n, _, h⟩ => ⟨(n : Int), h⟩)
theorem b90 : (Go.Proofs.Tryd.f90).body.map strip = some (sc_RSpan R) := by kernel_rfl
theorem spC : SpC PP rids.tRd 90 := rSpan_ok rfl rdO Go.Proofs.Tryd.func90 b90 (by kernel_rfl) (by kernel_rfl) (by kernel_rfl)
theorem b63 : (Go.Proofs.Tryd.f63).body.map strip = some (sc_RStr 29 3 22 9 54 90) := by kernel_rfl
theorem rStrC : RC PP rids.tRd 0 63 (pPrim false false .str) (tyP false .str) (okP false .str) := rStr_ok rfl rdO (by kernel_rfl) (by kernel_rfl) (by kernel_rfl) rI16C spC Go.Proofs.Tryd.func63 b63 (by kernel_rfl) (by kernel_rfl) (by kernel_rfl)
theorem b62 : (Go.Proofs.Tryd.f62).body.map strip = some (sc_RCStr 62 3 22 9 88 90) := by kernel_rfl
theorem rCStrC : RC PP rids.tRd 0 62 (pPrim true false .str) (tyP false .str) (okP false .str) := rCStr_ok rfl rdO (by kernel_rfl) (by kernel_rfl) (by kernel_rfl) rUvC2 spC Go.Proofs.Tryd.func62 b62 (by kernel_rfl) (by kernel_rfl) (by kernel_rfl)
theorem b82 : (Go.Proofs.Tryd.f82).body.map strip = some (sc_RNStr 29 3 22 9 54 90) := by kernel_rfl
theorem rNStrC : RC PP rids.tRd 0 82 (pPrim false true .str) (tyP true .str) (okP true .str) := rNStr_ok rfl rdO (by kernel_rfl) (by kernel_rfl) (by kernel_rfl) (by kernel_rfl) rI16C spC Go.Proofs.Tryd.func82 b82 (by kernel_rfl) (by kernel_rfl) (by kernel_rfl)
theorem b80 : (Go.Proofs.Tryd.f80).body.map strip = some (sc_RCNStr 62 3 22 9 88 90) := by kernel_rfl
theorem rCNStrC : RC PP rids.tRd 0 80 (pPrim true true .str) (tyP true .str) (okP true .str) := rCNStr_ok rfl rdO (by kernel_rfl) (by kernel_rfl) (by kernel_rfl) (by kernel_rfl) rUvC2 spC Go.Proofs.Tryd.func80 b80 (by kernel_rfl) (by kernel_rfl) (by kernel_rfl)
theorem b66 : (Go.Proofs.Tryd.f66).body.map strip = some (sc_RBytes 21 22 3 69 90) := by kernel_rfl
theorem rBytesC : RC PP rids.tRd 0 66 (pPrim false false .bytes) (tyP false .bytes) (okP false .bytes) := rBytes_ok (T2 := 0) (T3 := 0) rfl rdO (by kernel_rfl) (by kernel_rfl) (by kernel_rfl) (info_ex (by kernel_rfl)) rI32C spC Go.Proofs.Tryd.func66 b66 (by kernel_rfl) (by kernel_rfl) (by kernel_rfl)
theorem b65 : (Go.Proofs.Tryd.f65).body.map strip = some (sc_RCBytes 62 3 22 88 90) := by kernel_rfl
theorem rCBytesC : RC PP rids.tRd 0 65 (pPrim true false .bytes) (tyP false .bytes) (okP false .bytes) := rCBytes_ok (T2 := 0) (T3 := 0) rfl rdO (by kernel_rfl) (by kernel_rfl) (by kernel_rfl) (info_ex (by kernel_rfl)) rUvC2 spC Go.Proofs.Tryd.func65 b65 (by kernel_rfl) (by kernel_rfl) (by kernel_rfl)
theorem b56 : (Go.Proofs.Tryd.f56).body.map strip = some (sc_RArr R 21 69) := by kernel_rfl
theorem rArrC : RC PP rids.tRd 0 56 (pLen false) (fun v => ∃ n, v = .int .i32 n) (fun _ _ n v => v = .int .i32 n) := rArr_ok rfl rdO (by kernel_rfl) rI32C Go.Proofs.Tryd.func56 b56 (by kernel_rfl) (by kernel_rfl) (by kernel_rfl)
theorem b55 : (Go.Proofs.Tryd.f55).body.map strip = some (sc_RCArr R 62 21 88) := by kernel_rfl
theorem rCArrC : RC PP rids.tRd 0 55 (pLen true) (fun v => ∃ n, v = .int .i32 n) (fun _ _ n v => v = .int .i32 n) := rCArr_ok rfl rdO (by kernel_rfl) (by kernel_rfl) rUvC2 Go.Proofs.Tryd.func55 b55 (by kernel_rfl) (by kernel_rfl) (by kernel_rfl)
theorem b75 : (Go.Proofs.Tryd.f75).body.map strip = some (sc_RUuid 64 22 90) := by kernel_rfl
theorem rUuidC : RC PP rids.tRd 0 75 (pPrim false false .uuid) (tyP false .uuid) (okP false .uuid) := rUuidFn_ok (tU8 := X.U8) hm (by kernel_rfl) (by kernel_rfl) (info_ex3 (by kernel_rfl)) (by kernel_rfl) spC Go.Proofs.Tryd.func75 b75 (by kernel_rfl) (by kernel_rfl) (by kernel_rfl)
theorem b92 : (Go.Proofs.Tryd.f92).body.map strip = some (sc_TSet 45 43) := by kernel_rfl
theorem tSetC : SetC PP 45 92 := tSet_ok (by kernel_rfl) (by kernel_rfl) Go.Proofs.Tryd.func92 b92 (by kernel_rfl) (by kernel_rfl) (by kernel_rfl)
theorem b68 : (Go.Proofs.Tryd.f68).body.map strip = some (sc_ReadTags 45 62 3 88 90 92) := by kernel_rfl
theorem rTagsC : RC PP rids.tRd 0 68 (pTags true) (fun v => ∃ m, v = .agg #[m] ∧ m.oneCell' = true) (fun w F u v => ∃ m, v = .agg #[m] ∧ TagsV w F u m) := rTagsFn_ok (by kernel_rfl) (info_ex2 (by kernel_rfl)) (by kernel_rfl) (by kernel_rfl) rUvC spC tSetC Go.Proofs.Tryd.func68 b68 (by kernel_rfl) (by kernel_rfl) (by kernel_rfl)
theorem kr (a : Addr) : KR PP rids rids.tRd 0 (errV a) (GlE a) where
  num := fun k h1 h2 => by
    cases k
    · exact num_bool rBoolC
    · exact absurd rfl h2
    · exact num_i16 rI16C
    · exact num_i32 rI32C
    · exact num_i64 rI64C
    · exact num_u16 rU16C
    all_goals exact absurd h1 (by decide)
  uuid := fun _ => rUuidC
  str := fun _ => rStrC
  cstr := fun _ => rCStrC
  nstr := fun _ => rNStrC
  cnstr := fun _ => rCNStrC
  bytes := fun _ => rBytesC
  cbytes := fun _ => rCBytesC
  nbytes := fun h => absurd rfl h
  arr := fun _ => rArrC
  carr := fun _ => rCArrC
  tags := fun _ => rTagsC
  okF := fun _ => ok57
  ok := fun _ w S rb st h => rOk_ok rdO Go.Proofs.Tryd.func57 b57 (by kernel_rfl) (by kernel_rfl) w S rb st h
  complF := ok58
  compl := fun w S rb st hg h => rComplete_ok rdO (by kernel_rfl) (.inr trivial) Go.Proofs.Tryd.func58 b58 (by kernel_rfl) (by kernel_rfl) w S rb st hg h
end Go.Proofs.YtdfhomhginbfeaaDoor.K
