/- What this seat's program is: the functions that read. No condition. -/
import Derived.Test.YtdnpafdgglpagaaGreatDoorQX
import Derived.Test.YtdnpafdgglpagaaGreatDoorN13
namespace Go.Proofs.YtdnpafdgglpagaaGreatDoor.K
open Go Go.RowKit Go.Proofs Go.Proofs.YtdnpafdgglpagaaGreatDoor.T
set_option linter.unusedVariables false
def rids : RIds := { tRd := 110, tTags := 61, tI8 := 0, tI16 := 40, tI32 := 21, tBool := 4, rBool := 0, rI8 := 0, rI16 := 68, rI32 := 67, rI64 := 69, rU16 := 0, rUuid := 65, rStr := 64, rUStr := 62, rCStr := 63, rUCStr := 61, rNStr := 74, rUNStr := 73, rCNStr := 72, rUCNStr := 71, rBytes := 0, rCBytes := 0, rNBytes := 0, rArr := 57, rCArr := 56, rOk := 58, rCompl := 59, rTags := 75, rUvar := 76, rSpan := 78, tSet := 77, tU32 := 53, tInt := 3, tErr := 50 }
def R : RTy := { TR := 110, TB := 22, U8 := 5, I := 3, Bo := 4 }
/-- the error that the package returns -/
def errV (a : Addr) : Value := .iface 173 (.pointer (some a))
abbrev GlE (a : Addr) : World → Prop := fun w => w.cell? ⟨0, 0, none⟩ = some (errV a)
theorem rdO : rdOK PP R = true := by kernel_rfl
theorem hBE : aggN PP 133 = some 0 := by kernel_rfl
theorem hBE1 : oneB PP 133 = false := by kernel_rfl
theorem b58 : (Go.Proofs.Tryz.f58).body.map strip = some (sc_ROk R) := by kernel_rfl
theorem ok58 : FnOK PP 58 := fnOK_of Go.Proofs.Tryz.func58 b58 (by kernel_rfl)
theorem b59 : (Go.Proofs.Tryz.f59).body.map strip = some (sc_RComplete R 50 0) := by kernel_rfl
theorem ok59 : FnOK PP 59 := fnOK_of Go.Proofs.Tryz.func59 b59 (by kernel_rfl)
theorem b89 : (Go.Proofs.Tryz.f89).body.map strip = some (sc_BE16 133 R.TB R.U8 125 108) := by kernel_rfl
theorem be2 : BeC PP 89 2 .u16 := beC2 hm rdO (by kernel_rfl) Go.Proofs.Tryz.func89 b89 (by kernel_rfl) (by kernel_rfl) (by kernel_rfl)
theorem b88 : (Go.Proofs.Tryz.f88).body.map strip = some (sc_BE32 133 R.TB R.U8 53 108) := by kernel_rfl
theorem be4 : BeC PP 88 4 .u32 := beC4 hm rdO (by kernel_rfl) Go.Proofs.Tryz.func88 b88 (by kernel_rfl) (by kernel_rfl) (by kernel_rfl)
theorem b95 : (Go.Proofs.Tryz.f95).body.map strip = some (sc_BE64 133 R.TB R.U8 70 108) := by kernel_rfl
theorem be8 : BeC PP 95 8 .u64 := beC8 hm rdO (by kernel_rfl) Go.Proofs.Tryz.func95 b95 (by kernel_rfl) (by kernel_rfl) (by kernel_rfl)
theorem b68 : (Go.Proofs.Tryz.f68).body.map strip = some (sc_RNumS R 133 89 1 125 40 2 .i16) := by kernel_rfl
theorem rI16C : RC PP rids.tRd 1 68 (pInt 2) (fun v => ∃ n, v = .int .i16 n) (fun _ _ n v => v = .int .i16 n) := rNumS_ok (ku := .u16) rfl hm rdO hBE hBE1 be2 (by decide) (by kernel_rfl) (by kernel_rfl) (fun n hn => wrap_i16s hn) Go.Proofs.Tryz.func68 b68 (by kernel_rfl) (by kernel_rfl) (by kernel_rfl)
theorem b67 : (Go.Proofs.Tryz.f67).body.map strip = some (sc_RNumS R 133 88 1 53 21 4 .i32) := by kernel_rfl
theorem rI32C : RC PP rids.tRd 1 67 (pInt 4) (fun v => ∃ n, v = .int .i32 n) (fun _ _ n v => v = .int .i32 n) := rNumS_ok (ku := .u32) rfl hm rdO hBE hBE1 be4 (by decide) (by kernel_rfl) (by kernel_rfl) (fun n hn => wrap_i32s hn) Go.Proofs.Tryz.func67 b67 (by kernel_rfl) (by kernel_rfl) (by kernel_rfl)
theorem b90 : (Go.Proofs.Tryz.f90).body.map strip = some (sc_RNumU R 133 95 1 8 .u64) := by kernel_rfl
theorem rU64C : RC PP rids.tRd 1 90 (pFix 8) (fun v => ∃ n, v = .int .u64 n) (fun _ _ n v => v = .int .u64 (n : Int)) := rNumU_ok rfl hm rdO hBE hBE1 be8 (by decide) Go.Proofs.Tryz.func90 b90 (by kernel_rfl) (by kernel_rfl) (by kernel_rfl)
theorem b69 : (Go.Proofs.Tryz.f69).body.map strip = some (sc_RInt64 70 2 90) := by kernel_rfl
theorem rI64C : RC PP rids.tRd 1 69 (pInt 8) (fun v => ∃ n, v = .int .i64 n) (fun _ _ n v => v = .int .i64 n) := rInt64_ok (by kernel_rfl) (by kernel_rfl) rU64C Go.Proofs.Tryz.func69 b69 (by kernel_rfl) (by kernel_rfl) (by kernel_rfl)
theorem b91 : (Go.Proofs.Tryz.f91).body.map strip = some (sc_KUvarint R.TB R.I R.U8 53 108) := by kernel_rfl
theorem kuvC : UvC PP 91 := uvC rdO (by kernel_rfl) Go.Proofs.Tryz.func91 b91 (by kernel_rfl) (by kernel_rfl) (by kernel_rfl)
theorem b76 : (Go.Proofs.Tryz.f76).body.map strip = some (sc_RUvarint R 91) := by kernel_rfl
theorem rUvC : RC PP rids.tRd 1 76 pUv (fun v => ∃ n : Nat, n < 4294967296 ∧ v = .int .u32 (n : Int)) (fun _ _ n v => v = .int .u32 (n : Int)) := rUvarint_ok rfl rdO kuvC Go.Proofs.Tryz.func76 b76 (by kernel_rfl) (by kernel_rfl) (by kernel_rfl)
theorem rUvC2 : RC PP rids.tRd 1 76 pUv (fun v => ∃ n, v = .int .u32 n) (fun _ _ n v => v = .int .u32 (n : Int)) := rUvC.ty (fun v ⟨n, _, h⟩ => ⟨(n : Int), h⟩)
theorem b78 : (Go.Proofs.Tryz.f78).body.map strip = some (sc_RSpan R) := by kernel_rfl
theorem spC : SpC PP rids.tRd 78 := rSpan_ok rfl rdO Go.Proofs.Tryz.func78 b78 (by kernel_rfl) (by kernel_rfl) (by kernel_rfl)
theorem b64 : (Go.Proofs.Tryz.f64).body.map strip = some (sc_RStr 40 3 22 9 68 78) := by kernel_rfl
theorem rStrC : RC PP rids.tRd 1 64 (pPrim false false .str) (tyP false .str) (okP false .str) := rStr_ok rfl rdO (by kernel_rfl) (by kernel_rfl) (by kernel_rfl) rI16C spC Go.Proofs.Tryz.func64 b64 (by kernel_rfl) (by kernel_rfl) (by kernel_rfl)
theorem b63 : (Go.Proofs.Tryz.f63).body.map strip = some (sc_RCStr 53 3 22 9 76 78) := by kernel_rfl
theorem rCStrC : RC PP rids.tRd 1 63 (pPrim true false .str) (tyP false .str) (okP false .str) := rCStr_ok rfl rdO (by kernel_rfl) (by kernel_rfl) (by kernel_rfl) rUvC2 spC Go.Proofs.Tryz.func63 b63 (by kernel_rfl) (by kernel_rfl) (by kernel_rfl)
theorem b74 : (Go.Proofs.Tryz.f74).body.map strip = some (sc_RNStr 40 3 22 9 68 78) := by kernel_rfl
theorem rNStrC : RC PP rids.tRd 1 74 (pPrim false true .str) (tyP true .str) (okP true .str) := rNStr_ok rfl rdO (by kernel_rfl) (by kernel_rfl) (by kernel_rfl) (by kernel_rfl) rI16C spC Go.Proofs.Tryz.func74 b74 (by kernel_rfl) (by kernel_rfl) (by kernel_rfl)
theorem b72 : (Go.Proofs.Tryz.f72).body.map strip = some (sc_RCNStr 53 3 22 9 76 78) := by kernel_rfl
theorem rCNStrC : RC PP rids.tRd 1 72 (pPrim true true .str) (tyP true .str) (okP true .str) := rCNStr_ok rfl rdO (by kernel_rfl) (by kernel_rfl) (by kernel_rfl) (by kernel_rfl) rUvC2 spC Go.Proofs.Tryz.func72 b72 (by kernel_rfl) (by kernel_rfl) (by kernel_rfl)
theorem b57 : (Go.Proofs.Tryz.f57).body.map strip = some (sc_RArr R 21 67) := by kernel_rfl
theorem rArrC : RC PP rids.tRd 1 57 (pLen false) (fun v => ∃ n, v = .int .i32 n) (fun _ _ n v => v = .int .i32 n) := rArr_ok rfl rdO (by kernel_rfl) rI32C Go.Proofs.Tryz.func57 b57 (by kernel_rfl) (by kernel_rfl) (by kernel_rfl)
theorem b56 : (Go.Proofs.Tryz.f56).body.map strip = some (sc_RCArr R 53 21 76) := by kernel_rfl
theorem rCArrC : RC PP rids.tRd 1 56 (pLen true) (fun v => ∃ n, v = .int .i32 n) (fun _ _ n v => v = .int .i32 n) := rCArr_ok rfl rdO (by kernel_rfl) (by kernel_rfl) rUvC2 Go.Proofs.Tryz.func56 b56 (by kernel_rfl) (by kernel_rfl) (by kernel_rfl)
theorem b65 : (Go.Proofs.Tryz.f65).body.map strip = some (sc_RUuid 75 22 78) := by kernel_rfl
theorem rUuidC : RC PP rids.tRd 1 65 (pPrim false false .uuid) (tyP false .uuid) (okP false .uuid) := rUuidFn_ok (tU8 := X.U8) hm (by kernel_rfl) (by kernel_rfl) (info_ex3 (by kernel_rfl)) (by kernel_rfl) spC Go.Proofs.Tryz.func65 b65 (by kernel_rfl) (by kernel_rfl) (by kernel_rfl)
theorem b77 : (Go.Proofs.Tryz.f77).body.map strip = some (sc_TSet 61 59) := by kernel_rfl
theorem tSetC : SetC PP 77 := tSet_ok (by kernel_rfl) (by kernel_rfl) Go.Proofs.Tryz.func77 b77 (by kernel_rfl) (by kernel_rfl) (by kernel_rfl)
theorem b75 : (Go.Proofs.Tryz.f75).body.map strip = some (sc_ReadTags 61 53 3 76 78 77) := by kernel_rfl
theorem rTagsC : RC PP rids.tRd 1 75 (pTags true) (fun v => ∃ m, v = .agg #[m] ∧ m.oneCell' = true) (fun w F u v => ∃ m, v = .agg #[m] ∧ TagsV w F u m) := rTagsFn_ok (by kernel_rfl) (info_ex2 (by kernel_rfl)) (by kernel_rfl) (by kernel_rfl) rUvC spC tSetC Go.Proofs.Tryz.func75 b75 (by kernel_rfl) (by kernel_rfl) (by kernel_rfl)
theorem kr (a : Addr) : KR PP rids rids.tRd 1 (errV a) (GlE a) where
  num := fun k h1 h2 => by
    cases k
    · exact absurd rfl h2
    · exact absurd rfl h2
    · exact num_i16 rI16C
    · exact num_i32 rI32C
    · exact num_i64 rI64C
    · exact absurd rfl h2
    all_goals exact absurd h1 (by decide)
  uuid := fun _ => rUuidC
  str := fun _ => rStrC
  cstr := fun _ => rCStrC
  nstr := fun _ => rNStrC
  cnstr := fun _ => rCNStrC
  bytes := fun h => absurd rfl h
  cbytes := fun h => absurd rfl h
  nbytes := fun h => absurd rfl h
  arr := fun _ => rArrC
  carr := fun _ => rCArrC
  tags := fun _ => rTagsC
  uvar := fun _ => rUvC
  span := fun _ => spC
  set := fun _ => tSetC
  okF := fun _ => ok58
  ok := fun _ w S rb st h => rOk_ok rdO Go.Proofs.Tryz.func58 b58 (by kernel_rfl) (by kernel_rfl) w S rb st h
  complF := ok59
  compl := fun w S rb st hg h => rComplete_ok rdO (by kernel_rfl) (.inr trivial) Go.Proofs.Tryz.func59 b59 (by kernel_rfl) (by kernel_rfl) w S rb st hg h
end Go.Proofs.YtdnpafdgglpagaaGreatDoor.K
