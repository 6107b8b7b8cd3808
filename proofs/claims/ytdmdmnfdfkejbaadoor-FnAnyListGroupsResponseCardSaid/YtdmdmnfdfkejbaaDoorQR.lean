/- What this seat's program is: the functions that read. No condition. -/
import Derived.Test.YtdmdmnfdfkejbaaDoorQX
import Derived.Test.YtdmdmnfdfkejbaaDoorM10
namespace Go.Proofs.YtdmdmnfdfkejbaaDoor.K
open Go Go.RowKit Go.Proofs Go.Proofs.YtdmdmnfdfkejbaaDoor.T
set_option linter.unusedVariables false
def rids : RIds := { tRd := 92, tTags := 47, tI8 := 0, tI16 := 29, tI32 := 21, tBool := 4, rBool := 0, rI8 := 0, rI16 := 66, rI32 := 55, rI64 := 0, rU16 := 0, rUuid := 74, rStr := 64, rUStr := 62, rCStr := 63, rUCStr := 61, rNStr := 0, rUNStr := 0, rCNStr := 0, rUCNStr := 0, rBytes := 0, rCBytes := 0, rNBytes := 0, rArr := 57, rCArr := 56, rOk := 58, rCompl := 59, rTags := 67 }
def R : RTy := { TR := 92, TB := 22, U8 := 5, I := 3, Bo := 4 }
/-- the error that the package returns -/
def errV (a : Addr) : Value := .iface 152 (.pointer (some a))
abbrev GlE (a : Addr) : World → Prop := fun w => w.cell? ⟨1, 0, none⟩ = some (errV a)
theorem rdO : rdOK PP R = true := by kernel_rfl
theorem hBE : aggN PP 108 = some 0 := by kernel_rfl
theorem hBE1 : oneB PP 108 = false := by kernel_rfl
theorem b58 : (Go.Proofs.Tryd.f58).body.map strip = some (sc_ROk R) := by kernel_rfl
theorem ok58 : FnOK PP 58 := fnOK_of Go.Proofs.Tryd.func58 b58 (by kernel_rfl)
theorem b59 : (Go.Proofs.Tryd.f59).body.map strip = some (sc_RComplete R 35 1) := by kernel_rfl
theorem ok59 : FnOK PP 59 := fnOK_of Go.Proofs.Tryd.func59 b59 (by kernel_rfl)
theorem b83 : (Go.Proofs.Tryd.f83).body.map strip = some (sc_BE16 108 R.TB R.U8 100 102) := by kernel_rfl
theorem be2 : BeC PP 83 2 .u16 := beC2 hm rdO (by kernel_rfl) Go.Proofs.Tryd.func83 b83 (by kernel_rfl) (by kernel_rfl) (by kernel_rfl)
theorem b79 : (Go.Proofs.Tryd.f79).body.map strip = some (sc_BE32 108 R.TB R.U8 63 102) := by kernel_rfl
theorem be4 : BeC PP 79 4 .u32 := beC4 hm rdO (by kernel_rfl) Go.Proofs.Tryd.func79 b79 (by kernel_rfl) (by kernel_rfl) (by kernel_rfl)
theorem b66 : (Go.Proofs.Tryd.f66).body.map strip = some (sc_RNumS R 108 83 0 100 29 2 .i16) := by kernel_rfl
theorem rI16C : RC PP rids.tRd 0 66 (pInt 2) (fun v => ∃ n, v = .int .i16 n) (fun _ _ n v => v = .int .i16 n) := rNumS_ok (ku := .u16) rfl hm rdO hBE hBE1 be2 (by decide) (by kernel_rfl) (by kernel_rfl) (fun n hn => wrap_i16s hn) Go.Proofs.Tryd.func66 b66 (by kernel_rfl) (by kernel_rfl) (by kernel_rfl)
theorem b55 : (Go.Proofs.Tryd.f55).body.map strip = some (sc_RNumS R 108 79 0 63 21 4 .i32) := by kernel_rfl
theorem rI32C : RC PP rids.tRd 0 55 (pInt 4) (fun v => ∃ n, v = .int .i32 n) (fun _ _ n v => v = .int .i32 n) := rNumS_ok (ku := .u32) rfl hm rdO hBE hBE1 be4 (by decide) (by kernel_rfl) (by kernel_rfl) (fun n hn => wrap_i32s hn) Go.Proofs.Tryd.func55 b55 (by kernel_rfl) (by kernel_rfl) (by kernel_rfl)
theorem b88 : (Go.Proofs.Tryd.f88).body.map strip = some (sc_KUvarint R.TB R.I R.U8 63 102) := by kernel_rfl
theorem kuvC : UvC PP 88 := uvC rdO (by kernel_rfl) Go.Proofs.Tryd.func88 b88 (by kernel_rfl) (by kernel_rfl) (by kernel_rfl)
theorem b80 : (Go.Proofs.Tryd.f80).body.map strip = some (sc_RUvarint R 88) := by kernel_rfl
theorem rUvC : RC PP rids.tRd 0 80 pUv (fun v => ∃ n : Nat, n < 4294967296 ∧ v = .int .u32 (n : Int)) (fun _ _ n v => v = .int .u32 (n : Int)) := rUvarint_ok rfl rdO kuvC Go.Proofs.Tryd.func80 b80 (by kernel_rfl) (by kernel_rfl) (by kernel_rfl)
theorem rUvC2 : RC PP rids.tRd 0 80 pUv (fun v => ∃ n, v = .int .u32 n) (fun _ _ n v => v = .int .u32 (n : Int)) := rUvC.ty (fun v ⟨n, _, h⟩ => ⟨(n : Int), h⟩)
theorem b82 : (Go.Proofs.Tryd.f82).body.map strip = some (sc_RSpan R) := by kernel_rfl
theorem spC : SpC PP rids.tRd 82 := rSpan_ok rfl rdO Go.Proofs.Tryd.func82 b82 (by kernel_rfl) (by kernel_rfl) (by kernel_rfl)
theorem b64 : (Go.Proofs.Tryd.f64).body.map strip = some (sc_RStr 29 3 22 9 66 82) := by kernel_rfl
theorem rStrC : RC PP rids.tRd 0 64 (pPrim false false .str) (tyP false .str) (okP false .str) := rStr_ok rfl rdO (by kernel_rfl) (by kernel_rfl) (by kernel_rfl) rI16C spC Go.Proofs.Tryd.func64 b64 (by kernel_rfl) (by kernel_rfl) (by kernel_rfl)
theorem b63 : (Go.Proofs.Tryd.f63).body.map strip = some (sc_RCStr 63 3 22 9 80 82) := by kernel_rfl
theorem rCStrC : RC PP rids.tRd 0 63 (pPrim true false .str) (tyP false .str) (okP false .str) := rCStr_ok rfl rdO (by kernel_rfl) (by kernel_rfl) (by kernel_rfl) rUvC2 spC Go.Proofs.Tryd.func63 b63 (by kernel_rfl) (by kernel_rfl) (by kernel_rfl)
theorem b57 : (Go.Proofs.Tryd.f57).body.map strip = some (sc_RArr R 21 55) := by kernel_rfl
theorem rArrC : RC PP rids.tRd 0 57 (pLen false) (fun v => ∃ n, v = .int .i32 n) (fun _ _ n v => v = .int .i32 n) := rArr_ok rfl rdO (by kernel_rfl) rI32C Go.Proofs.Tryd.func57 b57 (by kernel_rfl) (by kernel_rfl) (by kernel_rfl)
theorem b56 : (Go.Proofs.Tryd.f56).body.map strip = some (sc_RCArr R 63 21 80) := by kernel_rfl
theorem rCArrC : RC PP rids.tRd 0 56 (pLen true) (fun v => ∃ n, v = .int .i32 n) (fun _ _ n v => v = .int .i32 n) := rCArr_ok rfl rdO (by kernel_rfl) (by kernel_rfl) rUvC2 Go.Proofs.Tryd.func56 b56 (by kernel_rfl) (by kernel_rfl) (by kernel_rfl)
theorem b74 : (Go.Proofs.Tryd.f74).body.map strip = some (sc_RUuid 68 22 82) := by kernel_rfl
theorem rUuidC : RC PP rids.tRd 0 74 (pPrim false false .uuid) (tyP false .uuid) (okP false .uuid) := rUuidFn_ok (tU8 := X.U8) hm (by kernel_rfl) (by kernel_rfl) (info_ex3 (by kernel_rfl)) (by kernel_rfl) spC Go.Proofs.Tryd.func74 b74 (by kernel_rfl) (by kernel_rfl) (by kernel_rfl)
theorem b84 : (Go.Proofs.Tryd.f84).body.map strip = some (sc_TSet 47 45) := by kernel_rfl
theorem tSetC : SetC PP 47 84 := tSet_ok (by kernel_rfl) (by kernel_rfl) Go.Proofs.Tryd.func84 b84 (by kernel_rfl) (by kernel_rfl) (by kernel_rfl)
theorem b67 : (Go.Proofs.Tryd.f67).body.map strip = some (sc_ReadTags 47 63 3 80 82 84) := by kernel_rfl
theorem rTagsC : RC PP rids.tRd 0 67 (pTags true) (fun v => ∃ m, v = .agg #[m] ∧ m.oneCell' = true) (fun w F u v => ∃ m, v = .agg #[m] ∧ TagsV w F u m) := rTagsFn_ok (by kernel_rfl) (info_ex2 (by kernel_rfl)) (by kernel_rfl) (by kernel_rfl) rUvC spC tSetC Go.Proofs.Tryd.func67 b67 (by kernel_rfl) (by kernel_rfl) (by kernel_rfl)
theorem kr (a : Addr) : KR PP rids rids.tRd 0 (errV a) (GlE a) where
  num := fun k h1 h2 => by
    cases k
    · exact absurd rfl h2
    · exact absurd rfl h2
    · exact num_i16 rI16C
    · exact num_i32 rI32C
    · exact absurd rfl h2
    · exact absurd rfl h2
    all_goals exact absurd h1 (by decide)
  uuid := fun _ => rUuidC
  str := fun _ => rStrC
  cstr := fun _ => rCStrC
  nstr := fun h => absurd rfl h
  cnstr := fun h => absurd rfl h
  bytes := fun h => absurd rfl h
  cbytes := fun h => absurd rfl h
  nbytes := fun h => absurd rfl h
  arr := fun _ => rArrC
  carr := fun _ => rCArrC
  tags := fun _ => rTagsC
  okF := fun _ => ok58
  ok := fun _ w S rb st h => rOk_ok rdO Go.Proofs.Tryd.func58 b58 (by kernel_rfl) (by kernel_rfl) w S rb st h
  complF := ok59
  compl := fun w S rb st hg h => rComplete_ok rdO (by kernel_rfl) (.inr trivial) Go.Proofs.Tryd.func59 b59 (by kernel_rfl) (by kernel_rfl) w S rb st hg h
end Go.Proofs.YtdmdmnfdfkejbaaDoor.K
