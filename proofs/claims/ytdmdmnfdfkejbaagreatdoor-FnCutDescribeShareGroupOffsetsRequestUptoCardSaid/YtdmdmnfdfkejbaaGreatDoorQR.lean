/- What this seat's program is: the functions that read. No condition. -/
import Derived.Test.YtdmdmnfdfkejbaaGreatDoorQX
import Derived.Test.YtdmdmnfdfkejbaaGreatDoorM10
namespace Go.Proofs.YtdmdmnfdfkejbaaGreatDoor.K
open Go Go.RowKit Go.Proofs Go.Proofs.YtdmdmnfdfkejbaaGreatDoor.T
set_option linter.unusedVariables false
def rids : RIds := { tRd := 150, tTags := 76, tI8 := 94, tI16 := 42, tI32 := 21, tBool := 4, rBool := 157, rI8 := 150, rI16 := 156, rI32 := 139, rI64 := 162, rU16 := 0, rUuid := 0, rStr := 138, rUStr := 136, rCStr := 137, rUCStr := 135, rNStr := 143, rUNStr := 142, rCNStr := 141, rUCNStr := 140, rBytes := 0, rCBytes := 0, rNBytes := 0, rArr := 152, rCArr := 151, rOk := 153, rCompl := 145, rTags := 144 }
def R : RTy := { TR := 150, TB := 22, U8 := 5, I := 3, Bo := 4 }
/-- the error that the package returns -/
def errV (a : Addr) : Value := .iface 211 (.pointer (some a))
abbrev GlE (a : Addr) : World → Prop := fun w => w.cell? ⟨1, 0, none⟩ = some (errV a)
theorem rdO : rdOK PP R = true := by kernel_rfl
theorem hBE : aggN PP 170 = some 0 := by kernel_rfl
theorem hBE1 : oneB PP 170 = false := by kernel_rfl
theorem b153 : (Go.Proofs.Tryz.f153).body.map strip = some (sc_ROk R) := by kernel_rfl
theorem ok153 : FnOK PP 153 := fnOK_of Go.Proofs.Tryz.func153 b153 (by kernel_rfl)
theorem b145 : (Go.Proofs.Tryz.f145).body.map strip = some (sc_RComplete R 51 1) := by kernel_rfl
theorem ok145 : FnOK PP 145 := fnOK_of Go.Proofs.Tryz.func145 b145 (by kernel_rfl)
theorem b174 : (Go.Proofs.Tryz.f174).body.map strip = some (sc_BE16 170 R.TB R.U8 27 148) := by kernel_rfl
theorem be2 : BeC PP 174 2 .u16 := beC2 hm rdO (by kernel_rfl) Go.Proofs.Tryz.func174 b174 (by kernel_rfl) (by kernel_rfl) (by kernel_rfl)
theorem b169 : (Go.Proofs.Tryz.f169).body.map strip = some (sc_BE32 170 R.TB R.U8 69 148) := by kernel_rfl
theorem be4 : BeC PP 169 4 .u32 := beC4 hm rdO (by kernel_rfl) Go.Proofs.Tryz.func169 b169 (by kernel_rfl) (by kernel_rfl) (by kernel_rfl)
theorem b182 : (Go.Proofs.Tryz.f182).body.map strip = some (sc_BE64 170 R.TB R.U8 85 148) := by kernel_rfl
theorem be8 : BeC PP 182 8 .u64 := beC8 hm rdO (by kernel_rfl) Go.Proofs.Tryz.func182 b182 (by kernel_rfl) (by kernel_rfl) (by kernel_rfl)
theorem b157 : (Go.Proofs.Tryz.f157).body.map strip = some (sc_RBool R) := by kernel_rfl
theorem rBoolC : RC PP rids.tRd 0 157 (pFix 1) (fun v => ∃ x, v = .bool x) (fun _ _ n v => v = .bool (n != 0)) := rBool_ok rfl rdO Go.Proofs.Tryz.func157 b157 (by kernel_rfl) (by kernel_rfl) (by kernel_rfl)
theorem b150 : (Go.Proofs.Tryz.f150).body.map strip = some (sc_RInt8 R 94) := by kernel_rfl
theorem rI8C : RC PP rids.tRd 0 150 (pInt 1) (fun v => ∃ n, v = .int .i8 n) (fun _ _ n v => v = .int .i8 n) := rInt8_ok rfl rdO (by kernel_rfl) Go.Proofs.Tryz.func150 b150 (by kernel_rfl) (by kernel_rfl) (by kernel_rfl)
theorem b156 : (Go.Proofs.Tryz.f156).body.map strip = some (sc_RNumS R 170 174 0 27 42 2 .i16) := by kernel_rfl
theorem rI16C : RC PP rids.tRd 0 156 (pInt 2) (fun v => ∃ n, v = .int .i16 n) (fun _ _ n v => v = .int .i16 n) := rNumS_ok (ku := .u16) rfl hm rdO hBE hBE1 be2 (by decide) (by kernel_rfl) (by kernel_rfl) (fun n hn => wrap_i16s hn) Go.Proofs.Tryz.func156 b156 (by kernel_rfl) (by kernel_rfl) (by kernel_rfl)
theorem b139 : (Go.Proofs.Tryz.f139).body.map strip = some (sc_RNumS R 170 169 0 69 21 4 .i32) := by kernel_rfl
theorem rI32C : RC PP rids.tRd 0 139 (pInt 4) (fun v => ∃ n, v = .int .i32 n) (fun _ _ n v => v = .int .i32 n) := rNumS_ok (ku := .u32) rfl hm rdO hBE hBE1 be4 (by decide) (by kernel_rfl) (by kernel_rfl) (fun n hn => wrap_i32s hn) Go.Proofs.Tryz.func139 b139 (by kernel_rfl) (by kernel_rfl) (by kernel_rfl)
theorem b175 : (Go.Proofs.Tryz.f175).body.map strip = some (sc_RNumU R 170 182 0 8 .u64) := by kernel_rfl
theorem rU64C : RC PP rids.tRd 0 175 (pFix 8) (fun v => ∃ n, v = .int .u64 n) (fun _ _ n v => v = .int .u64 (n : Int)) := rNumU_ok rfl hm rdO hBE hBE1 be8 (by decide) Go.Proofs.Tryz.func175 b175 (by kernel_rfl) (by kernel_rfl) (by kernel_rfl)
theorem b162 : (Go.Proofs.Tryz.f162).body.map strip = some (sc_RInt64 85 2 175) := by kernel_rfl
theorem rI64C : RC PP rids.tRd 0 162 (pInt 8) (fun v => ∃ n, v = .int .i64 n) (fun _ _ n v => v = .int .i64 n) := rInt64_ok (by kernel_rfl) (by kernel_rfl) rU64C Go.Proofs.Tryz.func162 b162 (by kernel_rfl) (by kernel_rfl) (by kernel_rfl)
theorem b176 : (Go.Proofs.Tryz.f176).body.map strip = some (sc_KUvarint R.TB R.I R.U8 69 148) := by kernel_rfl
theorem kuvC : UvC PP 176 := uvC rdO (by kernel_rfl) Go.Proofs.Tryz.func176 b176 (by kernel_rfl) (by kernel_rfl) (by kernel_rfl)
theorem b166 : (Go.Proofs.Tryz.f166).body.map strip = some (sc_RUvarint R 176) := by kernel_rfl
theorem rUvC : RC PP rids.tRd 0 166 pUv (fun v => ∃ n : Nat, n < 4294967296 ∧ v = .int .u32 (n : Int)) (fun _ _ n v => v = .int .u32 (n : Int)) := rUvarint_ok rfl rdO kuvC Go.Proofs.Tryz.func166 b166 (by kernel_rfl) (by kernel_rfl) (by kernel_rfl)
theorem rUvC2 : RC PP rids.tRd 0 166 pUv (fun v => ∃ n, v = .int .u32 n) (fun _ _ n v => v = .int .u32 (n : Int)) := rUvC.ty (fun v ⟨n, _, h⟩ => ⟨(n : Int), h⟩)
theorem b168 : (Go.Proofs.Tryz.f168).body.map strip = some (sc_RSpan R) := by kernel_rfl
theorem spC : SpC PP rids.tRd 168 := rSpan_ok rfl rdO Go.Proofs.Tryz.func168 b168 (by kernel_rfl) (by kernel_rfl) (by kernel_rfl)
theorem b138 : (Go.Proofs.Tryz.f138).body.map strip = some (sc_RStr 42 3 22 9 156 168) := by kernel_rfl
theorem rStrC : RC PP rids.tRd 0 138 (pPrim false false .str) (tyP false .str) (okP false .str) := rStr_ok rfl rdO (by kernel_rfl) (by kernel_rfl) (by kernel_rfl) rI16C spC Go.Proofs.Tryz.func138 b138 (by kernel_rfl) (by kernel_rfl) (by kernel_rfl)
theorem b137 : (Go.Proofs.Tryz.f137).body.map strip = some (sc_RCStr 69 3 22 9 166 168) := by kernel_rfl
theorem rCStrC : RC PP rids.tRd 0 137 (pPrim true false .str) (tyP false .str) (okP false .str) := rCStr_ok rfl rdO (by kernel_rfl) (by kernel_rfl) (by kernel_rfl) rUvC2 spC Go.Proofs.Tryz.func137 b137 (by kernel_rfl) (by kernel_rfl) (by kernel_rfl)
theorem b143 : (Go.Proofs.Tryz.f143).body.map strip = some (sc_RNStr 42 3 22 9 156 168) := by kernel_rfl
theorem rNStrC : RC PP rids.tRd 0 143 (pPrim false true .str) (tyP true .str) (okP true .str) := rNStr_ok rfl rdO (by kernel_rfl) (by kernel_rfl) (by kernel_rfl) (by kernel_rfl) rI16C spC Go.Proofs.Tryz.func143 b143 (by kernel_rfl) (by kernel_rfl) (by kernel_rfl)
theorem b141 : (Go.Proofs.Tryz.f141).body.map strip = some (sc_RCNStr 69 3 22 9 166 168) := by kernel_rfl
theorem rCNStrC : RC PP rids.tRd 0 141 (pPrim true true .str) (tyP true .str) (okP true .str) := rCNStr_ok rfl rdO (by kernel_rfl) (by kernel_rfl) (by kernel_rfl) (by kernel_rfl) rUvC2 spC Go.Proofs.Tryz.func141 b141 (by kernel_rfl) (by kernel_rfl) (by kernel_rfl)
theorem b152 : (Go.Proofs.Tryz.f152).body.map strip = some (sc_RArr R 21 139) := by kernel_rfl
theorem rArrC : RC PP rids.tRd 0 152 (pLen false) (fun v => ∃ n, v = .int .i32 n) (fun _ _ n v => v = .int .i32 n) := rArr_ok rfl rdO (by kernel_rfl) rI32C Go.Proofs.Tryz.func152 b152 (by kernel_rfl) (by kernel_rfl) (by kernel_rfl)
theorem b151 : (Go.Proofs.Tryz.f151).body.map strip = some (sc_RCArr R 69 21 166) := by kernel_rfl
theorem rCArrC : RC PP rids.tRd 0 151 (pLen true) (fun v => ∃ n, v = .int .i32 n) (fun _ _ n v => v = .int .i32 n) := rCArr_ok rfl rdO (by kernel_rfl) (by kernel_rfl) rUvC2 Go.Proofs.Tryz.func151 b151 (by kernel_rfl) (by kernel_rfl) (by kernel_rfl)
theorem b170 : (Go.Proofs.Tryz.f170).body.map strip = some (sc_TSet 76 74) := by kernel_rfl
theorem tSetC : SetC PP 76 170 := tSet_ok (by kernel_rfl) (by kernel_rfl) Go.Proofs.Tryz.func170 b170 (by kernel_rfl) (by kernel_rfl) (by kernel_rfl)
theorem b144 : (Go.Proofs.Tryz.f144).body.map strip = some (sc_ReadTags 76 69 3 166 168 170) := by kernel_rfl
theorem rTagsC : RC PP rids.tRd 0 144 (pTags true) (fun v => ∃ m, v = .agg #[m] ∧ m.oneCell' = true) (fun w F u v => ∃ m, v = .agg #[m] ∧ TagsV w F u m) := rTagsFn_ok (by kernel_rfl) (info_ex2 (by kernel_rfl)) (by kernel_rfl) (by kernel_rfl) rUvC spC tSetC Go.Proofs.Tryz.func144 b144 (by kernel_rfl) (by kernel_rfl) (by kernel_rfl)
theorem kr (a : Addr) : KR PP rids rids.tRd 0 (errV a) (GlE a) where
  num := fun k h1 h2 => by
    cases k
    · exact num_bool rBoolC
    · exact num_i8 rI8C
    · exact num_i16 rI16C
    · exact num_i32 rI32C
    · exact num_i64 rI64C
    · exact absurd rfl h2
    all_goals exact absurd h1 (by decide)
  uuid := fun h => absurd rfl h
  str := fun _ => rStrC
  cstr := fun _ => rCStrC
  nstr := fun _ => rNStrC
  cnstr := fun _ => rCNStrC
  bytes := fun h => absurd rfl h
  cbytes := fun h => absurd rfl h
  nbytes := fun h => absurd rfl h
  arr := fun _ => rArrC
  carr := fun _ => rCArrC
  tags := fun _ => rTagsC
  okF := fun _ => ok153
  ok := fun _ w S rb st h => rOk_ok rdO Go.Proofs.Tryz.func153 b153 (by kernel_rfl) (by kernel_rfl) w S rb st h
  complF := ok145
  compl := fun w S rb st hg h => rComplete_ok rdO (by kernel_rfl) (.inr trivial) Go.Proofs.Tryz.func145 b145 (by kernel_rfl) (by kernel_rfl) w S rb st hg h
end Go.Proofs.YtdmdmnfdfkejbaaGreatDoor.K
