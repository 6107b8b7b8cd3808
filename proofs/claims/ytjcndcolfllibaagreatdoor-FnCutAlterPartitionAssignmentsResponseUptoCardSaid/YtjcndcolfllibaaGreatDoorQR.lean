/- What this seat's program is: the functions that read. No condition. -/
import Derived.Test.YtjcndcolfllibaaGreatDoorQX
import Derived.Test.YtjcndcolfllibaaGreatDoorM10
namespace Go.Proofs.YtjcndcolfllibaaGreatDoor.K
open Go Go.RowKit Go.Proofs Go.Proofs.YtjcndcolfllibaaGreatDoor.T
set_option linter.unusedVariables false
def rids : RIds := { tRd := 175, tTags := 78, tI8 := 121, tI16 := 42, tI32 := 21, tBool := 4, rBool := 173, rI8 := 166, rI16 := 159, rI32 := 158, rI64 := 148, rU16 := 171, rUuid := 169, rStr := 147, rUStr := 145, rCStr := 146, rUCStr := 144, rNStr := 152, rUNStr := 151, rCNStr := 150, rUCNStr := 149, rBytes := 0, rCBytes := 0, rNBytes := 0, rArr := 141, rCArr := 140, rOk := 142, rCompl := 143, rTags := 153 }
def R : RTy := { TR := 175, TB := 22, U8 := 5, I := 3, Bo := 4 }
/-- the error that the package returns -/
def errV (a : Addr) : Value := .iface 238 (.pointer (some a))
abbrev GlE (a : Addr) : World → Prop := fun w => w.cell? ⟨0, 0, none⟩ = some (errV a)
theorem rdO : rdOK PP R = true := by kernel_rfl
theorem hBE : aggN PP 201 = some 0 := by kernel_rfl
theorem hBE1 : oneB PP 201 = false := by kernel_rfl
theorem b142 : (Go.Proofs.Tryz.f142).body.map strip = some (sc_ROk R) := by kernel_rfl
theorem ok142 : FnOK PP 142 := fnOK_of Go.Proofs.Tryz.func142 b142 (by kernel_rfl)
theorem b143 : (Go.Proofs.Tryz.f143).body.map strip = some (sc_RComplete R 51 0) := by kernel_rfl
theorem ok143 : FnOK PP 143 := fnOK_of Go.Proofs.Tryz.func143 b143 (by kernel_rfl)
theorem b186 : (Go.Proofs.Tryz.f186).body.map strip = some (sc_BE16 201 R.TB R.U8 39 173) := by kernel_rfl
theorem be2 : BeC PP 186 2 .u16 := beC2 hm rdO (by kernel_rfl) Go.Proofs.Tryz.func186 b186 (by kernel_rfl) (by kernel_rfl) (by kernel_rfl)
theorem b185 : (Go.Proofs.Tryz.f185).body.map strip = some (sc_BE32 201 R.TB R.U8 69 173) := by kernel_rfl
theorem be4 : BeC PP 185 4 .u32 := beC4 hm rdO (by kernel_rfl) Go.Proofs.Tryz.func185 b185 (by kernel_rfl) (by kernel_rfl) (by kernel_rfl)
theorem b188 : (Go.Proofs.Tryz.f188).body.map strip = some (sc_BE64 201 R.TB R.U8 87 173) := by kernel_rfl
theorem be8 : BeC PP 188 8 .u64 := beC8 hm rdO (by kernel_rfl) Go.Proofs.Tryz.func188 b188 (by kernel_rfl) (by kernel_rfl) (by kernel_rfl)
theorem b173 : (Go.Proofs.Tryz.f173).body.map strip = some (sc_RBool R) := by kernel_rfl
theorem rBoolC : RC PP rids.tRd 1 173 (pFix 1) (fun v => ∃ x, v = .bool x) (fun _ _ n v => v = .bool (n != 0)) := rBool_ok rfl rdO Go.Proofs.Tryz.func173 b173 (by kernel_rfl) (by kernel_rfl) (by kernel_rfl)
theorem b166 : (Go.Proofs.Tryz.f166).body.map strip = some (sc_RInt8 R 121) := by kernel_rfl
theorem rI8C : RC PP rids.tRd 1 166 (pInt 1) (fun v => ∃ n, v = .int .i8 n) (fun _ _ n v => v = .int .i8 n) := rInt8_ok rfl rdO (by kernel_rfl) Go.Proofs.Tryz.func166 b166 (by kernel_rfl) (by kernel_rfl) (by kernel_rfl)
theorem b159 : (Go.Proofs.Tryz.f159).body.map strip = some (sc_RNumS R 201 186 1 39 42 2 .i16) := by kernel_rfl
theorem rI16C : RC PP rids.tRd 1 159 (pInt 2) (fun v => ∃ n, v = .int .i16 n) (fun _ _ n v => v = .int .i16 n) := rNumS_ok (ku := .u16) rfl hm rdO hBE hBE1 be2 (by decide) (by kernel_rfl) (by kernel_rfl) (fun n hn => wrap_i16s hn) Go.Proofs.Tryz.func159 b159 (by kernel_rfl) (by kernel_rfl) (by kernel_rfl)
theorem b158 : (Go.Proofs.Tryz.f158).body.map strip = some (sc_RNumS R 201 185 1 69 21 4 .i32) := by kernel_rfl
theorem rI32C : RC PP rids.tRd 1 158 (pInt 4) (fun v => ∃ n, v = .int .i32 n) (fun _ _ n v => v = .int .i32 n) := rNumS_ok (ku := .u32) rfl hm rdO hBE hBE1 be4 (by decide) (by kernel_rfl) (by kernel_rfl) (fun n hn => wrap_i32s hn) Go.Proofs.Tryz.func158 b158 (by kernel_rfl) (by kernel_rfl) (by kernel_rfl)
theorem b171 : (Go.Proofs.Tryz.f171).body.map strip = some (sc_RNumU R 201 186 1 2 .u16) := by kernel_rfl
theorem rU16C : RC PP rids.tRd 1 171 (pFix 2) (fun v => ∃ n, v = .int .u16 n) (fun _ _ n v => v = .int .u16 (n : Int)) := rNumU_ok rfl hm rdO hBE hBE1 be2 (by decide) Go.Proofs.Tryz.func171 b171 (by kernel_rfl) (by kernel_rfl) (by kernel_rfl)
theorem b180 : (Go.Proofs.Tryz.f180).body.map strip = some (sc_RNumU R 201 188 1 8 .u64) := by kernel_rfl
theorem rU64C : RC PP rids.tRd 1 180 (pFix 8) (fun v => ∃ n, v = .int .u64 n) (fun _ _ n v => v = .int .u64 (n : Int)) := rNumU_ok rfl hm rdO hBE hBE1 be8 (by decide) Go.Proofs.Tryz.func180 b180 (by kernel_rfl) (by kernel_rfl) (by kernel_rfl)
theorem b148 : (Go.Proofs.Tryz.f148).body.map strip = some (sc_RInt64 87 2 180) := by kernel_rfl
theorem rI64C : RC PP rids.tRd 1 148 (pInt 8) (fun v => ∃ n, v = .int .i64 n) (fun _ _ n v => v = .int .i64 n) := rInt64_ok (by kernel_rfl) (by kernel_rfl) rU64C Go.Proofs.Tryz.func148 b148 (by kernel_rfl) (by kernel_rfl) (by kernel_rfl)
theorem b187 : (Go.Proofs.Tryz.f187).body.map strip = some (sc_KUvarint R.TB R.I R.U8 69 173) := by kernel_rfl
theorem kuvC : UvC PP 187 := uvC rdO (by kernel_rfl) Go.Proofs.Tryz.func187 b187 (by kernel_rfl) (by kernel_rfl) (by kernel_rfl)
theorem b177 : (Go.Proofs.Tryz.f177).body.map strip = some (sc_RUvarint R 187) := by kernel_rfl
theorem rUvC : RC PP rids.tRd 1 177 pUv (fun v => ∃ n : Nat, n < 4294967296 ∧ v = .int .u32 (n : Int)) (fun _ _ n v => v = .int .u32 (n : Int)) := rUvarint_ok rfl rdO kuvC Go.Proofs.Tryz.func177 b177 (by kernel_rfl) (by kernel_rfl) (by kernel_rfl)
theorem rUvC2 : RC PP rids.tRd 1 177 pUv (fun v => ∃ n, v = .int .u32 n) (fun _ _ n v => v = .int .u32 (n : Int)) := rUvC.ty (fun v ⟨n, _, h⟩ => ⟨(n : Int), h⟩)
theorem b179 : (Go.Proofs.Tryz.f179).body.map strip = some (sc_RSpan R) := by kernel_rfl
theorem spC : SpC PP rids.tRd 179 := rSpan_ok rfl rdO Go.Proofs.Tryz.func179 b179 (by kernel_rfl) (by kernel_rfl) (by kernel_rfl)
theorem b147 : (Go.Proofs.Tryz.f147).body.map strip = some (sc_RStr 42 3 22 9 159 179) := by kernel_rfl
theorem rStrC : RC PP rids.tRd 1 147 (pPrim false false .str) (tyP false .str) (okP false .str) := rStr_ok rfl rdO (by kernel_rfl) (by kernel_rfl) (by kernel_rfl) rI16C spC Go.Proofs.Tryz.func147 b147 (by kernel_rfl) (by kernel_rfl) (by kernel_rfl)
theorem b146 : (Go.Proofs.Tryz.f146).body.map strip = some (sc_RCStr 69 3 22 9 177 179) := by kernel_rfl
theorem rCStrC : RC PP rids.tRd 1 146 (pPrim true false .str) (tyP false .str) (okP false .str) := rCStr_ok rfl rdO (by kernel_rfl) (by kernel_rfl) (by kernel_rfl) rUvC2 spC Go.Proofs.Tryz.func146 b146 (by kernel_rfl) (by kernel_rfl) (by kernel_rfl)
theorem b152 : (Go.Proofs.Tryz.f152).body.map strip = some (sc_RNStr 42 3 22 9 159 179) := by kernel_rfl
theorem rNStrC : RC PP rids.tRd 1 152 (pPrim false true .str) (tyP true .str) (okP true .str) := rNStr_ok rfl rdO (by kernel_rfl) (by kernel_rfl) (by kernel_rfl) (by kernel_rfl) rI16C spC Go.Proofs.Tryz.func152 b152 (by kernel_rfl) (by kernel_rfl) (by kernel_rfl)
theorem b150 : (Go.Proofs.Tryz.f150).body.map strip = some (sc_RCNStr 69 3 22 9 177 179) := by kernel_rfl
theorem rCNStrC : RC PP rids.tRd 1 150 (pPrim true true .str) (tyP true .str) (okP true .str) := rCNStr_ok rfl rdO (by kernel_rfl) (by kernel_rfl) (by kernel_rfl) (by kernel_rfl) rUvC2 spC Go.Proofs.Tryz.func150 b150 (by kernel_rfl) (by kernel_rfl) (by kernel_rfl)
theorem b141 : (Go.Proofs.Tryz.f141).body.map strip = some (sc_RArr R 21 158) := by kernel_rfl
theorem rArrC : RC PP rids.tRd 1 141 (pLen false) (fun v => ∃ n, v = .int .i32 n) (fun _ _ n v => v = .int .i32 n) := rArr_ok rfl rdO (by kernel_rfl) rI32C Go.Proofs.Tryz.func141 b141 (by kernel_rfl) (by kernel_rfl) (by kernel_rfl)
theorem b140 : (Go.Proofs.Tryz.f140).body.map strip = some (sc_RCArr R 69 21 177) := by kernel_rfl
theorem rCArrC : RC PP rids.tRd 1 140 (pLen true) (fun v => ∃ n, v = .int .i32 n) (fun _ _ n v => v = .int .i32 n) := rCArr_ok rfl rdO (by kernel_rfl) (by kernel_rfl) rUvC2 Go.Proofs.Tryz.func140 b140 (by kernel_rfl) (by kernel_rfl) (by kernel_rfl)
theorem b169 : (Go.Proofs.Tryz.f169).body.map strip = some (sc_RUuid 136 22 179) := by kernel_rfl
theorem rUuidC : RC PP rids.tRd 1 169 (pPrim false false .uuid) (tyP false .uuid) (okP false .uuid) := rUuidFn_ok (tU8 := X.U8) hm (by kernel_rfl) (by kernel_rfl) (info_ex3 (by kernel_rfl)) (by kernel_rfl) spC Go.Proofs.Tryz.func169 b169 (by kernel_rfl) (by kernel_rfl) (by kernel_rfl)
theorem b181 : (Go.Proofs.Tryz.f181).body.map strip = some (sc_TSet 78 76) := by kernel_rfl
theorem tSetC : SetC PP 78 181 := tSet_ok (by kernel_rfl) (by kernel_rfl) Go.Proofs.Tryz.func181 b181 (by kernel_rfl) (by kernel_rfl) (by kernel_rfl)
theorem b153 : (Go.Proofs.Tryz.f153).body.map strip = some (sc_ReadTags 78 69 3 177 179 181) := by kernel_rfl
theorem rTagsC : RC PP rids.tRd 1 153 (pTags true) (fun v => ∃ m, v = .agg #[m] ∧ m.oneCell' = true) (fun w F u v => ∃ m, v = .agg #[m] ∧ TagsV w F u m) := rTagsFn_ok (by kernel_rfl) (info_ex2 (by kernel_rfl)) (by kernel_rfl) (by kernel_rfl) rUvC spC tSetC Go.Proofs.Tryz.func153 b153 (by kernel_rfl) (by kernel_rfl) (by kernel_rfl)
theorem kr (a : Addr) : KR PP rids rids.tRd 1 (errV a) (GlE a) where
  num := fun k h1 h2 => by
    cases k
    · exact num_bool rBoolC
    · exact num_i8 rI8C
    · exact num_i16 rI16C
    · exact num_i32 rI32C
    · exact num_i64 rI64C
    · exact num_u16 rU16C
    all_goals exact absurd h1 (by decide)
  uuid := fun _ => rUuidC
  str := fun _ => rStrC
  cstr := fun _ => rCStrC
  nstr := fun _ => rNStrC
  cnstr := fun _ => rCNStrC
  bytes := fun h => absurd rfl h
  cbytes := fun h => absurd rfl h
  nbytes := fun h => absurd rfl h
  arr := fun _ => rArrC
  carr := fun _ => rCArrC
  tags := fun _ => rTagsC
  okF := fun _ => ok142
  ok := fun _ w S rb st h => rOk_ok rdO Go.Proofs.Tryz.func142 b142 (by kernel_rfl) (by kernel_rfl) w S rb st h
  complF := ok143
  compl := fun w S rb st hg h => rComplete_ok rdO (by kernel_rfl) (.inr trivial) Go.Proofs.Tryz.func143 b143 (by kernel_rfl) (by kernel_rfl) w S rb st hg h
end Go.Proofs.YtjcndcolfllibaaGreatDoor.K
