/- What this seat's program is: the functions that read. No condition. -/
import Derived.Test.YtgcocbggoielkaaDoorQX
import Derived.Test.YtgcocbggoielkaaDoorM10
namespace Go.Proofs.YtgcocbggoielkaaDoor.K
open Go Go.RowKit Go.Proofs Go.Proofs.YtgcocbggoielkaaDoor.T
set_option linter.unusedVariables false
def rids : RIds := { tRd := 110, tTags := 60, tI8 := 0, tI16 := 43, tI32 := 21, tBool := 4, rBool := 123, rI8 := 0, rI16 := 103, rI32 := 105, rI64 := 104, rU16 := 0, rUuid := 0, rStr := 122, rUStr := 120, rCStr := 121, rUCStr := 119, rNStr := 127, rUNStr := 126, rCNStr := 125, rUCNStr := 124, rBytes := 0, rCBytes := 0, rNBytes := 0, rArr := 129, rCArr := 128, rOk := 130, rCompl := 107, rTags := 106 }
def R : RTy := { TR := 110, TB := 22, U8 := 5, I := 3, Bo := 4 }
/-- the error that the package returns -/
def errV (a : Addr) : Value := .iface 176 (.pointer (some a))
abbrev GlE (a : Addr) : World → Prop := fun w => w.cell? ⟨1, 0, none⟩ = some (errV a)
theorem rdO : rdOK PP R = true := by kernel_rfl
theorem hBE : aggN PP 132 = some 0 := by kernel_rfl
theorem hBE1 : oneB PP 132 = false := by kernel_rfl
theorem b130 : (Go.Proofs.Tryd.f130).body.map strip = some (sc_ROk R) := by kernel_rfl
theorem ok130 : FnOK PP 130 := fnOK_of Go.Proofs.Tryd.func130 b130 (by kernel_rfl)
theorem b107 : (Go.Proofs.Tryd.f107).body.map strip = some (sc_RComplete R 49 1) := by kernel_rfl
theorem ok107 : FnOK PP 107 := fnOK_of Go.Proofs.Tryd.func107 b107 (by kernel_rfl)
theorem b131 : (Go.Proofs.Tryd.f131).body.map strip = some (sc_BE16 132 R.TB R.U8 33 119) := by kernel_rfl
theorem be2 : BeC PP 131 2 .u16 := beC2 hm rdO (by kernel_rfl) Go.Proofs.Tryd.func131 b131 (by kernel_rfl) (by kernel_rfl) (by kernel_rfl)
theorem b133 : (Go.Proofs.Tryd.f133).body.map strip = some (sc_BE32 132 R.TB R.U8 80 119) := by kernel_rfl
theorem be4 : BeC PP 133 4 .u32 := beC4 hm rdO (by kernel_rfl) Go.Proofs.Tryd.func133 b133 (by kernel_rfl) (by kernel_rfl) (by kernel_rfl)
theorem b141 : (Go.Proofs.Tryd.f141).body.map strip = some (sc_BE64 132 R.TB R.U8 92 119) := by kernel_rfl
theorem be8 : BeC PP 141 8 .u64 := beC8 hm rdO (by kernel_rfl) Go.Proofs.Tryd.func141 b141 (by kernel_rfl) (by kernel_rfl) (by kernel_rfl)
theorem b123 : (Go.Proofs.Tryd.f123).body.map strip = some (sc_RBool R) := by kernel_rfl
theorem rBoolC : RC PP rids.tRd 0 123 (pFix 1) (fun v => ∃ x, v = .bool x) (fun _ _ n v => v = .bool (n != 0)) := rBool_ok rfl rdO Go.Proofs.Tryd.func123 b123 (by kernel_rfl) (by kernel_rfl) (by kernel_rfl)
theorem b103 : (Go.Proofs.Tryd.f103).body.map strip = some (sc_RNumS R 132 131 0 33 43 2 .i16) := by kernel_rfl
theorem rI16C : RC PP rids.tRd 0 103 (pInt 2) (fun v => ∃ n, v = .int .i16 n) (fun _ _ n v => v = .int .i16 n) := rNumS_ok (ku := .u16) rfl hm rdO hBE hBE1 be2 (by decide) (by kernel_rfl) (by kernel_rfl) (fun n hn => wrap_i16s hn) Go.Proofs.Tryd.func103 b103 (by kernel_rfl) (by kernel_rfl) (by kernel_rfl)
theorem b105 : (Go.Proofs.Tryd.f105).body.map strip = some (sc_RNumS R 132 133 0 80 21 4 .i32) := by kernel_rfl
theorem rI32C : RC PP rids.tRd 0 105 (pInt 4) (fun v => ∃ n, v = .int .i32 n) (fun _ _ n v => v = .int .i32 n) := rNumS_ok (ku := .u32) rfl hm rdO hBE hBE1 be4 (by decide) (by kernel_rfl) (by kernel_rfl) (fun n hn => wrap_i32s hn) Go.Proofs.Tryd.func105 b105 (by kernel_rfl) (by kernel_rfl) (by kernel_rfl)
theorem b132 : (Go.Proofs.Tryd.f132).body.map strip = some (sc_RNumU R 132 141 0 8 .u64) := by kernel_rfl
theorem rU64C : RC PP rids.tRd 0 132 (pFix 8) (fun v => ∃ n, v = .int .u64 n) (fun _ _ n v => v = .int .u64 (n : Int)) := rNumU_ok rfl hm rdO hBE hBE1 be8 (by decide) Go.Proofs.Tryd.func132 b132 (by kernel_rfl) (by kernel_rfl) (by kernel_rfl)
theorem b104 : (Go.Proofs.Tryd.f104).body.map strip = some (sc_RInt64 92 2 132) := by kernel_rfl
theorem rI64C : RC PP rids.tRd 0 104 (pInt 8) (fun v => ∃ n, v = .int .i64 n) (fun _ _ n v => v = .int .i64 n) := rInt64_ok (by kernel_rfl) (by kernel_rfl) rU64C Go.Proofs.Tryd.func104 b104 (by kernel_rfl) (by kernel_rfl) (by kernel_rfl)
theorem b142 : (Go.Proofs.Tryd.f142).body.map strip = some (sc_KUvarint R.TB R.I R.U8 80 119) := by kernel_rfl
theorem kuvC : UvC PP 142 := uvC rdO (by kernel_rfl) Go.Proofs.Tryd.func142 b142 (by kernel_rfl) (by kernel_rfl) (by kernel_rfl)
theorem b134 : (Go.Proofs.Tryd.f134).body.map strip = some (sc_RUvarint R 142) := by kernel_rfl
theorem rUvC : RC PP rids.tRd 0 134 pUv (fun v => ∃ n : Nat, n < 4294967296 ∧ v = .int .u32 (n : Int)) (fun _ _ n v => v = .int .u32 (n : Int)) := rUvarint_ok rfl rdO kuvC Go.Proofs.Tryd.func134 b134 (by kernel_rfl) (by kernel_rfl) (by kernel_rfl)
theorem rUvC2 : RC PP rids.tRd 0 134 pUv (fun v => ∃ n, v = .int .u32 n) (fun _ _ n v => v = .int .u32 (n : Int)) := rUvC.ty (fun v ⟨n, _, h⟩ => ⟨(n : Int), h⟩)
theorem b136 : (Go.Proofs.Tryd.f136).body.map strip = some (sc_RSpan R) := by kernel_rfl
theorem spC : SpC PP rids.tRd 136 := rSpan_ok rfl rdO Go.Proofs.Tryd.func136 b136 (by kernel_rfl) (by kernel_rfl) (by kernel_rfl)
theorem b122 : (Go.Proofs.Tryd.f122).body.map strip = some (sc_RStr 43 3 22 9 103 136) := by kernel_rfl
theorem rStrC : RC PP rids.tRd 0 122 (pPrim false false .str) (tyP false .str) (okP false .str) := rStr_ok rfl rdO (by kernel_rfl) (by kernel_rfl) (by kernel_rfl) rI16C spC Go.Proofs.Tryd.func122 b122 (by kernel_rfl) (by kernel_rfl) (by kernel_rfl)
theorem b121 : (Go.Proofs.Tryd.f121).body.map strip = some (sc_RCStr 80 3 22 9 134 136) := by kernel_rfl
theorem rCStrC : RC PP rids.tRd 0 121 (pPrim true false .str) (tyP false .str) (okP false .str) := rCStr_ok rfl rdO (by kernel_rfl) (by kernel_rfl) (by kernel_rfl) rUvC2 spC Go.Proofs.Tryd.func121 b121 (by kernel_rfl) (by kernel_rfl) (by kernel_rfl)
theorem b127 : (Go.Proofs.Tryd.f127).body.map strip = some (sc_RNStr 43 3 22 9 103 136) := by kernel_rfl
theorem rNStrC : RC PP rids.tRd 0 127 (pPrim false true .str) (tyP true .str) (okP true .str) := rNStr_ok rfl rdO (by kernel_rfl) (by kernel_rfl) (by kernel_rfl) (by kernel_rfl) rI16C spC Go.Proofs.Tryd.func127 b127 (by kernel_rfl) (by kernel_rfl) (by kernel_rfl)
theorem b125 : (Go.Proofs.Tryd.f125).body.map strip = some (sc_RCNStr 80 3 22 9 134 136) := by kernel_rfl
theorem rCNStrC : RC PP rids.tRd 0 125 (pPrim true true .str) (tyP true .str) (okP true .str) := rCNStr_ok rfl rdO (by kernel_rfl) (by kernel_rfl) (by kernel_rfl) (by kernel_rfl) rUvC2 spC Go.Proofs.Tryd.func125 b125 (by kernel_rfl) (by kernel_rfl) (by kernel_rfl)
theorem b129 : (Go.Proofs.Tryd.f129).body.map strip = some (sc_RArr R 21 105) := by kernel_rfl
theorem rArrC : RC PP rids.tRd 0 129 (pLen false) (fun v => ∃ n, v = .int .i32 n) (fun _ _ n v => v = .int .i32 n) := rArr_ok rfl rdO (by kernel_rfl) rI32C Go.Proofs.Tryd.func129 b129 (by kernel_rfl) (by kernel_rfl) (by kernel_rfl)
theorem b128 : (Go.Proofs.Tryd.f128).body.map strip = some (sc_RCArr R 80 21 134) := by kernel_rfl
theorem rCArrC : RC PP rids.tRd 0 128 (pLen true) (fun v => ∃ n, v = .int .i32 n) (fun _ _ n v => v = .int .i32 n) := rCArr_ok rfl rdO (by kernel_rfl) (by kernel_rfl) rUvC2 Go.Proofs.Tryd.func128 b128 (by kernel_rfl) (by kernel_rfl) (by kernel_rfl)
theorem b135 : (Go.Proofs.Tryd.f135).body.map strip = some (sc_TSet 60 58) := by kernel_rfl
theorem tSetC : SetC PP 60 135 := tSet_ok (by kernel_rfl) (by kernel_rfl) Go.Proofs.Tryd.func135 b135 (by kernel_rfl) (by kernel_rfl) (by kernel_rfl)
theorem b106 : (Go.Proofs.Tryd.f106).body.map strip = some (sc_ReadTags 60 80 3 134 136 135) := by kernel_rfl
theorem rTagsC : RC PP rids.tRd 0 106 (pTags true) (fun v => ∃ m, v = .agg #[m] ∧ m.oneCell' = true) (fun w F u v => ∃ m, v = .agg #[m] ∧ TagsV w F u m) := rTagsFn_ok (by kernel_rfl) (info_ex2 (by kernel_rfl)) (by kernel_rfl) (by kernel_rfl) rUvC spC tSetC Go.Proofs.Tryd.func106 b106 (by kernel_rfl) (by kernel_rfl) (by kernel_rfl)
theorem kr (a : Addr) : KR PP rids rids.tRd 0 (errV a) (GlE a) where
  num := fun k h1 h2 => by
    cases k
    · exact num_bool rBoolC
    · exact absurd rfl h2
    · exact num_i16 rI16C
    · exact num_i32 rI32C
    · exact num_i64 rI64C
    · exact absurd rfl h2
    all_goals exact absurd h1 (by decide)
  uuid := fun h => absurd rfl h
  str := fun _ => rStrC
  cstr := fun _ => rCStrC
  nstr := fun _ => rNStrC
  cnstr := fun _ => rCNStrC
  bytes := fun h => absurd rfl h
  cbytes := fun h => absurd rfl h
  nbytes := fun h => absurd rfl h
  arr := fun _ => rArrC
  carr := fun _ => rCArrC
  tags := fun _ => rTagsC
  okF := fun _ => ok130
  ok := fun _ w S rb st h => rOk_ok rdO Go.Proofs.Tryd.func130 b130 (by kernel_rfl) (by kernel_rfl) w S rb st h
  complF := ok107
  compl := fun w S rb st hg h => rComplete_ok rdO (by kernel_rfl) (.inr trivial) Go.Proofs.Tryd.func107 b107 (by kernel_rfl) (by kernel_rfl) w S rb st hg h
end Go.Proofs.YtgcocbggoielkaaDoor.K
