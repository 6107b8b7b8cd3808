/- What this seat's program is: the functions that read. No condition. -/
import Derived.Test.YtgaplicnofhliaaDoorQX
import Derived.Test.YtgaplicnofhliaaDoorM10
namespace Go.Proofs.YtgaplicnofhliaaDoor.K
open Go Go.RowKit Go.Proofs Go.Proofs.YtgaplicnofhliaaDoor.T
set_option linter.unusedVariables false
def rids : RIds := { tRd := 134, tTags := 0, tI8 := 121, tI16 := 64, tI32 := 21, tBool := 4, rBool := 0, rI8 := 0, rI16 := 85, rI32 := 80, rI64 := 0, rU16 := 0, rUuid := 0, rStr := 77, rUStr := 76, rCStr := 0, rUCStr := 0, rNStr := 0, rUNStr := 0, rCNStr := 0, rUCNStr := 0, rBytes := 0, rCBytes := 0, rNBytes := 0, rArr := 79, rCArr := 0, rOk := 0, rCompl := 78, rTags := 0 }
def R : RTy := { TR := 134, TB := 22, U8 := 5, I := 3, Bo := 4 }
/-- the error that the package returns -/
def errV (a : Addr) : Value := .iface 152 (.pointer (some a))
abbrev GlE (a : Addr) : World → Prop := fun w => w.cell? ⟨0, 0, none⟩ = some (errV a)
theorem rdO : rdOK PP R = true := by kernel_rfl
theorem hBE : aggN PP 145 = some 0 := by kernel_rfl
theorem hBE1 : oneB PP 145 = false := by kernel_rfl
theorem b78 : (Go.Proofs.Tryd.f78).body.map strip = some (sc_RComplete R 73 0) := by kernel_rfl
theorem ok78 : FnOK PP 78 := fnOK_of Go.Proofs.Tryd.func78 b78 (by kernel_rfl)
theorem b92 : (Go.Proofs.Tryd.f92).body.map strip = some (sc_BE16 145 R.TB R.U8 42 122) := by kernel_rfl
theorem be2 : BeC PP 92 2 .u16 := beC2 hm rdO (by kernel_rfl) Go.Proofs.Tryd.func92 b92 (by kernel_rfl) (by kernel_rfl) (by kernel_rfl)
theorem b90 : (Go.Proofs.Tryd.f90).body.map strip = some (sc_BE32 145 R.TB R.U8 102 122) := by kernel_rfl
theorem be4 : BeC PP 90 4 .u32 := beC4 hm rdO (by kernel_rfl) Go.Proofs.Tryd.func90 b90 (by kernel_rfl) (by kernel_rfl) (by kernel_rfl)
theorem b85 : (Go.Proofs.Tryd.f85).body.map strip = some (sc_RNumS R 145 92 1 42 64 2 .i16) := by kernel_rfl
theorem rI16C : RC PP rids.tRd 1 85 (pInt 2) (fun v => ∃ n, v = .int .i16 n) (fun _ _ n v => v = .int .i16 n) := rNumS_ok (ku := .u16) rfl hm rdO hBE hBE1 be2 (by decide) (by kernel_rfl) (by kernel_rfl) (fun n hn => wrap_i16s hn) Go.Proofs.Tryd.func85 b85 (by kernel_rfl) (by kernel_rfl) (by kernel_rfl)
theorem b80 : (Go.Proofs.Tryd.f80).body.map strip = some (sc_RNumS R 145 90 1 102 21 4 .i32) := by kernel_rfl
theorem rI32C : RC PP rids.tRd 1 80 (pInt 4) (fun v => ∃ n, v = .int .i32 n) (fun _ _ n v => v = .int .i32 n) := rNumS_ok (ku := .u32) rfl hm rdO hBE hBE1 be4 (by decide) (by kernel_rfl) (by kernel_rfl) (fun n hn => wrap_i32s hn) Go.Proofs.Tryd.func80 b80 (by kernel_rfl) (by kernel_rfl) (by kernel_rfl)
theorem b89 : (Go.Proofs.Tryd.f89).body.map strip = some (sc_RSpan R) := by kernel_rfl
theorem spC : SpC PP rids.tRd 89 := rSpan_ok rfl rdO Go.Proofs.Tryd.func89 b89 (by kernel_rfl) (by kernel_rfl) (by kernel_rfl)
theorem b77 : (Go.Proofs.Tryd.f77).body.map strip = some (sc_RStr 64 3 22 9 85 89) := by kernel_rfl
theorem rStrC : RC PP rids.tRd 1 77 (pPrim false false .str) (tyP false .str) (okP false .str) := rStr_ok rfl rdO (by kernel_rfl) (by kernel_rfl) (by kernel_rfl) rI16C spC Go.Proofs.Tryd.func77 b77 (by kernel_rfl) (by kernel_rfl) (by kernel_rfl)
theorem b79 : (Go.Proofs.Tryd.f79).body.map strip = some (sc_RArr R 21 80) := by kernel_rfl
theorem rArrC : RC PP rids.tRd 1 79 (pLen false) (fun v => ∃ n, v = .int .i32 n) (fun _ _ n v => v = .int .i32 n) := rArr_ok rfl rdO (by kernel_rfl) rI32C Go.Proofs.Tryd.func79 b79 (by kernel_rfl) (by kernel_rfl) (by kernel_rfl)
theorem kr (a : Addr) : KR PP rids rids.tRd 1 (errV a) (GlE a) where
  num := fun k h1 h2 => by
    cases k
    · exact absurd rfl h2
    · exact absurd rfl h2
    · exact num_i16 rI16C
    · exact num_i32 rI32C
    · exact absurd rfl h2
    · exact absurd rfl h2
    all_goals exact absurd h1 (by decide)
  uuid := fun h => absurd rfl h
  str := fun _ => rStrC
  cstr := fun h => absurd rfl h
  nstr := fun h => absurd rfl h
  cnstr := fun h => absurd rfl h
  bytes := fun h => absurd rfl h
  cbytes := fun h => absurd rfl h
  nbytes := fun h => absurd rfl h
  arr := fun _ => rArrC
  carr := fun h => absurd rfl h
  tags := fun h => absurd rfl h
  okF := fun h => absurd rfl h
  ok := fun h => absurd rfl h
  complF := ok78
  compl := fun w S rb st hg h => rComplete_ok rdO (by kernel_rfl) (.inr trivial) Go.Proofs.Tryd.func78 b78 (by kernel_rfl) (by kernel_rfl) w S rb st hg h
end Go.Proofs.YtgaplicnofhliaaDoor.K
