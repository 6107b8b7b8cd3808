/- What this seat's program is: the functions that read. No condition. -/
import Derived.Test.YtgaplicnofhliabDoorQX
import Derived.Test.YtgaplicnofhliabDoorM10
namespace Go.Proofs.YtgaplicnofhliabDoor.K
open Go Go.RowKit Go.Proofs Go.Proofs.YtgaplicnofhliabDoor.T
set_option linter.unusedVariables false
def rids : RIds := { tRd := 69, tTags := 0, tI8 := 0, tI16 := 41, tI32 := 21, tBool := 4, rBool := 0, rI8 := 0, rI16 := 30, rI32 := 50, rI64 := 33, rU16 := 0, rUuid := 0, rStr := 32, rUStr := 31, rCStr := 0, rUCStr := 0, rNStr := 0, rUNStr := 0, rCNStr := 0, rUCNStr := 0, rBytes := 0, rCBytes := 0, rNBytes := 34, rArr := 0, rCArr := 0, rOk := 0, rCompl := 35, rTags := 0 }
def R : RTy := { TR := 69, TB := 22, U8 := 5, I := 3, Bo := 4 }
/-- the error that the package returns -/
def errV (a : Addr) : Value := .iface 96 (.pointer (some a))
abbrev GlE (a : Addr) : World → Prop := fun w => w.cell? ⟨1, 0, none⟩ = some (errV a)
theorem rdO : rdOK PP R = true := by kernel_rfl
theorem hBE : aggN PP 87 = some 0 := by kernel_rfl
theorem hBE1 : oneB PP 87 = false := by kernel_rfl
theorem b35 : (Go.Proofs.Tryd.f35).body.map strip = some (sc_RComplete R 46 1) := by kernel_rfl
theorem ok35 : FnOK PP 35 := fnOK_of Go.Proofs.Tryd.func35 b35 (by kernel_rfl)
theorem b46 : (Go.Proofs.Tryd.f46).body.map strip = some (sc_BE16 87 R.TB R.U8 27 84) := by kernel_rfl
theorem be2 : BeC PP 46 2 .u16 := beC2 hm rdO (by kernel_rfl) Go.Proofs.Tryd.func46 b46 (by kernel_rfl) (by kernel_rfl) (by kernel_rfl)
theorem b53 : (Go.Proofs.Tryd.f53).body.map strip = some (sc_BE32 87 R.TB R.U8 49 84) := by kernel_rfl
theorem be4 : BeC PP 53 4 .u32 := beC4 hm rdO (by kernel_rfl) Go.Proofs.Tryd.func53 b53 (by kernel_rfl) (by kernel_rfl) (by kernel_rfl)
theorem b52 : (Go.Proofs.Tryd.f52).body.map strip = some (sc_BE64 87 R.TB R.U8 66 84) := by kernel_rfl
theorem be8 : BeC PP 52 8 .u64 := beC8 hm rdO (by kernel_rfl) Go.Proofs.Tryd.func52 b52 (by kernel_rfl) (by kernel_rfl) (by kernel_rfl)
theorem b30 : (Go.Proofs.Tryd.f30).body.map strip = some (sc_RNumS R 87 46 0 27 41 2 .i16) := by kernel_rfl
theorem rI16C : RC PP rids.tRd 0 30 (pInt 2) (fun v => ∃ n, v = .int .i16 n) (fun _ _ n v => v = .int .i16 n) := rNumS_ok (ku := .u16) rfl hm rdO hBE hBE1 be2 (by decide) (by kernel_rfl) (by kernel_rfl) (fun n hn => wrap_i16s hn) Go.Proofs.Tryd.func30 b30 (by kernel_rfl) (by kernel_rfl) (by kernel_rfl)
theorem b50 : (Go.Proofs.Tryd.f50).body.map strip = some (sc_RNumS R 87 53 0 49 21 4 .i32) := by kernel_rfl
theorem rI32C : RC PP rids.tRd 0 50 (pInt 4) (fun v => ∃ n, v = .int .i32 n) (fun _ _ n v => v = .int .i32 n) := rNumS_ok (ku := .u32) rfl hm rdO hBE hBE1 be4 (by decide) (by kernel_rfl) (by kernel_rfl) (fun n hn => wrap_i32s hn) Go.Proofs.Tryd.func50 b50 (by kernel_rfl) (by kernel_rfl) (by kernel_rfl)
theorem b49 : (Go.Proofs.Tryd.f49).body.map strip = some (sc_RNumU R 87 52 0 8 .u64) := by kernel_rfl
theorem rU64C : RC PP rids.tRd 0 49 (pFix 8) (fun v => ∃ n, v = .int .u64 n) (fun _ _ n v => v = .int .u64 (n : Int)) := rNumU_ok rfl hm rdO hBE hBE1 be8 (by decide) Go.Proofs.Tryd.func49 b49 (by kernel_rfl) (by kernel_rfl) (by kernel_rfl)
theorem b33 : (Go.Proofs.Tryd.f33).body.map strip = some (sc_RInt64 66 2 49) := by kernel_rfl
theorem rI64C : RC PP rids.tRd 0 33 (pInt 8) (fun v => ∃ n, v = .int .i64 n) (fun _ _ n v => v = .int .i64 n) := rInt64_ok (by kernel_rfl) (by kernel_rfl) rU64C Go.Proofs.Tryd.func33 b33 (by kernel_rfl) (by kernel_rfl) (by kernel_rfl)
theorem b48 : (Go.Proofs.Tryd.f48).body.map strip = some (sc_RSpan R) := by kernel_rfl
theorem spC : SpC PP rids.tRd 48 := rSpan_ok rfl rdO Go.Proofs.Tryd.func48 b48 (by kernel_rfl) (by kernel_rfl) (by kernel_rfl)
theorem b32 : (Go.Proofs.Tryd.f32).body.map strip = some (sc_RStr 41 3 22 9 30 48) := by kernel_rfl
theorem rStrC : RC PP rids.tRd 0 32 (pPrim false false .str) (tyP false .str) (okP false .str) := rStr_ok rfl rdO (by kernel_rfl) (by kernel_rfl) (by kernel_rfl) rI16C spC Go.Proofs.Tryd.func32 b32 (by kernel_rfl) (by kernel_rfl) (by kernel_rfl)
theorem b34 : (Go.Proofs.Tryd.f34).body.map strip = some (sc_RNBytes 21 3 50 48) := by kernel_rfl
theorem rNBytesC : RC PP rids.tRd 0 34 (pPrim false true .bytes) (tyP true .bytes) (okP true .bytes) := rNBytes_ok (T2 := 0) (T3 := 0) rfl rdO (by kernel_rfl) (by kernel_rfl) rI32C spC Go.Proofs.Tryd.func34 b34 (by kernel_rfl) (by kernel_rfl) (by kernel_rfl)
theorem kr (a : Addr) : KR PP rids rids.tRd 0 (errV a) (GlE a) where
  num := fun k h1 h2 => by
    cases k
    · exact absurd rfl h2
    · exact absurd rfl h2
    · exact num_i16 rI16C
    · exact num_i32 rI32C
    · exact num_i64 rI64C
    · exact absurd rfl h2
    all_goals exact absurd h1 (by decide)
  uuid := fun h => absurd rfl h
  str := fun _ => rStrC
  cstr := fun h => absurd rfl h
  nstr := fun h => absurd rfl h
  cnstr := fun h => absurd rfl h
  bytes := fun h => absurd rfl h
  cbytes := fun h => absurd rfl h
  nbytes := fun _ => rNBytesC
  arr := fun h => absurd rfl h
  carr := fun h => absurd rfl h
  tags := fun h => absurd rfl h
  okF := fun h => absurd rfl h
  ok := fun h => absurd rfl h
  complF := ok35
  compl := fun w S rb st hg h => rComplete_ok rdO (by kernel_rfl) (.inr trivial) Go.Proofs.Tryd.func35 b35 (by kernel_rfl) (by kernel_rfl) w S rb st hg h
end Go.Proofs.YtgaplicnofhliabDoor.K
