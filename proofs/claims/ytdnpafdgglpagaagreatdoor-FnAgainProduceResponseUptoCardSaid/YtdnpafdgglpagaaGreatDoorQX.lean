/- What this seat's program is: its types. No condition. -/
import Derived.Test.YtdnpafdgglpagaaGreatDoorChecked
import Derived.Test.YtdnpafdgglpagaaGreatDoorN13
import Derived.KernelRfl
namespace Go.Proofs.YtdnpafdgglpagaaGreatDoor.K
open Go Go.RowKit Go.Proofs Go.Proofs.YtdnpafdgglpagaaGreatDoor.T
set_option linter.unusedVariables false
def X : STy := { I := 3, B := 4, U8 := 5, U32 := 53, U64 := 70, Bs := 22, F := 47, Fs := 30, T := 26, Ts := 23, Tg := 55, Tgs := 24, I64 := 2, M := 32, U := 108 }
noncomputable abbrev PP : Program := Go.Proofs.Tryz.prog
abbrev G0 : List (Nat × Bytes) → Prop := fun _ => True
theorem hX0 : sOK PP X = true := by kernel_rfl
theorem hX : stOK PP X = true := by kernel_rfl
theorem hm : PP.follows .mixedOrders = true := by kernel_rfl
theorem sT : sliceN PP X.Bs = some 1 := by kernel_rfl
theorem iI : intK PP X.I = some .i64 := by kernel_rfl
theorem b10 : (Go.Proofs.Tryz.f10).body.map strip = some (sc_Same X.Bs X.I X.U8) := by kernel_rfl
theorem ok10 : FnOK PP 10 := fnOK_of Go.Proofs.Tryz.func10 b10 (by kernel_rfl)
theorem cSame (w : World) (xs : Bytes) (b1 b2 : Option Addr) (c1 c2 : Nat) (h1 : BytesAt w (fun k => k < w.heap.size) b1 xs) (h2 : BytesAt w (fun k => k < w.heap.size) b2 xs) (h3 : xs.length ≤ lim) : Calls PP 10 #[.slice b1 xs.length c1, .slice b2 xs.length c2] w fun e w' => e = .returned (.bool true) ∧ Below w.heap.size w w' := same_ok hX0 hm Go.Proofs.Tryz.func10 b10 (by kernel_rfl) (by kernel_rfl) w xs b1 b2 c1 c2 h1 h2 h3
theorem b8 : (Go.Proofs.Tryz.f8).body.map strip = some (sc_version X.U8 X.I) := by kernel_rfl
theorem ok8 : FnOK PP 8 := fnOK_of Go.Proofs.Tryz.func8 b8 (by kernel_rfl)
theorem cVer (w : World) (n m : Nat) (h1 : n < 256) (h2 : m < 65536) : Calls PP 8 #[.int .u8 (n : Int), .int .i64 (m : Int)] w fun e w' => e = .returned (.int .i64 ((n % (m + 1) : Nat) : Int)) ∧ w = w' := version_ok hX0 Go.Proofs.Tryz.func8 b8 (by kernel_rfl) (by kernel_rfl) w n m h1 h2
end Go.Proofs.YtdnpafdgglpagaaGreatDoor.K
