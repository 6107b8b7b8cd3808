/- What this seat's program is: its types. No condition. -/
import Derived.Test.YtmapoohbongifaaGreatDoorChecked
import Derived.Test.YtmapoohbongifaaGreatDoorM10
import Derived.KernelRfl
namespace Go.Proofs.YtmapoohbongifaaGreatDoor.K
open Go Go.RowKit Go.Proofs Go.Proofs.YtmapoohbongifaaGreatDoor.T
set_option linter.unusedVariables false
def X : STy := { I := 3, B := 4, U8 := 5, U32 := 63, U64 := 79, Bs := 22, F := 49, Fs := 31, T := 26, Ts := 23, Tg := 65, Tgs := 24, I64 := 2, M := 33, U := 158 }
noncomputable abbrev PP : Program := Go.Proofs.Tryz.prog
abbrev G0 : List (Nat × Bytes) → Prop := fun _ => True
theorem hX0 : sOK PP X = true := by kernel_rfl
theorem hX : stOK PP X = true := by kernel_rfl
theorem hm : PP.follows .mixedOrders = true := by kernel_rfl
theorem sT : sliceN PP X.Bs = some 1 := by kernel_rfl
theorem iI : intK PP X.I = some .i64 := by kernel_rfl
theorem b17 : (Go.Proofs.Tryz.f17).body.map strip = some (sc_Same X.Bs X.I X.U8) := by kernel_rfl
theorem ok17 : FnOK PP 17 := fnOK_of Go.Proofs.Tryz.func17 b17 (by kernel_rfl)
theorem cSame (w : World) (xs : Bytes) (b1 b2 : Option Addr) (c1 c2 : Nat) (h1 : BytesAt w (fun k => k < w.heap.size) b1 xs) (h2 : BytesAt w (fun k => k < w.heap.size) b2 xs) (h3 : xs.length ≤ lim) : Calls PP 17 #[.slice b1 xs.length c1, .slice b2 xs.length c2] w fun e w' => e = .returned (.bool true) ∧ Below w.heap.size w w' := same_ok hX0 hm Go.Proofs.Tryz.func17 b17 (by kernel_rfl) (by kernel_rfl) w xs b1 b2 c1 c2 h1 h2 h3
theorem b12 : (Go.Proofs.Tryz.f12).body.map strip = some (sc_version X.U8 X.I) := by kernel_rfl
theorem ok12 : FnOK PP 12 := fnOK_of Go.Proofs.Tryz.func12 b12 (by kernel_rfl)
theorem cVer (w : World) (n m : Nat) (h1 : n < 256) (h2 : m < 65536) : Calls PP 12 #[.int .u8 (n : Int), .int .i64 (m : Int)] w fun e w' => e = .returned (.int .i64 ((n % (m + 1) : Nat) : Int)) ∧ w = w' := version_ok hX0 Go.Proofs.Tryz.func12 b12 (by kernel_rfl) (by kernel_rfl) w n m h1 h2
end Go.Proofs.YtmapoohbongifaaGreatDoor.K
