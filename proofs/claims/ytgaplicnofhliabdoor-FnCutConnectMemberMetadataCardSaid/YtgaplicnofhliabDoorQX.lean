/- What this seat's program is: its types. No condition. -/
import Derived.Test.YtgaplicnofhliabDoorChecked
import Derived.Test.YtgaplicnofhliabDoorM10
import Derived.KernelRfl
namespace Go.Proofs.YtgaplicnofhliabDoor.K
open Go Go.RowKit Go.Proofs Go.Proofs.YtgaplicnofhliabDoor.T
set_option linter.unusedVariables false
def X : STy := { I := 3, B := 4, U8 := 5, U32 := 49, U64 := 66, Bs := 22, F := 40, Fs := 30, T := 26, Ts := 23, Tg := 51, Tgs := 24, I64 := 2, M := 32, U := 84 }
noncomputable abbrev PP : Program := Go.Proofs.Tryd.prog
abbrev G0 : List (Nat × Bytes) → Prop := fun _ => True
theorem hX0 : sOK PP X = true := by kernel_rfl
theorem hX : stOK PP X = true := by kernel_rfl
theorem hm : PP.follows .mixedOrders = true := by kernel_rfl
theorem sT : sliceN PP X.Bs = some 1 := by kernel_rfl
theorem iI : intK PP X.I = some .i64 := by kernel_rfl
theorem b44 : (Go.Proofs.Tryd.f44).body.map strip = some (sc_Same X.Bs X.I X.U8) := by kernel_rfl
theorem ok44 : FnOK PP 44 := fnOK_of Go.Proofs.Tryd.func44 b44 (by kernel_rfl)
theorem cSame (w : World) (xs : Bytes) (b1 b2 : Option Addr) (c1 c2 : Nat) (h1 : BytesAt w (fun k => k < w.heap.size) b1 xs) (h2 : BytesAt w (fun k => k < w.heap.size) b2 xs) (h3 : xs.length ≤ lim) : Calls PP 44 #[.slice b1 xs.length c1, .slice b2 xs.length c2] w fun e w' => e = .returned (.bool true) ∧ Below w.heap.size w w' := same_ok hX0 hm Go.Proofs.Tryd.func44 b44 (by kernel_rfl) (by kernel_rfl) w xs b1 b2 c1 c2 h1 h2 h3
end Go.Proofs.YtgaplicnofhliabDoor.K
