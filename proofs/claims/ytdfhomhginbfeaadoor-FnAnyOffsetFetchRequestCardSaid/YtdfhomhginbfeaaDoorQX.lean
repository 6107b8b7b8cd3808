/- What this seat's program is: its types. No condition. -/
import Derived.Test.YtdfhomhginbfeaaDoorChecked
import Derived.Test.YtdfhomhginbfeaaDoorM10
import Derived.KernelRfl
namespace Go.Proofs.YtdfhomhginbfeaaDoor.K
open Go Go.RowKit Go.Proofs Go.Proofs.YtdfhomhginbfeaaDoor.T
set_option linter.unusedVariables false
def X : STy := { I := 3, B := 4, U8 := 5, U32 := 62, U64 := 109, Bs := 22, F := 0, Fs := 0, T := 0, Ts := 0, Tg := 0, Tgs := 0, I64 := 2, M := 0, U := 111 }
noncomputable abbrev PP : Program := Go.Proofs.Tryd.prog
abbrev G0 : List (Nat × Bytes) → Prop := fun _ => True
theorem hX0 : sOK PP X = true := by kernel_rfl
theorem hm : PP.follows .mixedOrders = true := by kernel_rfl
theorem sT : sliceN PP X.Bs = some 1 := by kernel_rfl
theorem iI : intK PP X.I = some .i64 := by kernel_rfl
theorem b9 : (Go.Proofs.Tryd.f9).body.map strip = some (sc_Same X.Bs X.I X.U8) := by kernel_rfl
theorem ok9 : FnOK PP 9 := fnOK_of Go.Proofs.Tryd.func9 b9 (by kernel_rfl)
theorem cSame (w : World) (xs : Bytes) (b1 b2 : Option Addr) (c1 c2 : Nat) (h1 : BytesAt w (fun k => k < w.heap.size) b1 xs) (h2 : BytesAt w (fun k => k < w.heap.size) b2 xs) (h3 : xs.length ≤ lim) : Calls PP 9 #[.slice b1 xs.length c1, .slice b2 xs.length c2] w fun e w' => e = .returned (.bool true) ∧ Below w.heap.size w w' := same_ok hX0 hm Go.Proofs.Tryd.func9 b9 (by kernel_rfl) (by kernel_rfl) w xs b1 b2 c1 c2 h1 h2 h3
theorem b8 : (Go.Proofs.Tryd.f8).body.map strip = some (sc_version X.U8 X.I) := by kernel_rfl
theorem ok8 : FnOK PP 8 := fnOK_of Go.Proofs.Tryd.func8 b8 (by kernel_rfl)
theorem cVer (w : World) (n m : Nat) (h1 : n < 256) (h2 : m < 65536) : Calls PP 8 #[.int .u8 (n : Int), .int .i64 (m : Int)] w fun e w' => e = .returned (.int .i64 ((n % (m + 1) : Nat) : Int)) ∧ w = w' := version_ok hX0 Go.Proofs.Tryd.func8 b8 (by kernel_rfl) (by kernel_rfl) w n m h1 h2
end Go.Proofs.YtdfhomhginbfeaaDoor.K
