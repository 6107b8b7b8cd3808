/- AnyDescribeTransactionsRequest: what the law on it computes. No condition. -/
import Derived.Test.YtgcocbggoielkaaDoorA0
import Derived.Test.YtgcocbggoielkaaDoorQA
import Derived.Test.YtgcocbggoielkaaDoorQR
namespace Go.Proofs.YtgcocbggoielkaaDoor.K.AnyDescribeTransactionsRequest
open Go Go.RowKit Go.Proofs Go.Proofs.YtgcocbggoielkaaDoor.T Go.Proofs.YtgcocbggoielkaaDoor.K
set_option linter.unusedVariables false
set_option linter.unusedSimpArgs false
def fs : Fs := (.cons ⟨0, -1, -1, 0, 1, 1, 103, false⟩ (.list 103 9 1 (.prim .str)) .nil)
def sc97 : SC := .skip
theorem b97 : (Go.Proofs.Tryd.f97).body.map strip = some (sc97) := by kernel_rfl
theorem d97 : DefAt PP 97 3 [] := defAt_ok (N := 2) Go.Proofs.Tryd.func97 b97 (by kernel_rfl) (by kernel_rfl) (by decide) (by kernel_rfl) (by kernel_rfl)
theorem dfs : DefFs PP fs := ⟨trivial, trivial⟩
noncomputable abbrev zc : Array Value := zcOf PP 105
noncomputable def cs : Array Value := dSetAll 0 [] zc
theorem defFn : DefFn PP 97 105 zc cs := ⟨d97.1, fun w b hc => d97.2 w b 0 zc 105 hc (by decide +kernel)⟩
theorem b57 : (Go.Proofs.Tryd.f57).body.map strip = some (sc_NewPtr 105 97) := by kernel_rfl
theorem ok57 : FnOK PP 57 := fnOK_of Go.Proofs.Tryd.func57 b57 (by kernel_rfl)
theorem cNP (w : World) : Calls PP 57 #[] w fun e w' => ∃ b, e = .returned (.pointer (some ⟨b, 0, none⟩)) ∧ w.heap.size ≤ b ∧ w'.heap[b]? = some (.cells cs 105 (0, 0)) ∧ Below w.heap.size w w' := newPtr_ok (zc_of (by kernel_rfl)) defFn Go.Proofs.Tryd.func57 b57 (by kernel_rfl) (by kernel_rfl) w
theorem b58 : (Go.Proofs.Tryd.f58).body.map strip = some (sc_MaxV 0) := by kernel_rfl
theorem ok58 : FnOK PP 58 := fnOK_of Go.Proofs.Tryd.func58 b58 (by kernel_rfl)
theorem b27 : (Go.Proofs.Tryd.f27).body.map strip = some (sc_Max 57 58 43 3) := by kernel_rfl
theorem ok27 : FnOK PP 27 := fnOK_of Go.Proofs.Tryd.func27 b27 (by kernel_rfl)
theorem cMax (w : World) : Calls PP 27 #[] w fun e w' => e = .returned (.int .i64 ((0 : Nat) : Int)) ∧ Below w.heap.size w w' := max_ok (by kernel_rfl) (by kernel_rfl) (by decide) ok57 cNP ok58 (fun w v => maxV_ok Go.Proofs.Tryd.func58 b58 (by kernel_rfl) (by kernel_rfl) w v) Go.Proofs.Tryd.func27 b27 (by kernel_rfl) (by kernel_rfl) w
theorem b59 : (Go.Proofs.Tryd.f59).body.map strip = some (sc_SetV 105 43) := by kernel_rfl
theorem ok59 : FnOK PP 59 := fnOK_of Go.Proofs.Tryd.func59 b59 (by kernel_rfl)
theorem b61 : (Go.Proofs.Tryd.f61).body.map strip = some (aTop ids 105 10 (some 0) (some (2, 2)) fs) := by kernel_rfl
theorem ok61 : FnOK PP 61 := fnOK_of Go.Proofs.Tryd.func61 b61 (by kernel_rfl)
def M : RTop := { S := 105, size := 3, d := 97, t := 16, N := 74, flex := (some 0), tags := (some (2, 2)), fs := fs }
theorem b98 : (Go.Proofs.Tryd.f98).body.map strip = some (rTop rids 105 97 16 (some 0) (some (2, 2)) fs) := by kernel_rfl
theorem b60 : (Go.Proofs.Tryd.f60).body.map strip = some (sc_ReadFromW 98) := by kernel_rfl
theorem ok60 : FnOK PP 60 := fnOK_of Go.Proofs.Tryd.func60 b60 (by kernel_rfl)
theorem ok98 : FnOK PP 98 := fnOK_of Go.Proofs.Tryd.func98 b98 (by kernel_rfl)
theorem cR (a : Addr) (B : Nat) (w0 : World) (h : 0 < B) (hg : ∀ w', Below B w0 w' → GlE a w') : ReadC PP rids M B G0 (errV a) 98 w0 := readFrom_ok (kr a) (fun _ => trivial) hg h (by kernel_rfl) dfs d97 (by kernel_rfl) (by kernel_rfl) Go.Proofs.Tryd.func98 b98 (by kernel_rfl) (by kernel_rfl)
theorem b28 : (Go.Proofs.Tryd.f28).body.map strip = some (sc_Again 3 43 22 49 57 59 60 61) := by kernel_rfl
theorem cAg (a : Addr) : AgC PP X.U8 (some 0) fs 0 0 (GlE a) 28 :=
  again_ok (I := rids) (M := M) (gb := 0) (m := 0) (G := G0) (Gl := GlE a) (err := errV a) (by kernel_rfl) (by kernel_rfl) (by kernel_rfl) (by kernel_rfl) (by decide) ⟨_, _, rfl⟩ ok57 cNP ok59 (fun w b cs E hc hs n => setV_ok (by kernel_rfl) (by kernel_rfl) Go.Proofs.Tryd.func59 b59 (by kernel_rfl) (by kernel_rfl) w b cs E hc hs n) ok60 (fun w x y Q h => readFromW_ok ok98 Go.Proofs.Tryd.func60 b60 (by kernel_rfl) (by kernel_rfl) w x y Q h) (fun B w0 h hg => cR a B w0 h hg) ok61 (fun w b ver ts u hb hc h0 hh ht hl => appendTo_calls ka Go.Proofs.Tryd.func61 b61 (by kernel_rfl) (by kernel_rfl) w b 0 ver ts u hb hc h0 hh ht hl) (by decide +kernel) (by decide) (by kernel_rfl) (by kernel_rfl) Go.Proofs.Tryd.func28 b28 (by kernel_rfl) (by kernel_rfl) (by kernel_rfl)
theorem b8 : (Go.Proofs.Tryd.f8).body.map strip = some (sc_LawAny 22 3 4 27 12 28 13) := by kernel_rfl
theorem okv : ∀ v : Nat, v ≤ 0 → okFsR v (flexAt (some 0) v) fs = true := by decide +kernel
theorem nlv : ∀ v : Nat, v ≤ 0 → nlFs v fs = true := by decide +kernel
theorem law (a : Addr) (w : World) (n : Nat) (hn : n < 256) (S : Option Nat) (base : Option Addr) (data : Bytes) (cap : Nat) (hsr : SrcAt w S base data) (hS : ∀ sb, S = some sb → sb < w.heap.size) (hgb : 0 < w.heap.size) (hgl : ∀ w', Below w.heap.size w w' → GlE a w') : Calls PP 8 #[.int .u8 (n : Int), .slice base data.length cap] w fun e w' => e = .returned (.bool true) ∧ Below w.heap.size w w' :=
  lawAny_ok (m := 0) (Gl := GlE a) (by decide) fs (some 0) (by kernel_rfl) (by kernel_rfl) ok27 cMax ok12 cVer (cAg a) ok13 cSame Go.Proofs.Tryd.func8 b8 (by kernel_rfl) (by kernel_rfl) w n hn S base data cap hsr hS hgb hgl (fun v hv => okv v hv) (fun v xs u r hv h1 h2 => by
    have hm : most = 32767 := rfl
    have hl : lim = 70368744177664 := rfl
    have := msg_len (nlv v hv) (by omega) h2
    omega)
end Go.Proofs.YtgcocbggoielkaaDoor.K.AnyDescribeTransactionsRequest

