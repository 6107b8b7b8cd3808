/- AnyOffsetFetchRequest: what the law on it computes. No condition. -/
import Derived.Test.YtdfhomhginbfeaaDoorA1
import Derived.Test.YtdfhomhginbfeaaDoorQA
import Derived.Test.YtdfhomhginbfeaaDoorQR
namespace Go.Proofs.YtdfhomhginbfeaaDoor.K.AnyOffsetFetchRequest
open Go Go.RowKit Go.Proofs Go.Proofs.YtdfhomhginbfeaaDoor.T Go.Proofs.YtdfhomhginbfeaaDoor.K
set_option linter.unusedVariables false
set_option linter.unusedSimpArgs false
def fs : Fs := (.cons ⟨0, 7, -1, 0, 1, 1, 9, false⟩ (.prim .str) (.cons ⟨0, 7, 2, 0, 2, 2, 82, false⟩ (.list 82 90 3 (.struct 90 3 84 (some (2, 2)) (.cons ⟨0, -1, -1, 0, 0, 0, 9, false⟩ (.prim .str) (.cons ⟨0, -1, -1, 0, 1, 1, 88, false⟩ (.list 88 21 1 (.prim .i32)) .nil)))) (.cons ⟨8, -1, -1, 0, 3, 3, 83, false⟩ (.list 83 94 5 (.struct 94 5 85 (some (4, 4)) (.cons ⟨0, -1, -1, 0, 0, 0, 9, false⟩ (.prim .str) (.cons ⟨9, -1, 0, 0, 1, 1, 67, false⟩ (.prim .str) (.cons ⟨9, -1, -1, 0, 2, 2, 21, false⟩ (.prim .i32) (.cons ⟨0, -1, 0, 0, 3, 3, 92, false⟩ (.list 92 97 19 (.struct 97 19 86 (some (3, 18)) (.cons ⟨8, 9, -1, 0, 0, 0, 9, false⟩ (.prim .str) (.cons ⟨10, -1, -1, 0, 1, 1, 64, false⟩ (.prim .uuid) (.cons ⟨0, -1, -1, 0, 2, 17, 88, false⟩ (.list 88 21 1 (.prim .i32)) .nil))))) .nil)))))) (.cons ⟨7, -1, -1, 0, 4, 4, 4, false⟩ (.prim .bool) .nil))))
def sc84 : SC := .skip
theorem b84 : (Go.Proofs.Tryd.f84).body.map strip = some (sc84) := by kernel_rfl
theorem d84 : DefAt PP 84 3 [] := defAt_ok (N := 2) Go.Proofs.Tryd.func84 b84 (by kernel_rfl) (by kernel_rfl) (by decide) (by kernel_rfl) (by kernel_rfl)
def sc85 : SC := .reg [mv 2 0, nilc 3 2, fa 4 94 3 2, ⟨none, .store 21 (.tmp 4) (.const (.int .i32 (-1))), none⟩]
theorem b85 : (Go.Proofs.Tryd.f85).body.map strip = some (sc85) := by kernel_rfl
theorem d85 : DefAt PP 85 5 [(2, (.int .i32 (-1)))] := defAt_ok (N := 5) Go.Proofs.Tryd.func85 b85 (by kernel_rfl) (by kernel_rfl) (by decide) (by kernel_rfl) (by kernel_rfl)
def sc86 : SC := .skip
theorem b86 : (Go.Proofs.Tryd.f86).body.map strip = some (sc86) := by kernel_rfl
theorem d86 : DefAt PP 86 19 [] := defAt_ok (N := 2) Go.Proofs.Tryd.func86 b86 (by kernel_rfl) (by kernel_rfl) (by decide) (by kernel_rfl) (by kernel_rfl)
def sc50 : SC := .skip
theorem b50 : (Go.Proofs.Tryd.f50).body.map strip = some (sc50) := by kernel_rfl
theorem d50 : DefAt PP 50 6 [] := defAt_ok (N := 2) Go.Proofs.Tryd.func50 b50 (by kernel_rfl) (by kernel_rfl) (by decide) (by kernel_rfl) (by kernel_rfl)
theorem dfs : DefFs PP fs := ⟨trivial, ⟨⟨⟨_, d84, (by kernel_rfl), (by kernel_rfl)⟩, ⟨trivial, ⟨trivial, trivial⟩⟩⟩, ⟨⟨⟨_, d85, (by kernel_rfl), (by kernel_rfl)⟩, ⟨trivial, ⟨trivial, ⟨trivial, ⟨⟨⟨_, d86, (by kernel_rfl), (by kernel_rfl)⟩, ⟨trivial, ⟨trivial, ⟨trivial, trivial⟩⟩⟩⟩, trivial⟩⟩⟩⟩⟩, ⟨trivial, trivial⟩⟩⟩⟩
noncomputable abbrev zc : Array Value := zcOf PP 85
noncomputable def cs : Array Value := dSetAll 0 [] zc
theorem defFn : DefFn PP 50 85 zc cs := ⟨d50.1, fun w b hc => d50.2 w b 0 zc 85 hc (by decide +kernel)⟩
theorem b24 : (Go.Proofs.Tryd.f24).body.map strip = some (sc_NewPtr 85 50) := by kernel_rfl
theorem ok24 : FnOK PP 24 := fnOK_of Go.Proofs.Tryd.func24 b24 (by kernel_rfl)
theorem cNP (w : World) : Calls PP 24 #[] w fun e w' => ∃ b, e = .returned (.pointer (some ⟨b, 0, none⟩)) ∧ w.heap.size ≤ b ∧ w'.heap[b]? = some (.cells cs 85 (0, 0)) ∧ Below w.heap.size w w' := newPtr_ok (zc_of (by kernel_rfl)) defFn Go.Proofs.Tryd.func24 b24 (by kernel_rfl) (by kernel_rfl) w
theorem b25 : (Go.Proofs.Tryd.f25).body.map strip = some (sc_MaxV 10) := by kernel_rfl
theorem ok25 : FnOK PP 25 := fnOK_of Go.Proofs.Tryd.func25 b25 (by kernel_rfl)
theorem b12 : (Go.Proofs.Tryd.f12).body.map strip = some (sc_Max 24 25 29 3) := by kernel_rfl
theorem ok12 : FnOK PP 12 := fnOK_of Go.Proofs.Tryd.func12 b12 (by kernel_rfl)
theorem cMax (w : World) : Calls PP 12 #[] w fun e w' => e = .returned (.int .i64 ((10 : Nat) : Int)) ∧ Below w.heap.size w w' := max_ok (by kernel_rfl) (by kernel_rfl) (by decide) ok24 cNP ok25 (fun w v => maxV_ok Go.Proofs.Tryd.func25 b25 (by kernel_rfl) (by kernel_rfl) w v) Go.Proofs.Tryd.func12 b12 (by kernel_rfl) (by kernel_rfl) w
theorem b26 : (Go.Proofs.Tryd.f26).body.map strip = some (sc_SetV 85 29) := by kernel_rfl
theorem ok26 : FnOK PP 26 := fnOK_of Go.Proofs.Tryd.func26 b26 (by kernel_rfl)
theorem b28 : (Go.Proofs.Tryd.f28).body.map strip = some (aTopL ids 9 85 30 (some 6) (some (5, 5)) fs) := by kernel_rfl
theorem ok28 : FnOK PP 28 := fnOK_of Go.Proofs.Tryd.func28 b28 (by kernel_rfl)
def M : RTop := { S := 85, size := 6, d := 50, t := 47, N := 361, flex := (some 6), tags := (some (5, 5)), fs := fs }
theorem b51 : (Go.Proofs.Tryd.f51).body.map strip = some (rTopL rids 9 85 50 47 (some 6) (some (5, 5)) fs) := by kernel_rfl
theorem b27 : (Go.Proofs.Tryd.f27).body.map strip = some (sc_ReadFromW 51) := by kernel_rfl
theorem ok27 : FnOK PP 27 := fnOK_of Go.Proofs.Tryd.func27 b27 (by kernel_rfl)
theorem ok51 : FnOK PP 51 := fnOK_of Go.Proofs.Tryd.func51 b51 (by kernel_rfl)
theorem cR (a : Addr) (B : Nat) (w0 : World) (h : 0 < B) (hg : ∀ w', Below B w0 w' → GlE a w') : ReadC PP rids M B G0 (errV a) 51 w0 := readFromL_ok (tStr := 9) (kr a) (fun _ => trivial) hg h (by kernel_rfl) dfs d50 (by kernel_rfl) (by kernel_rfl) Go.Proofs.Tryd.func51 b51 (by kernel_rfl) (by kernel_rfl)
theorem b13 : (Go.Proofs.Tryd.f13).body.map strip = some (sc_Again 3 29 22 35 24 26 27 28) := by kernel_rfl
theorem cAg (a : Addr) : AgC PP X.U8 (some 6) fs 0 10 (GlE a) 13 :=
  againL_ok (I := rids) (M := M) (gb := 0) (m := 10) (G := G0) (Gl := GlE a) (err := errV a) (by kernel_rfl) (by kernel_rfl) (by kernel_rfl) (by kernel_rfl) (by decide) ⟨_, _, rfl⟩ ok24 cNP ok26 (fun w b cs E hc hs n => setV_ok (by kernel_rfl) (by kernel_rfl) Go.Proofs.Tryd.func26 b26 (by kernel_rfl) (by kernel_rfl) w b cs E hc hs n) ok27 (fun w x y Q h => readFromW_ok ok51 Go.Proofs.Tryd.func27 b27 (by kernel_rfl) (by kernel_rfl) w x y Q h) (fun B w0 h hg => cR a B w0 h hg) ok28 (fun w b ver ts u hb hc h0 hh ht hn hl => appendToL_calls ka Go.Proofs.Tryd.func28 b28 (by kernel_rfl) (by kernel_rfl) w b 0 ver ts u hb hc h0 hh hn ht hl) (by decide +kernel) (by decide) (by kernel_rfl) (by kernel_rfl) Go.Proofs.Tryd.func13 b13 (by kernel_rfl) (by kernel_rfl) (by kernel_rfl)
theorem b5 : (Go.Proofs.Tryd.f5).body.map strip = some (sc_LawAny 22 3 4 12 8 13 9) := by kernel_rfl
theorem okv : ∀ v : Nat, v ≤ 10 → okFsR v (flexAt (some 6) v) fs = true := by decide +kernel
theorem nlv : ∀ v : Nat, v ≤ 10 → nlFs v fs = true := by decide +kernel
theorem law (a : Addr) (w : World) (n : Nat) (hn : n < 256) (S : Option Nat) (base : Option Addr) (data : Bytes) (cap : Nat) (hsr : SrcAt w S base data) (hS : ∀ sb, S = some sb → sb < w.heap.size) (hgb : 0 < w.heap.size) (hgl : ∀ w', Below w.heap.size w w' → GlE a w') : Calls PP 5 #[.int .u8 (n : Int), .slice base data.length cap] w fun e w' => e = .returned (.bool true) ∧ Below w.heap.size w w' :=
  lawAny_ok (m := 10) (Gl := GlE a) (by decide) fs (some 6) (by kernel_rfl) (by kernel_rfl) ok12 cMax ok8 cVer (cAg a) ok9 cSame Go.Proofs.Tryd.func5 b5 (by kernel_rfl) (by kernel_rfl) w n hn S base data cap hsr hS hgb hgl (fun v hv => okv v hv) (fun v xs u r hv h1 h2 => by
    have hm : most = 32767 := rfl
    have hl : lim = 70368744177664 := rfl
    have := msg_len (nlv v hv) (by omega) h2
    omega)
end Go.Proofs.YtdfhomhginbfeaaDoor.K.AnyOffsetFetchRequest

