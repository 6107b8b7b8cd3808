/- AnyBrokerRegistrationRequest: what the law on it computes. No condition. -/
import Derived.Test.YtdfhomhginbfeaaDoorA0
import Derived.Test.YtdfhomhginbfeaaDoorQA
import Derived.Test.YtdfhomhginbfeaaDoorQR
namespace Go.Proofs.YtdfhomhginbfeaaDoor.K.AnyBrokerRegistrationRequest
open Go Go.RowKit Go.Proofs Go.Proofs.YtdfhomhginbfeaaDoor.T Go.Proofs.YtdfhomhginbfeaaDoor.K
set_option linter.unusedVariables false
set_option linter.unusedSimpArgs false
def fs : Fs := (.cons ⟨0, -1, -1, 0, 1, 1, 21, false⟩ (.prim .i32) (.cons ⟨0, -1, -1, 0, 2, 2, 9, false⟩ (.prim .str) (.cons ⟨0, -1, -1, 0, 3, 3, 64, false⟩ (.prim .uuid) (.cons ⟨0, -1, -1, 0, 4, 19, 65, false⟩ (.list 65 75 5 (.struct 75 5 76 (some (4, 4)) (.cons ⟨0, -1, -1, 0, 0, 0, 9, false⟩ (.prim .str) (.cons ⟨0, -1, -1, 0, 1, 1, 9, false⟩ (.prim .str) (.cons ⟨0, -1, -1, 0, 2, 2, 73, false⟩ (.prim .u16) (.cons ⟨0, -1, -1, 0, 3, 3, 29, false⟩ (.prim .i16) .nil)))))) (.cons ⟨0, -1, -1, 0, 5, 20, 66, false⟩ (.list 66 79 4 (.struct 79 4 78 (some (3, 3)) (.cons ⟨0, -1, -1, 0, 0, 0, 9, false⟩ (.prim .str) (.cons ⟨0, -1, -1, 0, 1, 1, 29, false⟩ (.prim .i16) (.cons ⟨0, -1, -1, 0, 2, 2, 29, false⟩ (.prim .i16) .nil))))) (.cons ⟨0, -1, 0, 0, 6, 21, 67, false⟩ (.prim .str) (.cons ⟨1, -1, -1, 0, 7, 22, 4, false⟩ (.prim .bool) (.cons ⟨2, -1, -1, 0, 8, 23, 68, false⟩ (.list 68 64 16 (.prim .uuid)) (.cons ⟨3, -1, -1, 0, 9, 24, 2, false⟩ (.prim .i64) .nil)))))))))
def sc76 : SC := .skip
theorem b76 : (Go.Proofs.Tryd.f76).body.map strip = some (sc76) := by kernel_rfl
theorem d76 : DefAt PP 76 5 [] := defAt_ok (N := 2) Go.Proofs.Tryd.func76 b76 (by kernel_rfl) (by kernel_rfl) (by decide) (by kernel_rfl) (by kernel_rfl)
def sc78 : SC := .skip
theorem b78 : (Go.Proofs.Tryd.f78).body.map strip = some (sc78) := by kernel_rfl
theorem d78 : DefAt PP 78 4 [] := defAt_ok (N := 2) Go.Proofs.Tryd.func78 b78 (by kernel_rfl) (by kernel_rfl) (by decide) (by kernel_rfl) (by kernel_rfl)
def sc43 : SC := .reg [mv 2 0, nilc 3 2, fa 4 70 3 9, ⟨none, .store 2 (.tmp 4) (.const (.int .i64 (-1))), none⟩]
theorem b43 : (Go.Proofs.Tryd.f43).body.map strip = some (sc43) := by kernel_rfl
theorem d43 : DefAt PP 43 26 [(24, (.int .i64 (-1)))] := defAt_ok (N := 5) Go.Proofs.Tryd.func43 b43 (by kernel_rfl) (by kernel_rfl) (by decide) (by kernel_rfl) (by kernel_rfl)
theorem dfs : DefFs PP fs := ⟨trivial, ⟨trivial, ⟨trivial, ⟨⟨⟨_, d76, (by kernel_rfl), (by kernel_rfl)⟩, ⟨trivial, ⟨trivial, ⟨trivial, ⟨trivial, trivial⟩⟩⟩⟩⟩, ⟨⟨⟨_, d78, (by kernel_rfl), (by kernel_rfl)⟩, ⟨trivial, ⟨trivial, ⟨trivial, trivial⟩⟩⟩⟩, ⟨trivial, ⟨trivial, ⟨trivial, ⟨trivial, trivial⟩⟩⟩⟩⟩⟩⟩⟩⟩
noncomputable abbrev zc : Array Value := zcOf PP 70
noncomputable def cs : Array Value := dSetAll 0 [(24, (.int .i64 (-1)))] zc
theorem defFn : DefFn PP 43 70 zc cs := ⟨d43.1, fun w b hc => d43.2 w b 0 zc 70 hc (by decide +kernel)⟩
theorem b19 : (Go.Proofs.Tryd.f19).body.map strip = some (sc_NewPtr 70 43) := by kernel_rfl
theorem ok19 : FnOK PP 19 := fnOK_of Go.Proofs.Tryd.func19 b19 (by kernel_rfl)
theorem cNP (w : World) : Calls PP 19 #[] w fun e w' => ∃ b, e = .returned (.pointer (some ⟨b, 0, none⟩)) ∧ w.heap.size ≤ b ∧ w'.heap[b]? = some (.cells cs 70 (0, 0)) ∧ Below w.heap.size w w' := newPtr_ok (zc_of (by kernel_rfl)) defFn Go.Proofs.Tryd.func19 b19 (by kernel_rfl) (by kernel_rfl) w
theorem b20 : (Go.Proofs.Tryd.f20).body.map strip = some (sc_MaxV 4) := by kernel_rfl
theorem ok20 : FnOK PP 20 := fnOK_of Go.Proofs.Tryd.func20 b20 (by kernel_rfl)
theorem b10 : (Go.Proofs.Tryd.f10).body.map strip = some (sc_Max 19 20 29 3) := by kernel_rfl
theorem ok10 : FnOK PP 10 := fnOK_of Go.Proofs.Tryd.func10 b10 (by kernel_rfl)
theorem cMax (w : World) : Calls PP 10 #[] w fun e w' => e = .returned (.int .i64 ((4 : Nat) : Int)) ∧ Below w.heap.size w w' := max_ok (by kernel_rfl) (by kernel_rfl) (by decide) ok19 cNP ok20 (fun w v => maxV_ok Go.Proofs.Tryd.func20 b20 (by kernel_rfl) (by kernel_rfl) w v) Go.Proofs.Tryd.func10 b10 (by kernel_rfl) (by kernel_rfl) w
theorem b21 : (Go.Proofs.Tryd.f21).body.map strip = some (sc_SetV 70 29) := by kernel_rfl
theorem ok21 : FnOK PP 21 := fnOK_of Go.Proofs.Tryd.func21 b21 (by kernel_rfl)
theorem b23 : (Go.Proofs.Tryd.f23).body.map strip = some (aTop ids 70 29 (some 0) (some (10, 25)) fs) := by kernel_rfl
theorem ok23 : FnOK PP 23 := fnOK_of Go.Proofs.Tryd.func23 b23 (by kernel_rfl)
def M : RTop := { S := 70, size := 26, d := 43, t := 41, N := 272, flex := (some 0), tags := (some (10, 25)), fs := fs }
theorem b44 : (Go.Proofs.Tryd.f44).body.map strip = some (rTop rids 70 43 41 (some 0) (some (10, 25)) fs) := by kernel_rfl
theorem b22 : (Go.Proofs.Tryd.f22).body.map strip = some (sc_ReadFromW 44) := by kernel_rfl
theorem ok22 : FnOK PP 22 := fnOK_of Go.Proofs.Tryd.func22 b22 (by kernel_rfl)
theorem ok44 : FnOK PP 44 := fnOK_of Go.Proofs.Tryd.func44 b44 (by kernel_rfl)
theorem cR (a : Addr) (B : Nat) (w0 : World) (h : 0 < B) (hg : ∀ w', Below B w0 w' → GlE a w') : ReadC PP rids M B G0 (errV a) 44 w0 := readFrom_ok (kr a) (fun _ => trivial) hg h (by kernel_rfl) dfs d43 (by kernel_rfl) (by kernel_rfl) Go.Proofs.Tryd.func44 b44 (by kernel_rfl) (by kernel_rfl)
theorem b11 : (Go.Proofs.Tryd.f11).body.map strip = some (sc_Again 3 29 22 35 19 21 22 23) := by kernel_rfl
theorem cAg (a : Addr) : AgC PP X.U8 (some 0) fs 0 4 (GlE a) 11 :=
  again_ok (I := rids) (M := M) (gb := 0) (m := 4) (G := G0) (Gl := GlE a) (err := errV a) (by kernel_rfl) (by kernel_rfl) (by kernel_rfl) (by kernel_rfl) (by decide) ⟨_, _, rfl⟩ ok19 cNP ok21 (fun w b cs E hc hs n => setV_ok (by kernel_rfl) (by kernel_rfl) Go.Proofs.Tryd.func21 b21 (by kernel_rfl) (by kernel_rfl) w b cs E hc hs n) ok22 (fun w x y Q h => readFromW_ok ok44 Go.Proofs.Tryd.func22 b22 (by kernel_rfl) (by kernel_rfl) w x y Q h) (fun B w0 h hg => cR a B w0 h hg) ok23 (fun w b ver ts u hb hc h0 hh ht hl => appendTo_calls ka Go.Proofs.Tryd.func23 b23 (by kernel_rfl) (by kernel_rfl) w b 0 ver ts u hb hc h0 hh ht hl) (by decide +kernel) (by decide) (by kernel_rfl) (by kernel_rfl) Go.Proofs.Tryd.func11 b11 (by kernel_rfl) (by kernel_rfl) (by kernel_rfl)
theorem b4 : (Go.Proofs.Tryd.f4).body.map strip = some (sc_LawAny 22 3 4 10 8 11 9) := by kernel_rfl
theorem okv : ∀ v : Nat, v ≤ 4 → okFsR v (flexAt (some 0) v) fs = true := by decide +kernel
theorem nlv : ∀ v : Nat, v ≤ 4 → nlFs v fs = true := by decide +kernel
theorem law (a : Addr) (w : World) (n : Nat) (hn : n < 256) (S : Option Nat) (base : Option Addr) (data : Bytes) (cap : Nat) (hsr : SrcAt w S base data) (hS : ∀ sb, S = some sb → sb < w.heap.size) (hgb : 0 < w.heap.size) (hgl : ∀ w', Below w.heap.size w w' → GlE a w') : Calls PP 4 #[.int .u8 (n : Int), .slice base data.length cap] w fun e w' => e = .returned (.bool true) ∧ Below w.heap.size w w' :=
  lawAny_ok (m := 4) (Gl := GlE a) (by decide) fs (some 0) (by kernel_rfl) (by kernel_rfl) ok10 cMax ok8 cVer (cAg a) ok9 cSame Go.Proofs.Tryd.func4 b4 (by kernel_rfl) (by kernel_rfl) w n hn S base data cap hsr hS hgb hgl (fun v hv => okv v hv) (fun v xs u r hv h1 h2 => by
    have hm : most = 32767 := rfl
    have hl : lim = 70368744177664 := rfl
    have := msg_len (nlv v hv) (by omega) h2
    omega)
end Go.Proofs.YtdfhomhginbfeaaDoor.K.AnyBrokerRegistrationRequest

