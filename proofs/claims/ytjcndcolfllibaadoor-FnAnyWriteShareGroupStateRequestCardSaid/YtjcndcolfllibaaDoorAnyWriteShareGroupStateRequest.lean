/- AnyWriteShareGroupStateRequest: what the law on it computes. No condition. -/
import Derived.Test.YtjcndcolfllibaaDoorA0
import Derived.Test.YtjcndcolfllibaaDoorQA
import Derived.Test.YtjcndcolfllibaaDoorQR
namespace Go.Proofs.YtjcndcolfllibaaDoor.K.AnyWriteShareGroupStateRequest
open Go Go.RowKit Go.Proofs Go.Proofs.YtjcndcolfllibaaDoor.T Go.Proofs.YtjcndcolfllibaaDoor.K
set_option linter.unusedVariables false
set_option linter.unusedSimpArgs false
def fs : Fs := (.cons ⟨0, -1, -1, 0, 1, 1, 9, false⟩ (.prim .str) (.cons ⟨0, -1, -1, 0, 2, 2, 75, false⟩ (.list 75 81 18 (.struct 81 18 92 (some (2, 17)) (.cons ⟨0, -1, -1, 0, 0, 0, 63, false⟩ (.prim .uuid) (.cons ⟨0, -1, -1, 0, 1, 16, 79, false⟩ (.list 79 85 7 (.struct 85 7 93 (some (6, 6)) (.cons ⟨0, -1, -1, 0, 0, 0, 21, false⟩ (.prim .i32) (.cons ⟨0, -1, -1, 0, 1, 1, 21, false⟩ (.prim .i32) (.cons ⟨0, -1, -1, 0, 2, 2, 21, false⟩ (.prim .i32) (.cons ⟨0, -1, -1, 0, 3, 3, 2, false⟩ (.prim .i64) (.cons ⟨1, -1, -1, 0, 4, 4, 21, false⟩ (.prim .i32) (.cons ⟨0, -1, -1, 0, 5, 5, 83, false⟩ (.list 83 89 5 (.struct 89 5 94 (some (4, 4)) (.cons ⟨0, -1, -1, 0, 0, 0, 2, false⟩ (.prim .i64) (.cons ⟨0, -1, -1, 0, 1, 1, 2, false⟩ (.prim .i64) (.cons ⟨0, -1, -1, 0, 2, 2, 87, false⟩ (.prim .i8) (.cons ⟨0, -1, -1, 0, 3, 3, 29, false⟩ (.prim .i16) .nil)))))) .nil)))))))) .nil)))) .nil))
def sc92 : SC := .skip
theorem b92 : (Go.Proofs.Tryd.f92).body.map strip = some (sc92) := by kernel_rfl
theorem d92 : DefAt PP 92 18 [] := defAt_ok (N := 2) Go.Proofs.Tryd.func92 b92 (by kernel_rfl) (by kernel_rfl) (by decide) (by kernel_rfl) (by kernel_rfl)
def sc93 : SC := .reg [mv 2 0, nilc 3 2, fa 4 85 3 4, ⟨none, .store 21 (.tmp 4) (.const (.int .i32 (-1))), none⟩]
theorem b93 : (Go.Proofs.Tryd.f93).body.map strip = some (sc93) := by kernel_rfl
theorem d93 : DefAt PP 93 7 [(4, (.int .i32 (-1)))] := defAt_ok (N := 5) Go.Proofs.Tryd.func93 b93 (by kernel_rfl) (by kernel_rfl) (by decide) (by kernel_rfl) (by kernel_rfl)
def sc94 : SC := .skip
theorem b94 : (Go.Proofs.Tryd.f94).body.map strip = some (sc94) := by kernel_rfl
theorem d94 : DefAt PP 94 5 [] := defAt_ok (N := 2) Go.Proofs.Tryd.func94 b94 (by kernel_rfl) (by kernel_rfl) (by decide) (by kernel_rfl) (by kernel_rfl)
def sc62 : SC := .skip
theorem b62 : (Go.Proofs.Tryd.f62).body.map strip = some (sc62) := by kernel_rfl
theorem d62 : DefAt PP 62 4 [] := defAt_ok (N := 2) Go.Proofs.Tryd.func62 b62 (by kernel_rfl) (by kernel_rfl) (by decide) (by kernel_rfl) (by kernel_rfl)
theorem dfs : DefFs PP fs := ⟨trivial, ⟨⟨⟨_, d92, (by kernel_rfl), (by kernel_rfl)⟩, ⟨trivial, ⟨⟨⟨_, d93, (by kernel_rfl), (by kernel_rfl)⟩, ⟨trivial, ⟨trivial, ⟨trivial, ⟨trivial, ⟨trivial, ⟨⟨⟨_, d94, (by kernel_rfl), (by kernel_rfl)⟩, ⟨trivial, ⟨trivial, ⟨trivial, ⟨trivial, trivial⟩⟩⟩⟩⟩, trivial⟩⟩⟩⟩⟩⟩⟩, trivial⟩⟩⟩, trivial⟩⟩
noncomputable abbrev zc : Array Value := zcOf PP 77
noncomputable def cs : Array Value := dSetAll 0 [] zc
theorem defFn : DefFn PP 62 77 zc cs := ⟨d62.1, fun w b hc => d62.2 w b 0 zc 77 hc (by decide +kernel)⟩
theorem b32 : (Go.Proofs.Tryd.f32).body.map strip = some (sc_NewPtr 77 62) := by kernel_rfl
theorem ok32 : FnOK PP 32 := fnOK_of Go.Proofs.Tryd.func32 b32 (by kernel_rfl)
theorem cNP (w : World) : Calls PP 32 #[] w fun e w' => ∃ b, e = .returned (.pointer (some ⟨b, 0, none⟩)) ∧ w.heap.size ≤ b ∧ w'.heap[b]? = some (.cells cs 77 (0, 0)) ∧ Below w.heap.size w w' := newPtr_ok (zc_of (by kernel_rfl)) defFn Go.Proofs.Tryd.func32 b32 (by kernel_rfl) (by kernel_rfl) w
theorem b33 : (Go.Proofs.Tryd.f33).body.map strip = some (sc_MaxV 1) := by kernel_rfl
theorem ok33 : FnOK PP 33 := fnOK_of Go.Proofs.Tryd.func33 b33 (by kernel_rfl)
theorem b15 : (Go.Proofs.Tryd.f15).body.map strip = some (sc_Max 32 33 29 3) := by kernel_rfl
theorem ok15 : FnOK PP 15 := fnOK_of Go.Proofs.Tryd.func15 b15 (by kernel_rfl)
theorem cMax (w : World) : Calls PP 15 #[] w fun e w' => e = .returned (.int .i64 ((1 : Nat) : Int)) ∧ Below w.heap.size w w' := max_ok (by kernel_rfl) (by kernel_rfl) (by decide) ok32 cNP ok33 (fun w v => maxV_ok Go.Proofs.Tryd.func33 b33 (by kernel_rfl) (by kernel_rfl) w v) Go.Proofs.Tryd.func15 b15 (by kernel_rfl) (by kernel_rfl) w
theorem b34 : (Go.Proofs.Tryd.f34).body.map strip = some (sc_SetV 77 29) := by kernel_rfl
theorem ok34 : FnOK PP 34 := fnOK_of Go.Proofs.Tryd.func34 b34 (by kernel_rfl)
theorem b36 : (Go.Proofs.Tryd.f36).body.map strip = some (aTop ids 77 27 (some 0) (some (3, 3)) fs) := by kernel_rfl
theorem ok36 : FnOK PP 36 := fnOK_of Go.Proofs.Tryd.func36 b36 (by kernel_rfl)
def M : RTop := { S := 77, size := 4, d := 62, t := 40, N := 239, flex := (some 0), tags := (some (3, 3)), fs := fs }
theorem b63 : (Go.Proofs.Tryd.f63).body.map strip = some (rTop rids 77 62 40 (some 0) (some (3, 3)) fs) := by kernel_rfl
theorem b35 : (Go.Proofs.Tryd.f35).body.map strip = some (sc_ReadFromW 63) := by kernel_rfl
theorem ok35 : FnOK PP 35 := fnOK_of Go.Proofs.Tryd.func35 b35 (by kernel_rfl)
theorem ok63 : FnOK PP 63 := fnOK_of Go.Proofs.Tryd.func63 b63 (by kernel_rfl)
theorem cR (a : Addr) (B : Nat) (w0 : World) (h : 0 < B) (hg : ∀ w', Below B w0 w' → GlE a w') : ReadC PP rids M B G0 (errV a) 63 w0 := readFrom_ok (kr a) (fun _ => trivial) hg h (by kernel_rfl) dfs d62 (by kernel_rfl) (by kernel_rfl) Go.Proofs.Tryd.func63 b63 (by kernel_rfl) (by kernel_rfl)
theorem b16 : (Go.Proofs.Tryd.f16).body.map strip = some (sc_Again 3 29 22 35 32 34 35 36) := by kernel_rfl
theorem cAg (a : Addr) : AgC PP X.U8 (some 0) fs 0 1 (GlE a) 16 :=
  again_ok (I := rids) (M := M) (gb := 0) (m := 1) (G := G0) (Gl := GlE a) (err := errV a) (by kernel_rfl) (by kernel_rfl) (by kernel_rfl) (by kernel_rfl) (by decide) ⟨_, _, rfl⟩ ok32 cNP ok34 (fun w b cs E hc hs n => setV_ok (by kernel_rfl) (by kernel_rfl) Go.Proofs.Tryd.func34 b34 (by kernel_rfl) (by kernel_rfl) w b cs E hc hs n) ok35 (fun w x y Q h => readFromW_ok ok63 Go.Proofs.Tryd.func35 b35 (by kernel_rfl) (by kernel_rfl) w x y Q h) (fun B w0 h hg => cR a B w0 h hg) ok36 (fun w b ver ts u hb hc h0 hh ht hl => appendTo_calls ka Go.Proofs.Tryd.func36 b36 (by kernel_rfl) (by kernel_rfl) w b 0 ver ts u hb hc h0 hh ht hl) (by decide +kernel) (by decide) (by kernel_rfl) (by kernel_rfl) Go.Proofs.Tryd.func16 b16 (by kernel_rfl) (by kernel_rfl) (by kernel_rfl)
theorem b6 : (Go.Proofs.Tryd.f6).body.map strip = some (sc_LawAny 22 3 4 15 9 16 10) := by kernel_rfl
theorem okv : ∀ v : Nat, v ≤ 1 → okFsR v (flexAt (some 0) v) fs = true := by decide +kernel
theorem nlv : ∀ v : Nat, v ≤ 1 → nlFs v fs = true := by decide +kernel
theorem law (a : Addr) (w : World) (n : Nat) (hn : n < 256) (S : Option Nat) (base : Option Addr) (data : Bytes) (cap : Nat) (hsr : SrcAt w S base data) (hS : ∀ sb, S = some sb → sb < w.heap.size) (hgb : 0 < w.heap.size) (hgl : ∀ w', Below w.heap.size w w' → GlE a w') : Calls PP 6 #[.int .u8 (n : Int), .slice base data.length cap] w fun e w' => e = .returned (.bool true) ∧ Below w.heap.size w w' :=
  lawAny_ok (m := 1) (Gl := GlE a) (by decide) fs (some 0) (by kernel_rfl) (by kernel_rfl) ok15 cMax ok9 cVer (cAg a) ok10 cSame Go.Proofs.Tryd.func6 b6 (by kernel_rfl) (by kernel_rfl) w n hn S base data cap hsr hS hgb hgl (fun v hv => okv v hv) (fun v xs u r hv h1 h2 => by
    have hm : most = 32767 := rfl
    have hl : lim = 70368744177664 := rfl
    have := msg_len (nlv v hv) (by omega) h2
    omega)
end Go.Proofs.YtjcndcolfllibaaDoor.K.AnyWriteShareGroupStateRequest

