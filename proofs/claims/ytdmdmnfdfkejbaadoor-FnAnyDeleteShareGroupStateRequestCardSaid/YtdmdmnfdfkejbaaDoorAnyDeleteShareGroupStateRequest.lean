/- AnyDeleteShareGroupStateRequest: what the law on it computes. No condition. -/
import Derived.Test.YtdmdmnfdfkejbaaDoorA0
import Derived.Test.YtdmdmnfdfkejbaaDoorQA
import Derived.Test.YtdmdmnfdfkejbaaDoorQR
namespace Go.Proofs.YtdmdmnfdfkejbaaDoor.K.AnyDeleteShareGroupStateRequest
open Go Go.RowKit Go.Proofs Go.Proofs.YtdmdmnfdfkejbaaDoor.T Go.Proofs.YtdmdmnfdfkejbaaDoor.K
set_option linter.unusedVariables false
set_option linter.unusedSimpArgs false
def fs : Fs := (.cons ⟨0, -1, -1, 0, 1, 1, 9, false⟩ (.prim .str) (.cons ⟨0, -1, -1, 0, 2, 2, 64, false⟩ (.list 64 71 18 (.struct 71 18 73 (some (2, 17)) (.cons ⟨0, -1, -1, 0, 0, 0, 68, false⟩ (.prim .uuid) (.cons ⟨0, -1, -1, 0, 1, 16, 69, false⟩ (.list 69 75 2 (.struct 75 2 75 (some (1, 1)) (.cons ⟨0, -1, -1, 0, 0, 0, 21, false⟩ (.prim .i32) .nil))) .nil)))) .nil))
def sc73 : SC := .skip
theorem b73 : (Go.Proofs.Tryd.f73).body.map strip = some (sc73) := by kernel_rfl
theorem d73 : DefAt PP 73 18 [] := defAt_ok (N := 2) Go.Proofs.Tryd.func73 b73 (by kernel_rfl) (by kernel_rfl) (by decide) (by kernel_rfl) (by kernel_rfl)
def sc75 : SC := .skip
theorem b75 : (Go.Proofs.Tryd.f75).body.map strip = some (sc75) := by kernel_rfl
theorem d75 : DefAt PP 75 2 [] := defAt_ok (N := 2) Go.Proofs.Tryd.func75 b75 (by kernel_rfl) (by kernel_rfl) (by decide) (by kernel_rfl) (by kernel_rfl)
def sc48 : SC := .skip
theorem b48 : (Go.Proofs.Tryd.f48).body.map strip = some (sc48) := by kernel_rfl
theorem d48 : DefAt PP 48 4 [] := defAt_ok (N := 2) Go.Proofs.Tryd.func48 b48 (by kernel_rfl) (by kernel_rfl) (by decide) (by kernel_rfl) (by kernel_rfl)
theorem dfs : DefFs PP fs := ⟨trivial, ⟨⟨⟨_, d73, (by kernel_rfl), (by kernel_rfl)⟩, ⟨trivial, ⟨⟨⟨_, d75, (by kernel_rfl), (by kernel_rfl)⟩, ⟨trivial, trivial⟩⟩, trivial⟩⟩⟩, trivial⟩⟩
noncomputable abbrev zc : Array Value := zcOf PP 66
noncomputable def cs : Array Value := dSetAll 0 [] zc
theorem defFn : DefFn PP 48 66 zc cs := ⟨d48.1, fun w b hc => d48.2 w b 0 zc 66 hc (by decide +kernel)⟩
theorem b22 : (Go.Proofs.Tryd.f22).body.map strip = some (sc_NewPtr 66 48) := by kernel_rfl
theorem ok22 : FnOK PP 22 := fnOK_of Go.Proofs.Tryd.func22 b22 (by kernel_rfl)
theorem cNP (w : World) : Calls PP 22 #[] w fun e w' => ∃ b, e = .returned (.pointer (some ⟨b, 0, none⟩)) ∧ w.heap.size ≤ b ∧ w'.heap[b]? = some (.cells cs 66 (0, 0)) ∧ Below w.heap.size w w' := newPtr_ok (zc_of (by kernel_rfl)) defFn Go.Proofs.Tryd.func22 b22 (by kernel_rfl) (by kernel_rfl) w
theorem b23 : (Go.Proofs.Tryd.f23).body.map strip = some (sc_MaxV 0) := by kernel_rfl
theorem ok23 : FnOK PP 23 := fnOK_of Go.Proofs.Tryd.func23 b23 (by kernel_rfl)
theorem b11 : (Go.Proofs.Tryd.f11).body.map strip = some (sc_Max 22 23 29 3) := by kernel_rfl
theorem ok11 : FnOK PP 11 := fnOK_of Go.Proofs.Tryd.func11 b11 (by kernel_rfl)
theorem cMax (w : World) : Calls PP 11 #[] w fun e w' => e = .returned (.int .i64 ((0 : Nat) : Int)) ∧ Below w.heap.size w w' := max_ok (by kernel_rfl) (by kernel_rfl) (by decide) ok22 cNP ok23 (fun w v => maxV_ok Go.Proofs.Tryd.func23 b23 (by kernel_rfl) (by kernel_rfl) w v) Go.Proofs.Tryd.func11 b11 (by kernel_rfl) (by kernel_rfl) w
theorem b24 : (Go.Proofs.Tryd.f24).body.map strip = some (sc_SetV 66 29) := by kernel_rfl
theorem ok24 : FnOK PP 24 := fnOK_of Go.Proofs.Tryd.func24 b24 (by kernel_rfl)
theorem b26 : (Go.Proofs.Tryd.f26).body.map strip = some (aTop ids 66 16 (some 0) (some (3, 3)) fs) := by kernel_rfl
theorem ok26 : FnOK PP 26 := fnOK_of Go.Proofs.Tryd.func26 b26 (by kernel_rfl)
def M : RTop := { S := 66, size := 4, d := 48, t := 26, N := 144, flex := (some 0), tags := (some (3, 3)), fs := fs }
theorem b49 : (Go.Proofs.Tryd.f49).body.map strip = some (rTop rids 66 48 26 (some 0) (some (3, 3)) fs) := by kernel_rfl
theorem b25 : (Go.Proofs.Tryd.f25).body.map strip = some (sc_ReadFromW 49) := by kernel_rfl
theorem ok25 : FnOK PP 25 := fnOK_of Go.Proofs.Tryd.func25 b25 (by kernel_rfl)
theorem ok49 : FnOK PP 49 := fnOK_of Go.Proofs.Tryd.func49 b49 (by kernel_rfl)
theorem cR (a : Addr) (B : Nat) (w0 : World) (h : 0 < B) (hg : ∀ w', Below B w0 w' → GlE a w') : ReadC PP rids M B G0 (errV a) 49 w0 := readFrom_ok (kr a) (fun _ => trivial) hg h (by kernel_rfl) dfs d48 (by kernel_rfl) (by kernel_rfl) Go.Proofs.Tryd.func49 b49 (by kernel_rfl) (by kernel_rfl)
theorem b12 : (Go.Proofs.Tryd.f12).body.map strip = some (sc_Again 3 29 22 35 22 24 25 26) := by kernel_rfl
theorem cAg (a : Addr) : AgC PP X.U8 (some 0) fs 0 0 (GlE a) 12 :=
  again_ok (I := rids) (M := M) (gb := 0) (m := 0) (G := G0) (Gl := GlE a) (err := errV a) (by kernel_rfl) (by kernel_rfl) (by kernel_rfl) (by kernel_rfl) (by decide) ⟨_, _, rfl⟩ ok22 cNP ok24 (fun w b cs E hc hs n => setV_ok (by kernel_rfl) (by kernel_rfl) Go.Proofs.Tryd.func24 b24 (by kernel_rfl) (by kernel_rfl) w b cs E hc hs n) ok25 (fun w x y Q h => readFromW_ok ok49 Go.Proofs.Tryd.func25 b25 (by kernel_rfl) (by kernel_rfl) w x y Q h) (fun B w0 h hg => cR a B w0 h hg) ok26 (fun w b ver ts u hb hc h0 hh ht hl => appendTo_calls ka Go.Proofs.Tryd.func26 b26 (by kernel_rfl) (by kernel_rfl) w b 0 ver ts u hb hc h0 hh ht hl) (by decide +kernel) (by decide) (by kernel_rfl) (by kernel_rfl) Go.Proofs.Tryd.func12 b12 (by kernel_rfl) (by kernel_rfl) (by kernel_rfl)
theorem b4 : (Go.Proofs.Tryd.f4).body.map strip = some (sc_LawAny 22 3 4 11 9 12 10) := by kernel_rfl
theorem okv : ∀ v : Nat, v ≤ 0 → okFsR v (flexAt (some 0) v) fs = true := by decide +kernel
theorem nlv : ∀ v : Nat, v ≤ 0 → nlFs v fs = true := by decide +kernel
theorem law (a : Addr) (w : World) (n : Nat) (hn : n < 256) (S : Option Nat) (base : Option Addr) (data : Bytes) (cap : Nat) (hsr : SrcAt w S base data) (hS : ∀ sb, S = some sb → sb < w.heap.size) (hgb : 0 < w.heap.size) (hgl : ∀ w', Below w.heap.size w w' → GlE a w') : Calls PP 4 #[.int .u8 (n : Int), .slice base data.length cap] w fun e w' => e = .returned (.bool true) ∧ Below w.heap.size w w' :=
  lawAny_ok (m := 0) (Gl := GlE a) (by decide) fs (some 0) (by kernel_rfl) (by kernel_rfl) ok11 cMax ok9 cVer (cAg a) ok10 cSame Go.Proofs.Tryd.func4 b4 (by kernel_rfl) (by kernel_rfl) w n hn S base data cap hsr hS hgb hgl (fun v hv => okv v hv) (fun v xs u r hv h1 h2 => by
    have hm : most = 32767 := rfl
    have hl : lim = 70368744177664 := rfl
    have := msg_len (nlv v hv) (by omega) h2
    omega)
end Go.Proofs.YtdmdmnfdfkejbaaDoor.K.AnyDeleteShareGroupStateRequest

