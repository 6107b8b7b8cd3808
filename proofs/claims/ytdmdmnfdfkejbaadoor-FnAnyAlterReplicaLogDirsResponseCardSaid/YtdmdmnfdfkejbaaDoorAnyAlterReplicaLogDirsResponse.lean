/- AnyAlterReplicaLogDirsResponse: what the law on it computes. No condition. -/
import Derived.Test.YtdmdmnfdfkejbaaDoorA0
import Derived.Test.YtdmdmnfdfkejbaaDoorQA
import Derived.Test.YtdmdmnfdfkejbaaDoorQR
namespace Go.Proofs.YtdmdmnfdfkejbaaDoor.K.AnyAlterReplicaLogDirsResponse
open Go Go.RowKit Go.Proofs Go.Proofs.YtdmdmnfdfkejbaaDoor.T Go.Proofs.YtdmdmnfdfkejbaaDoor.K
set_option linter.unusedVariables false
set_option linter.unusedSimpArgs false
def fs : Fs := (.cons ⟨0, -1, -1, 0, 1, 1, 21, false⟩ (.prim .i32) (.cons ⟨0, -1, -1, 0, 2, 2, 44, false⟩ (.list 44 56 3 (.struct 56 3 60 (some (2, 2)) (.cons ⟨0, -1, -1, 0, 0, 0, 9, false⟩ (.prim .str) (.cons ⟨0, -1, -1, 0, 1, 1, 54, false⟩ (.list 54 60 3 (.struct 60 3 65 (some (2, 2)) (.cons ⟨0, -1, -1, 0, 0, 0, 21, false⟩ (.prim .i32) (.cons ⟨0, -1, -1, 0, 1, 1, 29, false⟩ (.prim .i16) .nil)))) .nil)))) .nil))
def sc60 : SC := .skip
theorem b60 : (Go.Proofs.Tryd.f60).body.map strip = some (sc60) := by kernel_rfl
theorem d60 : DefAt PP 60 3 [] := defAt_ok (N := 2) Go.Proofs.Tryd.func60 b60 (by kernel_rfl) (by kernel_rfl) (by decide) (by kernel_rfl) (by kernel_rfl)
def sc65 : SC := .skip
theorem b65 : (Go.Proofs.Tryd.f65).body.map strip = some (sc65) := by kernel_rfl
theorem d65 : DefAt PP 65 3 [] := defAt_ok (N := 2) Go.Proofs.Tryd.func65 b65 (by kernel_rfl) (by kernel_rfl) (by decide) (by kernel_rfl) (by kernel_rfl)
def sc37 : SC := .skip
theorem b37 : (Go.Proofs.Tryd.f37).body.map strip = some (sc37) := by kernel_rfl
theorem d37 : DefAt PP 37 4 [] := defAt_ok (N := 2) Go.Proofs.Tryd.func37 b37 (by kernel_rfl) (by kernel_rfl) (by decide) (by kernel_rfl) (by kernel_rfl)
theorem dfs : DefFs PP fs := ⟨trivial, ⟨⟨⟨_, d60, (by kernel_rfl), (by kernel_rfl)⟩, ⟨trivial, ⟨⟨⟨_, d65, (by kernel_rfl), (by kernel_rfl)⟩, ⟨trivial, ⟨trivial, trivial⟩⟩⟩, trivial⟩⟩⟩, trivial⟩⟩
noncomputable abbrev zc : Array Value := zcOf PP 49
noncomputable def cs : Array Value := dSetAll 0 [] zc
theorem defFn : DefFn PP 37 49 zc cs := ⟨d37.1, fun w b hc => d37.2 w b 0 zc 49 hc (by decide +kernel)⟩
theorem b17 : (Go.Proofs.Tryd.f17).body.map strip = some (sc_NewPtr 49 37) := by kernel_rfl
theorem ok17 : FnOK PP 17 := fnOK_of Go.Proofs.Tryd.func17 b17 (by kernel_rfl)
theorem cNP (w : World) : Calls PP 17 #[] w fun e w' => ∃ b, e = .returned (.pointer (some ⟨b, 0, none⟩)) ∧ w.heap.size ≤ b ∧ w'.heap[b]? = some (.cells cs 49 (0, 0)) ∧ Below w.heap.size w w' := newPtr_ok (zc_of (by kernel_rfl)) defFn Go.Proofs.Tryd.func17 b17 (by kernel_rfl) (by kernel_rfl) w
theorem b18 : (Go.Proofs.Tryd.f18).body.map strip = some (sc_MaxV 2) := by kernel_rfl
theorem ok18 : FnOK PP 18 := fnOK_of Go.Proofs.Tryd.func18 b18 (by kernel_rfl)
theorem b7 : (Go.Proofs.Tryd.f7).body.map strip = some (sc_Max 17 18 29 3) := by kernel_rfl
theorem ok7 : FnOK PP 7 := fnOK_of Go.Proofs.Tryd.func7 b7 (by kernel_rfl)
theorem cMax (w : World) : Calls PP 7 #[] w fun e w' => e = .returned (.int .i64 ((2 : Nat) : Int)) ∧ Below w.heap.size w w' := max_ok (by kernel_rfl) (by kernel_rfl) (by decide) ok17 cNP ok18 (fun w v => maxV_ok Go.Proofs.Tryd.func18 b18 (by kernel_rfl) (by kernel_rfl) w v) Go.Proofs.Tryd.func7 b7 (by kernel_rfl) (by kernel_rfl) w
theorem b19 : (Go.Proofs.Tryd.f19).body.map strip = some (sc_SetV 49 29) := by kernel_rfl
theorem ok19 : FnOK PP 19 := fnOK_of Go.Proofs.Tryd.func19 b19 (by kernel_rfl)
theorem b21 : (Go.Proofs.Tryd.f21).body.map strip = some (aTop ids 49 17 (some 2) (some (3, 3)) fs) := by kernel_rfl
theorem ok21 : FnOK PP 21 := fnOK_of Go.Proofs.Tryd.func21 b21 (by kernel_rfl)
def M : RTop := { S := 49, size := 4, d := 37, t := 27, N := 150, flex := (some 2), tags := (some (3, 3)), fs := fs }
theorem b38 : (Go.Proofs.Tryd.f38).body.map strip = some (rTop rids 49 37 27 (some 2) (some (3, 3)) fs) := by kernel_rfl
theorem b20 : (Go.Proofs.Tryd.f20).body.map strip = some (sc_ReadFromW 38) := by kernel_rfl
theorem ok20 : FnOK PP 20 := fnOK_of Go.Proofs.Tryd.func20 b20 (by kernel_rfl)
theorem ok38 : FnOK PP 38 := fnOK_of Go.Proofs.Tryd.func38 b38 (by kernel_rfl)
theorem cR (a : Addr) (B : Nat) (w0 : World) (h : 0 < B) (hg : ∀ w', Below B w0 w' → GlE a w') : ReadC PP rids M B G0 (errV a) 38 w0 := readFrom_ok (kr a) (fun _ => trivial) hg h (by kernel_rfl) dfs d37 (by kernel_rfl) (by kernel_rfl) Go.Proofs.Tryd.func38 b38 (by kernel_rfl) (by kernel_rfl)
theorem b8 : (Go.Proofs.Tryd.f8).body.map strip = some (sc_Again 3 29 22 35 17 19 20 21) := by kernel_rfl
theorem cAg (a : Addr) : AgC PP X.U8 (some 2) fs 0 2 (GlE a) 8 :=
  again_ok (I := rids) (M := M) (gb := 0) (m := 2) (G := G0) (Gl := GlE a) (err := errV a) (by kernel_rfl) (by kernel_rfl) (by kernel_rfl) (by kernel_rfl) (by decide) ⟨_, _, rfl⟩ ok17 cNP ok19 (fun w b cs E hc hs n => setV_ok (by kernel_rfl) (by kernel_rfl) Go.Proofs.Tryd.func19 b19 (by kernel_rfl) (by kernel_rfl) w b cs E hc hs n) ok20 (fun w x y Q h => readFromW_ok ok38 Go.Proofs.Tryd.func20 b20 (by kernel_rfl) (by kernel_rfl) w x y Q h) (fun B w0 h hg => cR a B w0 h hg) ok21 (fun w b ver ts u hb hc h0 hh ht hl => appendTo_calls ka Go.Proofs.Tryd.func21 b21 (by kernel_rfl) (by kernel_rfl) w b 0 ver ts u hb hc h0 hh ht hl) (by decide +kernel) (by decide) (by kernel_rfl) (by kernel_rfl) Go.Proofs.Tryd.func8 b8 (by kernel_rfl) (by kernel_rfl) (by kernel_rfl)
theorem b3 : (Go.Proofs.Tryd.f3).body.map strip = some (sc_LawAny 22 3 4 7 9 8 10) := by kernel_rfl
theorem okv : ∀ v : Nat, v ≤ 2 → okFsR v (flexAt (some 2) v) fs = true := by decide +kernel
theorem nlv : ∀ v : Nat, v ≤ 2 → nlFs v fs = true := by decide +kernel
theorem law (a : Addr) (w : World) (n : Nat) (hn : n < 256) (S : Option Nat) (base : Option Addr) (data : Bytes) (cap : Nat) (hsr : SrcAt w S base data) (hS : ∀ sb, S = some sb → sb < w.heap.size) (hgb : 0 < w.heap.size) (hgl : ∀ w', Below w.heap.size w w' → GlE a w') : Calls PP 3 #[.int .u8 (n : Int), .slice base data.length cap] w fun e w' => e = .returned (.bool true) ∧ Below w.heap.size w w' :=
  lawAny_ok (m := 2) (Gl := GlE a) (by decide) fs (some 2) (by kernel_rfl) (by kernel_rfl) ok7 cMax ok9 cVer (cAg a) ok10 cSame Go.Proofs.Tryd.func3 b3 (by kernel_rfl) (by kernel_rfl) w n hn S base data cap hsr hS hgb hgl (fun v hv => okv v hv) (fun v xs u r hv h1 h2 => by
    have hm : most = 32767 := rfl
    have hl : lim = 70368744177664 := rfl
    have := msg_len (nlv v hv) (by omega) h2
    omega)
end Go.Proofs.YtdmdmnfdfkejbaaDoor.K.AnyAlterReplicaLogDirsResponse

