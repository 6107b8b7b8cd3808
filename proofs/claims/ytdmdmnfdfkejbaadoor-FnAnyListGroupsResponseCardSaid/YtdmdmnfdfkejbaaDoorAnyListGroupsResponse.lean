/- AnyListGroupsResponse: what the law on it computes. No condition. -/
import Derived.Test.YtdmdmnfdfkejbaaDoorA0
import Derived.Test.YtdmdmnfdfkejbaaDoorQA
import Derived.Test.YtdmdmnfdfkejbaaDoorQR
namespace Go.Proofs.YtdmdmnfdfkejbaaDoor.K.AnyListGroupsResponse
open Go Go.RowKit Go.Proofs Go.Proofs.YtdmdmnfdfkejbaaDoor.T Go.Proofs.YtdmdmnfdfkejbaaDoor.K
set_option linter.unusedVariables false
set_option linter.unusedSimpArgs false
def fs : Fs := (.cons ⟨1, -1, -1, 0, 1, 1, 21, false⟩ (.prim .i32) (.cons ⟨0, -1, -1, 0, 2, 2, 29, false⟩ (.prim .i16) (.cons ⟨0, -1, -1, 0, 3, 3, 85, false⟩ (.list 85 90 5 (.struct 90 5 78 (some (4, 4)) (.cons ⟨0, -1, -1, 0, 0, 0, 9, false⟩ (.prim .str) (.cons ⟨0, -1, -1, 0, 1, 1, 9, false⟩ (.prim .str) (.cons ⟨4, -1, -1, 0, 2, 2, 9, false⟩ (.prim .str) (.cons ⟨5, -1, -1, 0, 3, 3, 9, false⟩ (.prim .str) .nil)))))) .nil)))
def sc78 : SC := .skip
theorem b78 : (Go.Proofs.Tryd.f78).body.map strip = some (sc78) := by kernel_rfl
theorem d78 : DefAt PP 78 5 [] := defAt_ok (N := 2) Go.Proofs.Tryd.func78 b78 (by kernel_rfl) (by kernel_rfl) (by decide) (by kernel_rfl) (by kernel_rfl)
def sc53 : SC := .skip
theorem b53 : (Go.Proofs.Tryd.f53).body.map strip = some (sc53) := by kernel_rfl
theorem d53 : DefAt PP 53 5 [] := defAt_ok (N := 2) Go.Proofs.Tryd.func53 b53 (by kernel_rfl) (by kernel_rfl) (by decide) (by kernel_rfl) (by kernel_rfl)
theorem dfs : DefFs PP fs := ⟨trivial, ⟨trivial, ⟨⟨⟨_, d78, (by kernel_rfl), (by kernel_rfl)⟩, ⟨trivial, ⟨trivial, ⟨trivial, ⟨trivial, trivial⟩⟩⟩⟩⟩, trivial⟩⟩⟩
noncomputable abbrev zc : Array Value := zcOf PP 87
noncomputable def cs : Array Value := dSetAll 0 [] zc
theorem defFn : DefFn PP 53 87 zc cs := ⟨d53.1, fun w b hc => d53.2 w b 0 zc 87 hc (by decide +kernel)⟩
theorem b32 : (Go.Proofs.Tryd.f32).body.map strip = some (sc_NewPtr 87 53) := by kernel_rfl
theorem ok32 : FnOK PP 32 := fnOK_of Go.Proofs.Tryd.func32 b32 (by kernel_rfl)
theorem cNP (w : World) : Calls PP 32 #[] w fun e w' => ∃ b, e = .returned (.pointer (some ⟨b, 0, none⟩)) ∧ w.heap.size ≤ b ∧ w'.heap[b]? = some (.cells cs 87 (0, 0)) ∧ Below w.heap.size w w' := newPtr_ok (zc_of (by kernel_rfl)) defFn Go.Proofs.Tryd.func32 b32 (by kernel_rfl) (by kernel_rfl) w
theorem b33 : (Go.Proofs.Tryd.f33).body.map strip = some (sc_MaxV 5) := by kernel_rfl
theorem ok33 : FnOK PP 33 := fnOK_of Go.Proofs.Tryd.func33 b33 (by kernel_rfl)
theorem b15 : (Go.Proofs.Tryd.f15).body.map strip = some (sc_Max 32 33 29 3) := by kernel_rfl
theorem ok15 : FnOK PP 15 := fnOK_of Go.Proofs.Tryd.func15 b15 (by kernel_rfl)
theorem cMax (w : World) : Calls PP 15 #[] w fun e w' => e = .returned (.int .i64 ((5 : Nat) : Int)) ∧ Below w.heap.size w w' := max_ok (by kernel_rfl) (by kernel_rfl) (by decide) ok32 cNP ok33 (fun w v => maxV_ok Go.Proofs.Tryd.func33 b33 (by kernel_rfl) (by kernel_rfl) w v) Go.Proofs.Tryd.func15 b15 (by kernel_rfl) (by kernel_rfl) w
theorem b34 : (Go.Proofs.Tryd.f34).body.map strip = some (sc_SetV 87 29) := by kernel_rfl
theorem ok34 : FnOK PP 34 := fnOK_of Go.Proofs.Tryd.func34 b34 (by kernel_rfl)
theorem b36 : (Go.Proofs.Tryd.f36).body.map strip = some (aTop ids 87 16 (some 3) (some (4, 4)) fs) := by kernel_rfl
theorem ok36 : FnOK PP 36 := fnOK_of Go.Proofs.Tryd.func36 b36 (by kernel_rfl)
def M : RTop := { S := 87, size := 5, d := 53, t := 23, N := 141, flex := (some 3), tags := (some (4, 4)), fs := fs }
theorem b54 : (Go.Proofs.Tryd.f54).body.map strip = some (rTop rids 87 53 23 (some 3) (some (4, 4)) fs) := by kernel_rfl
theorem b35 : (Go.Proofs.Tryd.f35).body.map strip = some (sc_ReadFromW 54) := by kernel_rfl
theorem ok35 : FnOK PP 35 := fnOK_of Go.Proofs.Tryd.func35 b35 (by kernel_rfl)
theorem ok54 : FnOK PP 54 := fnOK_of Go.Proofs.Tryd.func54 b54 (by kernel_rfl)
theorem cR (a : Addr) (B : Nat) (w0 : World) (h : 0 < B) (hg : ∀ w', Below B w0 w' → GlE a w') : ReadC PP rids M B G0 (errV a) 54 w0 := readFrom_ok (kr a) (fun _ => trivial) hg h (by kernel_rfl) dfs d53 (by kernel_rfl) (by kernel_rfl) Go.Proofs.Tryd.func54 b54 (by kernel_rfl) (by kernel_rfl)
theorem b16 : (Go.Proofs.Tryd.f16).body.map strip = some (sc_Again 3 29 22 35 32 34 35 36) := by kernel_rfl
theorem cAg (a : Addr) : AgC PP X.U8 (some 3) fs 0 5 (GlE a) 16 :=
  again_ok (I := rids) (M := M) (gb := 0) (m := 5) (G := G0) (Gl := GlE a) (err := errV a) (by kernel_rfl) (by kernel_rfl) (by kernel_rfl) (by kernel_rfl) (by decide) ⟨_, _, rfl⟩ ok32 cNP ok34 (fun w b cs E hc hs n => setV_ok (by kernel_rfl) (by kernel_rfl) Go.Proofs.Tryd.func34 b34 (by kernel_rfl) (by kernel_rfl) w b cs E hc hs n) ok35 (fun w x y Q h => readFromW_ok ok54 Go.Proofs.Tryd.func35 b35 (by kernel_rfl) (by kernel_rfl) w x y Q h) (fun B w0 h hg => cR a B w0 h hg) ok36 (fun w b ver ts u hb hc h0 hh ht hl => appendTo_calls ka Go.Proofs.Tryd.func36 b36 (by kernel_rfl) (by kernel_rfl) w b 0 ver ts u hb hc h0 hh ht hl) (by decide +kernel) (by decide) (by kernel_rfl) (by kernel_rfl) Go.Proofs.Tryd.func16 b16 (by kernel_rfl) (by kernel_rfl) (by kernel_rfl)
theorem b6 : (Go.Proofs.Tryd.f6).body.map strip = some (sc_LawAny 22 3 4 15 9 16 10) := by kernel_rfl
theorem okv : ∀ v : Nat, v ≤ 5 → okFsR v (flexAt (some 3) v) fs = true := by decide +kernel
theorem nlv : ∀ v : Nat, v ≤ 5 → nlFs v fs = true := by decide +kernel
theorem law (a : Addr) (w : World) (n : Nat) (hn : n < 256) (S : Option Nat) (base : Option Addr) (data : Bytes) (cap : Nat) (hsr : SrcAt w S base data) (hS : ∀ sb, S = some sb → sb < w.heap.size) (hgb : 0 < w.heap.size) (hgl : ∀ w', Below w.heap.size w w' → GlE a w') : Calls PP 6 #[.int .u8 (n : Int), .slice base data.length cap] w fun e w' => e = .returned (.bool true) ∧ Below w.heap.size w w' :=
  lawAny_ok (m := 5) (Gl := GlE a) (by decide) fs (some 3) (by kernel_rfl) (by kernel_rfl) ok15 cMax ok9 cVer (cAg a) ok10 cSame Go.Proofs.Tryd.func6 b6 (by kernel_rfl) (by kernel_rfl) w n hn S base data cap hsr hS hgb hgl (fun v hv => okv v hv) (fun v xs u r hv h1 h2 => by
    have hm : most = 32767 := rfl
    have hl : lim = 70368744177664 := rfl
    have := msg_len (nlv v hv) (by omega) h2
    omega)
end Go.Proofs.YtdmdmnfdfkejbaaDoor.K.AnyListGroupsResponse

