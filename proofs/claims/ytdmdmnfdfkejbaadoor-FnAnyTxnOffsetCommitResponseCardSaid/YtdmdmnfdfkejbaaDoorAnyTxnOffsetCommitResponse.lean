/- AnyTxnOffsetCommitResponse: what the law on it computes. No condition. -/
import Derived.Test.YtdmdmnfdfkejbaaDoorA0
import Derived.Test.YtdmdmnfdfkejbaaDoorQA
import Derived.Test.YtdmdmnfdfkejbaaDoorQR
namespace Go.Proofs.YtdmdmnfdfkejbaaDoor.K.AnyTxnOffsetCommitResponse
open Go Go.RowKit Go.Proofs Go.Proofs.YtdmdmnfdfkejbaaDoor.T Go.Proofs.YtdmdmnfdfkejbaaDoor.K
set_option linter.unusedVariables false
set_option linter.unusedSimpArgs false
def fs : Fs := (.cons ⟨0, -1, -1, 0, 1, 1, 21, false⟩ (.prim .i32) (.cons ⟨0, -1, -1, 0, 2, 2, 76, false⟩ (.list 76 82 19 (.struct 82 19 76 (some (3, 18)) (.cons ⟨0, 5, -1, 0, 0, 0, 9, false⟩ (.prim .str) (.cons ⟨6, -1, -1, 0, 1, 1, 68, false⟩ (.prim .uuid) (.cons ⟨0, -1, -1, 0, 2, 17, 80, false⟩ (.list 80 84 3 (.struct 84 3 77 (some (2, 2)) (.cons ⟨0, -1, -1, 0, 0, 0, 21, false⟩ (.prim .i32) (.cons ⟨0, -1, -1, 0, 1, 1, 29, false⟩ (.prim .i16) .nil)))) .nil))))) .nil))
def sc76 : SC := .skip
theorem b76 : (Go.Proofs.Tryd.f76).body.map strip = some (sc76) := by kernel_rfl
theorem d76 : DefAt PP 76 19 [] := defAt_ok (N := 2) Go.Proofs.Tryd.func76 b76 (by kernel_rfl) (by kernel_rfl) (by decide) (by kernel_rfl) (by kernel_rfl)
def sc77 : SC := .skip
theorem b77 : (Go.Proofs.Tryd.f77).body.map strip = some (sc77) := by kernel_rfl
theorem d77 : DefAt PP 77 3 [] := defAt_ok (N := 2) Go.Proofs.Tryd.func77 b77 (by kernel_rfl) (by kernel_rfl) (by decide) (by kernel_rfl) (by kernel_rfl)
def sc51 : SC := .skip
theorem b51 : (Go.Proofs.Tryd.f51).body.map strip = some (sc51) := by kernel_rfl
theorem d51 : DefAt PP 51 4 [] := defAt_ok (N := 2) Go.Proofs.Tryd.func51 b51 (by kernel_rfl) (by kernel_rfl) (by decide) (by kernel_rfl) (by kernel_rfl)
theorem dfs : DefFs PP fs := ⟨trivial, ⟨⟨⟨_, d76, (by kernel_rfl), (by kernel_rfl)⟩, ⟨trivial, ⟨trivial, ⟨⟨⟨_, d77, (by kernel_rfl), (by kernel_rfl)⟩, ⟨trivial, ⟨trivial, trivial⟩⟩⟩, trivial⟩⟩⟩⟩, trivial⟩⟩
noncomputable abbrev zc : Array Value := zcOf PP 78
noncomputable def cs : Array Value := dSetAll 0 [] zc
theorem defFn : DefFn PP 51 78 zc cs := ⟨d51.1, fun w b hc => d51.2 w b 0 zc 78 hc (by decide +kernel)⟩
theorem b27 : (Go.Proofs.Tryd.f27).body.map strip = some (sc_NewPtr 78 51) := by kernel_rfl
theorem ok27 : FnOK PP 27 := fnOK_of Go.Proofs.Tryd.func27 b27 (by kernel_rfl)
theorem cNP (w : World) : Calls PP 27 #[] w fun e w' => ∃ b, e = .returned (.pointer (some ⟨b, 0, none⟩)) ∧ w.heap.size ≤ b ∧ w'.heap[b]? = some (.cells cs 78 (0, 0)) ∧ Below w.heap.size w w' := newPtr_ok (zc_of (by kernel_rfl)) defFn Go.Proofs.Tryd.func27 b27 (by kernel_rfl) (by kernel_rfl) w
theorem b28 : (Go.Proofs.Tryd.f28).body.map strip = some (sc_MaxV 6) := by kernel_rfl
theorem ok28 : FnOK PP 28 := fnOK_of Go.Proofs.Tryd.func28 b28 (by kernel_rfl)
theorem b13 : (Go.Proofs.Tryd.f13).body.map strip = some (sc_Max 27 28 29 3) := by kernel_rfl
theorem ok13 : FnOK PP 13 := fnOK_of Go.Proofs.Tryd.func13 b13 (by kernel_rfl)
theorem cMax (w : World) : Calls PP 13 #[] w fun e w' => e = .returned (.int .i64 ((6 : Nat) : Int)) ∧ Below w.heap.size w w' := max_ok (by kernel_rfl) (by kernel_rfl) (by decide) ok27 cNP ok28 (fun w v => maxV_ok Go.Proofs.Tryd.func28 b28 (by kernel_rfl) (by kernel_rfl) w v) Go.Proofs.Tryd.func13 b13 (by kernel_rfl) (by kernel_rfl) w
theorem b29 : (Go.Proofs.Tryd.f29).body.map strip = some (sc_SetV 78 29) := by kernel_rfl
theorem ok29 : FnOK PP 29 := fnOK_of Go.Proofs.Tryd.func29 b29 (by kernel_rfl)
theorem b31 : (Go.Proofs.Tryd.f31).body.map strip = some (aTop ids 78 18 (some 3) (some (3, 3)) fs) := by kernel_rfl
theorem ok31 : FnOK PP 31 := fnOK_of Go.Proofs.Tryd.func31 b31 (by kernel_rfl)
def M : RTop := { S := 78, size := 4, d := 51, t := 28, N := 164, flex := (some 3), tags := (some (3, 3)), fs := fs }
theorem b52 : (Go.Proofs.Tryd.f52).body.map strip = some (rTop rids 78 51 28 (some 3) (some (3, 3)) fs) := by kernel_rfl
theorem b30 : (Go.Proofs.Tryd.f30).body.map strip = some (sc_ReadFromW 52) := by kernel_rfl
theorem ok30 : FnOK PP 30 := fnOK_of Go.Proofs.Tryd.func30 b30 (by kernel_rfl)
theorem ok52 : FnOK PP 52 := fnOK_of Go.Proofs.Tryd.func52 b52 (by kernel_rfl)
theorem cR (a : Addr) (B : Nat) (w0 : World) (h : 0 < B) (hg : ∀ w', Below B w0 w' → GlE a w') : ReadC PP rids M B G0 (errV a) 52 w0 := readFrom_ok (kr a) (fun _ => trivial) hg h (by kernel_rfl) dfs d51 (by kernel_rfl) (by kernel_rfl) Go.Proofs.Tryd.func52 b52 (by kernel_rfl) (by kernel_rfl)
theorem b14 : (Go.Proofs.Tryd.f14).body.map strip = some (sc_Again 3 29 22 35 27 29 30 31) := by kernel_rfl
theorem cAg (a : Addr) : AgC PP X.U8 (some 3) fs 0 6 (GlE a) 14 :=
  again_ok (I := rids) (M := M) (gb := 0) (m := 6) (G := G0) (Gl := GlE a) (err := errV a) (by kernel_rfl) (by kernel_rfl) (by kernel_rfl) (by kernel_rfl) (by decide) ⟨_, _, rfl⟩ ok27 cNP ok29 (fun w b cs E hc hs n => setV_ok (by kernel_rfl) (by kernel_rfl) Go.Proofs.Tryd.func29 b29 (by kernel_rfl) (by kernel_rfl) w b cs E hc hs n) ok30 (fun w x y Q h => readFromW_ok ok52 Go.Proofs.Tryd.func30 b30 (by kernel_rfl) (by kernel_rfl) w x y Q h) (fun B w0 h hg => cR a B w0 h hg) ok31 (fun w b ver ts u hb hc h0 hh ht hl => appendTo_calls ka Go.Proofs.Tryd.func31 b31 (by kernel_rfl) (by kernel_rfl) w b 0 ver ts u hb hc h0 hh ht hl) (by decide +kernel) (by decide) (by kernel_rfl) (by kernel_rfl) Go.Proofs.Tryd.func14 b14 (by kernel_rfl) (by kernel_rfl) (by kernel_rfl)
theorem b5 : (Go.Proofs.Tryd.f5).body.map strip = some (sc_LawAny 22 3 4 13 9 14 10) := by kernel_rfl
theorem okv : ∀ v : Nat, v ≤ 6 → okFsR v (flexAt (some 3) v) fs = true := by decide +kernel
theorem nlv : ∀ v : Nat, v ≤ 6 → nlFs v fs = true := by decide +kernel
theorem law (a : Addr) (w : World) (n : Nat) (hn : n < 256) (S : Option Nat) (base : Option Addr) (data : Bytes) (cap : Nat) (hsr : SrcAt w S base data) (hS : ∀ sb, S = some sb → sb < w.heap.size) (hgb : 0 < w.heap.size) (hgl : ∀ w', Below w.heap.size w w' → GlE a w') : Calls PP 5 #[.int .u8 (n : Int), .slice base data.length cap] w fun e w' => e = .returned (.bool true) ∧ Below w.heap.size w w' :=
  lawAny_ok (m := 6) (Gl := GlE a) (by decide) fs (some 3) (by kernel_rfl) (by kernel_rfl) ok13 cMax ok9 cVer (cAg a) ok10 cSame Go.Proofs.Tryd.func5 b5 (by kernel_rfl) (by kernel_rfl) w n hn S base data cap hsr hS hgb hgl (fun v hv => okv v hv) (fun v xs u r hv h1 h2 => by
    have hm : most = 32767 := rfl
    have hl : lim = 70368744177664 := rfl
    have := msg_len (nlv v hv) (by omega) h2
    omega)
end Go.Proofs.YtdmdmnfdfkejbaaDoor.K.AnyTxnOffsetCommitResponse

