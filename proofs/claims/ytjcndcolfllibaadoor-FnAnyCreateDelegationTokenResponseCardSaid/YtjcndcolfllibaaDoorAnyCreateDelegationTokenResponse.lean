/- AnyCreateDelegationTokenResponse: what the law on it computes. No condition. -/
import Derived.Test.YtjcndcolfllibaaDoorA0
import Derived.Test.YtjcndcolfllibaaDoorQA
import Derived.Test.YtjcndcolfllibaaDoorQR
namespace Go.Proofs.YtjcndcolfllibaaDoor.K.AnyCreateDelegationTokenResponse
open Go Go.RowKit Go.Proofs Go.Proofs.YtjcndcolfllibaaDoor.T Go.Proofs.YtjcndcolfllibaaDoor.K
set_option linter.unusedVariables false
set_option linter.unusedSimpArgs false
def fs : Fs := (.cons ⟨0, -1, -1, 0, 1, 1, 29, false⟩ (.prim .i16) (.cons ⟨0, -1, -1, 0, 2, 2, 9, false⟩ (.prim .str) (.cons ⟨0, -1, -1, 0, 3, 3, 9, false⟩ (.prim .str) (.cons ⟨3, -1, -1, 0, 4, 4, 9, false⟩ (.prim .str) (.cons ⟨3, -1, -1, 0, 5, 5, 9, false⟩ (.prim .str) (.cons ⟨0, -1, -1, 0, 6, 6, 2, false⟩ (.prim .i64) (.cons ⟨0, -1, -1, 0, 7, 7, 2, false⟩ (.prim .i64) (.cons ⟨0, -1, -1, 0, 8, 8, 2, false⟩ (.prim .i64) (.cons ⟨0, -1, -1, 0, 9, 9, 9, false⟩ (.prim .str) (.cons ⟨0, -1, -1, 0, 10, 10, 22, false⟩ (.prim .bytes) (.cons ⟨0, -1, -1, 0, 11, 11, 21, false⟩ (.prim .i32) .nil)))))))))))
def sc49 : SC := .skip
theorem b49 : (Go.Proofs.Tryd.f49).body.map strip = some (sc49) := by kernel_rfl
theorem d49 : DefAt PP 49 13 [] := defAt_ok (N := 2) Go.Proofs.Tryd.func49 b49 (by kernel_rfl) (by kernel_rfl) (by decide) (by kernel_rfl) (by kernel_rfl)
theorem dfs : DefFs PP fs := ⟨trivial, ⟨trivial, ⟨trivial, ⟨trivial, ⟨trivial, ⟨trivial, ⟨trivial, ⟨trivial, ⟨trivial, ⟨trivial, ⟨trivial, trivial⟩⟩⟩⟩⟩⟩⟩⟩⟩⟩⟩
noncomputable abbrev zc : Array Value := zcOf PP 59
noncomputable def cs : Array Value := dSetAll 0 [] zc
theorem defFn : DefFn PP 49 59 zc cs := ⟨d49.1, fun w b hc => d49.2 w b 0 zc 59 hc (by decide +kernel)⟩
theorem b22 : (Go.Proofs.Tryd.f22).body.map strip = some (sc_NewPtr 59 49) := by kernel_rfl
theorem ok22 : FnOK PP 22 := fnOK_of Go.Proofs.Tryd.func22 b22 (by kernel_rfl)
theorem cNP (w : World) : Calls PP 22 #[] w fun e w' => ∃ b, e = .returned (.pointer (some ⟨b, 0, none⟩)) ∧ w.heap.size ≤ b ∧ w'.heap[b]? = some (.cells cs 59 (0, 0)) ∧ Below w.heap.size w w' := newPtr_ok (zc_of (by kernel_rfl)) defFn Go.Proofs.Tryd.func22 b22 (by kernel_rfl) (by kernel_rfl) w
theorem b23 : (Go.Proofs.Tryd.f23).body.map strip = some (sc_MaxV 3) := by kernel_rfl
theorem ok23 : FnOK PP 23 := fnOK_of Go.Proofs.Tryd.func23 b23 (by kernel_rfl)
theorem b11 : (Go.Proofs.Tryd.f11).body.map strip = some (sc_Max 22 23 29 3) := by kernel_rfl
theorem ok11 : FnOK PP 11 := fnOK_of Go.Proofs.Tryd.func11 b11 (by kernel_rfl)
theorem cMax (w : World) : Calls PP 11 #[] w fun e w' => e = .returned (.int .i64 ((3 : Nat) : Int)) ∧ Below w.heap.size w w' := max_ok (by kernel_rfl) (by kernel_rfl) (by decide) ok22 cNP ok23 (fun w v => maxV_ok Go.Proofs.Tryd.func23 b23 (by kernel_rfl) (by kernel_rfl) w v) Go.Proofs.Tryd.func11 b11 (by kernel_rfl) (by kernel_rfl) w
theorem b24 : (Go.Proofs.Tryd.f24).body.map strip = some (sc_SetV 59 29) := by kernel_rfl
theorem ok24 : FnOK PP 24 := fnOK_of Go.Proofs.Tryd.func24 b24 (by kernel_rfl)
theorem b26 : (Go.Proofs.Tryd.f26).body.map strip = some (aTop ids 59 18 (some 2) (some (12, 12)) fs) := by kernel_rfl
theorem ok26 : FnOK PP 26 := fnOK_of Go.Proofs.Tryd.func26 b26 (by kernel_rfl)
def M : RTop := { S := 59, size := 13, d := 49, t := 22, N := 132, flex := (some 2), tags := (some (12, 12)), fs := fs }
theorem b50 : (Go.Proofs.Tryd.f50).body.map strip = some (rTop rids 59 49 22 (some 2) (some (12, 12)) fs) := by kernel_rfl
theorem b25 : (Go.Proofs.Tryd.f25).body.map strip = some (sc_ReadFromW 50) := by kernel_rfl
theorem ok25 : FnOK PP 25 := fnOK_of Go.Proofs.Tryd.func25 b25 (by kernel_rfl)
theorem ok50 : FnOK PP 50 := fnOK_of Go.Proofs.Tryd.func50 b50 (by kernel_rfl)
theorem cR (a : Addr) (B : Nat) (w0 : World) (h : 0 < B) (hg : ∀ w', Below B w0 w' → GlE a w') : ReadC PP rids M B G0 (errV a) 50 w0 := readFrom_ok (kr a) (fun _ => trivial) hg h (by kernel_rfl) dfs d49 (by kernel_rfl) (by kernel_rfl) Go.Proofs.Tryd.func50 b50 (by kernel_rfl) (by kernel_rfl)
theorem b12 : (Go.Proofs.Tryd.f12).body.map strip = some (sc_Again 3 29 22 35 22 24 25 26) := by kernel_rfl
theorem cAg (a : Addr) : AgC PP X.U8 (some 2) fs 0 3 (GlE a) 12 :=
  again_ok (I := rids) (M := M) (gb := 0) (m := 3) (G := G0) (Gl := GlE a) (err := errV a) (by kernel_rfl) (by kernel_rfl) (by kernel_rfl) (by kernel_rfl) (by decide) ⟨_, _, rfl⟩ ok22 cNP ok24 (fun w b cs E hc hs n => setV_ok (by kernel_rfl) (by kernel_rfl) Go.Proofs.Tryd.func24 b24 (by kernel_rfl) (by kernel_rfl) w b cs E hc hs n) ok25 (fun w x y Q h => readFromW_ok ok50 Go.Proofs.Tryd.func25 b25 (by kernel_rfl) (by kernel_rfl) w x y Q h) (fun B w0 h hg => cR a B w0 h hg) ok26 (fun w b ver ts u hb hc h0 hh ht hl => appendTo_calls ka Go.Proofs.Tryd.func26 b26 (by kernel_rfl) (by kernel_rfl) w b 0 ver ts u hb hc h0 hh ht hl) (by decide +kernel) (by decide) (by kernel_rfl) (by kernel_rfl) Go.Proofs.Tryd.func12 b12 (by kernel_rfl) (by kernel_rfl) (by kernel_rfl)
theorem b4 : (Go.Proofs.Tryd.f4).body.map strip = some (sc_LawAny 22 3 4 11 9 12 10) := by kernel_rfl
theorem okv : ∀ v : Nat, v ≤ 3 → okFsR v (flexAt (some 2) v) fs = true := by decide +kernel
theorem nlv : ∀ v : Nat, v ≤ 3 → nlFs v fs = true := by decide +kernel
theorem law (a : Addr) (w : World) (n : Nat) (hn : n < 256) (S : Option Nat) (base : Option Addr) (data : Bytes) (cap : Nat) (hsr : SrcAt w S base data) (hS : ∀ sb, S = some sb → sb < w.heap.size) (hgb : 0 < w.heap.size) (hgl : ∀ w', Below w.heap.size w w' → GlE a w') : Calls PP 4 #[.int .u8 (n : Int), .slice base data.length cap] w fun e w' => e = .returned (.bool true) ∧ Below w.heap.size w w' :=
  lawAny_ok (m := 3) (Gl := GlE a) (by decide) fs (some 2) (by kernel_rfl) (by kernel_rfl) ok11 cMax ok9 cVer (cAg a) ok10 cSame Go.Proofs.Tryd.func4 b4 (by kernel_rfl) (by kernel_rfl) w n hn S base data cap hsr hS hgb hgl (fun v hv => okv v hv) (fun v xs u r hv h1 h2 => by
    have hm : most = 32767 := rfl
    have hl : lim = 70368744177664 := rfl
    have := msg_len (nlv v hv) (by omega) h2
    omega)
end Go.Proofs.YtjcndcolfllibaaDoor.K.AnyCreateDelegationTokenResponse

