/- AnyDescribeDelegationTokenResponse: what the law on it computes. No condition. -/
import Derived.Test.YtdfhomhginbfeaaDoorA0
import Derived.Test.YtdfhomhginbfeaaDoorQA
import Derived.Test.YtdfhomhginbfeaaDoorQR
namespace Go.Proofs.YtdfhomhginbfeaaDoor.K.AnyDescribeDelegationTokenResponse
open Go Go.RowKit Go.Proofs Go.Proofs.YtdfhomhginbfeaaDoor.T Go.Proofs.YtdfhomhginbfeaaDoor.K
set_option linter.unusedVariables false
set_option linter.unusedSimpArgs false
def fs : Fs := (.cons ⟨0, -1, -1, 0, 1, 1, 29, false⟩ (.prim .i16) (.cons ⟨0, -1, -1, 0, 2, 2, 42, false⟩ (.list 42 54 11 (.struct 54 11 59 (some (10, 10)) (.cons ⟨0, -1, -1, 0, 0, 0, 9, false⟩ (.prim .str) (.cons ⟨0, -1, -1, 0, 1, 1, 9, false⟩ (.prim .str) (.cons ⟨3, -1, -1, 0, 2, 2, 9, false⟩ (.prim .str) (.cons ⟨3, -1, -1, 0, 3, 3, 9, false⟩ (.prim .str) (.cons ⟨0, -1, -1, 0, 4, 4, 2, false⟩ (.prim .i64) (.cons ⟨0, -1, -1, 0, 5, 5, 2, false⟩ (.prim .i64) (.cons ⟨0, -1, -1, 0, 6, 6, 2, false⟩ (.prim .i64) (.cons ⟨0, -1, -1, 0, 7, 7, 9, false⟩ (.prim .str) (.cons ⟨0, -1, -1, 0, 8, 8, 22, false⟩ (.prim .bytes) (.cons ⟨0, -1, -1, 0, 9, 9, 52, false⟩ (.list 52 60 3 (.struct 60 3 67 (some (2, 2)) (.cons ⟨0, -1, -1, 0, 0, 0, 9, false⟩ (.prim .str) (.cons ⟨0, -1, -1, 0, 1, 1, 9, false⟩ (.prim .str) .nil)))) .nil)))))))))))) (.cons ⟨0, -1, -1, 0, 3, 3, 21, false⟩ (.prim .i32) .nil)))
def sc59 : SC := .skip
theorem b59 : (Go.Proofs.Tryd.f59).body.map strip = some (sc59) := by kernel_rfl
theorem d59 : DefAt PP 59 11 [] := defAt_ok (N := 2) Go.Proofs.Tryd.func59 b59 (by kernel_rfl) (by kernel_rfl) (by decide) (by kernel_rfl) (by kernel_rfl)
def sc67 : SC := .skip
theorem b67 : (Go.Proofs.Tryd.f67).body.map strip = some (sc67) := by kernel_rfl
theorem d67 : DefAt PP 67 3 [] := defAt_ok (N := 2) Go.Proofs.Tryd.func67 b67 (by kernel_rfl) (by kernel_rfl) (by decide) (by kernel_rfl) (by kernel_rfl)
def sc29 : SC := .skip
theorem b29 : (Go.Proofs.Tryd.f29).body.map strip = some (sc29) := by kernel_rfl
theorem d29 : DefAt PP 29 5 [] := defAt_ok (N := 2) Go.Proofs.Tryd.func29 b29 (by kernel_rfl) (by kernel_rfl) (by decide) (by kernel_rfl) (by kernel_rfl)
theorem dfs : DefFs PP fs := ⟨trivial, ⟨⟨⟨_, d59, (by kernel_rfl), (by kernel_rfl)⟩, ⟨trivial, ⟨trivial, ⟨trivial, ⟨trivial, ⟨trivial, ⟨trivial, ⟨trivial, ⟨trivial, ⟨trivial, ⟨⟨⟨_, d67, (by kernel_rfl), (by kernel_rfl)⟩, ⟨trivial, ⟨trivial, trivial⟩⟩⟩, trivial⟩⟩⟩⟩⟩⟩⟩⟩⟩⟩⟩, ⟨trivial, trivial⟩⟩⟩
noncomputable abbrev zc : Array Value := zcOf PP 47
noncomputable def cs : Array Value := dSetAll 0 [] zc
theorem defFn : DefFn PP 29 47 zc cs := ⟨d29.1, fun w b hc => d29.2 w b 0 zc 47 hc (by decide +kernel)⟩
theorem b14 : (Go.Proofs.Tryd.f14).body.map strip = some (sc_NewPtr 47 29) := by kernel_rfl
theorem ok14 : FnOK PP 14 := fnOK_of Go.Proofs.Tryd.func14 b14 (by kernel_rfl)
theorem cNP (w : World) : Calls PP 14 #[] w fun e w' => ∃ b, e = .returned (.pointer (some ⟨b, 0, none⟩)) ∧ w.heap.size ≤ b ∧ w'.heap[b]? = some (.cells cs 47 (0, 0)) ∧ Below w.heap.size w w' := newPtr_ok (zc_of (by kernel_rfl)) defFn Go.Proofs.Tryd.func14 b14 (by kernel_rfl) (by kernel_rfl) w
theorem b15 : (Go.Proofs.Tryd.f15).body.map strip = some (sc_MaxV 3) := by kernel_rfl
theorem ok15 : FnOK PP 15 := fnOK_of Go.Proofs.Tryd.func15 b15 (by kernel_rfl)
theorem b6 : (Go.Proofs.Tryd.f6).body.map strip = some (sc_Max 14 15 29 3) := by kernel_rfl
theorem ok6 : FnOK PP 6 := fnOK_of Go.Proofs.Tryd.func6 b6 (by kernel_rfl)
theorem cMax (w : World) : Calls PP 6 #[] w fun e w' => e = .returned (.int .i64 ((3 : Nat) : Int)) ∧ Below w.heap.size w w' := max_ok (by kernel_rfl) (by kernel_rfl) (by decide) ok14 cNP ok15 (fun w v => maxV_ok Go.Proofs.Tryd.func15 b15 (by kernel_rfl) (by kernel_rfl) w v) Go.Proofs.Tryd.func6 b6 (by kernel_rfl) (by kernel_rfl) w
theorem b16 : (Go.Proofs.Tryd.f16).body.map strip = some (sc_SetV 47 29) := by kernel_rfl
theorem ok16 : FnOK PP 16 := fnOK_of Go.Proofs.Tryd.func16 b16 (by kernel_rfl)
theorem b18 : (Go.Proofs.Tryd.f18).body.map strip = some (aTop ids 47 26 (some 2) (some (4, 4)) fs) := by kernel_rfl
theorem ok18 : FnOK PP 18 := fnOK_of Go.Proofs.Tryd.func18 b18 (by kernel_rfl)
def M : RTop := { S := 47, size := 5, d := 29, t := 36, N := 246, flex := (some 2), tags := (some (4, 4)), fs := fs }
theorem b30 : (Go.Proofs.Tryd.f30).body.map strip = some (rTop rids 47 29 36 (some 2) (some (4, 4)) fs) := by kernel_rfl
theorem b17 : (Go.Proofs.Tryd.f17).body.map strip = some (sc_ReadFromW 30) := by kernel_rfl
theorem ok17 : FnOK PP 17 := fnOK_of Go.Proofs.Tryd.func17 b17 (by kernel_rfl)
theorem ok30 : FnOK PP 30 := fnOK_of Go.Proofs.Tryd.func30 b30 (by kernel_rfl)
theorem cR (a : Addr) (B : Nat) (w0 : World) (h : 0 < B) (hg : ∀ w', Below B w0 w' → GlE a w') : ReadC PP rids M B G0 (errV a) 30 w0 := readFrom_ok (kr a) (fun _ => trivial) hg h (by kernel_rfl) dfs d29 (by kernel_rfl) (by kernel_rfl) Go.Proofs.Tryd.func30 b30 (by kernel_rfl) (by kernel_rfl)
theorem b7 : (Go.Proofs.Tryd.f7).body.map strip = some (sc_Again 3 29 22 35 14 16 17 18) := by kernel_rfl
theorem cAg (a : Addr) : AgC PP X.U8 (some 2) fs 0 3 (GlE a) 7 :=
  again_ok (I := rids) (M := M) (gb := 0) (m := 3) (G := G0) (Gl := GlE a) (err := errV a) (by kernel_rfl) (by kernel_rfl) (by kernel_rfl) (by kernel_rfl) (by decide) ⟨_, _, rfl⟩ ok14 cNP ok16 (fun w b cs E hc hs n => setV_ok (by kernel_rfl) (by kernel_rfl) Go.Proofs.Tryd.func16 b16 (by kernel_rfl) (by kernel_rfl) w b cs E hc hs n) ok17 (fun w x y Q h => readFromW_ok ok30 Go.Proofs.Tryd.func17 b17 (by kernel_rfl) (by kernel_rfl) w x y Q h) (fun B w0 h hg => cR a B w0 h hg) ok18 (fun w b ver ts u hb hc h0 hh ht hl => appendTo_calls ka Go.Proofs.Tryd.func18 b18 (by kernel_rfl) (by kernel_rfl) w b 0 ver ts u hb hc h0 hh ht hl) (by decide +kernel) (by decide) (by kernel_rfl) (by kernel_rfl) Go.Proofs.Tryd.func7 b7 (by kernel_rfl) (by kernel_rfl) (by kernel_rfl)
theorem b3 : (Go.Proofs.Tryd.f3).body.map strip = some (sc_LawAny 22 3 4 6 8 7 9) := by kernel_rfl
theorem okv : ∀ v : Nat, v ≤ 3 → okFsR v (flexAt (some 2) v) fs = true := by decide +kernel
theorem nlv : ∀ v : Nat, v ≤ 3 → nlFs v fs = true := by decide +kernel
theorem law (a : Addr) (w : World) (n : Nat) (hn : n < 256) (S : Option Nat) (base : Option Addr) (data : Bytes) (cap : Nat) (hsr : SrcAt w S base data) (hS : ∀ sb, S = some sb → sb < w.heap.size) (hgb : 0 < w.heap.size) (hgl : ∀ w', Below w.heap.size w w' → GlE a w') : Calls PP 3 #[.int .u8 (n : Int), .slice base data.length cap] w fun e w' => e = .returned (.bool true) ∧ Below w.heap.size w w' :=
  lawAny_ok (m := 3) (Gl := GlE a) (by decide) fs (some 2) (by kernel_rfl) (by kernel_rfl) ok6 cMax ok8 cVer (cAg a) ok9 cSame Go.Proofs.Tryd.func3 b3 (by kernel_rfl) (by kernel_rfl) w n hn S base data cap hsr hS hgb hgl (fun v hv => okv v hv) (fun v xs u r hv h1 h2 => by
    have hm : most = 32767 := rfl
    have hl : lim = 70368744177664 := rfl
    have := msg_len (nlv v hv) (by omega) h2
    omega)
end Go.Proofs.YtdfhomhginbfeaaDoor.K.AnyDescribeDelegationTokenResponse

