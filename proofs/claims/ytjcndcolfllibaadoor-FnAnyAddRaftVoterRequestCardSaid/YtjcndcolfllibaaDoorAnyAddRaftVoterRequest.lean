/- AnyAddRaftVoterRequest: what the law on it computes. No condition. -/
import Derived.Test.YtjcndcolfllibaaDoorA0
import Derived.Test.YtjcndcolfllibaaDoorQA
import Derived.Test.YtjcndcolfllibaaDoorQR
namespace Go.Proofs.YtjcndcolfllibaaDoor.K.AnyAddRaftVoterRequest
open Go Go.RowKit Go.Proofs Go.Proofs.YtjcndcolfllibaaDoor.T Go.Proofs.YtjcndcolfllibaaDoor.K
set_option linter.unusedVariables false
set_option linter.unusedSimpArgs false
def fs : Fs := (.cons ⟨0, -1, 0, 0, 1, 1, 44, false⟩ (.prim .str) (.cons ⟨0, -1, -1, 0, 2, 2, 21, false⟩ (.prim .i32) (.cons ⟨0, -1, -1, 0, 3, 3, 21, false⟩ (.prim .i32) (.cons ⟨0, -1, -1, 0, 4, 4, 63, false⟩ (.prim .uuid) (.cons ⟨0, -1, -1, 0, 5, 20, 64, false⟩ (.list 64 72 4 (.struct 72 4 89 (some (3, 3)) (.cons ⟨0, -1, -1, 0, 0, 0, 9, false⟩ (.prim .str) (.cons ⟨0, -1, -1, 0, 1, 1, 9, false⟩ (.prim .str) (.cons ⟨0, -1, -1, 0, 2, 2, 70, false⟩ (.prim .u16) .nil))))) (.cons ⟨1, -1, -1, 0, 6, 21, 4, false⟩ (.prim .bool) .nil))))))
def sc89 : SC := .skip
theorem b89 : (Go.Proofs.Tryd.f89).body.map strip = some (sc89) := by kernel_rfl
theorem d89 : DefAt PP 89 4 [] := defAt_ok (N := 2) Go.Proofs.Tryd.func89 b89 (by kernel_rfl) (by kernel_rfl) (by decide) (by kernel_rfl) (by kernel_rfl)
def sc55 : SC := .seq (.reg [mv 2 0, nilc 3 2, fa 4 66 3 2, ⟨none, .store 21 (.tmp 4) (.const (.int .i32 15000)), none⟩]) (.reg [mv 5 0, nilc 6 5, fa 7 66 6 6, ⟨none, .store 4 (.tmp 7) (.const (.bool true)), none⟩])
theorem b55 : (Go.Proofs.Tryd.f55).body.map strip = some (sc55) := by kernel_rfl
theorem d55 : DefAt PP 55 23 [(2, (.int .i32 15000)), (21, (.bool true))] := defAt_ok (N := 8) Go.Proofs.Tryd.func55 b55 (by kernel_rfl) (by kernel_rfl) (by decide) (by kernel_rfl) (by kernel_rfl)
theorem dfs : DefFs PP fs := ⟨trivial, ⟨trivial, ⟨trivial, ⟨trivial, ⟨⟨⟨_, d89, (by kernel_rfl), (by kernel_rfl)⟩, ⟨trivial, ⟨trivial, ⟨trivial, trivial⟩⟩⟩⟩, ⟨trivial, trivial⟩⟩⟩⟩⟩⟩
noncomputable abbrev zc : Array Value := zcOf PP 66
noncomputable def cs : Array Value := dSetAll 0 [(2, (.int .i32 15000)), (21, (.bool true))] zc
theorem defFn : DefFn PP 55 66 zc cs := ⟨d55.1, fun w b hc => d55.2 w b 0 zc 66 hc (by decide +kernel)⟩
theorem b27 : (Go.Proofs.Tryd.f27).body.map strip = some (sc_NewPtr 66 55) := by kernel_rfl
theorem ok27 : FnOK PP 27 := fnOK_of Go.Proofs.Tryd.func27 b27 (by kernel_rfl)
theorem cNP (w : World) : Calls PP 27 #[] w fun e w' => ∃ b, e = .returned (.pointer (some ⟨b, 0, none⟩)) ∧ w.heap.size ≤ b ∧ w'.heap[b]? = some (.cells cs 66 (0, 0)) ∧ Below w.heap.size w w' := newPtr_ok (zc_of (by kernel_rfl)) defFn Go.Proofs.Tryd.func27 b27 (by kernel_rfl) (by kernel_rfl) w
theorem b28 : (Go.Proofs.Tryd.f28).body.map strip = some (sc_MaxV 1) := by kernel_rfl
theorem ok28 : FnOK PP 28 := fnOK_of Go.Proofs.Tryd.func28 b28 (by kernel_rfl)
theorem b13 : (Go.Proofs.Tryd.f13).body.map strip = some (sc_Max 27 28 29 3) := by kernel_rfl
theorem ok13 : FnOK PP 13 := fnOK_of Go.Proofs.Tryd.func13 b13 (by kernel_rfl)
theorem cMax (w : World) : Calls PP 13 #[] w fun e w' => e = .returned (.int .i64 ((1 : Nat) : Int)) ∧ Below w.heap.size w w' := max_ok (by kernel_rfl) (by kernel_rfl) (by decide) ok27 cNP ok28 (fun w v => maxV_ok Go.Proofs.Tryd.func28 b28 (by kernel_rfl) (by kernel_rfl) w v) Go.Proofs.Tryd.func13 b13 (by kernel_rfl) (by kernel_rfl) w
theorem b29 : (Go.Proofs.Tryd.f29).body.map strip = some (sc_SetV 66 29) := by kernel_rfl
theorem ok29 : FnOK PP 29 := fnOK_of Go.Proofs.Tryd.func29 b29 (by kernel_rfl)
theorem b31 : (Go.Proofs.Tryd.f31).body.map strip = some (aTop ids 66 18 (some 0) (some (7, 22)) fs) := by kernel_rfl
theorem ok31 : FnOK PP 31 := fnOK_of Go.Proofs.Tryd.func31 b31 (by kernel_rfl)
def M : RTop := { S := 66, size := 23, d := 55, t := 25, N := 143, flex := (some 0), tags := (some (7, 22)), fs := fs }
theorem b56 : (Go.Proofs.Tryd.f56).body.map strip = some (rTop rids 66 55 25 (some 0) (some (7, 22)) fs) := by kernel_rfl
theorem b30 : (Go.Proofs.Tryd.f30).body.map strip = some (sc_ReadFromW 56) := by kernel_rfl
theorem ok30 : FnOK PP 30 := fnOK_of Go.Proofs.Tryd.func30 b30 (by kernel_rfl)
theorem ok56 : FnOK PP 56 := fnOK_of Go.Proofs.Tryd.func56 b56 (by kernel_rfl)
theorem cR (a : Addr) (B : Nat) (w0 : World) (h : 0 < B) (hg : ∀ w', Below B w0 w' → GlE a w') : ReadC PP rids M B G0 (errV a) 56 w0 := readFrom_ok (kr a) (fun _ => trivial) hg h (by kernel_rfl) dfs d55 (by kernel_rfl) (by kernel_rfl) Go.Proofs.Tryd.func56 b56 (by kernel_rfl) (by kernel_rfl)
theorem b14 : (Go.Proofs.Tryd.f14).body.map strip = some (sc_Again 3 29 22 35 27 29 30 31) := by kernel_rfl
theorem cAg (a : Addr) : AgC PP X.U8 (some 0) fs 0 1 (GlE a) 14 :=
  again_ok (I := rids) (M := M) (gb := 0) (m := 1) (G := G0) (Gl := GlE a) (err := errV a) (by kernel_rfl) (by kernel_rfl) (by kernel_rfl) (by kernel_rfl) (by decide) ⟨_, _, rfl⟩ ok27 cNP ok29 (fun w b cs E hc hs n => setV_ok (by kernel_rfl) (by kernel_rfl) Go.Proofs.Tryd.func29 b29 (by kernel_rfl) (by kernel_rfl) w b cs E hc hs n) ok30 (fun w x y Q h => readFromW_ok ok56 Go.Proofs.Tryd.func30 b30 (by kernel_rfl) (by kernel_rfl) w x y Q h) (fun B w0 h hg => cR a B w0 h hg) ok31 (fun w b ver ts u hb hc h0 hh ht hl => appendTo_calls ka Go.Proofs.Tryd.func31 b31 (by kernel_rfl) (by kernel_rfl) w b 0 ver ts u hb hc h0 hh ht hl) (by decide +kernel) (by decide) (by kernel_rfl) (by kernel_rfl) Go.Proofs.Tryd.func14 b14 (by kernel_rfl) (by kernel_rfl) (by kernel_rfl)
theorem b5 : (Go.Proofs.Tryd.f5).body.map strip = some (sc_LawAny 22 3 4 13 9 14 10) := by kernel_rfl
theorem okv : ∀ v : Nat, v ≤ 1 → okFsR v (flexAt (some 0) v) fs = true := by decide +kernel
theorem nlv : ∀ v : Nat, v ≤ 1 → nlFs v fs = true := by decide +kernel
theorem law (a : Addr) (w : World) (n : Nat) (hn : n < 256) (S : Option Nat) (base : Option Addr) (data : Bytes) (cap : Nat) (hsr : SrcAt w S base data) (hS : ∀ sb, S = some sb → sb < w.heap.size) (hgb : 0 < w.heap.size) (hgl : ∀ w', Below w.heap.size w w' → GlE a w') : Calls PP 5 #[.int .u8 (n : Int), .slice base data.length cap] w fun e w' => e = .returned (.bool true) ∧ Below w.heap.size w w' :=
  lawAny_ok (m := 1) (Gl := GlE a) (by decide) fs (some 0) (by kernel_rfl) (by kernel_rfl) ok13 cMax ok9 cVer (cAg a) ok10 cSame Go.Proofs.Tryd.func5 b5 (by kernel_rfl) (by kernel_rfl) w n hn S base data cap hsr hS hgb hgl (fun v hv => okv v hv) (fun v xs u r hv h1 h2 => by
    have hm : most = 32767 := rfl
    have hl : lim = 70368744177664 := rfl
    have := msg_len (nlv v hv) (by omega) h2
    omega)
end Go.Proofs.YtjcndcolfllibaaDoor.K.AnyAddRaftVoterRequest

