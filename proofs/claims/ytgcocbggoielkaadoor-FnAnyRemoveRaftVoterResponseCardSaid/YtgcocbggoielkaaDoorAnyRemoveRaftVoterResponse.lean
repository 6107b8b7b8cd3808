/- AnyRemoveRaftVoterResponse: what the law on it computes. No condition. -/
import Derived.Test.YtgcocbggoielkaaDoorA0
import Derived.Test.YtgcocbggoielkaaDoorQA
import Derived.Test.YtgcocbggoielkaaDoorQR
namespace Go.Proofs.YtgcocbggoielkaaDoor.K.AnyRemoveRaftVoterResponse
open Go Go.RowKit Go.Proofs Go.Proofs.YtgcocbggoielkaaDoor.T Go.Proofs.YtgcocbggoielkaaDoor.K
set_option linter.unusedVariables false
set_option linter.unusedSimpArgs false
def fs : Fs := (.cons ⟨0, -1, -1, 0, 1, 1, 21, false⟩ (.prim .i32) (.cons ⟨0, -1, -1, 0, 2, 2, 43, false⟩ (.prim .i16) (.cons ⟨0, -1, 0, 0, 3, 3, 97, false⟩ (.prim .str) .nil)))
def sc91 : SC := .skip
theorem b91 : (Go.Proofs.Tryd.f91).body.map strip = some (sc91) := by kernel_rfl
theorem d91 : DefAt PP 91 5 [] := defAt_ok (N := 2) Go.Proofs.Tryd.func91 b91 (by kernel_rfl) (by kernel_rfl) (by decide) (by kernel_rfl) (by kernel_rfl)
theorem dfs : DefFs PP fs := ⟨trivial, ⟨trivial, ⟨trivial, trivial⟩⟩⟩
noncomputable abbrev zc : Array Value := zcOf PP 99
noncomputable def cs : Array Value := dSetAll 0 [] zc
theorem defFn : DefFn PP 91 99 zc cs := ⟨d91.1, fun w b hc => d91.2 w b 0 zc 99 hc (by decide +kernel)⟩
theorem b47 : (Go.Proofs.Tryd.f47).body.map strip = some (sc_NewPtr 99 91) := by kernel_rfl
theorem ok47 : FnOK PP 47 := fnOK_of Go.Proofs.Tryd.func47 b47 (by kernel_rfl)
theorem cNP (w : World) : Calls PP 47 #[] w fun e w' => ∃ b, e = .returned (.pointer (some ⟨b, 0, none⟩)) ∧ w.heap.size ≤ b ∧ w'.heap[b]? = some (.cells cs 99 (0, 0)) ∧ Below w.heap.size w w' := newPtr_ok (zc_of (by kernel_rfl)) defFn Go.Proofs.Tryd.func47 b47 (by kernel_rfl) (by kernel_rfl) w
theorem b48 : (Go.Proofs.Tryd.f48).body.map strip = some (sc_MaxV 0) := by kernel_rfl
theorem ok48 : FnOK PP 48 := fnOK_of Go.Proofs.Tryd.func48 b48 (by kernel_rfl)
theorem b22 : (Go.Proofs.Tryd.f22).body.map strip = some (sc_Max 47 48 43 3) := by kernel_rfl
theorem ok22 : FnOK PP 22 := fnOK_of Go.Proofs.Tryd.func22 b22 (by kernel_rfl)
theorem cMax (w : World) : Calls PP 22 #[] w fun e w' => e = .returned (.int .i64 ((0 : Nat) : Int)) ∧ Below w.heap.size w w' := max_ok (by kernel_rfl) (by kernel_rfl) (by decide) ok47 cNP ok48 (fun w v => maxV_ok Go.Proofs.Tryd.func48 b48 (by kernel_rfl) (by kernel_rfl) w v) Go.Proofs.Tryd.func22 b22 (by kernel_rfl) (by kernel_rfl) w
theorem b49 : (Go.Proofs.Tryd.f49).body.map strip = some (sc_SetV 99 43) := by kernel_rfl
theorem ok49 : FnOK PP 49 := fnOK_of Go.Proofs.Tryd.func49 b49 (by kernel_rfl)
theorem b51 : (Go.Proofs.Tryd.f51).body.map strip = some (aTop ids 99 10 (some 0) (some (4, 4)) fs) := by kernel_rfl
theorem ok51 : FnOK PP 51 := fnOK_of Go.Proofs.Tryd.func51 b51 (by kernel_rfl)
def M : RTop := { S := 99, size := 5, d := 91, t := 14, N := 54, flex := (some 0), tags := (some (4, 4)), fs := fs }
theorem b92 : (Go.Proofs.Tryd.f92).body.map strip = some (rTop rids 99 91 14 (some 0) (some (4, 4)) fs) := by kernel_rfl
theorem b50 : (Go.Proofs.Tryd.f50).body.map strip = some (sc_ReadFromW 92) := by kernel_rfl
theorem ok50 : FnOK PP 50 := fnOK_of Go.Proofs.Tryd.func50 b50 (by kernel_rfl)
theorem ok92 : FnOK PP 92 := fnOK_of Go.Proofs.Tryd.func92 b92 (by kernel_rfl)
theorem cR (a : Addr) (B : Nat) (w0 : World) (h : 0 < B) (hg : ∀ w', Below B w0 w' → GlE a w') : ReadC PP rids M B G0 (errV a) 92 w0 := readFrom_ok (kr a) (fun _ => trivial) hg h (by kernel_rfl) dfs d91 (by kernel_rfl) (by kernel_rfl) Go.Proofs.Tryd.func92 b92 (by kernel_rfl) (by kernel_rfl)
theorem b23 : (Go.Proofs.Tryd.f23).body.map strip = some (sc_Again 3 43 22 49 47 49 50 51) := by kernel_rfl
theorem cAg (a : Addr) : AgC PP X.U8 (some 0) fs 0 0 (GlE a) 23 :=
  again_ok (I := rids) (M := M) (gb := 0) (m := 0) (G := G0) (Gl := GlE a) (err := errV a) (by kernel_rfl) (by kernel_rfl) (by kernel_rfl) (by kernel_rfl) (by decide) ⟨_, _, rfl⟩ ok47 cNP ok49 (fun w b cs E hc hs n => setV_ok (by kernel_rfl) (by kernel_rfl) Go.Proofs.Tryd.func49 b49 (by kernel_rfl) (by kernel_rfl) w b cs E hc hs n) ok50 (fun w x y Q h => readFromW_ok ok92 Go.Proofs.Tryd.func50 b50 (by kernel_rfl) (by kernel_rfl) w x y Q h) (fun B w0 h hg => cR a B w0 h hg) ok51 (fun w b ver ts u hb hc h0 hh ht hl => appendTo_calls ka Go.Proofs.Tryd.func51 b51 (by kernel_rfl) (by kernel_rfl) w b 0 ver ts u hb hc h0 hh ht hl) (by decide +kernel) (by decide) (by kernel_rfl) (by kernel_rfl) Go.Proofs.Tryd.func23 b23 (by kernel_rfl) (by kernel_rfl) (by kernel_rfl)
theorem b6 : (Go.Proofs.Tryd.f6).body.map strip = some (sc_LawAny 22 3 4 22 12 23 13) := by kernel_rfl
theorem okv : ∀ v : Nat, v ≤ 0 → okFsR v (flexAt (some 0) v) fs = true := by decide +kernel
theorem nlv : ∀ v : Nat, v ≤ 0 → nlFs v fs = true := by decide +kernel
theorem law (a : Addr) (w : World) (n : Nat) (hn : n < 256) (S : Option Nat) (base : Option Addr) (data : Bytes) (cap : Nat) (hsr : SrcAt w S base data) (hS : ∀ sb, S = some sb → sb < w.heap.size) (hgb : 0 < w.heap.size) (hgl : ∀ w', Below w.heap.size w w' → GlE a w') : Calls PP 6 #[.int .u8 (n : Int), .slice base data.length cap] w fun e w' => e = .returned (.bool true) ∧ Below w.heap.size w w' :=
  lawAny_ok (m := 0) (Gl := GlE a) (by decide) fs (some 0) (by kernel_rfl) (by kernel_rfl) ok22 cMax ok12 cVer (cAg a) ok13 cSame Go.Proofs.Tryd.func6 b6 (by kernel_rfl) (by kernel_rfl) w n hn S base data cap hsr hS hgb hgl (fun v hv => okv v hv) (fun v xs u r hv h1 h2 => by
    have hm : most = 32767 := rfl
    have hl : lim = 70368744177664 := rfl
    have := msg_len (nlv v hv) (by omega) h2
    omega)
end Go.Proofs.YtgcocbggoielkaaDoor.K.AnyRemoveRaftVoterResponse

