/- AnyInitProducerIDRequest: what the law on it computes. No condition. -/
import Derived.Test.YtgcocbggoielkaaDoorA0
import Derived.Test.YtgcocbggoielkaaDoorQA
import Derived.Test.YtgcocbggoielkaaDoorQR
namespace Go.Proofs.YtgcocbggoielkaaDoor.K.AnyInitProducerIDRequest
open Go Go.RowKit Go.Proofs Go.Proofs.YtgcocbggoielkaaDoor.T Go.Proofs.YtgcocbggoielkaaDoor.K
set_option linter.unusedVariables false
set_option linter.unusedSimpArgs false
def fs : Fs := (.cons ⟨0, -1, 0, 0, 1, 1, 97, false⟩ (.prim .str) (.cons ⟨0, -1, -1, 0, 2, 2, 21, false⟩ (.prim .i32) (.cons ⟨3, -1, -1, 0, 3, 3, 2, false⟩ (.prim .i64) (.cons ⟨3, -1, -1, 0, 4, 4, 43, false⟩ (.prim .i16) .nil))))
def sc101 : SC := .seq (.reg [mv 2 0, nilc 3 2, fa 4 108 3 3, ⟨none, .store 2 (.tmp 4) (.const (.int .i64 (-1))), none⟩]) (.reg [mv 5 0, nilc 6 5, fa 7 108 6 4, ⟨none, .store 43 (.tmp 7) (.const (.int .i16 (-1))), none⟩])
theorem b101 : (Go.Proofs.Tryd.f101).body.map strip = some (sc101) := by kernel_rfl
theorem d101 : DefAt PP 101 6 [(3, (.int .i64 (-1))), (4, (.int .i16 (-1)))] := defAt_ok (N := 8) Go.Proofs.Tryd.func101 b101 (by kernel_rfl) (by kernel_rfl) (by decide) (by kernel_rfl) (by kernel_rfl)
theorem dfs : DefFs PP fs := ⟨trivial, ⟨trivial, ⟨trivial, ⟨trivial, trivial⟩⟩⟩⟩
noncomputable abbrev zc : Array Value := zcOf PP 108
noncomputable def cs : Array Value := dSetAll 0 [(3, (.int .i64 (-1))), (4, (.int .i16 (-1)))] zc
theorem defFn : DefFn PP 101 108 zc cs := ⟨d101.1, fun w b hc => d101.2 w b 0 zc 108 hc (by decide +kernel)⟩
theorem b62 : (Go.Proofs.Tryd.f62).body.map strip = some (sc_NewPtr 108 101) := by kernel_rfl
theorem ok62 : FnOK PP 62 := fnOK_of Go.Proofs.Tryd.func62 b62 (by kernel_rfl)
theorem cNP (w : World) : Calls PP 62 #[] w fun e w' => ∃ b, e = .returned (.pointer (some ⟨b, 0, none⟩)) ∧ w.heap.size ≤ b ∧ w'.heap[b]? = some (.cells cs 108 (0, 0)) ∧ Below w.heap.size w w' := newPtr_ok (zc_of (by kernel_rfl)) defFn Go.Proofs.Tryd.func62 b62 (by kernel_rfl) (by kernel_rfl) w
theorem b63 : (Go.Proofs.Tryd.f63).body.map strip = some (sc_MaxV 5) := by kernel_rfl
theorem ok63 : FnOK PP 63 := fnOK_of Go.Proofs.Tryd.func63 b63 (by kernel_rfl)
theorem b29 : (Go.Proofs.Tryd.f29).body.map strip = some (sc_Max 62 63 43 3) := by kernel_rfl
theorem ok29 : FnOK PP 29 := fnOK_of Go.Proofs.Tryd.func29 b29 (by kernel_rfl)
theorem cMax (w : World) : Calls PP 29 #[] w fun e w' => e = .returned (.int .i64 ((5 : Nat) : Int)) ∧ Below w.heap.size w w' := max_ok (by kernel_rfl) (by kernel_rfl) (by decide) ok62 cNP ok63 (fun w v => maxV_ok Go.Proofs.Tryd.func63 b63 (by kernel_rfl) (by kernel_rfl) w v) Go.Proofs.Tryd.func29 b29 (by kernel_rfl) (by kernel_rfl) w
theorem b64 : (Go.Proofs.Tryd.f64).body.map strip = some (sc_SetV 108 43) := by kernel_rfl
theorem ok64 : FnOK PP 64 := fnOK_of Go.Proofs.Tryd.func64 b64 (by kernel_rfl)
theorem b66 : (Go.Proofs.Tryd.f66).body.map strip = some (aTop ids 108 11 (some 2) (some (5, 5)) fs) := by kernel_rfl
theorem ok66 : FnOK PP 66 := fnOK_of Go.Proofs.Tryd.func66 b66 (by kernel_rfl)
def M : RTop := { S := 108, size := 6, d := 101, t := 15, N := 64, flex := (some 2), tags := (some (5, 5)), fs := fs }
theorem b102 : (Go.Proofs.Tryd.f102).body.map strip = some (rTop rids 108 101 15 (some 2) (some (5, 5)) fs) := by kernel_rfl
theorem b65 : (Go.Proofs.Tryd.f65).body.map strip = some (sc_ReadFromW 102) := by kernel_rfl
theorem ok65 : FnOK PP 65 := fnOK_of Go.Proofs.Tryd.func65 b65 (by kernel_rfl)
theorem ok102 : FnOK PP 102 := fnOK_of Go.Proofs.Tryd.func102 b102 (by kernel_rfl)
theorem cR (a : Addr) (B : Nat) (w0 : World) (h : 0 < B) (hg : ∀ w', Below B w0 w' → GlE a w') : ReadC PP rids M B G0 (errV a) 102 w0 := readFrom_ok (kr a) (fun _ => trivial) hg h (by kernel_rfl) dfs d101 (by kernel_rfl) (by kernel_rfl) Go.Proofs.Tryd.func102 b102 (by kernel_rfl) (by kernel_rfl)
theorem b30 : (Go.Proofs.Tryd.f30).body.map strip = some (sc_Again 3 43 22 49 62 64 65 66) := by kernel_rfl
theorem cAg (a : Addr) : AgC PP X.U8 (some 2) fs 0 5 (GlE a) 30 :=
  again_ok (I := rids) (M := M) (gb := 0) (m := 5) (G := G0) (Gl := GlE a) (err := errV a) (by kernel_rfl) (by kernel_rfl) (by kernel_rfl) (by kernel_rfl) (by decide) ⟨_, _, rfl⟩ ok62 cNP ok64 (fun w b cs E hc hs n => setV_ok (by kernel_rfl) (by kernel_rfl) Go.Proofs.Tryd.func64 b64 (by kernel_rfl) (by kernel_rfl) w b cs E hc hs n) ok65 (fun w x y Q h => readFromW_ok ok102 Go.Proofs.Tryd.func65 b65 (by kernel_rfl) (by kernel_rfl) w x y Q h) (fun B w0 h hg => cR a B w0 h hg) ok66 (fun w b ver ts u hb hc h0 hh ht hl => appendTo_calls ka Go.Proofs.Tryd.func66 b66 (by kernel_rfl) (by kernel_rfl) w b 0 ver ts u hb hc h0 hh ht hl) (by decide +kernel) (by decide) (by kernel_rfl) (by kernel_rfl) Go.Proofs.Tryd.func30 b30 (by kernel_rfl) (by kernel_rfl) (by kernel_rfl)
theorem b9 : (Go.Proofs.Tryd.f9).body.map strip = some (sc_LawAny 22 3 4 29 12 30 13) := by kernel_rfl
theorem okv : ∀ v : Nat, v ≤ 5 → okFsR v (flexAt (some 2) v) fs = true := by decide +kernel
theorem nlv : ∀ v : Nat, v ≤ 5 → nlFs v fs = true := by decide +kernel
theorem law (a : Addr) (w : World) (n : Nat) (hn : n < 256) (S : Option Nat) (base : Option Addr) (data : Bytes) (cap : Nat) (hsr : SrcAt w S base data) (hS : ∀ sb, S = some sb → sb < w.heap.size) (hgb : 0 < w.heap.size) (hgl : ∀ w', Below w.heap.size w w' → GlE a w') : Calls PP 9 #[.int .u8 (n : Int), .slice base data.length cap] w fun e w' => e = .returned (.bool true) ∧ Below w.heap.size w w' :=
  lawAny_ok (m := 5) (Gl := GlE a) (by decide) fs (some 2) (by kernel_rfl) (by kernel_rfl) ok29 cMax ok12 cVer (cAg a) ok13 cSame Go.Proofs.Tryd.func9 b9 (by kernel_rfl) (by kernel_rfl) w n hn S base data cap hsr hS hgb hgl (fun v hv => okv v hv) (fun v xs u r hv h1 h2 => by
    have hm : most = 32767 := rfl
    have hl : lim = 70368744177664 := rfl
    have := msg_len (nlv v hv) (by omega) h2
    omega)
end Go.Proofs.YtgcocbggoielkaaDoor.K.AnyInitProducerIDRequest

