/- AnyExpireDelegationTokenResponse: what the law on it computes. No condition. -/
import Derived.Test.YtgcocbggoielkaaDoorA0
import Derived.Test.YtgcocbggoielkaaDoorQA
import Derived.Test.YtgcocbggoielkaaDoorQR
namespace Go.Proofs.YtgcocbggoielkaaDoor.K.AnyExpireDelegationTokenResponse
open Go Go.RowKit Go.Proofs Go.Proofs.YtgcocbggoielkaaDoor.T Go.Proofs.YtgcocbggoielkaaDoor.K
set_option linter.unusedVariables false
set_option linter.unusedSimpArgs false
def fs : Fs := (.cons ⟨0, -1, -1, 0, 1, 1, 43, false⟩ (.prim .i16) (.cons ⟨0, -1, -1, 0, 2, 2, 2, false⟩ (.prim .i64) (.cons ⟨0, -1, -1, 0, 3, 3, 21, false⟩ (.prim .i32) .nil)))
def sc67 : SC := .skip
theorem b67 : (Go.Proofs.Tryd.f67).body.map strip = some (sc67) := by kernel_rfl
theorem d67 : DefAt PP 67 5 [] := defAt_ok (N := 2) Go.Proofs.Tryd.func67 b67 (by kernel_rfl) (by kernel_rfl) (by decide) (by kernel_rfl) (by kernel_rfl)
theorem dfs : DefFs PP fs := ⟨trivial, ⟨trivial, ⟨trivial, trivial⟩⟩⟩
noncomputable abbrev zc : Array Value := zcOf PP 74
noncomputable def cs : Array Value := dSetAll 0 [] zc
theorem defFn : DefFn PP 67 74 zc cs := ⟨d67.1, fun w b hc => d67.2 w b 0 zc 74 hc (by decide +kernel)⟩
theorem b31 : (Go.Proofs.Tryd.f31).body.map strip = some (sc_NewPtr 74 67) := by kernel_rfl
theorem ok31 : FnOK PP 31 := fnOK_of Go.Proofs.Tryd.func31 b31 (by kernel_rfl)
theorem cNP (w : World) : Calls PP 31 #[] w fun e w' => ∃ b, e = .returned (.pointer (some ⟨b, 0, none⟩)) ∧ w.heap.size ≤ b ∧ w'.heap[b]? = some (.cells cs 74 (0, 0)) ∧ Below w.heap.size w w' := newPtr_ok (zc_of (by kernel_rfl)) defFn Go.Proofs.Tryd.func31 b31 (by kernel_rfl) (by kernel_rfl) w
theorem b32 : (Go.Proofs.Tryd.f32).body.map strip = some (sc_MaxV 2) := by kernel_rfl
theorem ok32 : FnOK PP 32 := fnOK_of Go.Proofs.Tryd.func32 b32 (by kernel_rfl)
theorem b10 : (Go.Proofs.Tryd.f10).body.map strip = some (sc_Max 31 32 43 3) := by kernel_rfl
theorem ok10 : FnOK PP 10 := fnOK_of Go.Proofs.Tryd.func10 b10 (by kernel_rfl)
theorem cMax (w : World) : Calls PP 10 #[] w fun e w' => e = .returned (.int .i64 ((2 : Nat) : Int)) ∧ Below w.heap.size w w' := max_ok (by kernel_rfl) (by kernel_rfl) (by decide) ok31 cNP ok32 (fun w v => maxV_ok Go.Proofs.Tryd.func32 b32 (by kernel_rfl) (by kernel_rfl) w v) Go.Proofs.Tryd.func10 b10 (by kernel_rfl) (by kernel_rfl) w
theorem b33 : (Go.Proofs.Tryd.f33).body.map strip = some (sc_SetV 74 43) := by kernel_rfl
theorem ok33 : FnOK PP 33 := fnOK_of Go.Proofs.Tryd.func33 b33 (by kernel_rfl)
theorem b35 : (Go.Proofs.Tryd.f35).body.map strip = some (aTop ids 74 10 (some 2) (some (4, 4)) fs) := by kernel_rfl
theorem ok35 : FnOK PP 35 := fnOK_of Go.Proofs.Tryd.func35 b35 (by kernel_rfl)
def M : RTop := { S := 74, size := 5, d := 67, t := 14, N := 48, flex := (some 2), tags := (some (4, 4)), fs := fs }
theorem b68 : (Go.Proofs.Tryd.f68).body.map strip = some (rTop rids 74 67 14 (some 2) (some (4, 4)) fs) := by kernel_rfl
theorem b34 : (Go.Proofs.Tryd.f34).body.map strip = some (sc_ReadFromW 68) := by kernel_rfl
theorem ok34 : FnOK PP 34 := fnOK_of Go.Proofs.Tryd.func34 b34 (by kernel_rfl)
theorem ok68 : FnOK PP 68 := fnOK_of Go.Proofs.Tryd.func68 b68 (by kernel_rfl)
theorem cR (a : Addr) (B : Nat) (w0 : World) (h : 0 < B) (hg : ∀ w', Below B w0 w' → GlE a w') : ReadC PP rids M B G0 (errV a) 68 w0 := readFrom_ok (kr a) (fun _ => trivial) hg h (by kernel_rfl) dfs d67 (by kernel_rfl) (by kernel_rfl) Go.Proofs.Tryd.func68 b68 (by kernel_rfl) (by kernel_rfl)
theorem b11 : (Go.Proofs.Tryd.f11).body.map strip = some (sc_Again 3 43 22 49 31 33 34 35) := by kernel_rfl
theorem cAg (a : Addr) : AgC PP X.U8 (some 2) fs 0 2 (GlE a) 11 :=
  again_ok (I := rids) (M := M) (gb := 0) (m := 2) (G := G0) (Gl := GlE a) (err := errV a) (by kernel_rfl) (by kernel_rfl) (by kernel_rfl) (by kernel_rfl) (by decide) ⟨_, _, rfl⟩ ok31 cNP ok33 (fun w b cs E hc hs n => setV_ok (by kernel_rfl) (by kernel_rfl) Go.Proofs.Tryd.func33 b33 (by kernel_rfl) (by kernel_rfl) w b cs E hc hs n) ok34 (fun w x y Q h => readFromW_ok ok68 Go.Proofs.Tryd.func34 b34 (by kernel_rfl) (by kernel_rfl) w x y Q h) (fun B w0 h hg => cR a B w0 h hg) ok35 (fun w b ver ts u hb hc h0 hh ht hl => appendTo_calls ka Go.Proofs.Tryd.func35 b35 (by kernel_rfl) (by kernel_rfl) w b 0 ver ts u hb hc h0 hh ht hl) (by decide +kernel) (by decide) (by kernel_rfl) (by kernel_rfl) Go.Proofs.Tryd.func11 b11 (by kernel_rfl) (by kernel_rfl) (by kernel_rfl)
theorem b3 : (Go.Proofs.Tryd.f3).body.map strip = some (sc_LawAny 22 3 4 10 12 11 13) := by kernel_rfl
theorem okv : ∀ v : Nat, v ≤ 2 → okFsR v (flexAt (some 2) v) fs = true := by decide +kernel
theorem nlv : ∀ v : Nat, v ≤ 2 → nlFs v fs = true := by decide +kernel
theorem law (a : Addr) (w : World) (n : Nat) (hn : n < 256) (S : Option Nat) (base : Option Addr) (data : Bytes) (cap : Nat) (hsr : SrcAt w S base data) (hS : ∀ sb, S = some sb → sb < w.heap.size) (hgb : 0 < w.heap.size) (hgl : ∀ w', Below w.heap.size w w' → GlE a w') : Calls PP 3 #[.int .u8 (n : Int), .slice base data.length cap] w fun e w' => e = .returned (.bool true) ∧ Below w.heap.size w w' :=
  lawAny_ok (m := 2) (Gl := GlE a) (by decide) fs (some 2) (by kernel_rfl) (by kernel_rfl) ok10 cMax ok12 cVer (cAg a) ok13 cSame Go.Proofs.Tryd.func3 b3 (by kernel_rfl) (by kernel_rfl) w n hn S base data cap hsr hS hgb hgl (fun v hv => okv v hv) (fun v xs u r hv h1 h2 => by
    have hm : most = 32767 := rfl
    have hl : lim = 70368744177664 := rfl
    have := msg_len (nlv v hv) (by omega) h2
    omega)
end Go.Proofs.YtgcocbggoielkaaDoor.K.AnyExpireDelegationTokenResponse

