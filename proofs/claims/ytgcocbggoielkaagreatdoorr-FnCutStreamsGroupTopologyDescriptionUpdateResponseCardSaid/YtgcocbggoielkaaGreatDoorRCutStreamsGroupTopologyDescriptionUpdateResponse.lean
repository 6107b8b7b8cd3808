/- CutStreamsGroupTopologyDescriptionUpdateResponse: what the law on it computes. No condition. -/
import Derived.Test.YtgcocbggoielkaaGreatDoorRB1
import Derived.Test.YtgcocbggoielkaaGreatDoorRQA
import Derived.Test.YtgcocbggoielkaaGreatDoorRQR
import Derived.Test.YtgcocbggoielkaaGreatDoorRQS
namespace Go.Proofs.YtgcocbggoielkaaGreatDoorR.K.CutStreamsGroupTopologyDescriptionUpdateResponse
open Go Go.RowKit Go.Proofs Go.Proofs.YtgcocbggoielkaaGreatDoorR.T Go.Proofs.YtgcocbggoielkaaGreatDoorR.K
set_option linter.unusedVariables false
set_option linter.unusedSimpArgs false
def fs : Fs := (.cons ⟨0, -1, -1, 0, 1, 1, 21, false⟩ (.prim .i32) (.cons ⟨0, -1, -1, 0, 2, 2, 42, false⟩ (.prim .i16) (.cons ⟨0, -1, 0, 0, 3, 3, 65, false⟩ (.prim .str) .nil)))
theorem b21 : (Go.Proofs.Tryz.f21).body.map strip = some (sc_bTop X.F X.Fs X.M fs (0) []) := by kernel_rfl
theorem ok21 : FnOK PP 21 := fnOK_of Go.Proofs.Tryz.func21 b21 (by kernel_rfl)
theorem sfTop : SubFns PP fs [] := by
  simp [SubFns, hasSub, fs]
theorem cSp (w : World) : Calls PP 21 #[] w fun e w' => ∃ v, e = .returned (msgV v (0)) ∧ v.oneCell' = true ∧ FsV w' (fun k => w.heap.size ≤ k ∧ k < w'.heap.size) fs v ∧ Below w.heap.size w w' := bTop_ok hX fok uFs arrM mB fs (0) [] (by kernel_rfl) sfTop (by decide +kernel) Go.Proofs.Tryz.func21 b21 (by kernel_rfl) (by kernel_rfl) w
def sc84 : SC := .skip
theorem b84 : (Go.Proofs.Tryz.f84).body.map strip = some (sc84) := by kernel_rfl
theorem d84 : DefAt PP 84 5 [] := defAt_ok (N := 2) Go.Proofs.Tryz.func84 b84 (by kernel_rfl) (by kernel_rfl) (by decide) (by kernel_rfl) (by kernel_rfl)
theorem dfs : DefFs PP fs := ⟨trivial, ⟨trivial, ⟨trivial, trivial⟩⟩⟩
noncomputable abbrev zc : Array Value := zcOf PP 135
noncomputable def cs : Array Value := dSetAll 0 [] zc
theorem defFn : DefFn PP 84 135 zc cs := ⟨d84.1, fun w b hc => d84.2 w b 0 zc 135 hc (by decide +kernel)⟩
theorem b44 : (Go.Proofs.Tryz.f44).body.map strip = some (sc_NewPtr 135 84) := by kernel_rfl
theorem ok44 : FnOK PP 44 := fnOK_of Go.Proofs.Tryz.func44 b44 (by kernel_rfl)
theorem cNP (w : World) : Calls PP 44 #[] w fun e w' => ∃ b, e = .returned (.pointer (some ⟨b, 0, none⟩)) ∧ w.heap.size ≤ b ∧ w'.heap[b]? = some (.cells cs 135 (0, 0)) ∧ Below w.heap.size w w' := newPtr_ok (zc_of (by kernel_rfl)) defFn Go.Proofs.Tryz.func44 b44 (by kernel_rfl) (by kernel_rfl) w
theorem b45 : (Go.Proofs.Tryz.f45).body.map strip = some (sc_MaxV 0) := by kernel_rfl
theorem ok45 : FnOK PP 45 := fnOK_of Go.Proofs.Tryz.func45 b45 (by kernel_rfl)
theorem b20 : (Go.Proofs.Tryz.f20).body.map strip = some (sc_Max 44 45 42 3) := by kernel_rfl
theorem ok20 : FnOK PP 20 := fnOK_of Go.Proofs.Tryz.func20 b20 (by kernel_rfl)
theorem cMax (w : World) : Calls PP 20 #[] w fun e w' => e = .returned (.int .i64 ((0 : Nat) : Int)) ∧ Below w.heap.size w w' := max_ok (by kernel_rfl) (by kernel_rfl) (by decide) ok44 cNP ok45 (fun w v => maxV_ok Go.Proofs.Tryz.func45 b45 (by kernel_rfl) (by kernel_rfl) w v) Go.Proofs.Tryz.func20 b20 (by kernel_rfl) (by kernel_rfl) w
theorem b46 : (Go.Proofs.Tryz.f46).body.map strip = some (sc_SetV 135 42) := by kernel_rfl
theorem ok46 : FnOK PP 46 := fnOK_of Go.Proofs.Tryz.func46 b46 (by kernel_rfl)
theorem b48 : (Go.Proofs.Tryz.f48).body.map strip = some (aTop ids 135 10 (some 0) (some (4, 4)) fs) := by kernel_rfl
theorem ok48 : FnOK PP 48 := fnOK_of Go.Proofs.Tryz.func48 b48 (by kernel_rfl)
def M : RTop := { S := 135, size := 5, d := 84, t := 14, N := 54, flex := (some 0), tags := (some (4, 4)), fs := fs }
theorem b85 : (Go.Proofs.Tryz.f85).body.map strip = some (rTop rids 135 84 14 (some 0) (some (4, 4)) fs) := by kernel_rfl
theorem b47 : (Go.Proofs.Tryz.f47).body.map strip = some (sc_ReadFromW 85) := by kernel_rfl
theorem ok47 : FnOK PP 47 := fnOK_of Go.Proofs.Tryz.func47 b47 (by kernel_rfl)
theorem ok85 : FnOK PP 85 := fnOK_of Go.Proofs.Tryz.func85 b85 (by kernel_rfl)
theorem cR (a : Addr) (B : Nat) (w0 : World) (h : 0 < B) (hg : ∀ w', Below B w0 w' → GlE a w') : ReadC PP rids M B G0 (errV a) 85 w0 := readFrom_ok (kr a) (fun _ => trivial) hg h (by kernel_rfl) dfs d84 (by kernel_rfl) (by kernel_rfl) Go.Proofs.Tryz.func85 b85 (by kernel_rfl) (by kernel_rfl)
theorem b22 : (Go.Proofs.Tryz.f22).body.map strip = some (sc_Again 3 42 22 52 44 46 47 48) := by kernel_rfl
theorem cAg (a : Addr) : AgC PP X.U8 (some 0) fs 0 0 (GlE a) 22 :=
  again_ok (I := rids) (M := M) (gb := 0) (m := 0) (G := G0) (Gl := GlE a) (err := errV a) (by kernel_rfl) (by kernel_rfl) (by kernel_rfl) (by kernel_rfl) (by decide) ⟨_, _, rfl⟩ ok44 cNP ok46 (fun w b cs E hc hs n => setV_ok (by kernel_rfl) (by kernel_rfl) Go.Proofs.Tryz.func46 b46 (by kernel_rfl) (by kernel_rfl) w b cs E hc hs n) ok47 (fun w x y Q h => readFromW_ok ok85 Go.Proofs.Tryz.func47 b47 (by kernel_rfl) (by kernel_rfl) w x y Q h) (fun B w0 h hg => cR a B w0 h hg) ok48 (fun w b ver ts u hb hc h0 hh ht hl => appendTo_calls ka Go.Proofs.Tryz.func48 b48 (by kernel_rfl) (by kernel_rfl) w b 0 ver ts u hb hc h0 hh ht hl) (by decide +kernel) (by decide) (by kernel_rfl) (by kernel_rfl) Go.Proofs.Tryz.func22 b22 (by kernel_rfl) (by kernel_rfl) (by kernel_rfl)
theorem okv : ∀ v : Nat, v ≤ 0 → okFsR v (flexAt (some 0) v) fs = true := by decide +kernel
theorem b6 : (Go.Proofs.Tryz.f6).body.map strip = some (sc_LawCut X.T 4 X.I X.Bs 27 7 20 21 11 9 22) := by kernel_rfl
theorem law (a : Addr) (w : World) (n at_ : Nat) (hn : n < 256) (hat : at_ < 65536) (t : Tree) (tv : Value) (ht : TV G0 w (· < w.heap.size) t tv) (hgb : 0 < w.heap.size) (hgl : ∀ w', Below w.heap.size w w' → GlE a w') (hk : KAll t) (hlim : ∀ v : Nat, v ≤ 0 → (wMsg v (flexAt (some 0) v) fs t.l t.u).length ≤ lim) : Calls PP 6 #[.int .u8 (n : Int), tv, .int .u16 (at_ : Int)] w fun e w' => e = .returned (.bool true) ∧ Below w.heap.size w w' :=
  lawCut_ok (G := G0) hX hm (by kernel_rfl) (m := 0) (Gl := GlE a) (by decide) fs (0) (some 0) (fun v => by simp [flexAt]) ok7 cFit ok20 cMax ok21 cSp ok11 cVer ok9 (cWr fs (by decide +kernel) (by decide +kernel)) (cAg a) Go.Proofs.Tryz.func6 b6 (by kernel_rfl) (by kernel_rfl) w n at_ hn hat t tv ht hgb hgl (fun v hv => okv v hv) (fun v _ => kAll_fs v fs t.l hk.l) hk.u hlim
def flex : Option Int := (some 0)
def mx : Nat := 0
end Go.Proofs.YtgcocbggoielkaaGreatDoorR.K.CutStreamsGroupTopologyDescriptionUpdateResponse

