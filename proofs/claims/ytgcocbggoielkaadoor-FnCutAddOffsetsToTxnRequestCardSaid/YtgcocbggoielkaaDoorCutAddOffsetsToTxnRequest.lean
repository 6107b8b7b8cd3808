/- CutAddOffsetsToTxnRequest: what the law on it computes. No condition. -/
import Derived.Test.YtgcocbggoielkaaDoorB1
import Derived.Test.YtgcocbggoielkaaDoorQA
import Derived.Test.YtgcocbggoielkaaDoorQR
import Derived.Test.YtgcocbggoielkaaDoorQS
namespace Go.Proofs.YtgcocbggoielkaaDoor.K.CutAddOffsetsToTxnRequest
open Go Go.RowKit Go.Proofs Go.Proofs.YtgcocbggoielkaaDoor.T Go.Proofs.YtgcocbggoielkaaDoor.K
set_option linter.unusedVariables false
set_option linter.unusedSimpArgs false
def fs : Fs := (.cons ⟨0, -1, -1, 0, 1, 1, 9, false⟩ (.prim .str) (.cons ⟨0, -1, -1, 0, 2, 2, 2, false⟩ (.prim .i64) (.cons ⟨0, -1, -1, 0, 3, 3, 43, false⟩ (.prim .i16) (.cons ⟨0, -1, -1, 0, 4, 4, 9, false⟩ (.prim .str) .nil))))
theorem b25 : (Go.Proofs.Tryd.f25).body.map strip = some (sc_bTop X.F X.Fs X.M fs (3) []) := by kernel_rfl
theorem ok25 : FnOK PP 25 := fnOK_of Go.Proofs.Tryd.func25 b25 (by kernel_rfl)
theorem sfTop : SubFns PP fs [] := by
  simp [SubFns, hasSub, fs]
theorem cSp (w : World) : Calls PP 25 #[] w fun e w' => ∃ v, e = .returned (msgV v (3)) ∧ v.oneCell' = true ∧ FsV w' (fun k => w.heap.size ≤ k ∧ k < w'.heap.size) fs v ∧ Below w.heap.size w w' := bTop_ok hX fok uFs arrM mB fs (3) [] (by kernel_rfl) sfTop (by decide +kernel) Go.Proofs.Tryd.func25 b25 (by kernel_rfl) (by kernel_rfl) w
def sc95 : SC := .skip
theorem b95 : (Go.Proofs.Tryd.f95).body.map strip = some (sc95) := by kernel_rfl
theorem d95 : DefAt PP 95 6 [] := defAt_ok (N := 2) Go.Proofs.Tryd.func95 b95 (by kernel_rfl) (by kernel_rfl) (by decide) (by kernel_rfl) (by kernel_rfl)
theorem dfs : DefFs PP fs := ⟨trivial, ⟨trivial, ⟨trivial, ⟨trivial, trivial⟩⟩⟩⟩
noncomputable abbrev zc : Array Value := zcOf PP 102
noncomputable def cs : Array Value := dSetAll 0 [] zc
theorem defFn : DefFn PP 95 102 zc cs := ⟨d95.1, fun w b hc => d95.2 w b 0 zc 102 hc (by decide +kernel)⟩
theorem b52 : (Go.Proofs.Tryd.f52).body.map strip = some (sc_NewPtr 102 95) := by kernel_rfl
theorem ok52 : FnOK PP 52 := fnOK_of Go.Proofs.Tryd.func52 b52 (by kernel_rfl)
theorem cNP (w : World) : Calls PP 52 #[] w fun e w' => ∃ b, e = .returned (.pointer (some ⟨b, 0, none⟩)) ∧ w.heap.size ≤ b ∧ w'.heap[b]? = some (.cells cs 102 (0, 0)) ∧ Below w.heap.size w w' := newPtr_ok (zc_of (by kernel_rfl)) defFn Go.Proofs.Tryd.func52 b52 (by kernel_rfl) (by kernel_rfl) w
theorem b53 : (Go.Proofs.Tryd.f53).body.map strip = some (sc_MaxV 4) := by kernel_rfl
theorem ok53 : FnOK PP 53 := fnOK_of Go.Proofs.Tryd.func53 b53 (by kernel_rfl)
theorem b24 : (Go.Proofs.Tryd.f24).body.map strip = some (sc_Max 52 53 43 3) := by kernel_rfl
theorem ok24 : FnOK PP 24 := fnOK_of Go.Proofs.Tryd.func24 b24 (by kernel_rfl)
theorem cMax (w : World) : Calls PP 24 #[] w fun e w' => e = .returned (.int .i64 ((4 : Nat) : Int)) ∧ Below w.heap.size w w' := max_ok (by kernel_rfl) (by kernel_rfl) (by decide) ok52 cNP ok53 (fun w v => maxV_ok Go.Proofs.Tryd.func53 b53 (by kernel_rfl) (by kernel_rfl) w v) Go.Proofs.Tryd.func24 b24 (by kernel_rfl) (by kernel_rfl) w
theorem b54 : (Go.Proofs.Tryd.f54).body.map strip = some (sc_SetV 102 43) := by kernel_rfl
theorem ok54 : FnOK PP 54 := fnOK_of Go.Proofs.Tryd.func54 b54 (by kernel_rfl)
theorem b56 : (Go.Proofs.Tryd.f56).body.map strip = some (aTop ids 102 11 (some 3) (some (5, 5)) fs) := by kernel_rfl
theorem ok56 : FnOK PP 56 := fnOK_of Go.Proofs.Tryd.func56 b56 (by kernel_rfl)
def M : RTop := { S := 102, size := 6, d := 95, t := 15, N := 66, flex := (some 3), tags := (some (5, 5)), fs := fs }
theorem b96 : (Go.Proofs.Tryd.f96).body.map strip = some (rTop rids 102 95 15 (some 3) (some (5, 5)) fs) := by kernel_rfl
theorem b55 : (Go.Proofs.Tryd.f55).body.map strip = some (sc_ReadFromW 96) := by kernel_rfl
theorem ok55 : FnOK PP 55 := fnOK_of Go.Proofs.Tryd.func55 b55 (by kernel_rfl)
theorem ok96 : FnOK PP 96 := fnOK_of Go.Proofs.Tryd.func96 b96 (by kernel_rfl)
theorem cR (a : Addr) (B : Nat) (w0 : World) (h : 0 < B) (hg : ∀ w', Below B w0 w' → GlE a w') : ReadC PP rids M B G0 (errV a) 96 w0 := readFrom_ok (kr a) (fun _ => trivial) hg h (by kernel_rfl) dfs d95 (by kernel_rfl) (by kernel_rfl) Go.Proofs.Tryd.func96 b96 (by kernel_rfl) (by kernel_rfl)
theorem b26 : (Go.Proofs.Tryd.f26).body.map strip = some (sc_Again 3 43 22 49 52 54 55 56) := by kernel_rfl
theorem cAg (a : Addr) : AgC PP X.U8 (some 3) fs 0 4 (GlE a) 26 :=
  again_ok (I := rids) (M := M) (gb := 0) (m := 4) (G := G0) (Gl := GlE a) (err := errV a) (by kernel_rfl) (by kernel_rfl) (by kernel_rfl) (by kernel_rfl) (by decide) ⟨_, _, rfl⟩ ok52 cNP ok54 (fun w b cs E hc hs n => setV_ok (by kernel_rfl) (by kernel_rfl) Go.Proofs.Tryd.func54 b54 (by kernel_rfl) (by kernel_rfl) w b cs E hc hs n) ok55 (fun w x y Q h => readFromW_ok ok96 Go.Proofs.Tryd.func55 b55 (by kernel_rfl) (by kernel_rfl) w x y Q h) (fun B w0 h hg => cR a B w0 h hg) ok56 (fun w b ver ts u hb hc h0 hh ht hl => appendTo_calls ka Go.Proofs.Tryd.func56 b56 (by kernel_rfl) (by kernel_rfl) w b 0 ver ts u hb hc h0 hh ht hl) (by decide +kernel) (by decide) (by kernel_rfl) (by kernel_rfl) Go.Proofs.Tryd.func26 b26 (by kernel_rfl) (by kernel_rfl) (by kernel_rfl)
theorem okv : ∀ v : Nat, v ≤ 4 → okFsR v (flexAt (some 3) v) fs = true := by decide +kernel
theorem b7 : (Go.Proofs.Tryd.f7).body.map strip = some (sc_LawCut X.T 4 X.I X.Bs 33 14 24 25 12 16 26) := by kernel_rfl
theorem law (a : Addr) (w : World) (n at_ : Nat) (hn : n < 256) (hat : at_ < 65536) (t : Tree) (tv : Value) (ht : TV G0 w (· < w.heap.size) t tv) (hgb : 0 < w.heap.size) (hgl : ∀ w', Below w.heap.size w w' → GlE a w') (hk : KAll t) (hlim : ∀ v : Nat, v ≤ 4 → (wMsg v (flexAt (some 3) v) fs t.l t.u).length ≤ lim) : Calls PP 7 #[.int .u8 (n : Int), tv, .int .u16 (at_ : Int)] w fun e w' => e = .returned (.bool true) ∧ Below w.heap.size w w' :=
  lawCut_ok (G := G0) hX hm (by kernel_rfl) (m := 4) (Gl := GlE a) (by decide) fs (3) (some 3) (fun v => by simp [flexAt]) ok14 cFit ok24 cMax ok25 cSp ok12 cVer ok16 (cWr fs (by decide +kernel) (by decide +kernel)) (cAg a) Go.Proofs.Tryd.func7 b7 (by kernel_rfl) (by kernel_rfl) w n at_ hn hat t tv ht hgb hgl (fun v hv => okv v hv) (fun v _ => kAll_fs v fs t.l hk.l) hk.u hlim
def flex : Option Int := (some 3)
def mx : Nat := 4
end Go.Proofs.YtgcocbggoielkaaDoor.K.CutAddOffsetsToTxnRequest

