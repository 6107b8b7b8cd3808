/- CutEndTxnResponse: what the law on it computes. No condition. -/
import Derived.Test.YtgcocbggoielkaaDoorB1
import Derived.Test.YtgcocbggoielkaaDoorQA
import Derived.Test.YtgcocbggoielkaaDoorQR
import Derived.Test.YtgcocbggoielkaaDoorQS
namespace Go.Proofs.YtgcocbggoielkaaDoor.K.CutEndTxnResponse
open Go Go.RowKit Go.Proofs Go.Proofs.YtgcocbggoielkaaDoor.T Go.Proofs.YtgcocbggoielkaaDoor.K
set_option linter.unusedVariables false
set_option linter.unusedSimpArgs false
def fs : Fs := (.cons ⟨0, -1, -1, 0, 1, 1, 21, false⟩ (.prim .i32) (.cons ⟨0, -1, -1, 0, 2, 2, 43, false⟩ (.prim .i16) (.cons ⟨5, -1, -1, -1, 3, 3, 2, false⟩ (.prim .i64) (.cons ⟨5, -1, -1, -1, 4, 4, 43, false⟩ (.prim .i16) .nil))))
theorem b17 : (Go.Proofs.Tryd.f17).body.map strip = some (sc_bTop X.F X.Fs X.M fs (3) []) := by kernel_rfl
theorem ok17 : FnOK PP 17 := fnOK_of Go.Proofs.Tryd.func17 b17 (by kernel_rfl)
theorem sfTop : SubFns PP fs [] := by
  simp [SubFns, hasSub, fs]
theorem cSp (w : World) : Calls PP 17 #[] w fun e w' => ∃ v, e = .returned (msgV v (3)) ∧ v.oneCell' = true ∧ FsV w' (fun k => w.heap.size ≤ k ∧ k < w'.heap.size) fs v ∧ Below w.heap.size w w' := bTop_ok hX fok uFs arrM mB fs (3) [] (by kernel_rfl) sfTop (by decide +kernel) Go.Proofs.Tryd.func17 b17 (by kernel_rfl) (by kernel_rfl) w
def sc76 : SC := .seq (.reg [mv 2 0, nilc 3 2, fa 4 85 3 3, ⟨none, .store 2 (.tmp 4) (.const (.int .i64 (-1))), none⟩]) (.reg [mv 5 0, nilc 6 5, fa 7 85 6 4, ⟨none, .store 43 (.tmp 7) (.const (.int .i16 (-1))), none⟩])
theorem b76 : (Go.Proofs.Tryd.f76).body.map strip = some (sc76) := by kernel_rfl
theorem d76 : DefAt PP 76 6 [(3, (.int .i64 (-1))), (4, (.int .i16 (-1)))] := defAt_ok (N := 8) Go.Proofs.Tryd.func76 b76 (by kernel_rfl) (by kernel_rfl) (by decide) (by kernel_rfl) (by kernel_rfl)
theorem dfs : DefFs PP fs := ⟨trivial, ⟨trivial, ⟨trivial, ⟨trivial, trivial⟩⟩⟩⟩
noncomputable abbrev zc : Array Value := zcOf PP 85
noncomputable def cs : Array Value := dSetAll 0 [(3, (.int .i64 (-1))), (4, (.int .i16 (-1)))] zc
theorem defFn : DefFn PP 76 85 zc cs := ⟨d76.1, fun w b hc => d76.2 w b 0 zc 85 hc (by decide +kernel)⟩
theorem b37 : (Go.Proofs.Tryd.f37).body.map strip = some (sc_NewPtr 85 76) := by kernel_rfl
theorem ok37 : FnOK PP 37 := fnOK_of Go.Proofs.Tryd.func37 b37 (by kernel_rfl)
theorem cNP (w : World) : Calls PP 37 #[] w fun e w' => ∃ b, e = .returned (.pointer (some ⟨b, 0, none⟩)) ∧ w.heap.size ≤ b ∧ w'.heap[b]? = some (.cells cs 85 (0, 0)) ∧ Below w.heap.size w w' := newPtr_ok (zc_of (by kernel_rfl)) defFn Go.Proofs.Tryd.func37 b37 (by kernel_rfl) (by kernel_rfl) w
theorem b38 : (Go.Proofs.Tryd.f38).body.map strip = some (sc_MaxV 5) := by kernel_rfl
theorem ok38 : FnOK PP 38 := fnOK_of Go.Proofs.Tryd.func38 b38 (by kernel_rfl)
theorem b15 : (Go.Proofs.Tryd.f15).body.map strip = some (sc_Max 37 38 43 3) := by kernel_rfl
theorem ok15 : FnOK PP 15 := fnOK_of Go.Proofs.Tryd.func15 b15 (by kernel_rfl)
theorem cMax (w : World) : Calls PP 15 #[] w fun e w' => e = .returned (.int .i64 ((5 : Nat) : Int)) ∧ Below w.heap.size w w' := max_ok (by kernel_rfl) (by kernel_rfl) (by decide) ok37 cNP ok38 (fun w v => maxV_ok Go.Proofs.Tryd.func38 b38 (by kernel_rfl) (by kernel_rfl) w v) Go.Proofs.Tryd.func15 b15 (by kernel_rfl) (by kernel_rfl) w
theorem b40 : (Go.Proofs.Tryd.f40).body.map strip = some (sc_SetV 85 43) := by kernel_rfl
theorem ok40 : FnOK PP 40 := fnOK_of Go.Proofs.Tryd.func40 b40 (by kernel_rfl)
theorem b42 : (Go.Proofs.Tryd.f42).body.map strip = some (aTop ids 85 11 (some 3) (some (5, 5)) fs) := by kernel_rfl
theorem ok42 : FnOK PP 42 := fnOK_of Go.Proofs.Tryd.func42 b42 (by kernel_rfl)
def M : RTop := { S := 85, size := 6, d := 76, t := 15, N := 58, flex := (some 3), tags := (some (5, 5)), fs := fs }
theorem b85 : (Go.Proofs.Tryd.f85).body.map strip = some (rTop rids 85 76 15 (some 3) (some (5, 5)) fs) := by kernel_rfl
theorem b41 : (Go.Proofs.Tryd.f41).body.map strip = some (sc_ReadFromW 85) := by kernel_rfl
theorem ok41 : FnOK PP 41 := fnOK_of Go.Proofs.Tryd.func41 b41 (by kernel_rfl)
theorem ok85 : FnOK PP 85 := fnOK_of Go.Proofs.Tryd.func85 b85 (by kernel_rfl)
theorem cR (a : Addr) (B : Nat) (w0 : World) (h : 0 < B) (hg : ∀ w', Below B w0 w' → GlE a w') : ReadC PP rids M B G0 (errV a) 85 w0 := readFrom_ok (kr a) (fun _ => trivial) hg h (by kernel_rfl) dfs d76 (by kernel_rfl) (by kernel_rfl) Go.Proofs.Tryd.func85 b85 (by kernel_rfl) (by kernel_rfl)
theorem b18 : (Go.Proofs.Tryd.f18).body.map strip = some (sc_Again 3 43 22 49 37 40 41 42) := by kernel_rfl
theorem cAg (a : Addr) : AgC PP X.U8 (some 3) fs 0 5 (GlE a) 18 :=
  again_ok (I := rids) (M := M) (gb := 0) (m := 5) (G := G0) (Gl := GlE a) (err := errV a) (by kernel_rfl) (by kernel_rfl) (by kernel_rfl) (by kernel_rfl) (by decide) ⟨_, _, rfl⟩ ok37 cNP ok40 (fun w b cs E hc hs n => setV_ok (by kernel_rfl) (by kernel_rfl) Go.Proofs.Tryd.func40 b40 (by kernel_rfl) (by kernel_rfl) w b cs E hc hs n) ok41 (fun w x y Q h => readFromW_ok ok85 Go.Proofs.Tryd.func41 b41 (by kernel_rfl) (by kernel_rfl) w x y Q h) (fun B w0 h hg => cR a B w0 h hg) ok42 (fun w b ver ts u hb hc h0 hh ht hl => appendTo_calls ka Go.Proofs.Tryd.func42 b42 (by kernel_rfl) (by kernel_rfl) w b 0 ver ts u hb hc h0 hh ht hl) (by decide +kernel) (by decide) (by kernel_rfl) (by kernel_rfl) Go.Proofs.Tryd.func18 b18 (by kernel_rfl) (by kernel_rfl) (by kernel_rfl)
theorem okv : ∀ v : Nat, v ≤ 5 → okFsR v (flexAt (some 3) v) fs = true := by decide +kernel
theorem b4 : (Go.Proofs.Tryd.f4).body.map strip = some (sc_LawCut X.T 4 X.I X.Bs 33 14 15 17 12 16 18) := by kernel_rfl
theorem law (a : Addr) (w : World) (n at_ : Nat) (hn : n < 256) (hat : at_ < 65536) (t : Tree) (tv : Value) (ht : TV G0 w (· < w.heap.size) t tv) (hgb : 0 < w.heap.size) (hgl : ∀ w', Below w.heap.size w w' → GlE a w') (hk : KAll t) (hlim : ∀ v : Nat, v ≤ 5 → (wMsg v (flexAt (some 3) v) fs t.l t.u).length ≤ lim) : Calls PP 4 #[.int .u8 (n : Int), tv, .int .u16 (at_ : Int)] w fun e w' => e = .returned (.bool true) ∧ Below w.heap.size w w' :=
  lawCut_ok (G := G0) hX hm (by kernel_rfl) (m := 5) (Gl := GlE a) (by decide) fs (3) (some 3) (fun v => by simp [flexAt]) ok14 cFit ok15 cMax ok17 cSp ok12 cVer ok16 (cWr fs (by decide +kernel) (by decide +kernel)) (cAg a) Go.Proofs.Tryd.func4 b4 (by kernel_rfl) (by kernel_rfl) w n at_ hn hat t tv ht hgb hgl (fun v hv => okv v hv) (fun v _ => kAll_fs v fs t.l hk.l) hk.u hlim
def flex : Option Int := (some 3)
def mx : Nat := 5
end Go.Proofs.YtgcocbggoielkaaDoor.K.CutEndTxnResponse

