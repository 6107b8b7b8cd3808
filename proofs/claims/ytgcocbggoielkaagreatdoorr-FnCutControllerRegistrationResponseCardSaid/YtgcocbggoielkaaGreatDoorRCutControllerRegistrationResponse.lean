/- CutControllerRegistrationResponse: what the law on it computes. No condition. -/
import Derived.Test.YtgcocbggoielkaaGreatDoorRB1
import Derived.Test.YtgcocbggoielkaaGreatDoorRQA
import Derived.Test.YtgcocbggoielkaaGreatDoorRQR
import Derived.Test.YtgcocbggoielkaaGreatDoorRQS
namespace Go.Proofs.YtgcocbggoielkaaGreatDoorR.K.CutControllerRegistrationResponse
open Go Go.RowKit Go.Proofs Go.Proofs.YtgcocbggoielkaaGreatDoorR.T Go.Proofs.YtgcocbggoielkaaGreatDoorR.K
set_option linter.unusedVariables false
set_option linter.unusedSimpArgs false
def fs : Fs := (.cons ⟨0, -1, -1, 0, 1, 1, 21, false⟩ (.prim .i32) (.cons ⟨0, -1, -1, 0, 2, 2, 42, false⟩ (.prim .i16) (.cons ⟨0, -1, 0, 0, 3, 3, 65, false⟩ (.prim .str) .nil)))
theorem b18 : (Go.Proofs.Tryz.f18).body.map strip = some (sc_bTop X.F X.Fs X.M fs (0) []) := by kernel_rfl
theorem ok18 : FnOK PP 18 := fnOK_of Go.Proofs.Tryz.func18 b18 (by kernel_rfl)
theorem sfTop : SubFns PP fs [] := by
  simp [SubFns, hasSub, fs]
theorem cSp (w : World) : Calls PP 18 #[] w fun e w' => ∃ v, e = .returned (msgV v (0)) ∧ v.oneCell' = true ∧ FsV w' (fun k => w.heap.size ≤ k ∧ k < w'.heap.size) fs v ∧ Below w.heap.size w w' := bTop_ok hX fok uFs arrM mB fs (0) [] (by kernel_rfl) sfTop (by decide +kernel) Go.Proofs.Tryz.func18 b18 (by kernel_rfl) (by kernel_rfl) w
def sc82 : SC := .skip
theorem b82 : (Go.Proofs.Tryz.f82).body.map strip = some (sc82) := by kernel_rfl
theorem d82 : DefAt PP 82 5 [] := defAt_ok (N := 2) Go.Proofs.Tryz.func82 b82 (by kernel_rfl) (by kernel_rfl) (by decide) (by kernel_rfl) (by kernel_rfl)
theorem dfs : DefFs PP fs := ⟨trivial, ⟨trivial, ⟨trivial, trivial⟩⟩⟩
noncomputable abbrev zc : Array Value := zcOf PP 134
noncomputable def cs : Array Value := dSetAll 0 [] zc
theorem defFn : DefFn PP 82 134 zc cs := ⟨d82.1, fun w b hc => d82.2 w b 0 zc 134 hc (by decide +kernel)⟩
theorem b39 : (Go.Proofs.Tryz.f39).body.map strip = some (sc_NewPtr 134 82) := by kernel_rfl
theorem ok39 : FnOK PP 39 := fnOK_of Go.Proofs.Tryz.func39 b39 (by kernel_rfl)
theorem cNP (w : World) : Calls PP 39 #[] w fun e w' => ∃ b, e = .returned (.pointer (some ⟨b, 0, none⟩)) ∧ w.heap.size ≤ b ∧ w'.heap[b]? = some (.cells cs 134 (0, 0)) ∧ Below w.heap.size w w' := newPtr_ok (zc_of (by kernel_rfl)) defFn Go.Proofs.Tryz.func39 b39 (by kernel_rfl) (by kernel_rfl) w
theorem b40 : (Go.Proofs.Tryz.f40).body.map strip = some (sc_MaxV 0) := by kernel_rfl
theorem ok40 : FnOK PP 40 := fnOK_of Go.Proofs.Tryz.func40 b40 (by kernel_rfl)
theorem b17 : (Go.Proofs.Tryz.f17).body.map strip = some (sc_Max 39 40 42 3) := by kernel_rfl
theorem ok17 : FnOK PP 17 := fnOK_of Go.Proofs.Tryz.func17 b17 (by kernel_rfl)
theorem cMax (w : World) : Calls PP 17 #[] w fun e w' => e = .returned (.int .i64 ((0 : Nat) : Int)) ∧ Below w.heap.size w w' := max_ok (by kernel_rfl) (by kernel_rfl) (by decide) ok39 cNP ok40 (fun w v => maxV_ok Go.Proofs.Tryz.func40 b40 (by kernel_rfl) (by kernel_rfl) w v) Go.Proofs.Tryz.func17 b17 (by kernel_rfl) (by kernel_rfl) w
theorem b41 : (Go.Proofs.Tryz.f41).body.map strip = some (sc_SetV 134 42) := by kernel_rfl
theorem ok41 : FnOK PP 41 := fnOK_of Go.Proofs.Tryz.func41 b41 (by kernel_rfl)
theorem b43 : (Go.Proofs.Tryz.f43).body.map strip = some (aTop ids 134 10 (some 0) (some (4, 4)) fs) := by kernel_rfl
theorem ok43 : FnOK PP 43 := fnOK_of Go.Proofs.Tryz.func43 b43 (by kernel_rfl)
def M : RTop := { S := 134, size := 5, d := 82, t := 14, N := 54, flex := (some 0), tags := (some (4, 4)), fs := fs }
theorem b83 : (Go.Proofs.Tryz.f83).body.map strip = some (rTop rids 134 82 14 (some 0) (some (4, 4)) fs) := by kernel_rfl
theorem b42 : (Go.Proofs.Tryz.f42).body.map strip = some (sc_ReadFromW 83) := by kernel_rfl
theorem ok42 : FnOK PP 42 := fnOK_of Go.Proofs.Tryz.func42 b42 (by kernel_rfl)
theorem ok83 : FnOK PP 83 := fnOK_of Go.Proofs.Tryz.func83 b83 (by kernel_rfl)
theorem cR (a : Addr) (B : Nat) (w0 : World) (h : 0 < B) (hg : ∀ w', Below B w0 w' → GlE a w') : ReadC PP rids M B G0 (errV a) 83 w0 := readFrom_ok (kr a) (fun _ => trivial) hg h (by kernel_rfl) dfs d82 (by kernel_rfl) (by kernel_rfl) Go.Proofs.Tryz.func83 b83 (by kernel_rfl) (by kernel_rfl)
theorem b19 : (Go.Proofs.Tryz.f19).body.map strip = some (sc_Again 3 42 22 52 39 41 42 43) := by kernel_rfl
theorem cAg (a : Addr) : AgC PP X.U8 (some 0) fs 0 0 (GlE a) 19 :=
  again_ok (I := rids) (M := M) (gb := 0) (m := 0) (G := G0) (Gl := GlE a) (err := errV a) (by kernel_rfl) (by kernel_rfl) (by kernel_rfl) (by kernel_rfl) (by decide) ⟨_, _, rfl⟩ ok39 cNP ok41 (fun w b cs E hc hs n => setV_ok (by kernel_rfl) (by kernel_rfl) Go.Proofs.Tryz.func41 b41 (by kernel_rfl) (by kernel_rfl) w b cs E hc hs n) ok42 (fun w x y Q h => readFromW_ok ok83 Go.Proofs.Tryz.func42 b42 (by kernel_rfl) (by kernel_rfl) w x y Q h) (fun B w0 h hg => cR a B w0 h hg) ok43 (fun w b ver ts u hb hc h0 hh ht hl => appendTo_calls ka Go.Proofs.Tryz.func43 b43 (by kernel_rfl) (by kernel_rfl) w b 0 ver ts u hb hc h0 hh ht hl) (by decide +kernel) (by decide) (by kernel_rfl) (by kernel_rfl) Go.Proofs.Tryz.func19 b19 (by kernel_rfl) (by kernel_rfl) (by kernel_rfl)
theorem okv : ∀ v : Nat, v ≤ 0 → okFsR v (flexAt (some 0) v) fs = true := by decide +kernel
theorem b5 : (Go.Proofs.Tryz.f5).body.map strip = some (sc_LawCut X.T 4 X.I X.Bs 27 7 17 18 11 9 19) := by kernel_rfl
theorem law (a : Addr) (w : World) (n at_ : Nat) (hn : n < 256) (hat : at_ < 65536) (t : Tree) (tv : Value) (ht : TV G0 w (· < w.heap.size) t tv) (hgb : 0 < w.heap.size) (hgl : ∀ w', Below w.heap.size w w' → GlE a w') (hk : KAll t) (hlim : ∀ v : Nat, v ≤ 0 → (wMsg v (flexAt (some 0) v) fs t.l t.u).length ≤ lim) : Calls PP 5 #[.int .u8 (n : Int), tv, .int .u16 (at_ : Int)] w fun e w' => e = .returned (.bool true) ∧ Below w.heap.size w w' :=
  lawCut_ok (G := G0) hX hm (by kernel_rfl) (m := 0) (Gl := GlE a) (by decide) fs (0) (some 0) (fun v => by simp [flexAt]) ok7 cFit ok17 cMax ok18 cSp ok11 cVer ok9 (cWr fs (by decide +kernel) (by decide +kernel)) (cAg a) Go.Proofs.Tryz.func5 b5 (by kernel_rfl) (by kernel_rfl) w n at_ hn hat t tv ht hgb hgl (fun v hv => okv v hv) (fun v _ => kAll_fs v fs t.l hk.l) hk.u hlim
def flex : Option Int := (some 0)
def mx : Nat := 0
end Go.Proofs.YtgcocbggoielkaaGreatDoorR.K.CutControllerRegistrationResponse

