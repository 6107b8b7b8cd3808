/- AgainFindCoordinatorRequest: what the law on it computes. No condition. -/
import Derived.Test.YtdmdmnfdfkejbaaGreatDoorB0
import Derived.Test.YtdmdmnfdfkejbaaGreatDoorQA
import Derived.Test.YtdmdmnfdfkejbaaGreatDoorQR
import Derived.Test.YtdmdmnfdfkejbaaGreatDoorQS
namespace Go.Proofs.YtdmdmnfdfkejbaaGreatDoor.K.AgainFindCoordinatorRequest
open Go Go.RowKit Go.Proofs Go.Proofs.YtdmdmnfdfkejbaaGreatDoor.T Go.Proofs.YtdmdmnfdfkejbaaGreatDoor.K
set_option linter.unusedVariables false
set_option linter.unusedSimpArgs false
def fs : Fs := (.cons ⟨0, 3, -1, 0, 1, 1, 9, false⟩ (.prim .str) (.cons ⟨1, -1, -1, 0, 2, 2, 94, false⟩ (.prim .i8) (.cons ⟨4, -1, -1, 0, 3, 3, 95, false⟩ (.list 95 9 1 (.prim .str)) .nil)))
theorem b22 : (Go.Proofs.Tryz.f22).body.map strip = some (sc_bTop X.F X.Fs X.M fs (3) []) := by kernel_rfl
theorem ok22 : FnOK PP 22 := fnOK_of Go.Proofs.Tryz.func22 b22 (by kernel_rfl)
theorem sfTop : SubFns PP fs [] := by
  simp [SubFns, hasSub, fs]
theorem cSp (w : World) : Calls PP 22 #[] w fun e w' => ∃ v, e = .returned (msgV v (3)) ∧ v.oneCell' = true ∧ FsV w' (fun k => w.heap.size ≤ k ∧ k < w'.heap.size) fs v ∧ Below w.heap.size w w' := bTop_ok hX fok uFs arrM mB fs (3) [] (by kernel_rfl) sfTop (by decide +kernel) Go.Proofs.Tryz.func22 b22 (by kernel_rfl) (by kernel_rfl) w
def sc107 : SC := .skip
theorem b107 : (Go.Proofs.Tryz.f107).body.map strip = some (sc107) := by kernel_rfl
theorem d107 : DefAt PP 107 5 [] := defAt_ok (N := 2) Go.Proofs.Tryz.func107 b107 (by kernel_rfl) (by kernel_rfl) (by decide) (by kernel_rfl) (by kernel_rfl)
theorem dfs : DefFs PP fs := ⟨trivial, ⟨trivial, ⟨trivial, trivial⟩⟩⟩
noncomputable abbrev zc : Array Value := zcOf PP 97
noncomputable def cs : Array Value := dSetAll 0 [] zc
theorem defFn : DefFn PP 107 97 zc cs := ⟨d107.1, fun w b hc => d107.2 w b 0 zc 97 hc (by decide +kernel)⟩
theorem b51 : (Go.Proofs.Tryz.f51).body.map strip = some (sc_NewPtr 97 107) := by kernel_rfl
theorem ok51 : FnOK PP 51 := fnOK_of Go.Proofs.Tryz.func51 b51 (by kernel_rfl)
theorem cNP (w : World) : Calls PP 51 #[] w fun e w' => ∃ b, e = .returned (.pointer (some ⟨b, 0, none⟩)) ∧ w.heap.size ≤ b ∧ w'.heap[b]? = some (.cells cs 97 (0, 0)) ∧ Below w.heap.size w w' := newPtr_ok (zc_of (by kernel_rfl)) defFn Go.Proofs.Tryz.func51 b51 (by kernel_rfl) (by kernel_rfl) w
theorem b52 : (Go.Proofs.Tryz.f52).body.map strip = some (sc_MaxV 6) := by kernel_rfl
theorem ok52 : FnOK PP 52 := fnOK_of Go.Proofs.Tryz.func52 b52 (by kernel_rfl)
theorem b21 : (Go.Proofs.Tryz.f21).body.map strip = some (sc_Max 51 52 42 3) := by kernel_rfl
theorem ok21 : FnOK PP 21 := fnOK_of Go.Proofs.Tryz.func21 b21 (by kernel_rfl)
theorem cMax (w : World) : Calls PP 21 #[] w fun e w' => e = .returned (.int .i64 ((6 : Nat) : Int)) ∧ Below w.heap.size w w' := max_ok (by kernel_rfl) (by kernel_rfl) (by decide) ok51 cNP ok52 (fun w v => maxV_ok Go.Proofs.Tryz.func52 b52 (by kernel_rfl) (by kernel_rfl) w v) Go.Proofs.Tryz.func21 b21 (by kernel_rfl) (by kernel_rfl) w
theorem b53 : (Go.Proofs.Tryz.f53).body.map strip = some (sc_SetV 97 42) := by kernel_rfl
theorem ok53 : FnOK PP 53 := fnOK_of Go.Proofs.Tryz.func53 b53 (by kernel_rfl)
theorem b55 : (Go.Proofs.Tryz.f55).body.map strip = some (aTop ids 97 12 (some 3) (some (4, 4)) fs) := by kernel_rfl
theorem ok55 : FnOK PP 55 := fnOK_of Go.Proofs.Tryz.func55 b55 (by kernel_rfl)
def M : RTop := { S := 97, size := 5, d := 107, t := 18, N := 102, flex := (some 3), tags := (some (4, 4)), fs := fs }
theorem b108 : (Go.Proofs.Tryz.f108).body.map strip = some (rTop rids 97 107 18 (some 3) (some (4, 4)) fs) := by kernel_rfl
theorem b54 : (Go.Proofs.Tryz.f54).body.map strip = some (sc_ReadFromW 108) := by kernel_rfl
theorem ok54 : FnOK PP 54 := fnOK_of Go.Proofs.Tryz.func54 b54 (by kernel_rfl)
theorem ok108 : FnOK PP 108 := fnOK_of Go.Proofs.Tryz.func108 b108 (by kernel_rfl)
theorem cR (a : Addr) (B : Nat) (w0 : World) (h : 0 < B) (hg : ∀ w', Below B w0 w' → GlE a w') : ReadC PP rids M B G0 (errV a) 108 w0 := readFrom_ok (kr a) (fun _ => trivial) hg h (by kernel_rfl) dfs d107 (by kernel_rfl) (by kernel_rfl) Go.Proofs.Tryz.func108 b108 (by kernel_rfl) (by kernel_rfl)
theorem b23 : (Go.Proofs.Tryz.f23).body.map strip = some (sc_Again 3 42 22 51 51 53 54 55) := by kernel_rfl
theorem cAg (a : Addr) : AgC PP X.U8 (some 3) fs 0 6 (GlE a) 23 :=
  again_ok (I := rids) (M := M) (gb := 0) (m := 6) (G := G0) (Gl := GlE a) (err := errV a) (by kernel_rfl) (by kernel_rfl) (by kernel_rfl) (by kernel_rfl) (by decide) ⟨_, _, rfl⟩ ok51 cNP ok53 (fun w b cs E hc hs n => setV_ok (by kernel_rfl) (by kernel_rfl) Go.Proofs.Tryz.func53 b53 (by kernel_rfl) (by kernel_rfl) w b cs E hc hs n) ok54 (fun w x y Q h => readFromW_ok ok108 Go.Proofs.Tryz.func54 b54 (by kernel_rfl) (by kernel_rfl) w x y Q h) (fun B w0 h hg => cR a B w0 h hg) ok55 (fun w b ver ts u hb hc h0 hh ht hl => appendTo_calls ka Go.Proofs.Tryz.func55 b55 (by kernel_rfl) (by kernel_rfl) w b 0 ver ts u hb hc h0 hh ht hl) (by decide +kernel) (by decide) (by kernel_rfl) (by kernel_rfl) Go.Proofs.Tryz.func23 b23 (by kernel_rfl) (by kernel_rfl) (by kernel_rfl)
theorem okv : ∀ v : Nat, v ≤ 6 → okFsR v (flexAt (some 3) v) fs = true := by decide +kernel
theorem b5 : (Go.Proofs.Tryz.f5).body.map strip = some (sc_LawAgain X.T 4 X.I 11 21 22 15 13 23 20) := by kernel_rfl
theorem law (a : Addr) (w : World) (n : Nat) (hn : n < 256) (t : Tree) (tv : Value) (ht : TV G0 w (· < w.heap.size) t tv) (hgb : 0 < w.heap.size) (hgl : ∀ w', Below w.heap.size w w' → GlE a w') (hk : KAll t) (hlim : ∀ v : Nat, v ≤ 6 → (wMsg v (flexAt (some 3) v) fs t.l t.u).length ≤ lim) : Calls PP 5 #[.int .u8 (n : Int), tv] w fun e w' => e = .returned (.bool true) ∧ Below w.heap.size w w' :=
  lawAgain_ok (G := G0) hX hm (m := 6) (Gl := GlE a) (by decide) fs (3) (some 3) (fun v => by simp [flexAt]) ok11 cFit ok21 cMax ok22 cSp ok15 cVer ok13 (cWr fs (by decide +kernel) (by decide +kernel)) (cAg a) ok20 cSame Go.Proofs.Tryz.func5 b5 (by kernel_rfl) (by kernel_rfl) w n hn t tv ht hgb hgl (fun v hv => okv v hv) (fun v _ => kAll_fs v fs t.l hk.l) hk.u hlim
def flex : Option Int := (some 3)
def mx : Nat := 6
end Go.Proofs.YtdmdmnfdfkejbaaGreatDoor.K.AgainFindCoordinatorRequest

