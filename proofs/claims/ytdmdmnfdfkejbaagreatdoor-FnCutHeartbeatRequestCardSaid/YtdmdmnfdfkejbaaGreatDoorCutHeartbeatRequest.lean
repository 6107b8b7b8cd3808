/- CutHeartbeatRequest: what the law on it computes. No condition. -/
import Derived.Test.YtdmdmnfdfkejbaaGreatDoorB1
import Derived.Test.YtdmdmnfdfkejbaaGreatDoorQA
import Derived.Test.YtdmdmnfdfkejbaaGreatDoorQR
import Derived.Test.YtdmdmnfdfkejbaaGreatDoorQS
namespace Go.Proofs.YtdmdmnfdfkejbaaGreatDoor.K.CutHeartbeatRequest
open Go Go.RowKit Go.Proofs Go.Proofs.YtdmdmnfdfkejbaaGreatDoor.T Go.Proofs.YtdmdmnfdfkejbaaGreatDoor.K
set_option linter.unusedVariables false
set_option linter.unusedSimpArgs false
def fs : Fs := (.cons ⟨0, -1, -1, 0, 1, 1, 9, false⟩ (.prim .str) (.cons ⟨0, -1, -1, 0, 2, 2, 21, false⟩ (.prim .i32) (.cons ⟨0, -1, -1, 0, 3, 3, 9, false⟩ (.prim .str) (.cons ⟨3, -1, 3, 0, 4, 4, 73, false⟩ (.prim .str) .nil))))
theorem b14 : (Go.Proofs.Tryz.f14).body.map strip = some (sc_bTop X.F X.Fs X.M fs (4) []) := by kernel_rfl
theorem ok14 : FnOK PP 14 := fnOK_of Go.Proofs.Tryz.func14 b14 (by kernel_rfl)
theorem sfTop : SubFns PP fs [] := by
  simp [SubFns, hasSub, fs]
theorem cSp (w : World) : Calls PP 14 #[] w fun e w' => ∃ v, e = .returned (msgV v (4)) ∧ v.oneCell' = true ∧ FsV w' (fun k => w.heap.size ≤ k ∧ k < w'.heap.size) fs v ∧ Below w.heap.size w w' := bTop_ok hX fok uFs arrM mB fs (4) [] (by kernel_rfl) sfTop (by decide +kernel) Go.Proofs.Tryz.func14 b14 (by kernel_rfl) (by kernel_rfl) w
def sc87 : SC := .skip
theorem b87 : (Go.Proofs.Tryz.f87).body.map strip = some (sc87) := by kernel_rfl
theorem d87 : DefAt PP 87 6 [] := defAt_ok (N := 2) Go.Proofs.Tryz.func87 b87 (by kernel_rfl) (by kernel_rfl) (by decide) (by kernel_rfl) (by kernel_rfl)
theorem dfs : DefFs PP fs := ⟨trivial, ⟨trivial, ⟨trivial, ⟨trivial, trivial⟩⟩⟩⟩
noncomputable abbrev zc : Array Value := zcOf PP 78
noncomputable def cs : Array Value := dSetAll 0 [] zc
theorem defFn : DefFn PP 87 78 zc cs := ⟨d87.1, fun w b hc => d87.2 w b 0 zc 78 hc (by decide +kernel)⟩
theorem b40 : (Go.Proofs.Tryz.f40).body.map strip = some (sc_NewPtr 78 87) := by kernel_rfl
theorem ok40 : FnOK PP 40 := fnOK_of Go.Proofs.Tryz.func40 b40 (by kernel_rfl)
theorem cNP (w : World) : Calls PP 40 #[] w fun e w' => ∃ b, e = .returned (.pointer (some ⟨b, 0, none⟩)) ∧ w.heap.size ≤ b ∧ w'.heap[b]? = some (.cells cs 78 (0, 0)) ∧ Below w.heap.size w w' := newPtr_ok (zc_of (by kernel_rfl)) defFn Go.Proofs.Tryz.func40 b40 (by kernel_rfl) (by kernel_rfl) w
theorem b41 : (Go.Proofs.Tryz.f41).body.map strip = some (sc_MaxV 4) := by kernel_rfl
theorem ok41 : FnOK PP 41 := fnOK_of Go.Proofs.Tryz.func41 b41 (by kernel_rfl)
theorem b12 : (Go.Proofs.Tryz.f12).body.map strip = some (sc_Max 40 41 42 3) := by kernel_rfl
theorem ok12 : FnOK PP 12 := fnOK_of Go.Proofs.Tryz.func12 b12 (by kernel_rfl)
theorem cMax (w : World) : Calls PP 12 #[] w fun e w' => e = .returned (.int .i64 ((4 : Nat) : Int)) ∧ Below w.heap.size w w' := max_ok (by kernel_rfl) (by kernel_rfl) (by decide) ok40 cNP ok41 (fun w v => maxV_ok Go.Proofs.Tryz.func41 b41 (by kernel_rfl) (by kernel_rfl) w v) Go.Proofs.Tryz.func12 b12 (by kernel_rfl) (by kernel_rfl) w
theorem b43 : (Go.Proofs.Tryz.f43).body.map strip = some (sc_SetV 78 42) := by kernel_rfl
theorem ok43 : FnOK PP 43 := fnOK_of Go.Proofs.Tryz.func43 b43 (by kernel_rfl)
theorem b45 : (Go.Proofs.Tryz.f45).body.map strip = some (aTop ids 78 11 (some 4) (some (5, 5)) fs) := by kernel_rfl
theorem ok45 : FnOK PP 45 := fnOK_of Go.Proofs.Tryz.func45 b45 (by kernel_rfl)
def M : RTop := { S := 78, size := 6, d := 87, t := 15, N := 74, flex := (some 4), tags := (some (5, 5)), fs := fs }
theorem b96 : (Go.Proofs.Tryz.f96).body.map strip = some (rTop rids 78 87 15 (some 4) (some (5, 5)) fs) := by kernel_rfl
theorem b44 : (Go.Proofs.Tryz.f44).body.map strip = some (sc_ReadFromW 96) := by kernel_rfl
theorem ok44 : FnOK PP 44 := fnOK_of Go.Proofs.Tryz.func44 b44 (by kernel_rfl)
theorem ok96 : FnOK PP 96 := fnOK_of Go.Proofs.Tryz.func96 b96 (by kernel_rfl)
theorem cR (a : Addr) (B : Nat) (w0 : World) (h : 0 < B) (hg : ∀ w', Below B w0 w' → GlE a w') : ReadC PP rids M B G0 (errV a) 96 w0 := readFrom_ok (kr a) (fun _ => trivial) hg h (by kernel_rfl) dfs d87 (by kernel_rfl) (by kernel_rfl) Go.Proofs.Tryz.func96 b96 (by kernel_rfl) (by kernel_rfl)
theorem b16 : (Go.Proofs.Tryz.f16).body.map strip = some (sc_Again 3 42 22 51 40 43 44 45) := by kernel_rfl
theorem cAg (a : Addr) : AgC PP X.U8 (some 4) fs 0 4 (GlE a) 16 :=
  again_ok (I := rids) (M := M) (gb := 0) (m := 4) (G := G0) (Gl := GlE a) (err := errV a) (by kernel_rfl) (by kernel_rfl) (by kernel_rfl) (by kernel_rfl) (by decide) ⟨_, _, rfl⟩ ok40 cNP ok43 (fun w b cs E hc hs n => setV_ok (by kernel_rfl) (by kernel_rfl) Go.Proofs.Tryz.func43 b43 (by kernel_rfl) (by kernel_rfl) w b cs E hc hs n) ok44 (fun w x y Q h => readFromW_ok ok96 Go.Proofs.Tryz.func44 b44 (by kernel_rfl) (by kernel_rfl) w x y Q h) (fun B w0 h hg => cR a B w0 h hg) ok45 (fun w b ver ts u hb hc h0 hh ht hl => appendTo_calls ka Go.Proofs.Tryz.func45 b45 (by kernel_rfl) (by kernel_rfl) w b 0 ver ts u hb hc h0 hh ht hl) (by decide +kernel) (by decide) (by kernel_rfl) (by kernel_rfl) Go.Proofs.Tryz.func16 b16 (by kernel_rfl) (by kernel_rfl) (by kernel_rfl)
theorem okv : ∀ v : Nat, v ≤ 4 → okFsR v (flexAt (some 4) v) fs = true := by decide +kernel
theorem b3 : (Go.Proofs.Tryz.f3).body.map strip = some (sc_LawCut X.T 4 X.I X.Bs 27 11 12 14 15 13 16) := by kernel_rfl
theorem law (a : Addr) (w : World) (n at_ : Nat) (hn : n < 256) (hat : at_ < 65536) (t : Tree) (tv : Value) (ht : TV G0 w (· < w.heap.size) t tv) (hgb : 0 < w.heap.size) (hgl : ∀ w', Below w.heap.size w w' → GlE a w') (hk : KAll t) (hlim : ∀ v : Nat, v ≤ 4 → (wMsg v (flexAt (some 4) v) fs t.l t.u).length ≤ lim) : Calls PP 3 #[.int .u8 (n : Int), tv, .int .u16 (at_ : Int)] w fun e w' => e = .returned (.bool true) ∧ Below w.heap.size w w' :=
  lawCut_ok (G := G0) hX hm (by kernel_rfl) (m := 4) (Gl := GlE a) (by decide) fs (4) (some 4) (fun v => by simp [flexAt]) ok11 cFit ok12 cMax ok14 cSp ok15 cVer ok13 (cWr fs (by decide +kernel) (by decide +kernel)) (cAg a) Go.Proofs.Tryz.func3 b3 (by kernel_rfl) (by kernel_rfl) w n at_ hn hat t tv ht hgb hgl (fun v hv => okv v hv) (fun v _ => kAll_fs v fs t.l hk.l) hk.u hlim
def flex : Option Int := (some 4)
def mx : Nat := 4
end Go.Proofs.YtdmdmnfdfkejbaaGreatDoor.K.CutHeartbeatRequest

