/- AgainUpdateFeaturesRequest: what the law on it computes. No condition. -/
import Derived.Test.YtdmdmnfdfkejbaaGreatDoorB0
import Derived.Test.YtdmdmnfdfkejbaaGreatDoorQA
import Derived.Test.YtdmdmnfdfkejbaaGreatDoorQR
import Derived.Test.YtdmdmnfdfkejbaaGreatDoorQS
namespace Go.Proofs.YtdmdmnfdfkejbaaGreatDoor.K.AgainUpdateFeaturesRequest
open Go Go.RowKit Go.Proofs Go.Proofs.YtdmdmnfdfkejbaaGreatDoor.T Go.Proofs.YtdmdmnfdfkejbaaGreatDoor.K
set_option linter.unusedVariables false
set_option linter.unusedSimpArgs false
def fs64 : Fs := (.cons ⟨0, -1, -1, 0, 0, 0, 9, false⟩ (.prim .str) (.cons ⟨0, -1, -1, 0, 1, 1, 42, false⟩ (.prim .i16) (.cons ⟨0, 0, -1, 0, 2, 2, 4, false⟩ (.prim .bool) (.cons ⟨1, -1, -1, 0, 3, 3, 94, false⟩ (.prim .i8) .nil))))
theorem b64 : (Go.Proofs.Tryz.f64).body.map strip = some (sc_bSub X.F X.Fs fs64 []) := by kernel_rfl
theorem ok64 : FnOK PP 64 := fnOK_of Go.Proofs.Tryz.func64 b64 (by kernel_rfl)
theorem sf64 : SubFns PP fs64 [] := by
  simp [SubFns, hasSub, fs64]
theorem c64 (w : World) : Calls PP 64 #[] w fun e w' => ∃ v, e = .returned v ∧ v.oneCell' = true ∧ FsV w' (fun k => w.heap.size ≤ k ∧ k < w'.heap.size) fs64 v ∧ Below w.heap.size w w' := bSub_ok hX fok uFs fs64 [] (by kernel_rfl) sf64 (by decide +kernel) Go.Proofs.Tryz.func64 b64 (by kernel_rfl) (by kernel_rfl) w
def fs : Fs := (.cons ⟨0, -1, -1, 60000, 1, 1, 21, false⟩ (.prim .i32) (.cons ⟨0, -1, -1, 0, 2, 2, 107, false⟩ (.list 107 112 5 (.struct 112 5 155 (some (4, 4)) (.cons ⟨0, -1, -1, 0, 0, 0, 9, false⟩ (.prim .str) (.cons ⟨0, -1, -1, 0, 1, 1, 42, false⟩ (.prim .i16) (.cons ⟨0, 0, -1, 0, 2, 2, 4, false⟩ (.prim .bool) (.cons ⟨1, -1, -1, 0, 3, 3, 94, false⟩ (.prim .i8) .nil)))))) (.cons ⟨1, -1, -1, 0, 3, 3, 4, false⟩ (.prim .bool) .nil)))
theorem b28 : (Go.Proofs.Tryz.f28).body.map strip = some (sc_bTop X.F X.Fs X.M fs (0) [64]) := by kernel_rfl
theorem ok28 : FnOK PP 28 := fnOK_of Go.Proofs.Tryz.func28 b28 (by kernel_rfl)
theorem sfTop : SubFns PP fs [64] := by
  simp only [SubFns, hasSub, Bool.false_eq_true, if_false, if_true, List.headD_cons, List.tail_cons, fs]
  exact ⟨⟨ok64, fun w => (c64 w).mono fun e w' ⟨v, q1, q2, q3, q4⟩ => ⟨v, q1, q2, by simp only [SubV]; exact q3, q4⟩⟩, trivial⟩
theorem cSp (w : World) : Calls PP 28 #[] w fun e w' => ∃ v, e = .returned (msgV v (0)) ∧ v.oneCell' = true ∧ FsV w' (fun k => w.heap.size ≤ k ∧ k < w'.heap.size) fs v ∧ Below w.heap.size w w' := bTop_ok hX fok uFs arrM mB fs (0) [64] (by kernel_rfl) sfTop (by decide +kernel) Go.Proofs.Tryz.func28 b28 (by kernel_rfl) (by kernel_rfl) w
def sc155 : SC := .skip
theorem b155 : (Go.Proofs.Tryz.f155).body.map strip = some (sc155) := by kernel_rfl
theorem d155 : DefAt PP 155 5 [] := defAt_ok (N := 2) Go.Proofs.Tryz.func155 b155 (by kernel_rfl) (by kernel_rfl) (by decide) (by kernel_rfl) (by kernel_rfl)
def sc114 : SC := .reg [mv 2 0, nilc 3 2, fa 4 109 3 1, ⟨none, .store 21 (.tmp 4) (.const (.int .i32 60000)), none⟩]
theorem b114 : (Go.Proofs.Tryz.f114).body.map strip = some (sc114) := by kernel_rfl
theorem d114 : DefAt PP 114 5 [(1, (.int .i32 60000))] := defAt_ok (N := 5) Go.Proofs.Tryz.func114 b114 (by kernel_rfl) (by kernel_rfl) (by decide) (by kernel_rfl) (by kernel_rfl)
theorem dfs : DefFs PP fs := ⟨trivial, ⟨⟨⟨_, d155, (by kernel_rfl), (by kernel_rfl)⟩, ⟨trivial, ⟨trivial, ⟨trivial, ⟨trivial, trivial⟩⟩⟩⟩⟩, ⟨trivial, trivial⟩⟩⟩
noncomputable abbrev zc : Array Value := zcOf PP 109
noncomputable def cs : Array Value := dSetAll 0 [(1, (.int .i32 60000))] zc
theorem defFn : DefFn PP 114 109 zc cs := ⟨d114.1, fun w b hc => d114.2 w b 0 zc 109 hc (by decide +kernel)⟩
theorem b62 : (Go.Proofs.Tryz.f62).body.map strip = some (sc_NewPtr 109 114) := by kernel_rfl
theorem ok62 : FnOK PP 62 := fnOK_of Go.Proofs.Tryz.func62 b62 (by kernel_rfl)
theorem cNP (w : World) : Calls PP 62 #[] w fun e w' => ∃ b, e = .returned (.pointer (some ⟨b, 0, none⟩)) ∧ w.heap.size ≤ b ∧ w'.heap[b]? = some (.cells cs 109 (0, 0)) ∧ Below w.heap.size w w' := newPtr_ok (zc_of (by kernel_rfl)) defFn Go.Proofs.Tryz.func62 b62 (by kernel_rfl) (by kernel_rfl) w
theorem b63 : (Go.Proofs.Tryz.f63).body.map strip = some (sc_MaxV 2) := by kernel_rfl
theorem ok63 : FnOK PP 63 := fnOK_of Go.Proofs.Tryz.func63 b63 (by kernel_rfl)
theorem b27 : (Go.Proofs.Tryz.f27).body.map strip = some (sc_Max 62 63 42 3) := by kernel_rfl
theorem ok27 : FnOK PP 27 := fnOK_of Go.Proofs.Tryz.func27 b27 (by kernel_rfl)
theorem cMax (w : World) : Calls PP 27 #[] w fun e w' => e = .returned (.int .i64 ((2 : Nat) : Int)) ∧ Below w.heap.size w w' := max_ok (by kernel_rfl) (by kernel_rfl) (by decide) ok62 cNP ok63 (fun w v => maxV_ok Go.Proofs.Tryz.func63 b63 (by kernel_rfl) (by kernel_rfl) w v) Go.Proofs.Tryz.func27 b27 (by kernel_rfl) (by kernel_rfl) w
theorem b65 : (Go.Proofs.Tryz.f65).body.map strip = some (sc_SetV 109 42) := by kernel_rfl
theorem ok65 : FnOK PP 65 := fnOK_of Go.Proofs.Tryz.func65 b65 (by kernel_rfl)
theorem b67 : (Go.Proofs.Tryz.f67).body.map strip = some (aTop ids 109 16 (some 0) (some (4, 4)) fs) := by kernel_rfl
theorem ok67 : FnOK PP 67 := fnOK_of Go.Proofs.Tryz.func67 b67 (by kernel_rfl)
def M : RTop := { S := 109, size := 5, d := 114, t := 23, N := 127, flex := (some 0), tags := (some (4, 4)), fs := fs }
theorem b115 : (Go.Proofs.Tryz.f115).body.map strip = some (rTop rids 109 114 23 (some 0) (some (4, 4)) fs) := by kernel_rfl
theorem b66 : (Go.Proofs.Tryz.f66).body.map strip = some (sc_ReadFromW 115) := by kernel_rfl
theorem ok66 : FnOK PP 66 := fnOK_of Go.Proofs.Tryz.func66 b66 (by kernel_rfl)
theorem ok115 : FnOK PP 115 := fnOK_of Go.Proofs.Tryz.func115 b115 (by kernel_rfl)
theorem cR (a : Addr) (B : Nat) (w0 : World) (h : 0 < B) (hg : ∀ w', Below B w0 w' → GlE a w') : ReadC PP rids M B G0 (errV a) 115 w0 := readFrom_ok (kr a) (fun _ => trivial) hg h (by kernel_rfl) dfs d114 (by kernel_rfl) (by kernel_rfl) Go.Proofs.Tryz.func115 b115 (by kernel_rfl) (by kernel_rfl)
theorem b29 : (Go.Proofs.Tryz.f29).body.map strip = some (sc_Again 3 42 22 51 62 65 66 67) := by kernel_rfl
theorem cAg (a : Addr) : AgC PP X.U8 (some 0) fs 0 2 (GlE a) 29 :=
  again_ok (I := rids) (M := M) (gb := 0) (m := 2) (G := G0) (Gl := GlE a) (err := errV a) (by kernel_rfl) (by kernel_rfl) (by kernel_rfl) (by kernel_rfl) (by decide) ⟨_, _, rfl⟩ ok62 cNP ok65 (fun w b cs E hc hs n => setV_ok (by kernel_rfl) (by kernel_rfl) Go.Proofs.Tryz.func65 b65 (by kernel_rfl) (by kernel_rfl) w b cs E hc hs n) ok66 (fun w x y Q h => readFromW_ok ok115 Go.Proofs.Tryz.func66 b66 (by kernel_rfl) (by kernel_rfl) w x y Q h) (fun B w0 h hg => cR a B w0 h hg) ok67 (fun w b ver ts u hb hc h0 hh ht hl => appendTo_calls ka Go.Proofs.Tryz.func67 b67 (by kernel_rfl) (by kernel_rfl) w b 0 ver ts u hb hc h0 hh ht hl) (by decide +kernel) (by decide) (by kernel_rfl) (by kernel_rfl) Go.Proofs.Tryz.func29 b29 (by kernel_rfl) (by kernel_rfl) (by kernel_rfl)
theorem okv : ∀ v : Nat, v ≤ 2 → okFsR v (flexAt (some 0) v) fs = true := by decide +kernel
theorem b7 : (Go.Proofs.Tryz.f7).body.map strip = some (sc_LawAgain X.T 4 X.I 11 27 28 15 13 29 20) := by kernel_rfl
theorem law (a : Addr) (w : World) (n : Nat) (hn : n < 256) (t : Tree) (tv : Value) (ht : TV G0 w (· < w.heap.size) t tv) (hgb : 0 < w.heap.size) (hgl : ∀ w', Below w.heap.size w w' → GlE a w') (hk : KAll t) (hlim : ∀ v : Nat, v ≤ 2 → (wMsg v (flexAt (some 0) v) fs t.l t.u).length ≤ lim) : Calls PP 7 #[.int .u8 (n : Int), tv] w fun e w' => e = .returned (.bool true) ∧ Below w.heap.size w w' :=
  lawAgain_ok (G := G0) hX hm (m := 2) (Gl := GlE a) (by decide) fs (0) (some 0) (fun v => by simp [flexAt]) ok11 cFit ok27 cMax ok28 cSp ok15 cVer ok13 (cWr fs (by decide +kernel) (by decide +kernel)) (cAg a) ok20 cSame Go.Proofs.Tryz.func7 b7 (by kernel_rfl) (by kernel_rfl) w n hn t tv ht hgb hgl (fun v hv => okv v hv) (fun v _ => kAll_fs v fs t.l hk.l) hk.u hlim
def flex : Option Int := (some 0)
def mx : Nat := 2
end Go.Proofs.YtdmdmnfdfkejbaaGreatDoor.K.AgainUpdateFeaturesRequest

