/- CutDescribeShareGroupOffsetsRequest: what the law on it computes. No condition. -/
import Derived.Test.YtdmdmnfdfkejbaaGreatDoorB1
import Derived.Test.YtdmdmnfdfkejbaaGreatDoorQA
import Derived.Test.YtdmdmnfdfkejbaaGreatDoorQR
import Derived.Test.YtdmdmnfdfkejbaaGreatDoorQS
namespace Go.Proofs.YtdmdmnfdfkejbaaGreatDoor.K.CutDescribeShareGroupOffsetsRequest
open Go Go.RowKit Go.Proofs Go.Proofs.YtdmdmnfdfkejbaaGreatDoor.T Go.Proofs.YtdmdmnfdfkejbaaGreatDoor.K
set_option linter.unusedVariables false
set_option linter.unusedSimpArgs false
def fs125 : Fs := (.cons ⟨0, -1, -1, 0, 0, 0, 9, false⟩ (.prim .str) (.cons ⟨0, -1, -1, 0, 1, 1, 104, false⟩ (.list 104 21 1 (.prim .i32)) .nil))
theorem b125 : (Go.Proofs.Tryz.f125).body.map strip = some (sc_bSub X.F X.Fs fs125 []) := by kernel_rfl
theorem ok125 : FnOK PP 125 := fnOK_of Go.Proofs.Tryz.func125 b125 (by kernel_rfl)
theorem sf125 : SubFns PP fs125 [] := by
  simp [SubFns, hasSub, fs125]
theorem c125 (w : World) : Calls PP 125 #[] w fun e w' => ∃ v, e = .returned v ∧ v.oneCell' = true ∧ FsV w' (fun k => w.heap.size ≤ k ∧ k < w'.heap.size) fs125 v ∧ Below w.heap.size w w' := bSub_ok hX fok uFs fs125 [] (by kernel_rfl) sf125 (by decide +kernel) Go.Proofs.Tryz.func125 b125 (by kernel_rfl) (by kernel_rfl) w
def fs82 : Fs := (.cons ⟨0, -1, -1, 0, 0, 0, 9, false⟩ (.prim .str) (.cons ⟨0, -1, 0, 0, 1, 1, 136, false⟩ (.list 136 141 3 (.struct 141 3 165 (some (2, 2)) (.cons ⟨0, -1, -1, 0, 0, 0, 9, false⟩ (.prim .str) (.cons ⟨0, -1, -1, 0, 1, 1, 104, false⟩ (.list 104 21 1 (.prim .i32)) .nil)))) .nil))
theorem b82 : (Go.Proofs.Tryz.f82).body.map strip = some (sc_bSub X.F X.Fs fs82 [125]) := by kernel_rfl
theorem ok82 : FnOK PP 82 := fnOK_of Go.Proofs.Tryz.func82 b82 (by kernel_rfl)
theorem sf82 : SubFns PP fs82 [125] := by
  simp only [SubFns, hasSub, Bool.false_eq_true, if_false, if_true, List.headD_cons, List.tail_cons, fs82]
  exact ⟨⟨ok125, fun w => (c125 w).mono fun e w' ⟨v, q1, q2, q3, q4⟩ => ⟨v, q1, q2, by simp only [SubV]; exact q3, q4⟩⟩, trivial⟩
theorem c82 (w : World) : Calls PP 82 #[] w fun e w' => ∃ v, e = .returned v ∧ v.oneCell' = true ∧ FsV w' (fun k => w.heap.size ≤ k ∧ k < w'.heap.size) fs82 v ∧ Below w.heap.size w w' := bSub_ok hX fok uFs fs82 [125] (by kernel_rfl) sf82 (by decide +kernel) Go.Proofs.Tryz.func82 b82 (by kernel_rfl) (by kernel_rfl) w
def fs : Fs := (.cons ⟨0, -1, -1, 0, 1, 1, 132, false⟩ (.list 132 138 3 (.struct 138 3 164 (some (2, 2)) (.cons ⟨0, -1, -1, 0, 0, 0, 9, false⟩ (.prim .str) (.cons ⟨0, -1, 0, 0, 1, 1, 136, false⟩ (.list 136 141 3 (.struct 141 3 165 (some (2, 2)) (.cons ⟨0, -1, -1, 0, 0, 0, 9, false⟩ (.prim .str) (.cons ⟨0, -1, -1, 0, 1, 1, 104, false⟩ (.list 104 21 1 (.prim .i32)) .nil)))) .nil)))) .nil)
theorem b37 : (Go.Proofs.Tryz.f37).body.map strip = some (sc_bTop X.F X.Fs X.M fs (0) [82]) := by kernel_rfl
theorem ok37 : FnOK PP 37 := fnOK_of Go.Proofs.Tryz.func37 b37 (by kernel_rfl)
theorem sfTop : SubFns PP fs [82] := by
  simp only [SubFns, hasSub, Bool.false_eq_true, if_false, if_true, List.headD_cons, List.tail_cons, fs]
  exact ⟨⟨ok82, fun w => (c82 w).mono fun e w' ⟨v, q1, q2, q3, q4⟩ => ⟨v, q1, q2, by simp only [SubV]; exact q3, q4⟩⟩, trivial⟩
theorem cSp (w : World) : Calls PP 37 #[] w fun e w' => ∃ v, e = .returned (msgV v (0)) ∧ v.oneCell' = true ∧ FsV w' (fun k => w.heap.size ≤ k ∧ k < w'.heap.size) fs v ∧ Below w.heap.size w w' := bTop_ok hX fok uFs arrM mB fs (0) [82] (by kernel_rfl) sfTop (by decide +kernel) Go.Proofs.Tryz.func37 b37 (by kernel_rfl) (by kernel_rfl) w
def sc164 : SC := .skip
theorem b164 : (Go.Proofs.Tryz.f164).body.map strip = some (sc164) := by kernel_rfl
theorem d164 : DefAt PP 164 3 [] := defAt_ok (N := 2) Go.Proofs.Tryz.func164 b164 (by kernel_rfl) (by kernel_rfl) (by decide) (by kernel_rfl) (by kernel_rfl)
def sc165 : SC := .skip
theorem b165 : (Go.Proofs.Tryz.f165).body.map strip = some (sc165) := by kernel_rfl
theorem d165 : DefAt PP 165 3 [] := defAt_ok (N := 2) Go.Proofs.Tryz.func165 b165 (by kernel_rfl) (by kernel_rfl) (by decide) (by kernel_rfl) (by kernel_rfl)
def sc124 : SC := .skip
theorem b124 : (Go.Proofs.Tryz.f124).body.map strip = some (sc124) := by kernel_rfl
theorem d124 : DefAt PP 124 3 [] := defAt_ok (N := 2) Go.Proofs.Tryz.func124 b124 (by kernel_rfl) (by kernel_rfl) (by decide) (by kernel_rfl) (by kernel_rfl)
theorem dfs : DefFs PP fs := ⟨⟨⟨_, d164, (by kernel_rfl), (by kernel_rfl)⟩, ⟨trivial, ⟨⟨⟨_, d165, (by kernel_rfl), (by kernel_rfl)⟩, ⟨trivial, ⟨trivial, trivial⟩⟩⟩, trivial⟩⟩⟩, trivial⟩
noncomputable abbrev zc : Array Value := zcOf PP 134
noncomputable def cs : Array Value := dSetAll 0 [] zc
theorem defFn : DefFn PP 124 134 zc cs := ⟨d124.1, fun w b hc => d124.2 w b 0 zc 134 hc (by decide +kernel)⟩
theorem b80 : (Go.Proofs.Tryz.f80).body.map strip = some (sc_NewPtr 134 124) := by kernel_rfl
theorem ok80 : FnOK PP 80 := fnOK_of Go.Proofs.Tryz.func80 b80 (by kernel_rfl)
theorem cNP (w : World) : Calls PP 80 #[] w fun e w' => ∃ b, e = .returned (.pointer (some ⟨b, 0, none⟩)) ∧ w.heap.size ≤ b ∧ w'.heap[b]? = some (.cells cs 134 (0, 0)) ∧ Below w.heap.size w w' := newPtr_ok (zc_of (by kernel_rfl)) defFn Go.Proofs.Tryz.func80 b80 (by kernel_rfl) (by kernel_rfl) w
theorem b81 : (Go.Proofs.Tryz.f81).body.map strip = some (sc_MaxV 1) := by kernel_rfl
theorem ok81 : FnOK PP 81 := fnOK_of Go.Proofs.Tryz.func81 b81 (by kernel_rfl)
theorem b36 : (Go.Proofs.Tryz.f36).body.map strip = some (sc_Max 80 81 42 3) := by kernel_rfl
theorem ok36 : FnOK PP 36 := fnOK_of Go.Proofs.Tryz.func36 b36 (by kernel_rfl)
theorem cMax (w : World) : Calls PP 36 #[] w fun e w' => e = .returned (.int .i64 ((1 : Nat) : Int)) ∧ Below w.heap.size w w' := max_ok (by kernel_rfl) (by kernel_rfl) (by decide) ok80 cNP ok81 (fun w v => maxV_ok Go.Proofs.Tryz.func81 b81 (by kernel_rfl) (by kernel_rfl) w v) Go.Proofs.Tryz.func36 b36 (by kernel_rfl) (by kernel_rfl) w
theorem b83 : (Go.Proofs.Tryz.f83).body.map strip = some (sc_SetV 134 42) := by kernel_rfl
theorem ok83 : FnOK PP 83 := fnOK_of Go.Proofs.Tryz.func83 b83 (by kernel_rfl)
theorem b85 : (Go.Proofs.Tryz.f85).body.map strip = some (aTop ids 134 18 (some 0) (some (2, 2)) fs) := by kernel_rfl
theorem ok85 : FnOK PP 85 := fnOK_of Go.Proofs.Tryz.func85 b85 (by kernel_rfl)
def M : RTop := { S := 134, size := 3, d := 124, t := 30, N := 189, flex := (some 0), tags := (some (2, 2)), fs := fs }
theorem b126 : (Go.Proofs.Tryz.f126).body.map strip = some (rTop rids 134 124 30 (some 0) (some (2, 2)) fs) := by kernel_rfl
theorem b84 : (Go.Proofs.Tryz.f84).body.map strip = some (sc_ReadFromW 126) := by kernel_rfl
theorem ok84 : FnOK PP 84 := fnOK_of Go.Proofs.Tryz.func84 b84 (by kernel_rfl)
theorem ok126 : FnOK PP 126 := fnOK_of Go.Proofs.Tryz.func126 b126 (by kernel_rfl)
theorem cR (a : Addr) (B : Nat) (w0 : World) (h : 0 < B) (hg : ∀ w', Below B w0 w' → GlE a w') : ReadC PP rids M B G0 (errV a) 126 w0 := readFrom_ok (kr a) (fun _ => trivial) hg h (by kernel_rfl) dfs d124 (by kernel_rfl) (by kernel_rfl) Go.Proofs.Tryz.func126 b126 (by kernel_rfl) (by kernel_rfl)
theorem b38 : (Go.Proofs.Tryz.f38).body.map strip = some (sc_Again 3 42 22 51 80 83 84 85) := by kernel_rfl
theorem cAg (a : Addr) : AgC PP X.U8 (some 0) fs 0 1 (GlE a) 38 :=
  again_ok (I := rids) (M := M) (gb := 0) (m := 1) (G := G0) (Gl := GlE a) (err := errV a) (by kernel_rfl) (by kernel_rfl) (by kernel_rfl) (by kernel_rfl) (by decide) ⟨_, _, rfl⟩ ok80 cNP ok83 (fun w b cs E hc hs n => setV_ok (by kernel_rfl) (by kernel_rfl) Go.Proofs.Tryz.func83 b83 (by kernel_rfl) (by kernel_rfl) w b cs E hc hs n) ok84 (fun w x y Q h => readFromW_ok ok126 Go.Proofs.Tryz.func84 b84 (by kernel_rfl) (by kernel_rfl) w x y Q h) (fun B w0 h hg => cR a B w0 h hg) ok85 (fun w b ver ts u hb hc h0 hh ht hl => appendTo_calls ka Go.Proofs.Tryz.func85 b85 (by kernel_rfl) (by kernel_rfl) w b 0 ver ts u hb hc h0 hh ht hl) (by decide +kernel) (by decide) (by kernel_rfl) (by kernel_rfl) Go.Proofs.Tryz.func38 b38 (by kernel_rfl) (by kernel_rfl) (by kernel_rfl)
theorem okv : ∀ v : Nat, v ≤ 1 → okFsR v (flexAt (some 0) v) fs = true := by decide +kernel
theorem b10 : (Go.Proofs.Tryz.f10).body.map strip = some (sc_LawCut X.T 4 X.I X.Bs 27 11 36 37 15 13 38) := by kernel_rfl
theorem law (a : Addr) (w : World) (n at_ : Nat) (hn : n < 256) (hat : at_ < 65536) (t : Tree) (tv : Value) (ht : TV G0 w (· < w.heap.size) t tv) (hgb : 0 < w.heap.size) (hgl : ∀ w', Below w.heap.size w w' → GlE a w') (hk : KAll t) (hlim : ∀ v : Nat, v ≤ 1 → (wMsg v (flexAt (some 0) v) fs t.l t.u).length ≤ lim) : Calls PP 10 #[.int .u8 (n : Int), tv, .int .u16 (at_ : Int)] w fun e w' => e = .returned (.bool true) ∧ Below w.heap.size w w' :=
  lawCut_ok (G := G0) hX hm (by kernel_rfl) (m := 1) (Gl := GlE a) (by decide) fs (0) (some 0) (fun v => by simp [flexAt]) ok11 cFit ok36 cMax ok37 cSp ok15 cVer ok13 (cWr fs (by decide +kernel) (by decide +kernel)) (cAg a) Go.Proofs.Tryz.func10 b10 (by kernel_rfl) (by kernel_rfl) w n at_ hn hat t tv ht hgb hgl (fun v hv => okv v hv) (fun v _ => kAll_fs v fs t.l hk.l) hk.u hlim
def flex : Option Int := (some 0)
def mx : Nat := 1
end Go.Proofs.YtdmdmnfdfkejbaaGreatDoor.K.CutDescribeShareGroupOffsetsRequest

