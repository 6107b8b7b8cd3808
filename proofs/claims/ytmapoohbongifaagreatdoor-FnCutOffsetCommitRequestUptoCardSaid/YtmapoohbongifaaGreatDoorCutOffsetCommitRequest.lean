/- CutOffsetCommitRequest: what the law on it computes. No condition. -/
import Derived.Test.YtmapoohbongifaaGreatDoorB1
import Derived.Test.YtmapoohbongifaaGreatDoorQA
import Derived.Test.YtmapoohbongifaaGreatDoorQR
import Derived.Test.YtmapoohbongifaaGreatDoorQS
namespace Go.Proofs.YtmapoohbongifaaGreatDoor.K.CutOffsetCommitRequest
open Go Go.RowKit Go.Proofs Go.Proofs.YtmapoohbongifaaGreatDoor.T Go.Proofs.YtmapoohbongifaaGreatDoor.K
set_option linter.unusedVariables false
set_option linter.unusedSimpArgs false
def fs94 : Fs := (.cons ⟨0, -1, -1, 0, 0, 0, 21, false⟩ (.prim .i32) (.cons ⟨0, -1, -1, 0, 1, 1, 2, false⟩ (.prim .i64) (.cons ⟨1, 1, -1, -1, 2, 2, 2, false⟩ (.prim .i64) (.cons ⟨6, -1, -1, -1, 3, 3, 21, false⟩ (.prim .i32) (.cons ⟨0, -1, 0, 0, 4, 4, 90, false⟩ (.prim .str) .nil)))))
theorem b94 : (Go.Proofs.Tryz.f94).body.map strip = some (sc_bSub X.F X.Fs fs94 []) := by kernel_rfl
theorem ok94 : FnOK PP 94 := fnOK_of Go.Proofs.Tryz.func94 b94 (by kernel_rfl)
theorem sf94 : SubFns PP fs94 [] := by
  simp [SubFns, hasSub, fs94]
theorem c94 (w : World) : Calls PP 94 #[] w fun e w' => ∃ v, e = .returned v ∧ v.oneCell' = true ∧ FsV w' (fun k => w.heap.size ≤ k ∧ k < w'.heap.size) fs94 v ∧ Below w.heap.size w w' := bSub_ok hX fok uFs fs94 [] (by kernel_rfl) sf94 (by decide +kernel) Go.Proofs.Tryz.func94 b94 (by kernel_rfl) (by kernel_rfl) w
def fs50 : Fs := (.cons ⟨0, 9, -1, 0, 0, 0, 9, false⟩ (.prim .str) (.cons ⟨10, -1, -1, 0, 1, 1, 84, false⟩ (.prim .uuid) (.cons ⟨0, -1, -1, 0, 2, 17, 138, false⟩ (.list 138 143 6 (.struct 143 6 141 (some (5, 5)) (.cons ⟨0, -1, -1, 0, 0, 0, 21, false⟩ (.prim .i32) (.cons ⟨0, -1, -1, 0, 1, 1, 2, false⟩ (.prim .i64) (.cons ⟨1, 1, -1, -1, 2, 2, 2, false⟩ (.prim .i64) (.cons ⟨6, -1, -1, -1, 3, 3, 21, false⟩ (.prim .i32) (.cons ⟨0, -1, 0, 0, 4, 4, 90, false⟩ (.prim .str) .nil))))))) .nil)))
theorem b50 : (Go.Proofs.Tryz.f50).body.map strip = some (sc_bSub X.F X.Fs fs50 [94]) := by kernel_rfl
theorem ok50 : FnOK PP 50 := fnOK_of Go.Proofs.Tryz.func50 b50 (by kernel_rfl)
theorem sf50 : SubFns PP fs50 [94] := by
  simp only [SubFns, hasSub, Bool.false_eq_true, if_false, if_true, List.headD_cons, List.tail_cons, fs50]
  exact ⟨⟨ok94, fun w => (c94 w).mono fun e w' ⟨v, q1, q2, q3, q4⟩ => ⟨v, q1, q2, by simp only [SubV]; exact q3, q4⟩⟩, trivial⟩
theorem c50 (w : World) : Calls PP 50 #[] w fun e w' => ∃ v, e = .returned v ∧ v.oneCell' = true ∧ FsV w' (fun k => w.heap.size ≤ k ∧ k < w'.heap.size) fs50 v ∧ Below w.heap.size w w' := bSub_ok hX fok uFs fs50 [94] (by kernel_rfl) sf50 (by decide +kernel) Go.Proofs.Tryz.func50 b50 (by kernel_rfl) (by kernel_rfl) w
def fs : Fs := (.cons ⟨0, -1, -1, 0, 1, 1, 9, false⟩ (.prim .str) (.cons ⟨1, -1, -1, -1, 2, 2, 21, false⟩ (.prim .i32) (.cons ⟨1, -1, -1, 0, 3, 3, 9, false⟩ (.prim .str) (.cons ⟨7, -1, 7, 0, 4, 4, 90, false⟩ (.prim .str) (.cons ⟨2, 4, -1, -1, 5, 5, 2, false⟩ (.prim .i64) (.cons ⟨0, -1, -1, 0, 6, 6, 134, false⟩ (.list 134 140 19 (.struct 140 19 140 (some (3, 18)) (.cons ⟨0, 9, -1, 0, 0, 0, 9, false⟩ (.prim .str) (.cons ⟨10, -1, -1, 0, 1, 1, 84, false⟩ (.prim .uuid) (.cons ⟨0, -1, -1, 0, 2, 17, 138, false⟩ (.list 138 143 6 (.struct 143 6 141 (some (5, 5)) (.cons ⟨0, -1, -1, 0, 0, 0, 21, false⟩ (.prim .i32) (.cons ⟨0, -1, -1, 0, 1, 1, 2, false⟩ (.prim .i64) (.cons ⟨1, 1, -1, -1, 2, 2, 2, false⟩ (.prim .i64) (.cons ⟨6, -1, -1, -1, 3, 3, 21, false⟩ (.prim .i32) (.cons ⟨0, -1, 0, 0, 4, 4, 90, false⟩ (.prim .str) .nil))))))) .nil))))) .nil))))))
theorem b22 : (Go.Proofs.Tryz.f22).body.map strip = some (sc_bTop X.F X.Fs X.M fs (8) [50]) := by kernel_rfl
theorem ok22 : FnOK PP 22 := fnOK_of Go.Proofs.Tryz.func22 b22 (by kernel_rfl)
theorem sfTop : SubFns PP fs [50] := by
  simp only [SubFns, hasSub, Bool.false_eq_true, if_false, if_true, List.headD_cons, List.tail_cons, fs]
  exact ⟨⟨ok50, fun w => (c50 w).mono fun e w' ⟨v, q1, q2, q3, q4⟩ => ⟨v, q1, q2, by simp only [SubV]; exact q3, q4⟩⟩, trivial⟩
theorem cSp (w : World) : Calls PP 22 #[] w fun e w' => ∃ v, e = .returned (msgV v (8)) ∧ v.oneCell' = true ∧ FsV w' (fun k => w.heap.size ≤ k ∧ k < w'.heap.size) fs v ∧ Below w.heap.size w w' := bTop_ok hX fok uFs arrM mB fs (8) [50] (by kernel_rfl) sfTop (by decide +kernel) Go.Proofs.Tryz.func22 b22 (by kernel_rfl) (by kernel_rfl) w
def sc140 : SC := .skip
theorem b140 : (Go.Proofs.Tryz.f140).body.map strip = some (sc140) := by kernel_rfl
theorem d140 : DefAt PP 140 19 [] := defAt_ok (N := 2) Go.Proofs.Tryz.func140 b140 (by kernel_rfl) (by kernel_rfl) (by decide) (by kernel_rfl) (by kernel_rfl)
def sc141 : SC := .seq (.reg [mv 2 0, nilc 3 2, fa 4 143 3 2, ⟨none, .store 2 (.tmp 4) (.const (.int .i64 (-1))), none⟩]) (.reg [mv 5 0, nilc 6 5, fa 7 143 6 3, ⟨none, .store 21 (.tmp 7) (.const (.int .i32 (-1))), none⟩])
theorem b141 : (Go.Proofs.Tryz.f141).body.map strip = some (sc141) := by kernel_rfl
theorem d141 : DefAt PP 141 6 [(2, (.int .i64 (-1))), (3, (.int .i32 (-1)))] := defAt_ok (N := 8) Go.Proofs.Tryz.func141 b141 (by kernel_rfl) (by kernel_rfl) (by decide) (by kernel_rfl) (by kernel_rfl)
def sc93 : SC := .seq (.reg [mv 2 0, nilc 3 2, fa 4 136 3 2, ⟨none, .store 21 (.tmp 4) (.const (.int .i32 (-1))), none⟩]) (.reg [mv 5 0, nilc 6 5, fa 7 136 6 5, ⟨none, .store 2 (.tmp 7) (.const (.int .i64 (-1))), none⟩])
theorem b93 : (Go.Proofs.Tryz.f93).body.map strip = some (sc93) := by kernel_rfl
theorem d93 : DefAt PP 93 8 [(2, (.int .i32 (-1))), (5, (.int .i64 (-1)))] := defAt_ok (N := 8) Go.Proofs.Tryz.func93 b93 (by kernel_rfl) (by kernel_rfl) (by decide) (by kernel_rfl) (by kernel_rfl)
theorem dfs : DefFs PP fs := ⟨trivial, ⟨trivial, ⟨trivial, ⟨trivial, ⟨trivial, ⟨⟨⟨_, d140, (by kernel_rfl), (by kernel_rfl)⟩, ⟨trivial, ⟨trivial, ⟨⟨⟨_, d141, (by kernel_rfl), (by kernel_rfl)⟩, ⟨trivial, ⟨trivial, ⟨trivial, ⟨trivial, ⟨trivial, trivial⟩⟩⟩⟩⟩⟩, trivial⟩⟩⟩⟩, trivial⟩⟩⟩⟩⟩⟩
noncomputable abbrev zc : Array Value := zcOf PP 136
noncomputable def cs : Array Value := dSetAll 0 [(2, (.int .i32 (-1))), (5, (.int .i64 (-1)))] zc
theorem defFn : DefFn PP 93 136 zc cs := ⟨d93.1, fun w b hc => d93.2 w b 0 zc 136 hc (by decide +kernel)⟩
theorem b48 : (Go.Proofs.Tryz.f48).body.map strip = some (sc_NewPtr 136 93) := by kernel_rfl
theorem ok48 : FnOK PP 48 := fnOK_of Go.Proofs.Tryz.func48 b48 (by kernel_rfl)
theorem cNP (w : World) : Calls PP 48 #[] w fun e w' => ∃ b, e = .returned (.pointer (some ⟨b, 0, none⟩)) ∧ w.heap.size ≤ b ∧ w'.heap[b]? = some (.cells cs 136 (0, 0)) ∧ Below w.heap.size w w' := newPtr_ok (zc_of (by kernel_rfl)) defFn Go.Proofs.Tryz.func48 b48 (by kernel_rfl) (by kernel_rfl) w
theorem b49 : (Go.Proofs.Tryz.f49).body.map strip = some (sc_MaxV 10) := by kernel_rfl
theorem ok49 : FnOK PP 49 := fnOK_of Go.Proofs.Tryz.func49 b49 (by kernel_rfl)
theorem b21 : (Go.Proofs.Tryz.f21).body.map strip = some (sc_Max 48 49 42 3) := by kernel_rfl
theorem ok21 : FnOK PP 21 := fnOK_of Go.Proofs.Tryz.func21 b21 (by kernel_rfl)
theorem cMax (w : World) : Calls PP 21 #[] w fun e w' => e = .returned (.int .i64 ((10 : Nat) : Int)) ∧ Below w.heap.size w w' := max_ok (by kernel_rfl) (by kernel_rfl) (by decide) ok48 cNP ok49 (fun w v => maxV_ok Go.Proofs.Tryz.func49 b49 (by kernel_rfl) (by kernel_rfl) w v) Go.Proofs.Tryz.func21 b21 (by kernel_rfl) (by kernel_rfl) w
theorem b51 : (Go.Proofs.Tryz.f51).body.map strip = some (sc_SetV 136 42) := by kernel_rfl
theorem ok51 : FnOK PP 51 := fnOK_of Go.Proofs.Tryz.func51 b51 (by kernel_rfl)
theorem b53 : (Go.Proofs.Tryz.f53).body.map strip = some (aTop ids 136 25 (some 8) (some (7, 7)) fs) := by kernel_rfl
theorem ok53 : FnOK PP 53 := fnOK_of Go.Proofs.Tryz.func53 b53 (by kernel_rfl)
def M : RTop := { S := 136, size := 8, d := 93, t := 35, N := 250, flex := (some 8), tags := (some (7, 7)), fs := fs }
theorem b95 : (Go.Proofs.Tryz.f95).body.map strip = some (rTop rids 136 93 35 (some 8) (some (7, 7)) fs) := by kernel_rfl
theorem b52 : (Go.Proofs.Tryz.f52).body.map strip = some (sc_ReadFromW 95) := by kernel_rfl
theorem ok52 : FnOK PP 52 := fnOK_of Go.Proofs.Tryz.func52 b52 (by kernel_rfl)
theorem ok95 : FnOK PP 95 := fnOK_of Go.Proofs.Tryz.func95 b95 (by kernel_rfl)
theorem cR (a : Addr) (B : Nat) (w0 : World) (h : 1 < B) (hg : ∀ w', Below B w0 w' → GlE a w') : ReadC PP rids M B G0 (errV a) 95 w0 := readFrom_ok (kr a) (fun _ => trivial) hg h (by kernel_rfl) dfs d93 (by kernel_rfl) (by kernel_rfl) Go.Proofs.Tryz.func95 b95 (by kernel_rfl) (by kernel_rfl)
theorem b23 : (Go.Proofs.Tryz.f23).body.map strip = some (sc_Again 3 42 22 52 48 51 52 53) := by kernel_rfl
theorem cAg (a : Addr) : AgC PP X.U8 (some 8) fs 1 10 (GlE a) 23 :=
  again_ok (I := rids) (M := M) (gb := 1) (m := 10) (G := G0) (Gl := GlE a) (err := errV a) (by kernel_rfl) (by kernel_rfl) (by kernel_rfl) (by kernel_rfl) (by decide) ⟨_, _, rfl⟩ ok48 cNP ok51 (fun w b cs E hc hs n => setV_ok (by kernel_rfl) (by kernel_rfl) Go.Proofs.Tryz.func51 b51 (by kernel_rfl) (by kernel_rfl) w b cs E hc hs n) ok52 (fun w x y Q h => readFromW_ok ok95 Go.Proofs.Tryz.func52 b52 (by kernel_rfl) (by kernel_rfl) w x y Q h) (fun B w0 h hg => cR a B w0 h hg) ok53 (fun w b ver ts u hb hc h0 hh ht hl => appendTo_calls ka Go.Proofs.Tryz.func53 b53 (by kernel_rfl) (by kernel_rfl) w b 0 ver ts u hb hc h0 hh ht hl) (by decide +kernel) (by decide) (by kernel_rfl) (by kernel_rfl) Go.Proofs.Tryz.func23 b23 (by kernel_rfl) (by kernel_rfl) (by kernel_rfl)
theorem okv : ∀ v : Nat, v ≤ 10 → okFsR v (flexAt (some 8) v) fs = true := by decide +kernel
theorem b6 : (Go.Proofs.Tryz.f6).body.map strip = some (sc_LawCut X.T 4 X.I X.Bs 27 8 21 22 12 10 23) := by kernel_rfl
theorem law (a : Addr) (w : World) (n at_ : Nat) (hn : n < 256) (hat : at_ < 65536) (t : Tree) (tv : Value) (ht : TV G0 w (· < w.heap.size) t tv) (hgb : 1 < w.heap.size) (hgl : ∀ w', Below w.heap.size w w' → GlE a w') (hk : KAll t) (hlim : ∀ v : Nat, v ≤ 10 → (wMsg v (flexAt (some 8) v) fs t.l t.u).length ≤ lim) : Calls PP 6 #[.int .u8 (n : Int), tv, .int .u16 (at_ : Int)] w fun e w' => e = .returned (.bool true) ∧ Below w.heap.size w w' :=
  lawCut_ok (G := G0) hX hm (by kernel_rfl) (m := 10) (Gl := GlE a) (by decide) fs (8) (some 8) (fun v => by simp [flexAt]) ok8 cFit ok21 cMax ok22 cSp ok12 cVer ok10 (cWr fs (by decide +kernel) (by decide +kernel)) (cAg a) Go.Proofs.Tryz.func6 b6 (by kernel_rfl) (by kernel_rfl) w n at_ hn hat t tv ht hgb hgl (fun v hv => okv v hv) (fun v _ => kAll_fs v fs t.l hk.l) hk.u hlim
def flex : Option Int := (some 8)
def mx : Nat := 10
end Go.Proofs.YtmapoohbongifaaGreatDoor.K.CutOffsetCommitRequest

