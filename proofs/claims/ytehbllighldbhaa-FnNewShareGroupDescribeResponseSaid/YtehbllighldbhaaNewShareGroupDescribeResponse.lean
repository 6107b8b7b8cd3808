/- NewShareGroupDescribeResponse: what the law on it computes. No condition. -/
import Derived.Test.YtehbllighldbhaaSeat
import Derived.Test.YtehbllighldbhaaD1
namespace Go.Proofs.Ytehbllighldbhaa.K.NewShareGroupDescribeResponse
open Go Go.RowKit Go.Proofs.Ytehbllighldbhaa.T Go.Proofs.Ytehbllighldbhaa.K
set_option linter.unusedVariables false
set_option linter.unusedSimpArgs false
def fs66 : Fs := (.cons ⟨0, -1, -1, 0, 0, 0, 75, false⟩ (.prim .uuid) (.cons ⟨0, -1, -1, 0, 1, 16, 9, false⟩ (.prim .str) (.cons ⟨0, -1, -1, 0, 2, 17, 76, false⟩ (.list 76 21 1 (.prim .i32)) .nil)))
theorem b66 : (Go.Proofs.Try.f66).body.map strip = some (sc_bSub X.F X.Fs fs66 []) := by kernel_rfl
theorem ok66 : FnOK PP 66 := fnOK_of Go.Proofs.Try.func66 b66 (by kernel_rfl)
theorem sf66 : SubFns PP fs66 [] := by
  simp [SubFns, hasSub, fs66]
theorem c66 (w : World) : Calls PP 66 #[] w fun e w' => ∃ v, e = .returned v ∧ v.oneCell' = true ∧ FsV w' (fun k => w.heap.size ≤ k ∧ k < w'.heap.size) fs66 v ∧ Below w.heap.size w w' := bSub_ok hX fok uFs fs66 [] (by kernel_rfl) sf66 (by decide +kernel) Go.Proofs.Try.func66 b66 (by kernel_rfl) (by kernel_rfl) w
def fs54 : Fs := (.cons ⟨0, -1, -1, 0, 0, 0, 68, false⟩ (.list 68 78 19 (.struct 78 19 118 (some (3, 18)) (.cons ⟨0, -1, -1, 0, 0, 0, 75, false⟩ (.prim .uuid) (.cons ⟨0, -1, -1, 0, 1, 16, 9, false⟩ (.prim .str) (.cons ⟨0, -1, -1, 0, 2, 17, 76, false⟩ (.list 76 21 1 (.prim .i32)) .nil))))) .nil)
theorem b54 : (Go.Proofs.Try.f54).body.map strip = some (sc_bSub X.F X.Fs fs54 [66]) := by kernel_rfl
theorem ok54 : FnOK PP 54 := fnOK_of Go.Proofs.Try.func54 b54 (by kernel_rfl)
theorem sf54 : SubFns PP fs54 [66] := by
  simp only [SubFns, hasSub, Bool.false_eq_true, if_false, if_true, List.headD_cons, List.tail_cons, fs54]
  exact ⟨⟨ok66, fun w => (c66 w).mono fun e w' ⟨v, q1, q2, q3, q4⟩ => ⟨v, q1, q2, by simp only [SubV]; exact q3, q4⟩⟩, trivial⟩
theorem c54 (w : World) : Calls PP 54 #[] w fun e w' => ∃ v, e = .returned v ∧ v.oneCell' = true ∧ FsV w' (fun k => w.heap.size ≤ k ∧ k < w'.heap.size) fs54 v ∧ Below w.heap.size w w' := bSub_ok hX fok uFs fs54 [66] (by kernel_rfl) sf54 (by decide +kernel) Go.Proofs.Try.func54 b54 (by kernel_rfl) (by kernel_rfl) w
def fs28 : Fs := (.cons ⟨0, -1, -1, 0, 0, 0, 9, false⟩ (.prim .str) (.cons ⟨0, -1, 0, 0, 1, 1, 59, false⟩ (.prim .str) (.cons ⟨0, -1, -1, 0, 2, 2, 21, false⟩ (.prim .i32) (.cons ⟨0, -1, -1, 0, 3, 3, 9, false⟩ (.prim .str) (.cons ⟨0, -1, -1, 0, 4, 4, 9, false⟩ (.prim .str) (.cons ⟨0, -1, -1, 0, 5, 5, 67, false⟩ (.list 67 9 1 (.prim .str)) (.cons ⟨0, -1, -1, 0, 6, 6, 70, false⟩ (.struct 70 2 117 (some (1, 1)) (.cons ⟨0, -1, -1, 0, 0, 0, 68, false⟩ (.list 68 78 19 (.struct 78 19 118 (some (3, 18)) (.cons ⟨0, -1, -1, 0, 0, 0, 75, false⟩ (.prim .uuid) (.cons ⟨0, -1, -1, 0, 1, 16, 9, false⟩ (.prim .str) (.cons ⟨0, -1, -1, 0, 2, 17, 76, false⟩ (.list 76 21 1 (.prim .i32)) .nil))))) .nil)) .nil)))))))
theorem b28 : (Go.Proofs.Try.f28).body.map strip = some (sc_bSub X.F X.Fs fs28 [54]) := by kernel_rfl
theorem ok28 : FnOK PP 28 := fnOK_of Go.Proofs.Try.func28 b28 (by kernel_rfl)
theorem sf28 : SubFns PP fs28 [54] := by
  simp only [SubFns, hasSub, Bool.false_eq_true, if_false, if_true, List.headD_cons, List.tail_cons, fs28]
  exact ⟨⟨ok54, fun w => (c54 w).mono fun e w' ⟨v, q1, q2, q3, q4⟩ => ⟨v, q1, q2, by simp only [SubV]; exact q3, q4⟩⟩, trivial⟩
theorem c28 (w : World) : Calls PP 28 #[] w fun e w' => ∃ v, e = .returned v ∧ v.oneCell' = true ∧ FsV w' (fun k => w.heap.size ≤ k ∧ k < w'.heap.size) fs28 v ∧ Below w.heap.size w w' := bSub_ok hX fok uFs fs28 [54] (by kernel_rfl) sf28 (by decide +kernel) Go.Proofs.Try.func28 b28 (by kernel_rfl) (by kernel_rfl) w
def fs17 : Fs := (.cons ⟨0, -1, -1, 0, 0, 0, 38, false⟩ (.prim .i16) (.cons ⟨0, -1, 0, 0, 1, 1, 59, false⟩ (.prim .str) (.cons ⟨0, -1, -1, 0, 2, 2, 9, false⟩ (.prim .str) (.cons ⟨0, -1, -1, 0, 3, 3, 9, false⟩ (.prim .str) (.cons ⟨0, -1, -1, 0, 4, 4, 21, false⟩ (.prim .i32) (.cons ⟨0, -1, -1, 0, 5, 5, 21, false⟩ (.prim .i32) (.cons ⟨0, -1, -1, 0, 6, 6, 9, false⟩ (.prim .str) (.cons ⟨0, -1, -1, 0, 7, 7, 60, false⟩ (.list 60 72 9 (.struct 72 9 116 (some (7, 8)) (.cons ⟨0, -1, -1, 0, 0, 0, 9, false⟩ (.prim .str) (.cons ⟨0, -1, 0, 0, 1, 1, 59, false⟩ (.prim .str) (.cons ⟨0, -1, -1, 0, 2, 2, 21, false⟩ (.prim .i32) (.cons ⟨0, -1, -1, 0, 3, 3, 9, false⟩ (.prim .str) (.cons ⟨0, -1, -1, 0, 4, 4, 9, false⟩ (.prim .str) (.cons ⟨0, -1, -1, 0, 5, 5, 67, false⟩ (.list 67 9 1 (.prim .str)) (.cons ⟨0, -1, -1, 0, 6, 6, 70, false⟩ (.struct 70 2 117 (some (1, 1)) (.cons ⟨0, -1, -1, 0, 0, 0, 68, false⟩ (.list 68 78 19 (.struct 78 19 118 (some (3, 18)) (.cons ⟨0, -1, -1, 0, 0, 0, 75, false⟩ (.prim .uuid) (.cons ⟨0, -1, -1, 0, 1, 16, 9, false⟩ (.prim .str) (.cons ⟨0, -1, -1, 0, 2, 17, 76, false⟩ (.list 76 21 1 (.prim .i32)) .nil))))) .nil)) .nil))))))))) (.cons ⟨0, -1, -1, -2147483648, 8, 8, 21, false⟩ (.prim .i32) .nil)))))))))
theorem b17 : (Go.Proofs.Try.f17).body.map strip = some (sc_bSub X.F X.Fs fs17 [28]) := by kernel_rfl
theorem ok17 : FnOK PP 17 := fnOK_of Go.Proofs.Try.func17 b17 (by kernel_rfl)
theorem sf17 : SubFns PP fs17 [28] := by
  simp only [SubFns, hasSub, Bool.false_eq_true, if_false, if_true, List.headD_cons, List.tail_cons, fs17]
  exact ⟨⟨ok28, fun w => (c28 w).mono fun e w' ⟨v, q1, q2, q3, q4⟩ => ⟨v, q1, q2, by simp only [SubV]; exact q3, q4⟩⟩, trivial⟩
theorem c17 (w : World) : Calls PP 17 #[] w fun e w' => ∃ v, e = .returned v ∧ v.oneCell' = true ∧ FsV w' (fun k => w.heap.size ≤ k ∧ k < w'.heap.size) fs17 v ∧ Below w.heap.size w w' := bSub_ok hX fok uFs fs17 [28] (by kernel_rfl) sf17 (by decide +kernel) Go.Proofs.Try.func17 b17 (by kernel_rfl) (by kernel_rfl) w
def fs : Fs := (.cons ⟨0, -1, -1, 0, 1, 1, 21, false⟩ (.prim .i32) (.cons ⟨0, -1, -1, 0, 2, 2, 50, false⟩ (.list 50 62 10 (.struct 62 10 115 (some (9, 9)) (.cons ⟨0, -1, -1, 0, 0, 0, 38, false⟩ (.prim .i16) (.cons ⟨0, -1, 0, 0, 1, 1, 59, false⟩ (.prim .str) (.cons ⟨0, -1, -1, 0, 2, 2, 9, false⟩ (.prim .str) (.cons ⟨0, -1, -1, 0, 3, 3, 9, false⟩ (.prim .str) (.cons ⟨0, -1, -1, 0, 4, 4, 21, false⟩ (.prim .i32) (.cons ⟨0, -1, -1, 0, 5, 5, 21, false⟩ (.prim .i32) (.cons ⟨0, -1, -1, 0, 6, 6, 9, false⟩ (.prim .str) (.cons ⟨0, -1, -1, 0, 7, 7, 60, false⟩ (.list 60 72 9 (.struct 72 9 116 (some (7, 8)) (.cons ⟨0, -1, -1, 0, 0, 0, 9, false⟩ (.prim .str) (.cons ⟨0, -1, 0, 0, 1, 1, 59, false⟩ (.prim .str) (.cons ⟨0, -1, -1, 0, 2, 2, 21, false⟩ (.prim .i32) (.cons ⟨0, -1, -1, 0, 3, 3, 9, false⟩ (.prim .str) (.cons ⟨0, -1, -1, 0, 4, 4, 9, false⟩ (.prim .str) (.cons ⟨0, -1, -1, 0, 5, 5, 67, false⟩ (.list 67 9 1 (.prim .str)) (.cons ⟨0, -1, -1, 0, 6, 6, 70, false⟩ (.struct 70 2 117 (some (1, 1)) (.cons ⟨0, -1, -1, 0, 0, 0, 68, false⟩ (.list 68 78 19 (.struct 78 19 118 (some (3, 18)) (.cons ⟨0, -1, -1, 0, 0, 0, 75, false⟩ (.prim .uuid) (.cons ⟨0, -1, -1, 0, 1, 16, 9, false⟩ (.prim .str) (.cons ⟨0, -1, -1, 0, 2, 17, 76, false⟩ (.list 76 21 1 (.prim .i32)) .nil))))) .nil)) .nil))))))))) (.cons ⟨0, -1, -1, -2147483648, 8, 8, 21, false⟩ (.prim .i32) .nil))))))))))) .nil))
theorem b6 : (Go.Proofs.Try.f6).body.map strip = some (sc_bTop X.F X.Fs X.M fs (0) [17]) := by kernel_rfl
theorem ok6 : FnOK PP 6 := fnOK_of Go.Proofs.Try.func6 b6 (by kernel_rfl)
theorem sfTop : SubFns PP fs [17] := by
  simp only [SubFns, hasSub, Bool.false_eq_true, if_false, if_true, List.headD_cons, List.tail_cons, fs]
  exact ⟨⟨ok17, fun w => (c17 w).mono fun e w' ⟨v, q1, q2, q3, q4⟩ => ⟨v, q1, q2, by simp only [SubV]; exact q3, q4⟩⟩, trivial⟩
theorem cSp (w : World) : Calls PP 6 #[] w fun e w' => ∃ v, e = .returned (msgV v (0)) ∧ v.oneCell' = true ∧ FsV w' (fun k => w.heap.size ≤ k ∧ k < w'.heap.size) fs v ∧ Below w.heap.size w w' := bTop_ok hX fok uFs arrM mB fs (0) [17] (by kernel_rfl) sfTop (by decide +kernel) Go.Proofs.Try.func6 b6 (by kernel_rfl) (by kernel_rfl) w
noncomputable abbrev zc : Array Value := zcOf PP 55
noncomputable def cs : Array Value := dSetAll 0 [] zc
def scD : SC := .skip
theorem b27 : (Go.Proofs.Try.f27).body.map strip = some (scD) := by kernel_rfl
theorem dA : DefAt PP 27 4 [] := defAt_ok (N := 2) Go.Proofs.Try.func27 b27 (by kernel_rfl) (by kernel_rfl) (by decide) (by kernel_rfl) (by kernel_rfl)
theorem defFn : DefFn PP 27 55 zc cs := ⟨dA.1, fun w b hc => dA.2 w b 0 zc 55 hc (by decide +kernel)⟩
theorem b15 : (Go.Proofs.Try.f15).body.map strip = some (sc_NewPtr 55 27) := by kernel_rfl
theorem ok15 : FnOK PP 15 := fnOK_of Go.Proofs.Try.func15 b15 (by kernel_rfl)
theorem cNP (w : World) : Calls PP 15 #[] w fun e w' => ∃ b, e = .returned (.pointer (some ⟨b, 0, none⟩)) ∧ w.heap.size ≤ b ∧ w'.heap[b]? = some (.cells cs 55 (0, 0)) ∧ Below w.heap.size w w' := newPtr_ok (zc_of (by kernel_rfl)) defFn Go.Proofs.Try.func15 b15 (by kernel_rfl) (by kernel_rfl) w
theorem b16 : (Go.Proofs.Try.f16).body.map strip = some (sc_MaxV 1) := by kernel_rfl
theorem ok16 : FnOK PP 16 := fnOK_of Go.Proofs.Try.func16 b16 (by kernel_rfl)
theorem b5 : (Go.Proofs.Try.f5).body.map strip = some (sc_Max 15 16 38 3) := by kernel_rfl
theorem ok5 : FnOK PP 5 := fnOK_of Go.Proofs.Try.func5 b5 (by kernel_rfl)
theorem cMax (w : World) : Calls PP 5 #[] w fun e w' => e = .returned (.int .i64 ((1 : Nat) : Int)) ∧ Below w.heap.size w w' := max_ok (by kernel_rfl) (by kernel_rfl) (by decide) ok15 cNP ok16 (fun w v => maxV_ok Go.Proofs.Try.func16 b16 (by kernel_rfl) (by kernel_rfl) w v) Go.Proofs.Try.func5 b5 (by kernel_rfl) (by kernel_rfl) w
theorem b18 : (Go.Proofs.Try.f18).body.map strip = some (sc_SetV 55 38) := by kernel_rfl
theorem ok18 : FnOK PP 18 := fnOK_of Go.Proofs.Try.func18 b18 (by kernel_rfl)
theorem b19 : (Go.Proofs.Try.f19).body.map strip = some (aTop ids 55 39 (some 0) (some (3, 3)) fs) := by kernel_rfl
theorem ok19 : FnOK PP 19 := fnOK_of Go.Proofs.Try.func19 b19 (by kernel_rfl)
theorem cAT (w : World) (b : Nat) (n : Int) (hc : w.heap[b]? = some (.cells (cs.setIfInBounds 0 (.int .i16 n)) 55 (0, 0))) (h0 : 0 ≤ n) (h1 : n < 32768) : Calls PP 19 #[.pointer (some ⟨b, 0, none⟩), .slice none 0 0] w fun e w' => ∃ dv, e = .returned dv ∧ Own X.U8 w' w.heap.size dv (wFs n (flexAt (some 0) n) fs (defL fs) ++ wTags (flexAt (some 0) n) []) ∧ Below w.heap.size w w' :=
  newAT_ok ka Go.Proofs.Try.func19 b19 (by kernel_rfl) (by kernel_rfl) (by decide +kernel) (fun n => by kernel_rfl) (fun n => by kernel_rfl) (by decide +kernel) w b n hc h0 h1
theorem b8 : (Go.Proofs.Try.f8).body.map strip = some (sc_New 15 18 19 3 38) := by kernel_rfl
theorem ok8 : FnOK PP 8 := fnOK_of Go.Proofs.Try.func8 b8 (by kernel_rfl)
theorem cNew (w : World) (ver : Nat) (h : ver ≤ 1) : Calls PP 8 #[.int .i64 (ver : Int)] w (RetOwn X.U8 w ((fun n : Int => wFs n (flexAt (some 0) n) fs (defL fs) ++ wTags (flexAt (some 0) n) []) ver)) :=
  new_ok (out := fun n : Int => wFs n (flexAt (some 0) n) fs (defL fs) ++ wTags (flexAt (some 0) n) []) (by kernel_rfl) (by kernel_rfl) ok15 cNP ok18 (fun w b hc n => setV_ok (by kernel_rfl) (by kernel_rfl) Go.Proofs.Try.func18 b18 (by kernel_rfl) (by kernel_rfl) w b cs _ hc (by decide +kernel) n) ok19 cAT Go.Proofs.Try.func8 b8 (by kernel_rfl) (by kernel_rfl) w ver (by omega)
theorem b3 : (Go.Proofs.Try.f3).body.map strip = some (sc_LawNew 5 6 9 8 11 10 7 X.I X.M X.Fs) := by kernel_rfl
theorem law (w : World) (n : Nat) (hn : n < 256) : Calls PP 3 #[.int .u8 (n : Int)] w fun e w' => e = .returned (.bool true) ∧ Below w.heap.size w w' :=
  lawNew_ok (G := G0) hX hm arrM (m := 1) (by decide) fs (0) (fun n : Int => wFs n (flexAt (some 0) n) fs (defL fs) ++ wTags (flexAt (some 0) n) []) ok5 cMax ok6 cSp ok9 (fun w n m h1 h2 => version_ok hX Go.Proofs.Try.func9 b9 (by kernel_rfl) (by kernel_rfl) w n m h1 h2) ok8 cNew ok11 (defC fs (by decide +kernel) (by decide +kernel)) ok10 (fun w fv mf ver t tv h1 h2 h3 => write_ok hX ok20 Go.Proofs.Try.func10 b10 (by kernel_rfl) (by kernel_rfl) fs (partC fs (by decide +kernel) (by decide +kernel)) w fv mf ver t tv h1 h2 h3) ok7 (fun w xs b1 b2 c1 c2 h1 h2 h3 => same_ok hX hm Go.Proofs.Try.func7 b7 (by kernel_rfl) (by kernel_rfl) w xs b1 b2 c1 c2 h1 h2 h3) (fun ver h => by simp [flexAt]) (fun ver h => new_len _ _ fs (by decide +kernel)) Go.Proofs.Try.func3 b3 (by kernel_rfl) (by kernel_rfl) w n hn
end Go.Proofs.Ytehbllighldbhaa.K.NewShareGroupDescribeResponse
