/- NewDescribeTopicPartitionsResponse: what the law on it computes. No condition. -/
import Derived.Test.YtehbllighldbhaaSeat
import Derived.Test.YtehbllighldbhaaD1
namespace Go.Proofs.Ytehbllighldbhaa.K.NewDescribeTopicPartitionsResponse
open Go Go.RowKit Go.Proofs.Ytehbllighldbhaa.T Go.Proofs.Ytehbllighldbhaa.K
set_option linter.unusedVariables false
set_option linter.unusedSimpArgs false
def fs50 : Fs := (.cons ⟨0, -1, -1, 0, 0, 0, 38, false⟩ (.prim .i16) (.cons ⟨0, -1, -1, 0, 1, 1, 21, false⟩ (.prim .i32) (.cons ⟨0, -1, -1, 0, 2, 2, 21, false⟩ (.prim .i32) (.cons ⟨0, -1, -1, -1, 3, 3, 21, false⟩ (.prim .i32) (.cons ⟨0, -1, -1, 0, 4, 4, 76, false⟩ (.list 76 21 1 (.prim .i32)) (.cons ⟨0, -1, -1, 0, 5, 5, 76, false⟩ (.list 76 21 1 (.prim .i32)) (.cons ⟨0, -1, -1, 0, 6, 6, 76, false⟩ (.list 76 21 1 (.prim .i32)) (.cons ⟨0, -1, -1, 0, 7, 7, 76, false⟩ (.list 76 21 1 (.prim .i32)) (.cons ⟨0, -1, -1, 0, 8, 8, 76, false⟩ (.list 76 21 1 (.prim .i32)) .nil)))))))))
theorem b50 : (Go.Proofs.Try.f50).body.map strip = some (sc_bSub X.F X.Fs fs50 []) := by kernel_rfl
theorem ok50 : FnOK PP 50 := fnOK_of Go.Proofs.Try.func50 b50 (by kernel_rfl)
theorem sf50 : SubFns PP fs50 [] := by
  simp [SubFns, hasSub, fs50]
theorem c50 (w : World) : Calls PP 50 #[] w fun e w' => ∃ v, e = .returned v ∧ v.oneCell' = true ∧ FsV w' (fun k => w.heap.size ≤ k ∧ k < w'.heap.size) fs50 v ∧ Below w.heap.size w w' := bSub_ok hX fok uFs fs50 [] (by kernel_rfl) sf50 (by decide +kernel) Go.Proofs.Try.func50 b50 (by kernel_rfl) (by kernel_rfl) w
def fs23 : Fs := (.cons ⟨0, -1, -1, 0, 0, 0, 38, false⟩ (.prim .i16) (.cons ⟨0, -1, 0, 0, 1, 1, 59, false⟩ (.prim .str) (.cons ⟨0, -1, -1, 0, 2, 2, 75, false⟩ (.prim .uuid) (.cons ⟨0, -1, -1, 0, 3, 18, 4, false⟩ (.prim .bool) (.cons ⟨0, -1, -1, 0, 4, 19, 97, false⟩ (.list 97 103 10 (.struct 103 10 121 (some (9, 9)) (.cons ⟨0, -1, -1, 0, 0, 0, 38, false⟩ (.prim .i16) (.cons ⟨0, -1, -1, 0, 1, 1, 21, false⟩ (.prim .i32) (.cons ⟨0, -1, -1, 0, 2, 2, 21, false⟩ (.prim .i32) (.cons ⟨0, -1, -1, -1, 3, 3, 21, false⟩ (.prim .i32) (.cons ⟨0, -1, -1, 0, 4, 4, 76, false⟩ (.list 76 21 1 (.prim .i32)) (.cons ⟨0, -1, -1, 0, 5, 5, 76, false⟩ (.list 76 21 1 (.prim .i32)) (.cons ⟨0, -1, -1, 0, 6, 6, 76, false⟩ (.list 76 21 1 (.prim .i32)) (.cons ⟨0, -1, -1, 0, 7, 7, 76, false⟩ (.list 76 21 1 (.prim .i32)) (.cons ⟨0, -1, -1, 0, 8, 8, 76, false⟩ (.list 76 21 1 (.prim .i32)) .nil))))))))))) (.cons ⟨0, -1, -1, -2147483648, 5, 20, 21, false⟩ (.prim .i32) .nil))))))
theorem b23 : (Go.Proofs.Try.f23).body.map strip = some (sc_bSub X.F X.Fs fs23 [50]) := by kernel_rfl
theorem ok23 : FnOK PP 23 := fnOK_of Go.Proofs.Try.func23 b23 (by kernel_rfl)
theorem sf23 : SubFns PP fs23 [50] := by
  simp only [SubFns, hasSub, Bool.false_eq_true, if_false, if_true, List.headD_cons, List.tail_cons, fs23]
  exact ⟨⟨ok50, fun w => (c50 w).mono fun e w' ⟨v, q1, q2, q3, q4⟩ => ⟨v, q1, q2, by simp only [SubV]; exact q3, q4⟩⟩, trivial⟩
theorem c23 (w : World) : Calls PP 23 #[] w fun e w' => ∃ v, e = .returned v ∧ v.oneCell' = true ∧ FsV w' (fun k => w.heap.size ≤ k ∧ k < w'.heap.size) fs23 v ∧ Below w.heap.size w w' := bSub_ok hX fok uFs fs23 [50] (by kernel_rfl) sf23 (by decide +kernel) Go.Proofs.Try.func23 b23 (by kernel_rfl) (by kernel_rfl) w
def fs24 : Fs := (.cons ⟨0, -1, -1, 0, 0, 0, 9, false⟩ (.prim .str) (.cons ⟨0, -1, -1, 0, 1, 1, 21, false⟩ (.prim .i32) .nil))
theorem b24 : (Go.Proofs.Try.f24).body.map strip = some (sc_bSub X.F X.Fs fs24 []) := by kernel_rfl
theorem ok24 : FnOK PP 24 := fnOK_of Go.Proofs.Try.func24 b24 (by kernel_rfl)
theorem sf24 : SubFns PP fs24 [] := by
  simp [SubFns, hasSub, fs24]
theorem c24 (w : World) : Calls PP 24 #[] w fun e w' => ∃ v, e = .returned v ∧ v.oneCell' = true ∧ FsV w' (fun k => w.heap.size ≤ k ∧ k < w'.heap.size) fs24 v ∧ Below w.heap.size w w' := bSub_ok hX fok uFs fs24 [] (by kernel_rfl) sf24 (by decide +kernel) Go.Proofs.Try.func24 b24 (by kernel_rfl) (by kernel_rfl) w
def fs : Fs := (.cons ⟨0, -1, -1, 0, 1, 1, 21, false⟩ (.prim .i32) (.cons ⟨0, -1, -1, 0, 2, 2, 92, false⟩ (.list 92 99 22 (.struct 99 22 120 (some (6, 21)) (.cons ⟨0, -1, -1, 0, 0, 0, 38, false⟩ (.prim .i16) (.cons ⟨0, -1, 0, 0, 1, 1, 59, false⟩ (.prim .str) (.cons ⟨0, -1, -1, 0, 2, 2, 75, false⟩ (.prim .uuid) (.cons ⟨0, -1, -1, 0, 3, 18, 4, false⟩ (.prim .bool) (.cons ⟨0, -1, -1, 0, 4, 19, 97, false⟩ (.list 97 103 10 (.struct 103 10 121 (some (9, 9)) (.cons ⟨0, -1, -1, 0, 0, 0, 38, false⟩ (.prim .i16) (.cons ⟨0, -1, -1, 0, 1, 1, 21, false⟩ (.prim .i32) (.cons ⟨0, -1, -1, 0, 2, 2, 21, false⟩ (.prim .i32) (.cons ⟨0, -1, -1, -1, 3, 3, 21, false⟩ (.prim .i32) (.cons ⟨0, -1, -1, 0, 4, 4, 76, false⟩ (.list 76 21 1 (.prim .i32)) (.cons ⟨0, -1, -1, 0, 5, 5, 76, false⟩ (.list 76 21 1 (.prim .i32)) (.cons ⟨0, -1, -1, 0, 6, 6, 76, false⟩ (.list 76 21 1 (.prim .i32)) (.cons ⟨0, -1, -1, 0, 7, 7, 76, false⟩ (.list 76 21 1 (.prim .i32)) (.cons ⟨0, -1, -1, 0, 8, 8, 76, false⟩ (.list 76 21 1 (.prim .i32)) .nil))))))))))) (.cons ⟨0, -1, -1, -2147483648, 5, 20, 21, false⟩ (.prim .i32) .nil)))))))) (.cons ⟨0, -1, 0, 0, 3, 3, 93, false⟩ (.struct 106 3 119 (some (2, 2)) (.cons ⟨0, -1, -1, 0, 0, 0, 9, false⟩ (.prim .str) (.cons ⟨0, -1, -1, 0, 1, 1, 21, false⟩ (.prim .i32) .nil))) .nil)))
def fsP : Fs := (.cons ⟨0, -1, -1, 0, 1, 1, 21, false⟩ (.prim .i32) (.cons ⟨0, -1, -1, 0, 2, 2, 92, false⟩ (.list 92 99 22 (.struct 99 22 120 (some (6, 21)) (.cons ⟨0, -1, -1, 0, 0, 0, 38, false⟩ (.prim .i16) (.cons ⟨0, -1, 0, 0, 1, 1, 59, false⟩ (.prim .str) (.cons ⟨0, -1, -1, 0, 2, 2, 75, false⟩ (.prim .uuid) (.cons ⟨0, -1, -1, 0, 3, 18, 4, false⟩ (.prim .bool) (.cons ⟨0, -1, -1, 0, 4, 19, 97, false⟩ (.list 97 103 10 (.struct 103 10 121 (some (9, 9)) (.cons ⟨0, -1, -1, 0, 0, 0, 38, false⟩ (.prim .i16) (.cons ⟨0, -1, -1, 0, 1, 1, 21, false⟩ (.prim .i32) (.cons ⟨0, -1, -1, 0, 2, 2, 21, false⟩ (.prim .i32) (.cons ⟨0, -1, -1, -1, 3, 3, 21, false⟩ (.prim .i32) (.cons ⟨0, -1, -1, 0, 4, 4, 76, false⟩ (.list 76 21 1 (.prim .i32)) (.cons ⟨0, -1, -1, 0, 5, 5, 76, false⟩ (.list 76 21 1 (.prim .i32)) (.cons ⟨0, -1, 0, 0, 6, 6, 76, false⟩ (.list 76 21 1 (.prim .i32)) (.cons ⟨0, -1, 0, 0, 7, 7, 76, false⟩ (.list 76 21 1 (.prim .i32)) (.cons ⟨0, -1, -1, 0, 8, 8, 76, false⟩ (.list 76 21 1 (.prim .i32)) .nil))))))))))) (.cons ⟨0, -1, -1, -2147483648, 5, 20, 21, false⟩ (.prim .i32) .nil)))))))) (.cons ⟨0, -1, 0, 0, 3, 3, 93, false⟩ (.struct 106 3 119 (some (2, 2)) (.cons ⟨0, -1, -1, 0, 0, 0, 9, false⟩ (.prim .str) (.cons ⟨0, -1, -1, 0, 1, 1, 21, false⟩ (.prim .i32) .nil))) .nil)))
theorem eqP (n : Int) (fl : Bool) : wFs n fl fsP (defL fsP) = wFs n fl fs (defL fs) := by rfl
theorem b13 : (Go.Proofs.Try.f13).body.map strip = some (sc_bTop X.F X.Fs X.M fs (0) [23, 24]) := by kernel_rfl
theorem ok13 : FnOK PP 13 := fnOK_of Go.Proofs.Try.func13 b13 (by kernel_rfl)
theorem sfTop : SubFns PP fs [23, 24] := by
  simp only [SubFns, hasSub, Bool.false_eq_true, if_false, if_true, List.headD_cons, List.tail_cons, fs]
  exact ⟨⟨ok23, fun w => (c23 w).mono fun e w' ⟨v, q1, q2, q3, q4⟩ => ⟨v, q1, q2, by simp only [SubV]; exact q3, q4⟩⟩, ⟨⟨ok24, fun w => (c24 w).mono fun e w' ⟨v, q1, q2, q3, q4⟩ => ⟨v, q1, q2, by simp only [SubV]; exact q3, q4⟩⟩, trivial⟩⟩
theorem cSp (w : World) : Calls PP 13 #[] w fun e w' => ∃ v, e = .returned (msgV v (0)) ∧ v.oneCell' = true ∧ FsV w' (fun k => w.heap.size ≤ k ∧ k < w'.heap.size) fs v ∧ Below w.heap.size w w' := bTop_ok hX fok uFs arrM mB fs (0) [23, 24] (by kernel_rfl) sfTop (by decide +kernel) Go.Proofs.Try.func13 b13 (by kernel_rfl) (by kernel_rfl) w
noncomputable abbrev zc : Array Value := zcOf PP 95
noncomputable def cs : Array Value := dSetAll 0 [] zc
def scD : SC := .seq (.reg [mv 3 0, nilc 4 3, fa 5 95 4 3, asg 2 5]) (.reg [mv 6 2])
theorem b49 : (Go.Proofs.Try.f49).body.map strip = some (scD) := by kernel_rfl
theorem dA : DefAt PP 49 5 [] := defAt_ok (N := 7) Go.Proofs.Try.func49 b49 (by kernel_rfl) (by kernel_rfl) (by decide) (by kernel_rfl) (by kernel_rfl)
theorem defFn : DefFn PP 49 95 zc cs := ⟨dA.1, fun w b hc => dA.2 w b 0 zc 95 hc (by decide +kernel)⟩
theorem b21 : (Go.Proofs.Try.f21).body.map strip = some (sc_NewPtr 95 49) := by kernel_rfl
theorem ok21 : FnOK PP 21 := fnOK_of Go.Proofs.Try.func21 b21 (by kernel_rfl)
theorem cNP (w : World) : Calls PP 21 #[] w fun e w' => ∃ b, e = .returned (.pointer (some ⟨b, 0, none⟩)) ∧ w.heap.size ≤ b ∧ w'.heap[b]? = some (.cells cs 95 (0, 0)) ∧ Below w.heap.size w w' := newPtr_ok (zc_of (by kernel_rfl)) defFn Go.Proofs.Try.func21 b21 (by kernel_rfl) (by kernel_rfl) w
theorem b22 : (Go.Proofs.Try.f22).body.map strip = some (sc_MaxV 0) := by kernel_rfl
theorem ok22 : FnOK PP 22 := fnOK_of Go.Proofs.Try.func22 b22 (by kernel_rfl)
theorem b12 : (Go.Proofs.Try.f12).body.map strip = some (sc_Max 21 22 38 3) := by kernel_rfl
theorem ok12 : FnOK PP 12 := fnOK_of Go.Proofs.Try.func12 b12 (by kernel_rfl)
theorem cMax (w : World) : Calls PP 12 #[] w fun e w' => e = .returned (.int .i64 ((0 : Nat) : Int)) ∧ Below w.heap.size w w' := max_ok (by kernel_rfl) (by kernel_rfl) (by decide) ok21 cNP ok22 (fun w v => maxV_ok Go.Proofs.Try.func22 b22 (by kernel_rfl) (by kernel_rfl) w v) Go.Proofs.Try.func12 b12 (by kernel_rfl) (by kernel_rfl) w
theorem b25 : (Go.Proofs.Try.f25).body.map strip = some (sc_SetV 95 38) := by kernel_rfl
theorem ok25 : FnOK PP 25 := fnOK_of Go.Proofs.Try.func25 b25 (by kernel_rfl)
theorem b26 : (Go.Proofs.Try.f26).body.map strip = some (aTop ids 95 41 (some 0) (some (4, 4)) fsP) := by kernel_rfl
theorem ok26 : FnOK PP 26 := fnOK_of Go.Proofs.Try.func26 b26 (by kernel_rfl)
theorem cAT (w : World) (b : Nat) (n : Int) (hc : w.heap[b]? = some (.cells (cs.setIfInBounds 0 (.int .i16 n)) 95 (0, 0))) (h0 : 0 ≤ n) (h1 : n < 32768) : Calls PP 26 #[.pointer (some ⟨b, 0, none⟩), .slice none 0 0] w fun e w' => ∃ dv, e = .returned dv ∧ Own X.U8 w' w.heap.size dv (wFs n (flexAt (some 0) n) fsP (defL fsP) ++ wTags (flexAt (some 0) n) []) ∧ Below w.heap.size w w' :=
  newAT_ok ka Go.Proofs.Try.func26 b26 (by kernel_rfl) (by kernel_rfl) (by decide +kernel) (fun n => by kernel_rfl) (fun n => by kernel_rfl) (by decide +kernel) w b n hc h0 h1
theorem b14 : (Go.Proofs.Try.f14).body.map strip = some (sc_New 21 25 26 3 38) := by kernel_rfl
theorem ok14 : FnOK PP 14 := fnOK_of Go.Proofs.Try.func14 b14 (by kernel_rfl)
theorem cNew (w : World) (ver : Nat) (h : ver ≤ 0) : Calls PP 14 #[.int .i64 (ver : Int)] w (RetOwn X.U8 w ((fun n : Int => wFs n (flexAt (some 0) n) fsP (defL fsP) ++ wTags (flexAt (some 0) n) []) ver)) :=
  new_ok (out := fun n : Int => wFs n (flexAt (some 0) n) fsP (defL fsP) ++ wTags (flexAt (some 0) n) []) (by kernel_rfl) (by kernel_rfl) ok21 cNP ok25 (fun w b hc n => setV_ok (by kernel_rfl) (by kernel_rfl) Go.Proofs.Try.func25 b25 (by kernel_rfl) (by kernel_rfl) w b cs _ hc (by decide +kernel) n) ok26 cAT Go.Proofs.Try.func14 b14 (by kernel_rfl) (by kernel_rfl) w ver (by omega)
theorem b4 : (Go.Proofs.Try.f4).body.map strip = some (sc_LawNew 12 13 9 14 11 10 7 X.I X.M X.Fs) := by kernel_rfl
theorem law (w : World) (n : Nat) (hn : n < 256) : Calls PP 4 #[.int .u8 (n : Int)] w fun e w' => e = .returned (.bool true) ∧ Below w.heap.size w w' :=
  lawNew_ok (G := G0) hX hm arrM (m := 0) (by decide) fs (0) (fun n : Int => wFs n (flexAt (some 0) n) fsP (defL fsP) ++ wTags (flexAt (some 0) n) []) ok12 cMax ok13 cSp ok9 (fun w n m h1 h2 => version_ok hX Go.Proofs.Try.func9 b9 (by kernel_rfl) (by kernel_rfl) w n m h1 h2) ok14 cNew ok11 (defC fs (by decide +kernel) (by decide +kernel)) ok10 (fun w fv mf ver t tv h1 h2 h3 => write_ok hX ok20 Go.Proofs.Try.func10 b10 (by kernel_rfl) (by kernel_rfl) fs (partC fs (by decide +kernel) (by decide +kernel)) w fv mf ver t tv h1 h2 h3) ok7 (fun w xs b1 b2 c1 c2 h1 h2 h3 => same_ok hX hm Go.Proofs.Try.func7 b7 (by kernel_rfl) (by kernel_rfl) w xs b1 b2 c1 c2 h1 h2 h3) (fun ver h => by simp only [eqP]; simp [flexAt]) (fun ver h => new_len _ _ fsP (by decide +kernel)) Go.Proofs.Try.func4 b4 (by kernel_rfl) (by kernel_rfl) w n hn
end Go.Proofs.Ytehbllighldbhaa.K.NewDescribeTopicPartitionsResponse
