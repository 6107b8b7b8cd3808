/- NewTxnOffsetCommitRequest: what the law on it computes. No condition. -/
import Derived.Test.YtioodpjcpadkoaaSeat
import Derived.Test.YtioodpjcpadkoaaD1
namespace Go.Proofs.Ytioodpjcpadkoaa.K.NewTxnOffsetCommitRequest
open Go Go.RowKit Go.Proofs.Ytioodpjcpadkoaa.T Go.Proofs.Ytioodpjcpadkoaa.K
set_option linter.unusedVariables false
set_option linter.unusedSimpArgs false
def fs158 : Fs := (.cons ⟨0, -1, -1, 0, 0, 0, 21, false⟩ (.prim .i32) (.cons ⟨0, -1, -1, 0, 1, 1, 2, false⟩ (.prim .i64) (.cons ⟨2, -1, -1, -1, 2, 2, 21, false⟩ (.prim .i32) (.cons ⟨0, -1, 0, 0, 3, 3, 94, false⟩ (.prim .str) .nil))))
theorem b158 : (Go.Proofs.Try.f158).body.map strip = some (sc_bSub X.F X.Fs fs158 []) := by kernel_rfl
theorem ok158 : FnOK PP 158 := fnOK_of Go.Proofs.Try.func158 b158 (by kernel_rfl)
theorem sf158 : SubFns PP fs158 [] := by
  simp [SubFns, hasSub, fs158]
theorem c158 (w : World) : Calls PP 158 #[] w fun e w' => ∃ v, e = .returned v ∧ v.oneCell' = true ∧ FsV w' (fun k => w.heap.size ≤ k ∧ k < w'.heap.size) fs158 v ∧ Below w.heap.size w w' := bSub_ok hX fok uFs fs158 [] (by kernel_rfl) sf158 (by decide +kernel) Go.Proofs.Try.func158 b158 (by kernel_rfl) (by kernel_rfl) w
def fs111 : Fs := (.cons ⟨0, 5, -1, 0, 0, 0, 9, false⟩ (.prim .str) (.cons ⟨6, -1, -1, 0, 1, 1, 95, false⟩ (.prim .uuid) (.cons ⟨0, -1, -1, 0, 2, 17, 185, false⟩ (.list 185 190 5 (.struct 190 5 235 (some (4, 4)) (.cons ⟨0, -1, -1, 0, 0, 0, 21, false⟩ (.prim .i32) (.cons ⟨0, -1, -1, 0, 1, 1, 2, false⟩ (.prim .i64) (.cons ⟨2, -1, -1, -1, 2, 2, 21, false⟩ (.prim .i32) (.cons ⟨0, -1, 0, 0, 3, 3, 94, false⟩ (.prim .str) .nil)))))) .nil)))
theorem b111 : (Go.Proofs.Try.f111).body.map strip = some (sc_bSub X.F X.Fs fs111 [158]) := by kernel_rfl
theorem ok111 : FnOK PP 111 := fnOK_of Go.Proofs.Try.func111 b111 (by kernel_rfl)
theorem sf111 : SubFns PP fs111 [158] := by
  simp only [SubFns, hasSub, Bool.false_eq_true, if_false, if_true, List.headD_cons, List.tail_cons, fs111]
  exact ⟨⟨ok158, fun w => (c158 w).mono fun e w' ⟨v, q1, q2, q3, q4⟩ => ⟨v, q1, q2, by simp only [SubV]; exact q3, q4⟩⟩, trivial⟩
theorem c111 (w : World) : Calls PP 111 #[] w fun e w' => ∃ v, e = .returned v ∧ v.oneCell' = true ∧ FsV w' (fun k => w.heap.size ≤ k ∧ k < w'.heap.size) fs111 v ∧ Below w.heap.size w w' := bSub_ok hX fok uFs fs111 [158] (by kernel_rfl) sf111 (by decide +kernel) Go.Proofs.Try.func111 b111 (by kernel_rfl) (by kernel_rfl) w
def fs : Fs := (.cons ⟨0, -1, -1, 0, 1, 1, 9, false⟩ (.prim .str) (.cons ⟨0, -1, -1, 0, 2, 2, 9, false⟩ (.prim .str) (.cons ⟨0, -1, -1, 0, 3, 3, 2, false⟩ (.prim .i64) (.cons ⟨0, -1, -1, 0, 4, 4, 38, false⟩ (.prim .i16) (.cons ⟨3, -1, -1, -1, 5, 5, 21, false⟩ (.prim .i32) (.cons ⟨3, -1, -1, 0, 6, 6, 9, false⟩ (.prim .str) (.cons ⟨3, -1, 3, 0, 7, 7, 94, false⟩ (.prim .str) (.cons ⟨0, -1, -1, 0, 8, 8, 181, false⟩ (.list 181 187 19 (.struct 187 19 234 (some (3, 18)) (.cons ⟨0, 5, -1, 0, 0, 0, 9, false⟩ (.prim .str) (.cons ⟨6, -1, -1, 0, 1, 1, 95, false⟩ (.prim .uuid) (.cons ⟨0, -1, -1, 0, 2, 17, 185, false⟩ (.list 185 190 5 (.struct 190 5 235 (some (4, 4)) (.cons ⟨0, -1, -1, 0, 0, 0, 21, false⟩ (.prim .i32) (.cons ⟨0, -1, -1, 0, 1, 1, 2, false⟩ (.prim .i64) (.cons ⟨2, -1, -1, -1, 2, 2, 21, false⟩ (.prim .i32) (.cons ⟨0, -1, 0, 0, 3, 3, 94, false⟩ (.prim .str) .nil)))))) .nil))))) .nil))))))))
theorem b53 : (Go.Proofs.Try.f53).body.map strip = some (sc_bTop X.F X.Fs X.M fs (3) [111]) := by kernel_rfl
theorem ok53 : FnOK PP 53 := fnOK_of Go.Proofs.Try.func53 b53 (by kernel_rfl)
theorem sfTop : SubFns PP fs [111] := by
  simp only [SubFns, hasSub, Bool.false_eq_true, if_false, if_true, List.headD_cons, List.tail_cons, fs]
  exact ⟨⟨ok111, fun w => (c111 w).mono fun e w' ⟨v, q1, q2, q3, q4⟩ => ⟨v, q1, q2, by simp only [SubV]; exact q3, q4⟩⟩, trivial⟩
theorem cSp (w : World) : Calls PP 53 #[] w fun e w' => ∃ v, e = .returned (msgV v (3)) ∧ v.oneCell' = true ∧ FsV w' (fun k => w.heap.size ≤ k ∧ k < w'.heap.size) fs v ∧ Below w.heap.size w w' := bTop_ok hX fok uFs arrM mB fs (3) [111] (by kernel_rfl) sfTop (by decide +kernel) Go.Proofs.Try.func53 b53 (by kernel_rfl) (by kernel_rfl) w
noncomputable abbrev zc : Array Value := zcOf PP 183
noncomputable def cs : Array Value := dSetAll 0 [(5, (.int .i32 (-1)))] zc
def scD : SC := .reg [mv 2 0, nilc 3 2, fa 4 183 3 5, ⟨none, .store 21 (.tmp 4) (.const (.int .i32 (-1))), none⟩]
theorem b157 : (Go.Proofs.Try.f157).body.map strip = some (scD) := by kernel_rfl
theorem dA : DefAt PP 157 10 [(5, (.int .i32 (-1)))] := defAt_ok (N := 5) Go.Proofs.Try.func157 b157 (by kernel_rfl) (by kernel_rfl) (by decide) (by kernel_rfl) (by kernel_rfl)
theorem defFn : DefFn PP 157 183 zc cs := ⟨dA.1, fun w b hc => dA.2 w b 0 zc 183 hc (by decide +kernel)⟩
theorem b109 : (Go.Proofs.Try.f109).body.map strip = some (sc_NewPtr 183 157) := by kernel_rfl
theorem ok109 : FnOK PP 109 := fnOK_of Go.Proofs.Try.func109 b109 (by kernel_rfl)
theorem cNP (w : World) : Calls PP 109 #[] w fun e w' => ∃ b, e = .returned (.pointer (some ⟨b, 0, none⟩)) ∧ w.heap.size ≤ b ∧ w'.heap[b]? = some (.cells cs 183 (0, 0)) ∧ Below w.heap.size w w' := newPtr_ok (zc_of (by kernel_rfl)) defFn Go.Proofs.Try.func109 b109 (by kernel_rfl) (by kernel_rfl) w
theorem b110 : (Go.Proofs.Try.f110).body.map strip = some (sc_MaxV 6) := by kernel_rfl
theorem ok110 : FnOK PP 110 := fnOK_of Go.Proofs.Try.func110 b110 (by kernel_rfl)
theorem b52 : (Go.Proofs.Try.f52).body.map strip = some (sc_Max 109 110 38 3) := by kernel_rfl
theorem ok52 : FnOK PP 52 := fnOK_of Go.Proofs.Try.func52 b52 (by kernel_rfl)
theorem cMax (w : World) : Calls PP 52 #[] w fun e w' => e = .returned (.int .i64 ((6 : Nat) : Int)) ∧ Below w.heap.size w w' := max_ok (by kernel_rfl) (by kernel_rfl) (by decide) ok109 cNP ok110 (fun w v => maxV_ok Go.Proofs.Try.func110 b110 (by kernel_rfl) (by kernel_rfl) w v) Go.Proofs.Try.func52 b52 (by kernel_rfl) (by kernel_rfl) w
theorem b112 : (Go.Proofs.Try.f112).body.map strip = some (sc_SetV 183 38) := by kernel_rfl
theorem ok112 : FnOK PP 112 := fnOK_of Go.Proofs.Try.func112 b112 (by kernel_rfl)
theorem b113 : (Go.Proofs.Try.f113).body.map strip = some (aTop ids 183 26 (some 3) (some (9, 9)) fs) := by kernel_rfl
theorem ok113 : FnOK PP 113 := fnOK_of Go.Proofs.Try.func113 b113 (by kernel_rfl)
theorem cAT (w : World) (b : Nat) (n : Int) (hc : w.heap[b]? = some (.cells (cs.setIfInBounds 0 (.int .i16 n)) 183 (0, 0))) (h0 : 0 ≤ n) (h1 : n < 32768) : Calls PP 113 #[.pointer (some ⟨b, 0, none⟩), .slice none 0 0] w fun e w' => ∃ dv, e = .returned dv ∧ Own X.U8 w' w.heap.size dv (wFs n (flexAt (some 3) n) fs (defL fs) ++ wTags (flexAt (some 3) n) []) ∧ Below w.heap.size w w' :=
  newAT_ok ka Go.Proofs.Try.func113 b113 (by kernel_rfl) (by kernel_rfl) (by decide +kernel) (fun n => by kernel_rfl) (fun n => by kernel_rfl) (by decide +kernel) w b n hc h0 h1
theorem b54 : (Go.Proofs.Try.f54).body.map strip = some (sc_New 109 112 113 3 38) := by kernel_rfl
theorem ok54 : FnOK PP 54 := fnOK_of Go.Proofs.Try.func54 b54 (by kernel_rfl)
theorem cNew (w : World) (ver : Nat) (h : ver ≤ 6) : Calls PP 54 #[.int .i64 (ver : Int)] w (RetOwn X.U8 w ((fun n : Int => wFs n (flexAt (some 3) n) fs (defL fs) ++ wTags (flexAt (some 3) n) []) ver)) :=
  new_ok (out := fun n : Int => wFs n (flexAt (some 3) n) fs (defL fs) ++ wTags (flexAt (some 3) n) []) (by kernel_rfl) (by kernel_rfl) ok109 cNP ok112 (fun w b hc n => setV_ok (by kernel_rfl) (by kernel_rfl) Go.Proofs.Try.func112 b112 (by kernel_rfl) (by kernel_rfl) w b cs _ hc (by decide +kernel) n) ok113 cAT Go.Proofs.Try.func54 b54 (by kernel_rfl) (by kernel_rfl) w ver (by omega)
theorem b14 : (Go.Proofs.Try.f14).body.map strip = some (sc_LawNew 52 53 19 54 21 20 17 X.I X.M X.Fs) := by kernel_rfl
theorem law (w : World) (n : Nat) (hn : n < 256) : Calls PP 14 #[.int .u8 (n : Int)] w fun e w' => e = .returned (.bool true) ∧ Below w.heap.size w w' :=
  lawNew_ok (G := G0) hX hm arrM (m := 6) (by decide) fs (3) (fun n : Int => wFs n (flexAt (some 3) n) fs (defL fs) ++ wTags (flexAt (some 3) n) []) ok52 cMax ok53 cSp ok19 (fun w n m h1 h2 => version_ok hX Go.Proofs.Try.func19 b19 (by kernel_rfl) (by kernel_rfl) w n m h1 h2) ok54 cNew ok21 (defC fs (by decide +kernel) (by decide +kernel)) ok20 (fun w fv mf ver t tv h1 h2 h3 => write_ok hX ok59 Go.Proofs.Try.func20 b20 (by kernel_rfl) (by kernel_rfl) fs (partC fs (by decide +kernel) (by decide +kernel)) w fv mf ver t tv h1 h2 h3) ok17 (fun w xs b1 b2 c1 c2 h1 h2 h3 => same_ok hX hm Go.Proofs.Try.func17 b17 (by kernel_rfl) (by kernel_rfl) w xs b1 b2 c1 c2 h1 h2 h3) (fun ver h => by simp [flexAt]) (fun ver h => new_len _ _ fs (by decide +kernel)) Go.Proofs.Try.func14 b14 (by kernel_rfl) (by kernel_rfl) w n hn
end Go.Proofs.Ytioodpjcpadkoaa.K.NewTxnOffsetCommitRequest
