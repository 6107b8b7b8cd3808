/- NewDeleteShareGroupOffsetsResponse: what the law on it computes. No condition. -/
import Derived.Test.YtioodpjcpadkoaaSeat
import Derived.Test.YtioodpjcpadkoaaD1
namespace Go.Proofs.Ytioodpjcpadkoaa.K.NewDeleteShareGroupOffsetsResponse
open Go Go.RowKit Go.Proofs.Ytioodpjcpadkoaa.T Go.Proofs.Ytioodpjcpadkoaa.K
set_option linter.unusedVariables false
set_option linter.unusedSimpArgs false
def fs89 : Fs := (.cons ⟨0, -1, -1, 0, 0, 0, 9, false⟩ (.prim .str) (.cons ⟨0, -1, -1, 0, 1, 1, 95, false⟩ (.prim .uuid) (.cons ⟨0, -1, -1, 0, 2, 17, 38, false⟩ (.prim .i16) (.cons ⟨0, -1, 0, 0, 3, 18, 94, false⟩ (.prim .str) .nil))))
theorem b89 : (Go.Proofs.Try.f89).body.map strip = some (sc_bSub X.F X.Fs fs89 []) := by kernel_rfl
theorem ok89 : FnOK PP 89 := fnOK_of Go.Proofs.Try.func89 b89 (by kernel_rfl)
theorem sf89 : SubFns PP fs89 [] := by
  simp [SubFns, hasSub, fs89]
theorem c89 (w : World) : Calls PP 89 #[] w fun e w' => ∃ v, e = .returned v ∧ v.oneCell' = true ∧ FsV w' (fun k => w.heap.size ≤ k ∧ k < w'.heap.size) fs89 v ∧ Below w.heap.size w w' := bSub_ok hX fok uFs fs89 [] (by kernel_rfl) sf89 (by decide +kernel) Go.Proofs.Try.func89 b89 (by kernel_rfl) (by kernel_rfl) w
def fs : Fs := (.cons ⟨0, -1, -1, 0, 1, 1, 21, false⟩ (.prim .i32) (.cons ⟨0, -1, -1, 0, 2, 2, 38, false⟩ (.prim .i16) (.cons ⟨0, -1, 0, 0, 3, 3, 94, false⟩ (.prim .str) (.cons ⟨0, -1, -1, 0, 4, 4, 132, false⟩ (.list 132 137 20 (.struct 137 20 224 (some (4, 19)) (.cons ⟨0, -1, -1, 0, 0, 0, 9, false⟩ (.prim .str) (.cons ⟨0, -1, -1, 0, 1, 1, 95, false⟩ (.prim .uuid) (.cons ⟨0, -1, -1, 0, 2, 17, 38, false⟩ (.prim .i16) (.cons ⟨0, -1, 0, 0, 3, 18, 94, false⟩ (.prim .str) .nil)))))) .nil))))
theorem b41 : (Go.Proofs.Try.f41).body.map strip = some (sc_bTop X.F X.Fs X.M fs (0) [89]) := by kernel_rfl
theorem ok41 : FnOK PP 41 := fnOK_of Go.Proofs.Try.func41 b41 (by kernel_rfl)
theorem sfTop : SubFns PP fs [89] := by
  simp only [SubFns, hasSub, Bool.false_eq_true, if_false, if_true, List.headD_cons, List.tail_cons, fs]
  exact ⟨⟨ok89, fun w => (c89 w).mono fun e w' ⟨v, q1, q2, q3, q4⟩ => ⟨v, q1, q2, by simp only [SubV]; exact q3, q4⟩⟩, trivial⟩
theorem cSp (w : World) : Calls PP 41 #[] w fun e w' => ∃ v, e = .returned (msgV v (0)) ∧ v.oneCell' = true ∧ FsV w' (fun k => w.heap.size ≤ k ∧ k < w'.heap.size) fs v ∧ Below w.heap.size w w' := bTop_ok hX fok uFs arrM mB fs (0) [89] (by kernel_rfl) sfTop (by decide +kernel) Go.Proofs.Try.func41 b41 (by kernel_rfl) (by kernel_rfl) w
noncomputable abbrev zc : Array Value := zcOf PP 134
noncomputable def cs : Array Value := dSetAll 0 [] zc
def scD : SC := .skip
theorem b149 : (Go.Proofs.Try.f149).body.map strip = some (scD) := by kernel_rfl
theorem dA : DefAt PP 149 6 [] := defAt_ok (N := 2) Go.Proofs.Try.func149 b149 (by kernel_rfl) (by kernel_rfl) (by decide) (by kernel_rfl) (by kernel_rfl)
theorem defFn : DefFn PP 149 134 zc cs := ⟨dA.1, fun w b hc => dA.2 w b 0 zc 134 hc (by decide +kernel)⟩
theorem b87 : (Go.Proofs.Try.f87).body.map strip = some (sc_NewPtr 134 149) := by kernel_rfl
theorem ok87 : FnOK PP 87 := fnOK_of Go.Proofs.Try.func87 b87 (by kernel_rfl)
theorem cNP (w : World) : Calls PP 87 #[] w fun e w' => ∃ b, e = .returned (.pointer (some ⟨b, 0, none⟩)) ∧ w.heap.size ≤ b ∧ w'.heap[b]? = some (.cells cs 134 (0, 0)) ∧ Below w.heap.size w w' := newPtr_ok (zc_of (by kernel_rfl)) defFn Go.Proofs.Try.func87 b87 (by kernel_rfl) (by kernel_rfl) w
theorem b88 : (Go.Proofs.Try.f88).body.map strip = some (sc_MaxV 0) := by kernel_rfl
theorem ok88 : FnOK PP 88 := fnOK_of Go.Proofs.Try.func88 b88 (by kernel_rfl)
theorem b40 : (Go.Proofs.Try.f40).body.map strip = some (sc_Max 87 88 38 3) := by kernel_rfl
theorem ok40 : FnOK PP 40 := fnOK_of Go.Proofs.Try.func40 b40 (by kernel_rfl)
theorem cMax (w : World) : Calls PP 40 #[] w fun e w' => e = .returned (.int .i64 ((0 : Nat) : Int)) ∧ Below w.heap.size w w' := max_ok (by kernel_rfl) (by kernel_rfl) (by decide) ok87 cNP ok88 (fun w v => maxV_ok Go.Proofs.Try.func88 b88 (by kernel_rfl) (by kernel_rfl) w v) Go.Proofs.Try.func40 b40 (by kernel_rfl) (by kernel_rfl) w
theorem b90 : (Go.Proofs.Try.f90).body.map strip = some (sc_SetV 134 38) := by kernel_rfl
theorem ok90 : FnOK PP 90 := fnOK_of Go.Proofs.Try.func90 b90 (by kernel_rfl)
theorem b91 : (Go.Proofs.Try.f91).body.map strip = some (aTop ids 134 17 (some 0) (some (5, 5)) fs) := by kernel_rfl
theorem ok91 : FnOK PP 91 := fnOK_of Go.Proofs.Try.func91 b91 (by kernel_rfl)
theorem cAT (w : World) (b : Nat) (n : Int) (hc : w.heap[b]? = some (.cells (cs.setIfInBounds 0 (.int .i16 n)) 134 (0, 0))) (h0 : 0 ≤ n) (h1 : n < 32768) : Calls PP 91 #[.pointer (some ⟨b, 0, none⟩), .slice none 0 0] w fun e w' => ∃ dv, e = .returned dv ∧ Own X.U8 w' w.heap.size dv (wFs n (flexAt (some 0) n) fs (defL fs) ++ wTags (flexAt (some 0) n) []) ∧ Below w.heap.size w w' :=
  newAT_ok ka Go.Proofs.Try.func91 b91 (by kernel_rfl) (by kernel_rfl) (by decide +kernel) (fun n => by kernel_rfl) (fun n => by kernel_rfl) (by decide +kernel) w b n hc h0 h1
theorem b42 : (Go.Proofs.Try.f42).body.map strip = some (sc_New 87 90 91 3 38) := by kernel_rfl
theorem ok42 : FnOK PP 42 := fnOK_of Go.Proofs.Try.func42 b42 (by kernel_rfl)
theorem cNew (w : World) (ver : Nat) (h : ver ≤ 0) : Calls PP 42 #[.int .i64 (ver : Int)] w (RetOwn X.U8 w ((fun n : Int => wFs n (flexAt (some 0) n) fs (defL fs) ++ wTags (flexAt (some 0) n) []) ver)) :=
  new_ok (out := fun n : Int => wFs n (flexAt (some 0) n) fs (defL fs) ++ wTags (flexAt (some 0) n) []) (by kernel_rfl) (by kernel_rfl) ok87 cNP ok90 (fun w b hc n => setV_ok (by kernel_rfl) (by kernel_rfl) Go.Proofs.Try.func90 b90 (by kernel_rfl) (by kernel_rfl) w b cs _ hc (by decide +kernel) n) ok91 cAT Go.Proofs.Try.func42 b42 (by kernel_rfl) (by kernel_rfl) w ver (by omega)
theorem b10 : (Go.Proofs.Try.f10).body.map strip = some (sc_LawNew 40 41 19 42 21 20 17 X.I X.M X.Fs) := by kernel_rfl
theorem law (w : World) (n : Nat) (hn : n < 256) : Calls PP 10 #[.int .u8 (n : Int)] w fun e w' => e = .returned (.bool true) ∧ Below w.heap.size w w' :=
  lawNew_ok (G := G0) hX hm arrM (m := 0) (by decide) fs (0) (fun n : Int => wFs n (flexAt (some 0) n) fs (defL fs) ++ wTags (flexAt (some 0) n) []) ok40 cMax ok41 cSp ok19 (fun w n m h1 h2 => version_ok hX Go.Proofs.Try.func19 b19 (by kernel_rfl) (by kernel_rfl) w n m h1 h2) ok42 cNew ok21 (defC fs (by decide +kernel) (by decide +kernel)) ok20 (fun w fv mf ver t tv h1 h2 h3 => write_ok hX ok59 Go.Proofs.Try.func20 b20 (by kernel_rfl) (by kernel_rfl) fs (partC fs (by decide +kernel) (by decide +kernel)) w fv mf ver t tv h1 h2 h3) ok17 (fun w xs b1 b2 c1 c2 h1 h2 h3 => same_ok hX hm Go.Proofs.Try.func17 b17 (by kernel_rfl) (by kernel_rfl) w xs b1 b2 c1 c2 h1 h2 h3) (fun ver h => by simp [flexAt]) (fun ver h => new_len _ _ fs (by decide +kernel)) Go.Proofs.Try.func10 b10 (by kernel_rfl) (by kernel_rfl) w n hn
end Go.Proofs.Ytioodpjcpadkoaa.K.NewDeleteShareGroupOffsetsResponse
