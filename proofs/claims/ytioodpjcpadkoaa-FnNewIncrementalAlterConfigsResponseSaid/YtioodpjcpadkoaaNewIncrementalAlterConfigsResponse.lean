/- NewIncrementalAlterConfigsResponse: what the law on it computes. No condition. -/
import Derived.Test.YtioodpjcpadkoaaSeat
import Derived.Test.YtioodpjcpadkoaaD1
namespace Go.Proofs.Ytioodpjcpadkoaa.K.NewIncrementalAlterConfigsResponse
open Go Go.RowKit Go.Proofs.Ytioodpjcpadkoaa.T Go.Proofs.Ytioodpjcpadkoaa.K
set_option linter.unusedVariables false
set_option linter.unusedSimpArgs false
def fs84 : Fs := (.cons ⟨0, -1, -1, 0, 0, 0, 38, false⟩ (.prim .i16) (.cons ⟨0, -1, 0, 0, 1, 1, 94, false⟩ (.prim .str) (.cons ⟨0, -1, -1, 0, 2, 2, 128, true⟩ (.prim .i8) (.cons ⟨0, -1, -1, 0, 3, 3, 9, false⟩ (.prim .str) .nil))))
theorem b84 : (Go.Proofs.Try.f84).body.map strip = some (sc_bSub X.F X.Fs fs84 []) := by kernel_rfl
theorem ok84 : FnOK PP 84 := fnOK_of Go.Proofs.Try.func84 b84 (by kernel_rfl)
theorem sf84 : SubFns PP fs84 [] := by
  simp [SubFns, hasSub, fs84]
theorem c84 (w : World) : Calls PP 84 #[] w fun e w' => ∃ v, e = .returned v ∧ v.oneCell' = true ∧ FsV w' (fun k => w.heap.size ≤ k ∧ k < w'.heap.size) fs84 v ∧ Below w.heap.size w w' := bSub_ok hX fok uFs fs84 [] (by kernel_rfl) sf84 (by decide +kernel) Go.Proofs.Try.func84 b84 (by kernel_rfl) (by kernel_rfl) w
def fs : Fs := (.cons ⟨0, -1, -1, 0, 1, 1, 21, false⟩ (.prim .i32) (.cons ⟨0, -1, -1, 0, 2, 2, 123, false⟩ (.list 123 130 5 (.struct 130 5 222 (some (4, 4)) (.cons ⟨0, -1, -1, 0, 0, 0, 38, false⟩ (.prim .i16) (.cons ⟨0, -1, 0, 0, 1, 1, 94, false⟩ (.prim .str) (.cons ⟨0, -1, -1, 0, 2, 2, 128, true⟩ (.prim .i8) (.cons ⟨0, -1, -1, 0, 3, 3, 9, false⟩ (.prim .str) .nil)))))) .nil))
theorem b38 : (Go.Proofs.Try.f38).body.map strip = some (sc_bTop X.F X.Fs X.M fs (1) [84]) := by kernel_rfl
theorem ok38 : FnOK PP 38 := fnOK_of Go.Proofs.Try.func38 b38 (by kernel_rfl)
theorem sfTop : SubFns PP fs [84] := by
  simp only [SubFns, hasSub, Bool.false_eq_true, if_false, if_true, List.headD_cons, List.tail_cons, fs]
  exact ⟨⟨ok84, fun w => (c84 w).mono fun e w' ⟨v, q1, q2, q3, q4⟩ => ⟨v, q1, q2, by simp only [SubV]; exact q3, q4⟩⟩, trivial⟩
theorem cSp (w : World) : Calls PP 38 #[] w fun e w' => ∃ v, e = .returned (msgV v (1)) ∧ v.oneCell' = true ∧ FsV w' (fun k => w.heap.size ≤ k ∧ k < w'.heap.size) fs v ∧ Below w.heap.size w w' := bTop_ok hX fok uFs arrM mB fs (1) [84] (by kernel_rfl) sfTop (by decide +kernel) Go.Proofs.Try.func38 b38 (by kernel_rfl) (by kernel_rfl) w
noncomputable abbrev zc : Array Value := zcOf PP 125
noncomputable def cs : Array Value := dSetAll 0 [] zc
def scD : SC := .skip
theorem b147 : (Go.Proofs.Try.f147).body.map strip = some (scD) := by kernel_rfl
theorem dA : DefAt PP 147 4 [] := defAt_ok (N := 2) Go.Proofs.Try.func147 b147 (by kernel_rfl) (by kernel_rfl) (by decide) (by kernel_rfl) (by kernel_rfl)
theorem defFn : DefFn PP 147 125 zc cs := ⟨dA.1, fun w b hc => dA.2 w b 0 zc 125 hc (by decide +kernel)⟩
theorem b82 : (Go.Proofs.Try.f82).body.map strip = some (sc_NewPtr 125 147) := by kernel_rfl
theorem ok82 : FnOK PP 82 := fnOK_of Go.Proofs.Try.func82 b82 (by kernel_rfl)
theorem cNP (w : World) : Calls PP 82 #[] w fun e w' => ∃ b, e = .returned (.pointer (some ⟨b, 0, none⟩)) ∧ w.heap.size ≤ b ∧ w'.heap[b]? = some (.cells cs 125 (0, 0)) ∧ Below w.heap.size w w' := newPtr_ok (zc_of (by kernel_rfl)) defFn Go.Proofs.Try.func82 b82 (by kernel_rfl) (by kernel_rfl) w
theorem b83 : (Go.Proofs.Try.f83).body.map strip = some (sc_MaxV 1) := by kernel_rfl
theorem ok83 : FnOK PP 83 := fnOK_of Go.Proofs.Try.func83 b83 (by kernel_rfl)
theorem b37 : (Go.Proofs.Try.f37).body.map strip = some (sc_Max 82 83 38 3) := by kernel_rfl
theorem ok37 : FnOK PP 37 := fnOK_of Go.Proofs.Try.func37 b37 (by kernel_rfl)
theorem cMax (w : World) : Calls PP 37 #[] w fun e w' => e = .returned (.int .i64 ((1 : Nat) : Int)) ∧ Below w.heap.size w w' := max_ok (by kernel_rfl) (by kernel_rfl) (by decide) ok82 cNP ok83 (fun w v => maxV_ok Go.Proofs.Try.func83 b83 (by kernel_rfl) (by kernel_rfl) w v) Go.Proofs.Try.func37 b37 (by kernel_rfl) (by kernel_rfl) w
theorem b85 : (Go.Proofs.Try.f85).body.map strip = some (sc_SetV 125 38) := by kernel_rfl
theorem ok85 : FnOK PP 85 := fnOK_of Go.Proofs.Try.func85 b85 (by kernel_rfl)
theorem b86 : (Go.Proofs.Try.f86).body.map strip = some (aTop ids 125 16 (some 1) (some (3, 3)) fs) := by kernel_rfl
theorem ok86 : FnOK PP 86 := fnOK_of Go.Proofs.Try.func86 b86 (by kernel_rfl)
theorem cAT (w : World) (b : Nat) (n : Int) (hc : w.heap[b]? = some (.cells (cs.setIfInBounds 0 (.int .i16 n)) 125 (0, 0))) (h0 : 0 ≤ n) (h1 : n < 32768) : Calls PP 86 #[.pointer (some ⟨b, 0, none⟩), .slice none 0 0] w fun e w' => ∃ dv, e = .returned dv ∧ Own X.U8 w' w.heap.size dv (wFs n (flexAt (some 1) n) fs (defL fs) ++ wTags (flexAt (some 1) n) []) ∧ Below w.heap.size w w' :=
  newAT_ok ka Go.Proofs.Try.func86 b86 (by kernel_rfl) (by kernel_rfl) (by decide +kernel) (fun n => by kernel_rfl) (fun n => by kernel_rfl) (by decide +kernel) w b n hc h0 h1
theorem b39 : (Go.Proofs.Try.f39).body.map strip = some (sc_New 82 85 86 3 38) := by kernel_rfl
theorem ok39 : FnOK PP 39 := fnOK_of Go.Proofs.Try.func39 b39 (by kernel_rfl)
theorem cNew (w : World) (ver : Nat) (h : ver ≤ 1) : Calls PP 39 #[.int .i64 (ver : Int)] w (RetOwn X.U8 w ((fun n : Int => wFs n (flexAt (some 1) n) fs (defL fs) ++ wTags (flexAt (some 1) n) []) ver)) :=
  new_ok (out := fun n : Int => wFs n (flexAt (some 1) n) fs (defL fs) ++ wTags (flexAt (some 1) n) []) (by kernel_rfl) (by kernel_rfl) ok82 cNP ok85 (fun w b hc n => setV_ok (by kernel_rfl) (by kernel_rfl) Go.Proofs.Try.func85 b85 (by kernel_rfl) (by kernel_rfl) w b cs _ hc (by decide +kernel) n) ok86 cAT Go.Proofs.Try.func39 b39 (by kernel_rfl) (by kernel_rfl) w ver (by omega)
theorem b9 : (Go.Proofs.Try.f9).body.map strip = some (sc_LawNew 37 38 19 39 21 20 17 X.I X.M X.Fs) := by kernel_rfl
theorem law (w : World) (n : Nat) (hn : n < 256) : Calls PP 9 #[.int .u8 (n : Int)] w fun e w' => e = .returned (.bool true) ∧ Below w.heap.size w w' :=
  lawNew_ok (G := G0) hX hm arrM (m := 1) (by decide) fs (1) (fun n : Int => wFs n (flexAt (some 1) n) fs (defL fs) ++ wTags (flexAt (some 1) n) []) ok37 cMax ok38 cSp ok19 (fun w n m h1 h2 => version_ok hX Go.Proofs.Try.func19 b19 (by kernel_rfl) (by kernel_rfl) w n m h1 h2) ok39 cNew ok21 (defC fs (by decide +kernel) (by decide +kernel)) ok20 (fun w fv mf ver t tv h1 h2 h3 => write_ok hX ok59 Go.Proofs.Try.func20 b20 (by kernel_rfl) (by kernel_rfl) fs (partC fs (by decide +kernel) (by decide +kernel)) w fv mf ver t tv h1 h2 h3) ok17 (fun w xs b1 b2 c1 c2 h1 h2 h3 => same_ok hX hm Go.Proofs.Try.func17 b17 (by kernel_rfl) (by kernel_rfl) w xs b1 b2 c1 c2 h1 h2 h3) (fun ver h => by simp [flexAt]) (fun ver h => new_len _ _ fs (by decide +kernel)) Go.Proofs.Try.func9 b9 (by kernel_rfl) (by kernel_rfl) w n hn
end Go.Proofs.Ytioodpjcpadkoaa.K.NewIncrementalAlterConfigsResponse
