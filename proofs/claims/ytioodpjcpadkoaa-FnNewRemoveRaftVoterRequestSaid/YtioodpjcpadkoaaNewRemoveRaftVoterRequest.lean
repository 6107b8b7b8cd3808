/- NewRemoveRaftVoterRequest: what the law on it computes. No condition. -/
import Derived.Test.YtioodpjcpadkoaaSeat
import Derived.Test.YtioodpjcpadkoaaD1
namespace Go.Proofs.Ytioodpjcpadkoaa.K.NewRemoveRaftVoterRequest
open Go Go.RowKit Go.Proofs.Ytioodpjcpadkoaa.T Go.Proofs.Ytioodpjcpadkoaa.K
set_option linter.unusedVariables false
set_option linter.unusedSimpArgs false
def fs : Fs := (.cons ⟨0, -1, 0, 0, 1, 1, 94, false⟩ (.prim .str) (.cons ⟨0, -1, -1, 0, 2, 2, 21, false⟩ (.prim .i32) (.cons ⟨0, -1, -1, 0, 3, 3, 95, false⟩ (.prim .uuid) .nil)))
theorem b26 : (Go.Proofs.Try.f26).body.map strip = some (sc_bTop X.F X.Fs X.M fs (0) []) := by kernel_rfl
theorem ok26 : FnOK PP 26 := fnOK_of Go.Proofs.Try.func26 b26 (by kernel_rfl)
theorem sfTop : SubFns PP fs [] := by
  simp [SubFns, hasSub, fs]
theorem cSp (w : World) : Calls PP 26 #[] w fun e w' => ∃ v, e = .returned (msgV v (0)) ∧ v.oneCell' = true ∧ FsV w' (fun k => w.heap.size ≤ k ∧ k < w'.heap.size) fs v ∧ Below w.heap.size w w' := bTop_ok hX fok uFs arrM mB fs (0) [] (by kernel_rfl) sfTop (by decide +kernel) Go.Proofs.Try.func26 b26 (by kernel_rfl) (by kernel_rfl) w
noncomputable abbrev zc : Array Value := zcOf PP 97
noncomputable def cs : Array Value := dSetAll 0 [] zc
def scD : SC := .skip
theorem b133 : (Go.Proofs.Try.f133).body.map strip = some (scD) := by kernel_rfl
theorem dA : DefAt PP 133 20 [] := defAt_ok (N := 2) Go.Proofs.Try.func133 b133 (by kernel_rfl) (by kernel_rfl) (by decide) (by kernel_rfl) (by kernel_rfl)
theorem defFn : DefFn PP 133 97 zc cs := ⟨dA.1, fun w b hc => dA.2 w b 0 zc 97 hc (by decide +kernel)⟩
theorem b64 : (Go.Proofs.Try.f64).body.map strip = some (sc_NewPtr 97 133) := by kernel_rfl
theorem ok64 : FnOK PP 64 := fnOK_of Go.Proofs.Try.func64 b64 (by kernel_rfl)
theorem cNP (w : World) : Calls PP 64 #[] w fun e w' => ∃ b, e = .returned (.pointer (some ⟨b, 0, none⟩)) ∧ w.heap.size ≤ b ∧ w'.heap[b]? = some (.cells cs 97 (0, 0)) ∧ Below w.heap.size w w' := newPtr_ok (zc_of (by kernel_rfl)) defFn Go.Proofs.Try.func64 b64 (by kernel_rfl) (by kernel_rfl) w
theorem b65 : (Go.Proofs.Try.f65).body.map strip = some (sc_MaxV 0) := by kernel_rfl
theorem ok65 : FnOK PP 65 := fnOK_of Go.Proofs.Try.func65 b65 (by kernel_rfl)
theorem b25 : (Go.Proofs.Try.f25).body.map strip = some (sc_Max 64 65 38 3) := by kernel_rfl
theorem ok25 : FnOK PP 25 := fnOK_of Go.Proofs.Try.func25 b25 (by kernel_rfl)
theorem cMax (w : World) : Calls PP 25 #[] w fun e w' => e = .returned (.int .i64 ((0 : Nat) : Int)) ∧ Below w.heap.size w w' := max_ok (by kernel_rfl) (by kernel_rfl) (by decide) ok64 cNP ok65 (fun w v => maxV_ok Go.Proofs.Try.func65 b65 (by kernel_rfl) (by kernel_rfl) w v) Go.Proofs.Try.func25 b25 (by kernel_rfl) (by kernel_rfl) w
theorem b66 : (Go.Proofs.Try.f66).body.map strip = some (sc_SetV 97 38) := by kernel_rfl
theorem ok66 : FnOK PP 66 := fnOK_of Go.Proofs.Try.func66 b66 (by kernel_rfl)
theorem b67 : (Go.Proofs.Try.f67).body.map strip = some (aTop ids 97 10 (some 0) (some (4, 19)) fs) := by kernel_rfl
theorem ok67 : FnOK PP 67 := fnOK_of Go.Proofs.Try.func67 b67 (by kernel_rfl)
theorem cAT (w : World) (b : Nat) (n : Int) (hc : w.heap[b]? = some (.cells (cs.setIfInBounds 0 (.int .i16 n)) 97 (0, 0))) (h0 : 0 ≤ n) (h1 : n < 32768) : Calls PP 67 #[.pointer (some ⟨b, 0, none⟩), .slice none 0 0] w fun e w' => ∃ dv, e = .returned dv ∧ Own X.U8 w' w.heap.size dv (wFs n (flexAt (some 0) n) fs (defL fs) ++ wTags (flexAt (some 0) n) []) ∧ Below w.heap.size w w' :=
  newAT_ok ka Go.Proofs.Try.func67 b67 (by kernel_rfl) (by kernel_rfl) (by decide +kernel) (fun n => by kernel_rfl) (fun n => by kernel_rfl) (by decide +kernel) w b n hc h0 h1
theorem b27 : (Go.Proofs.Try.f27).body.map strip = some (sc_New 64 66 67 3 38) := by kernel_rfl
theorem ok27 : FnOK PP 27 := fnOK_of Go.Proofs.Try.func27 b27 (by kernel_rfl)
theorem cNew (w : World) (ver : Nat) (h : ver ≤ 0) : Calls PP 27 #[.int .i64 (ver : Int)] w (RetOwn X.U8 w ((fun n : Int => wFs n (flexAt (some 0) n) fs (defL fs) ++ wTags (flexAt (some 0) n) []) ver)) :=
  new_ok (out := fun n : Int => wFs n (flexAt (some 0) n) fs (defL fs) ++ wTags (flexAt (some 0) n) []) (by kernel_rfl) (by kernel_rfl) ok64 cNP ok66 (fun w b hc n => setV_ok (by kernel_rfl) (by kernel_rfl) Go.Proofs.Try.func66 b66 (by kernel_rfl) (by kernel_rfl) w b cs _ hc (by decide +kernel) n) ok67 cAT Go.Proofs.Try.func27 b27 (by kernel_rfl) (by kernel_rfl) w ver (by omega)
theorem b5 : (Go.Proofs.Try.f5).body.map strip = some (sc_LawNew 25 26 19 27 21 20 17 X.I X.M X.Fs) := by kernel_rfl
theorem law (w : World) (n : Nat) (hn : n < 256) : Calls PP 5 #[.int .u8 (n : Int)] w fun e w' => e = .returned (.bool true) ∧ Below w.heap.size w w' :=
  lawNew_ok (G := G0) hX hm arrM (m := 0) (by decide) fs (0) (fun n : Int => wFs n (flexAt (some 0) n) fs (defL fs) ++ wTags (flexAt (some 0) n) []) ok25 cMax ok26 cSp ok19 (fun w n m h1 h2 => version_ok hX Go.Proofs.Try.func19 b19 (by kernel_rfl) (by kernel_rfl) w n m h1 h2) ok27 cNew ok21 (defC fs (by decide +kernel) (by decide +kernel)) ok20 (fun w fv mf ver t tv h1 h2 h3 => write_ok hX ok59 Go.Proofs.Try.func20 b20 (by kernel_rfl) (by kernel_rfl) fs (partC fs (by decide +kernel) (by decide +kernel)) w fv mf ver t tv h1 h2 h3) ok17 (fun w xs b1 b2 c1 c2 h1 h2 h3 => same_ok hX hm Go.Proofs.Try.func17 b17 (by kernel_rfl) (by kernel_rfl) w xs b1 b2 c1 c2 h1 h2 h3) (fun ver h => by simp [flexAt]) (fun ver h => new_len _ _ fs (by decide +kernel)) Go.Proofs.Try.func5 b5 (by kernel_rfl) (by kernel_rfl) w n hn
end Go.Proofs.Ytioodpjcpadkoaa.K.NewRemoveRaftVoterRequest
