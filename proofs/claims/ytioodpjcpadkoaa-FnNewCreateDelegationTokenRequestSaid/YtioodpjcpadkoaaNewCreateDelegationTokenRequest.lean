/- NewCreateDelegationTokenRequest: what the law on it computes. No condition. -/
import Derived.Test.YtioodpjcpadkoaaSeat
import Derived.Test.YtioodpjcpadkoaaD1
namespace Go.Proofs.Ytioodpjcpadkoaa.K.NewCreateDelegationTokenRequest
open Go Go.RowKit Go.Proofs.Ytioodpjcpadkoaa.T Go.Proofs.Ytioodpjcpadkoaa.K
set_option linter.unusedVariables false
set_option linter.unusedSimpArgs false
def fs94 : Fs := (.cons ⟨0, -1, -1, 0, 0, 0, 9, false⟩ (.prim .str) (.cons ⟨0, -1, -1, 0, 1, 1, 9, false⟩ (.prim .str) .nil))
theorem b94 : (Go.Proofs.Try.f94).body.map strip = some (sc_bSub X.F X.Fs fs94 []) := by kernel_rfl
theorem ok94 : FnOK PP 94 := fnOK_of Go.Proofs.Try.func94 b94 (by kernel_rfl)
theorem sf94 : SubFns PP fs94 [] := by
  simp [SubFns, hasSub, fs94]
theorem c94 (w : World) : Calls PP 94 #[] w fun e w' => ∃ v, e = .returned v ∧ v.oneCell' = true ∧ FsV w' (fun k => w.heap.size ≤ k ∧ k < w'.heap.size) fs94 v ∧ Below w.heap.size w w' := bSub_ok hX fok uFs fs94 [] (by kernel_rfl) sf94 (by decide +kernel) Go.Proofs.Try.func94 b94 (by kernel_rfl) (by kernel_rfl) w
def fs : Fs := (.cons ⟨3, -1, 3, 0, 1, 1, 94, false⟩ (.prim .str) (.cons ⟨3, -1, 3, 0, 2, 2, 94, false⟩ (.prim .str) (.cons ⟨0, -1, -1, 0, 3, 3, 138, false⟩ (.list 138 142 3 (.struct 142 3 225 (some (2, 2)) (.cons ⟨0, -1, -1, 0, 0, 0, 9, false⟩ (.prim .str) (.cons ⟨0, -1, -1, 0, 1, 1, 9, false⟩ (.prim .str) .nil)))) (.cons ⟨0, -1, -1, 0, 4, 4, 2, false⟩ (.prim .i64) .nil))))
theorem b44 : (Go.Proofs.Try.f44).body.map strip = some (sc_bTop X.F X.Fs X.M fs (2) [94]) := by kernel_rfl
theorem ok44 : FnOK PP 44 := fnOK_of Go.Proofs.Try.func44 b44 (by kernel_rfl)
theorem sfTop : SubFns PP fs [94] := by
  simp only [SubFns, hasSub, Bool.false_eq_true, if_false, if_true, List.headD_cons, List.tail_cons, fs]
  exact ⟨⟨ok94, fun w => (c94 w).mono fun e w' ⟨v, q1, q2, q3, q4⟩ => ⟨v, q1, q2, by simp only [SubV]; exact q3, q4⟩⟩, trivial⟩
theorem cSp (w : World) : Calls PP 44 #[] w fun e w' => ∃ v, e = .returned (msgV v (2)) ∧ v.oneCell' = true ∧ FsV w' (fun k => w.heap.size ≤ k ∧ k < w'.heap.size) fs v ∧ Below w.heap.size w w' := bTop_ok hX fok uFs arrM mB fs (2) [94] (by kernel_rfl) sfTop (by decide +kernel) Go.Proofs.Try.func44 b44 (by kernel_rfl) (by kernel_rfl) w
noncomputable abbrev zc : Array Value := zcOf PP 140
noncomputable def cs : Array Value := dSetAll 0 [] zc
def scD : SC := .skip
theorem b150 : (Go.Proofs.Try.f150).body.map strip = some (scD) := by kernel_rfl
theorem dA : DefAt PP 150 6 [] := defAt_ok (N := 2) Go.Proofs.Try.func150 b150 (by kernel_rfl) (by kernel_rfl) (by decide) (by kernel_rfl) (by kernel_rfl)
theorem defFn : DefFn PP 150 140 zc cs := ⟨dA.1, fun w b hc => dA.2 w b 0 zc 140 hc (by decide +kernel)⟩
theorem b92 : (Go.Proofs.Try.f92).body.map strip = some (sc_NewPtr 140 150) := by kernel_rfl
theorem ok92 : FnOK PP 92 := fnOK_of Go.Proofs.Try.func92 b92 (by kernel_rfl)
theorem cNP (w : World) : Calls PP 92 #[] w fun e w' => ∃ b, e = .returned (.pointer (some ⟨b, 0, none⟩)) ∧ w.heap.size ≤ b ∧ w'.heap[b]? = some (.cells cs 140 (0, 0)) ∧ Below w.heap.size w w' := newPtr_ok (zc_of (by kernel_rfl)) defFn Go.Proofs.Try.func92 b92 (by kernel_rfl) (by kernel_rfl) w
theorem b93 : (Go.Proofs.Try.f93).body.map strip = some (sc_MaxV 3) := by kernel_rfl
theorem ok93 : FnOK PP 93 := fnOK_of Go.Proofs.Try.func93 b93 (by kernel_rfl)
theorem b43 : (Go.Proofs.Try.f43).body.map strip = some (sc_Max 92 93 38 3) := by kernel_rfl
theorem ok43 : FnOK PP 43 := fnOK_of Go.Proofs.Try.func43 b43 (by kernel_rfl)
theorem cMax (w : World) : Calls PP 43 #[] w fun e w' => e = .returned (.int .i64 ((3 : Nat) : Int)) ∧ Below w.heap.size w w' := max_ok (by kernel_rfl) (by kernel_rfl) (by decide) ok92 cNP ok93 (fun w v => maxV_ok Go.Proofs.Try.func93 b93 (by kernel_rfl) (by kernel_rfl) w v) Go.Proofs.Try.func43 b43 (by kernel_rfl) (by kernel_rfl) w
theorem b95 : (Go.Proofs.Try.f95).body.map strip = some (sc_SetV 140 38) := by kernel_rfl
theorem ok95 : FnOK PP 95 := fnOK_of Go.Proofs.Try.func95 b95 (by kernel_rfl)
theorem b96 : (Go.Proofs.Try.f96).body.map strip = some (aTop ids 140 15 (some 2) (some (5, 5)) fs) := by kernel_rfl
theorem ok96 : FnOK PP 96 := fnOK_of Go.Proofs.Try.func96 b96 (by kernel_rfl)
theorem cAT (w : World) (b : Nat) (n : Int) (hc : w.heap[b]? = some (.cells (cs.setIfInBounds 0 (.int .i16 n)) 140 (0, 0))) (h0 : 0 ≤ n) (h1 : n < 32768) : Calls PP 96 #[.pointer (some ⟨b, 0, none⟩), .slice none 0 0] w fun e w' => ∃ dv, e = .returned dv ∧ Own X.U8 w' w.heap.size dv (wFs n (flexAt (some 2) n) fs (defL fs) ++ wTags (flexAt (some 2) n) []) ∧ Below w.heap.size w w' :=
  newAT_ok ka Go.Proofs.Try.func96 b96 (by kernel_rfl) (by kernel_rfl) (by decide +kernel) (fun n => by kernel_rfl) (fun n => by kernel_rfl) (by decide +kernel) w b n hc h0 h1
theorem b45 : (Go.Proofs.Try.f45).body.map strip = some (sc_New 92 95 96 3 38) := by kernel_rfl
theorem ok45 : FnOK PP 45 := fnOK_of Go.Proofs.Try.func45 b45 (by kernel_rfl)
theorem cNew (w : World) (ver : Nat) (h : ver ≤ 3) : Calls PP 45 #[.int .i64 (ver : Int)] w (RetOwn X.U8 w ((fun n : Int => wFs n (flexAt (some 2) n) fs (defL fs) ++ wTags (flexAt (some 2) n) []) ver)) :=
  new_ok (out := fun n : Int => wFs n (flexAt (some 2) n) fs (defL fs) ++ wTags (flexAt (some 2) n) []) (by kernel_rfl) (by kernel_rfl) ok92 cNP ok95 (fun w b hc n => setV_ok (by kernel_rfl) (by kernel_rfl) Go.Proofs.Try.func95 b95 (by kernel_rfl) (by kernel_rfl) w b cs _ hc (by decide +kernel) n) ok96 cAT Go.Proofs.Try.func45 b45 (by kernel_rfl) (by kernel_rfl) w ver (by omega)
theorem b11 : (Go.Proofs.Try.f11).body.map strip = some (sc_LawNew 43 44 19 45 21 20 17 X.I X.M X.Fs) := by kernel_rfl
theorem law (w : World) (n : Nat) (hn : n < 256) : Calls PP 11 #[.int .u8 (n : Int)] w fun e w' => e = .returned (.bool true) ∧ Below w.heap.size w w' :=
  lawNew_ok (G := G0) hX hm arrM (m := 3) (by decide) fs (2) (fun n : Int => wFs n (flexAt (some 2) n) fs (defL fs) ++ wTags (flexAt (some 2) n) []) ok43 cMax ok44 cSp ok19 (fun w n m h1 h2 => version_ok hX Go.Proofs.Try.func19 b19 (by kernel_rfl) (by kernel_rfl) w n m h1 h2) ok45 cNew ok21 (defC fs (by decide +kernel) (by decide +kernel)) ok20 (fun w fv mf ver t tv h1 h2 h3 => write_ok hX ok59 Go.Proofs.Try.func20 b20 (by kernel_rfl) (by kernel_rfl) fs (partC fs (by decide +kernel) (by decide +kernel)) w fv mf ver t tv h1 h2 h3) ok17 (fun w xs b1 b2 c1 c2 h1 h2 h3 => same_ok hX hm Go.Proofs.Try.func17 b17 (by kernel_rfl) (by kernel_rfl) w xs b1 b2 c1 c2 h1 h2 h3) (fun ver h => by simp [flexAt]) (fun ver h => new_len _ _ fs (by decide +kernel)) Go.Proofs.Try.func11 b11 (by kernel_rfl) (by kernel_rfl) w n hn
end Go.Proofs.Ytioodpjcpadkoaa.K.NewCreateDelegationTokenRequest
