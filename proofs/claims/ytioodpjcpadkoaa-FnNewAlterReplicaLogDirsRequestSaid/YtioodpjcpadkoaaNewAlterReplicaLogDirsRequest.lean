/- NewAlterReplicaLogDirsRequest: what the law on it computes. No condition. -/
import Derived.Test.YtioodpjcpadkoaaSeat
import Derived.Test.YtioodpjcpadkoaaD1
namespace Go.Proofs.Ytioodpjcpadkoaa.K.NewAlterReplicaLogDirsRequest
open Go Go.RowKit Go.Proofs.Ytioodpjcpadkoaa.T Go.Proofs.Ytioodpjcpadkoaa.K
set_option linter.unusedVariables false
set_option linter.unusedSimpArgs false
def fs146 : Fs := (.cons ⟨0, -1, -1, 0, 0, 0, 9, false⟩ (.prim .str) (.cons ⟨0, -1, -1, 0, 1, 1, 120, false⟩ (.list 120 21 1 (.prim .i32)) .nil))
theorem b146 : (Go.Proofs.Try.f146).body.map strip = some (sc_bSub X.F X.Fs fs146 []) := by kernel_rfl
theorem ok146 : FnOK PP 146 := fnOK_of Go.Proofs.Try.func146 b146 (by kernel_rfl)
theorem sf146 : SubFns PP fs146 [] := by
  simp [SubFns, hasSub, fs146]
theorem c146 (w : World) : Calls PP 146 #[] w fun e w' => ∃ v, e = .returned v ∧ v.oneCell' = true ∧ FsV w' (fun k => w.heap.size ≤ k ∧ k < w'.heap.size) fs146 v ∧ Below w.heap.size w w' := bSub_ok hX fok uFs fs146 [] (by kernel_rfl) sf146 (by decide +kernel) Go.Proofs.Try.func146 b146 (by kernel_rfl) (by kernel_rfl) w
def fs79 : Fs := (.cons ⟨0, -1, -1, 0, 0, 0, 9, false⟩ (.prim .str) (.cons ⟨0, -1, -1, 0, 1, 1, 116, false⟩ (.list 116 122 3 (.struct 122 3 221 (some (2, 2)) (.cons ⟨0, -1, -1, 0, 0, 0, 9, false⟩ (.prim .str) (.cons ⟨0, -1, -1, 0, 1, 1, 120, false⟩ (.list 120 21 1 (.prim .i32)) .nil)))) .nil))
theorem b79 : (Go.Proofs.Try.f79).body.map strip = some (sc_bSub X.F X.Fs fs79 [146]) := by kernel_rfl
theorem ok79 : FnOK PP 79 := fnOK_of Go.Proofs.Try.func79 b79 (by kernel_rfl)
theorem sf79 : SubFns PP fs79 [146] := by
  simp only [SubFns, hasSub, Bool.false_eq_true, if_false, if_true, List.headD_cons, List.tail_cons, fs79]
  exact ⟨⟨ok146, fun w => (c146 w).mono fun e w' ⟨v, q1, q2, q3, q4⟩ => ⟨v, q1, q2, by simp only [SubV]; exact q3, q4⟩⟩, trivial⟩
theorem c79 (w : World) : Calls PP 79 #[] w fun e w' => ∃ v, e = .returned v ∧ v.oneCell' = true ∧ FsV w' (fun k => w.heap.size ≤ k ∧ k < w'.heap.size) fs79 v ∧ Below w.heap.size w w' := bSub_ok hX fok uFs fs79 [146] (by kernel_rfl) sf79 (by decide +kernel) Go.Proofs.Try.func79 b79 (by kernel_rfl) (by kernel_rfl) w
def fs : Fs := (.cons ⟨0, -1, -1, 0, 1, 1, 112, false⟩ (.list 112 118 3 (.struct 118 3 220 (some (2, 2)) (.cons ⟨0, -1, -1, 0, 0, 0, 9, false⟩ (.prim .str) (.cons ⟨0, -1, -1, 0, 1, 1, 116, false⟩ (.list 116 122 3 (.struct 122 3 221 (some (2, 2)) (.cons ⟨0, -1, -1, 0, 0, 0, 9, false⟩ (.prim .str) (.cons ⟨0, -1, -1, 0, 1, 1, 120, false⟩ (.list 120 21 1 (.prim .i32)) .nil)))) .nil)))) .nil)
theorem b35 : (Go.Proofs.Try.f35).body.map strip = some (sc_bTop X.F X.Fs X.M fs (2) [79]) := by kernel_rfl
theorem ok35 : FnOK PP 35 := fnOK_of Go.Proofs.Try.func35 b35 (by kernel_rfl)
theorem sfTop : SubFns PP fs [79] := by
  simp only [SubFns, hasSub, Bool.false_eq_true, if_false, if_true, List.headD_cons, List.tail_cons, fs]
  exact ⟨⟨ok79, fun w => (c79 w).mono fun e w' ⟨v, q1, q2, q3, q4⟩ => ⟨v, q1, q2, by simp only [SubV]; exact q3, q4⟩⟩, trivial⟩
theorem cSp (w : World) : Calls PP 35 #[] w fun e w' => ∃ v, e = .returned (msgV v (2)) ∧ v.oneCell' = true ∧ FsV w' (fun k => w.heap.size ≤ k ∧ k < w'.heap.size) fs v ∧ Below w.heap.size w w' := bTop_ok hX fok uFs arrM mB fs (2) [79] (by kernel_rfl) sfTop (by decide +kernel) Go.Proofs.Try.func35 b35 (by kernel_rfl) (by kernel_rfl) w
noncomputable abbrev zc : Array Value := zcOf PP 114
noncomputable def cs : Array Value := dSetAll 0 [] zc
def scD : SC := .skip
theorem b145 : (Go.Proofs.Try.f145).body.map strip = some (scD) := by kernel_rfl
theorem dA : DefAt PP 145 3 [] := defAt_ok (N := 2) Go.Proofs.Try.func145 b145 (by kernel_rfl) (by kernel_rfl) (by decide) (by kernel_rfl) (by kernel_rfl)
theorem defFn : DefFn PP 145 114 zc cs := ⟨dA.1, fun w b hc => dA.2 w b 0 zc 114 hc (by decide +kernel)⟩
theorem b77 : (Go.Proofs.Try.f77).body.map strip = some (sc_NewPtr 114 145) := by kernel_rfl
theorem ok77 : FnOK PP 77 := fnOK_of Go.Proofs.Try.func77 b77 (by kernel_rfl)
theorem cNP (w : World) : Calls PP 77 #[] w fun e w' => ∃ b, e = .returned (.pointer (some ⟨b, 0, none⟩)) ∧ w.heap.size ≤ b ∧ w'.heap[b]? = some (.cells cs 114 (0, 0)) ∧ Below w.heap.size w w' := newPtr_ok (zc_of (by kernel_rfl)) defFn Go.Proofs.Try.func77 b77 (by kernel_rfl) (by kernel_rfl) w
theorem b78 : (Go.Proofs.Try.f78).body.map strip = some (sc_MaxV 2) := by kernel_rfl
theorem ok78 : FnOK PP 78 := fnOK_of Go.Proofs.Try.func78 b78 (by kernel_rfl)
theorem b34 : (Go.Proofs.Try.f34).body.map strip = some (sc_Max 77 78 38 3) := by kernel_rfl
theorem ok34 : FnOK PP 34 := fnOK_of Go.Proofs.Try.func34 b34 (by kernel_rfl)
theorem cMax (w : World) : Calls PP 34 #[] w fun e w' => e = .returned (.int .i64 ((2 : Nat) : Int)) ∧ Below w.heap.size w w' := max_ok (by kernel_rfl) (by kernel_rfl) (by decide) ok77 cNP ok78 (fun w v => maxV_ok Go.Proofs.Try.func78 b78 (by kernel_rfl) (by kernel_rfl) w v) Go.Proofs.Try.func34 b34 (by kernel_rfl) (by kernel_rfl) w
theorem b80 : (Go.Proofs.Try.f80).body.map strip = some (sc_SetV 114 38) := by kernel_rfl
theorem ok80 : FnOK PP 80 := fnOK_of Go.Proofs.Try.func80 b80 (by kernel_rfl)
theorem b81 : (Go.Proofs.Try.f81).body.map strip = some (aTop ids 114 18 (some 2) (some (2, 2)) fs) := by kernel_rfl
theorem ok81 : FnOK PP 81 := fnOK_of Go.Proofs.Try.func81 b81 (by kernel_rfl)
theorem cAT (w : World) (b : Nat) (n : Int) (hc : w.heap[b]? = some (.cells (cs.setIfInBounds 0 (.int .i16 n)) 114 (0, 0))) (h0 : 0 ≤ n) (h1 : n < 32768) : Calls PP 81 #[.pointer (some ⟨b, 0, none⟩), .slice none 0 0] w fun e w' => ∃ dv, e = .returned dv ∧ Own X.U8 w' w.heap.size dv (wFs n (flexAt (some 2) n) fs (defL fs) ++ wTags (flexAt (some 2) n) []) ∧ Below w.heap.size w w' :=
  newAT_ok ka Go.Proofs.Try.func81 b81 (by kernel_rfl) (by kernel_rfl) (by decide +kernel) (fun n => by kernel_rfl) (fun n => by kernel_rfl) (by decide +kernel) w b n hc h0 h1
theorem b36 : (Go.Proofs.Try.f36).body.map strip = some (sc_New 77 80 81 3 38) := by kernel_rfl
theorem ok36 : FnOK PP 36 := fnOK_of Go.Proofs.Try.func36 b36 (by kernel_rfl)
theorem cNew (w : World) (ver : Nat) (h : ver ≤ 2) : Calls PP 36 #[.int .i64 (ver : Int)] w (RetOwn X.U8 w ((fun n : Int => wFs n (flexAt (some 2) n) fs (defL fs) ++ wTags (flexAt (some 2) n) []) ver)) :=
  new_ok (out := fun n : Int => wFs n (flexAt (some 2) n) fs (defL fs) ++ wTags (flexAt (some 2) n) []) (by kernel_rfl) (by kernel_rfl) ok77 cNP ok80 (fun w b hc n => setV_ok (by kernel_rfl) (by kernel_rfl) Go.Proofs.Try.func80 b80 (by kernel_rfl) (by kernel_rfl) w b cs _ hc (by decide +kernel) n) ok81 cAT Go.Proofs.Try.func36 b36 (by kernel_rfl) (by kernel_rfl) w ver (by omega)
theorem b8 : (Go.Proofs.Try.f8).body.map strip = some (sc_LawNew 34 35 19 36 21 20 17 X.I X.M X.Fs) := by kernel_rfl
theorem law (w : World) (n : Nat) (hn : n < 256) : Calls PP 8 #[.int .u8 (n : Int)] w fun e w' => e = .returned (.bool true) ∧ Below w.heap.size w w' :=
  lawNew_ok (G := G0) hX hm arrM (m := 2) (by decide) fs (2) (fun n : Int => wFs n (flexAt (some 2) n) fs (defL fs) ++ wTags (flexAt (some 2) n) []) ok34 cMax ok35 cSp ok19 (fun w n m h1 h2 => version_ok hX Go.Proofs.Try.func19 b19 (by kernel_rfl) (by kernel_rfl) w n m h1 h2) ok36 cNew ok21 (defC fs (by decide +kernel) (by decide +kernel)) ok20 (fun w fv mf ver t tv h1 h2 h3 => write_ok hX ok59 Go.Proofs.Try.func20 b20 (by kernel_rfl) (by kernel_rfl) fs (partC fs (by decide +kernel) (by decide +kernel)) w fv mf ver t tv h1 h2 h3) ok17 (fun w xs b1 b2 c1 c2 h1 h2 h3 => same_ok hX hm Go.Proofs.Try.func17 b17 (by kernel_rfl) (by kernel_rfl) w xs b1 b2 c1 c2 h1 h2 h3) (fun ver h => by simp [flexAt]) (fun ver h => new_len _ _ fs (by decide +kernel)) Go.Proofs.Try.func8 b8 (by kernel_rfl) (by kernel_rfl) w n hn
end Go.Proofs.Ytioodpjcpadkoaa.K.NewAlterReplicaLogDirsRequest
