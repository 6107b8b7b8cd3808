/- NewOffsetDeleteResponse: what the law on it computes. No condition. -/
import Derived.Test.YtgaplicnofhliaaM7
import Derived.Test.YtgaplicnofhliaaQA
import Derived.Test.YtgaplicnofhliaaQS
namespace Go.Proofs.Ytgaplicnofhliaa.K.NewOffsetDeleteResponse
open Go Go.RowKit Go.Proofs Go.Proofs.Ytgaplicnofhliaa.T Go.Proofs.Ytgaplicnofhliaa.K
set_option linter.unusedVariables false
set_option linter.unusedSimpArgs false
def fs24 : Fs := (.cons ⟨0, -1, -1, 0, 0, 0, 21, false⟩ (.prim .i32) (.cons ⟨0, -1, -1, 0, 1, 1, 47, false⟩ (.prim .i16) .nil))
theorem b24 : (Go.Proofs.Try.f24).body.map strip = some (sc_bSub X.F X.Fs fs24 []) := by kernel_rfl
theorem ok24 : FnOK PP 24 := fnOK_of Go.Proofs.Try.func24 b24 (by kernel_rfl)
theorem sf24 : SubFns PP fs24 [] := by
  simp [SubFns, hasSub, fs24]
theorem c24 (w : World) : Calls PP 24 #[] w fun e w' => ∃ v, e = .returned v ∧ v.oneCell' = true ∧ FsV w' (fun k => w.heap.size ≤ k ∧ k < w'.heap.size) fs24 v ∧ Below w.heap.size w w' := bSub_ok hX fok uFs fs24 [] (by kernel_rfl) sf24 (by decide +kernel) Go.Proofs.Try.func24 b24 (by kernel_rfl) (by kernel_rfl) w
def fs19 : Fs := (.cons ⟨0, -1, -1, 0, 0, 0, 9, false⟩ (.prim .str) (.cons ⟨0, -1, -1, 0, 1, 1, 64, false⟩ (.list 64 70 2 (.struct 70 2 61 none (.cons ⟨0, -1, -1, 0, 0, 0, 21, false⟩ (.prim .i32) (.cons ⟨0, -1, -1, 0, 1, 1, 47, false⟩ (.prim .i16) .nil)))) .nil))
theorem b19 : (Go.Proofs.Try.f19).body.map strip = some (sc_bSub X.F X.Fs fs19 [24]) := by kernel_rfl
theorem ok19 : FnOK PP 19 := fnOK_of Go.Proofs.Try.func19 b19 (by kernel_rfl)
theorem sf19 : SubFns PP fs19 [24] := by
  simp only [SubFns, hasSub, Bool.false_eq_true, if_false, if_true, List.headD_cons, List.tail_cons, fs19]
  exact ⟨⟨ok24, fun w => (c24 w).mono fun e w' ⟨v, q1, q2, q3, q4⟩ => ⟨v, q1, q2, by simp only [SubV]; exact q3, q4⟩⟩, trivial⟩
theorem c19 (w : World) : Calls PP 19 #[] w fun e w' => ∃ v, e = .returned v ∧ v.oneCell' = true ∧ FsV w' (fun k => w.heap.size ≤ k ∧ k < w'.heap.size) fs19 v ∧ Below w.heap.size w w' := bSub_ok hX fok uFs fs19 [24] (by kernel_rfl) sf19 (by decide +kernel) Go.Proofs.Try.func19 b19 (by kernel_rfl) (by kernel_rfl) w
def fs : Fs := (.cons ⟨0, -1, -1, 0, 1, 1, 47, false⟩ (.prim .i16) (.cons ⟨0, -1, -1, 0, 2, 2, 21, false⟩ (.prim .i32) (.cons ⟨0, -1, -1, 0, 3, 3, 57, false⟩ (.list 57 66 2 (.struct 66 2 60 none (.cons ⟨0, -1, -1, 0, 0, 0, 9, false⟩ (.prim .str) (.cons ⟨0, -1, -1, 0, 1, 1, 64, false⟩ (.list 64 70 2 (.struct 70 2 61 none (.cons ⟨0, -1, -1, 0, 0, 0, 21, false⟩ (.prim .i32) (.cons ⟨0, -1, -1, 0, 1, 1, 47, false⟩ (.prim .i16) .nil)))) .nil)))) .nil)))
theorem b10 : (Go.Proofs.Try.f10).body.map strip = some (sc_bTop X.F X.Fs X.M fs (-1) [19]) := by kernel_rfl
theorem ok10 : FnOK PP 10 := fnOK_of Go.Proofs.Try.func10 b10 (by kernel_rfl)
theorem sfTop : SubFns PP fs [19] := by
  simp only [SubFns, hasSub, Bool.false_eq_true, if_false, if_true, List.headD_cons, List.tail_cons, fs]
  exact ⟨⟨ok19, fun w => (c19 w).mono fun e w' ⟨v, q1, q2, q3, q4⟩ => ⟨v, q1, q2, by simp only [SubV]; exact q3, q4⟩⟩, trivial⟩
theorem cSp (w : World) : Calls PP 10 #[] w fun e w' => ∃ v, e = .returned (msgV v (-1)) ∧ v.oneCell' = true ∧ FsV w' (fun k => w.heap.size ≤ k ∧ k < w'.heap.size) fs v ∧ Below w.heap.size w w' := bTop_ok hX fok uFs arrM mB fs (-1) [19] (by kernel_rfl) sfTop (by decide +kernel) Go.Proofs.Try.func10 b10 (by kernel_rfl) (by kernel_rfl) w
def sc23 : SC := .skip
theorem b23 : (Go.Proofs.Try.f23).body.map strip = some (sc23) := by kernel_rfl
theorem d23 : DefAt PP 23 4 [] := defAt_ok (N := 2) Go.Proofs.Try.func23 b23 (by kernel_rfl) (by kernel_rfl) (by decide) (by kernel_rfl) (by kernel_rfl)
noncomputable abbrev zc : Array Value := zcOf PP 59
noncomputable def cs : Array Value := dSetAll 0 [] zc
theorem defFn : DefFn PP 23 59 zc cs := ⟨d23.1, fun w b hc => d23.2 w b 0 zc 59 hc (by decide +kernel)⟩
theorem b17 : (Go.Proofs.Try.f17).body.map strip = some (sc_NewPtr 59 23) := by kernel_rfl
theorem ok17 : FnOK PP 17 := fnOK_of Go.Proofs.Try.func17 b17 (by kernel_rfl)
theorem cNP (w : World) : Calls PP 17 #[] w fun e w' => ∃ b, e = .returned (.pointer (some ⟨b, 0, none⟩)) ∧ w.heap.size ≤ b ∧ w'.heap[b]? = some (.cells cs 59 (0, 0)) ∧ Below w.heap.size w w' := newPtr_ok (zc_of (by kernel_rfl)) defFn Go.Proofs.Try.func17 b17 (by kernel_rfl) (by kernel_rfl) w
theorem b18 : (Go.Proofs.Try.f18).body.map strip = some (sc_MaxV 0) := by kernel_rfl
theorem ok18 : FnOK PP 18 := fnOK_of Go.Proofs.Try.func18 b18 (by kernel_rfl)
theorem b9 : (Go.Proofs.Try.f9).body.map strip = some (sc_Max 17 18 47 3) := by kernel_rfl
theorem ok9 : FnOK PP 9 := fnOK_of Go.Proofs.Try.func9 b9 (by kernel_rfl)
theorem cMax (w : World) : Calls PP 9 #[] w fun e w' => e = .returned (.int .i64 ((0 : Nat) : Int)) ∧ Below w.heap.size w w' := max_ok (by kernel_rfl) (by kernel_rfl) (by decide) ok17 cNP ok18 (fun w v => maxV_ok Go.Proofs.Try.func18 b18 (by kernel_rfl) (by kernel_rfl) w v) Go.Proofs.Try.func9 b9 (by kernel_rfl) (by kernel_rfl) w
theorem b20 : (Go.Proofs.Try.f20).body.map strip = some (sc_SetV 59 47) := by kernel_rfl
theorem ok20 : FnOK PP 20 := fnOK_of Go.Proofs.Try.func20 b20 (by kernel_rfl)
theorem b21 : (Go.Proofs.Try.f21).body.map strip = some (aTop ids 59 17 none none fs) := by kernel_rfl
theorem ok21 : FnOK PP 21 := fnOK_of Go.Proofs.Try.func21 b21 (by kernel_rfl)
theorem cAT (w : World) (b : Nat) (n : Int) (hc : w.heap[b]? = some (.cells (cs.setIfInBounds 0 (.int .i16 n)) 59 (0, 0))) (h0 : 0 ≤ n) (h1 : n < 32768) : Calls PP 21 #[.pointer (some ⟨b, 0, none⟩), .slice none 0 0] w (RetOwn X.U8 w (wFs n (flexAt none n) fs (defL fs) ++ wTags (flexAt none n) [])) :=
  newAT_ok (G := G0) trivial ka Go.Proofs.Try.func21 b21 (by kernel_rfl) (by kernel_rfl) (by decide +kernel) (fun n => by kernel_rfl) (fun n => by kernel_rfl) (by decide +kernel) w b n hc h0 h1
theorem b12 : (Go.Proofs.Try.f12).body.map strip = some (sc_New 17 20 21 3 47) := by kernel_rfl
theorem ok12 : FnOK PP 12 := fnOK_of Go.Proofs.Try.func12 b12 (by kernel_rfl)
theorem cNew (w : World) (ver : Nat) (h : ver ≤ 0) : Calls PP 12 #[.int .i64 (ver : Int)] w (RetOwn X.U8 w ((fun n : Int => wFs n (flexAt none n) fs (defL fs) ++ wTags (flexAt none n) []) ver)) :=
  new_ok (out := fun n : Int => wFs n (flexAt none n) fs (defL fs) ++ wTags (flexAt none n) []) (by kernel_rfl) (by kernel_rfl) ok17 cNP ok20 (fun w b hc n => setV_ok (by kernel_rfl) (by kernel_rfl) Go.Proofs.Try.func20 b20 (by kernel_rfl) (by kernel_rfl) w b cs _ hc (by decide +kernel) n) ok21 cAT Go.Proofs.Try.func12 b12 (by kernel_rfl) (by kernel_rfl) w ver (by omega)
theorem b4 : (Go.Proofs.Try.f4).body.map strip = some (sc_LawNew 9 10 13 12 15 14 11 X.I X.M X.Fs) := by kernel_rfl
theorem law (w : World) (n : Nat) (hn : n < 256) : Calls PP 4 #[.int .u8 (n : Int)] w fun e w' => e = .returned (.bool true) ∧ Below w.heap.size w w' :=
  lawNew_ok (G := G0) hX hm arrM (m := 0) (by decide) fs (-1) (fun n : Int => wFs n (flexAt none n) fs (defL fs) ++ wTags (flexAt none n) []) ok9 cMax ok10 cSp ok13 cVer ok12 cNew ok15 (defC fs (by decide +kernel) (by decide +kernel)) ok14 (cWr fs (by decide +kernel) (by decide +kernel)) ok11 cSame (fun ver h => by simp [flexAt]) (fun ver h => new_len _ _ fs (by decide +kernel)) Go.Proofs.Try.func4 b4 (by kernel_rfl) (by kernel_rfl) w n hn
end Go.Proofs.Ytgaplicnofhliaa.K.NewOffsetDeleteResponse

