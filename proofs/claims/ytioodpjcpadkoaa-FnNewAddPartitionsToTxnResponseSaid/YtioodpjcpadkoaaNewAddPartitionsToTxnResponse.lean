/- NewAddPartitionsToTxnResponse: what the law on it computes. No condition. -/
import Derived.Test.YtioodpjcpadkoaaSeat
import Derived.Test.YtioodpjcpadkoaaD1
namespace Go.Proofs.Ytioodpjcpadkoaa.K.NewAddPartitionsToTxnResponse
open Go Go.RowKit Go.Proofs.Ytioodpjcpadkoaa.T Go.Proofs.Ytioodpjcpadkoaa.K
set_option linter.unusedVariables false
set_option linter.unusedSimpArgs false
def fs170 : Fs := (.cons ⟨0, -1, -1, 0, 0, 0, 21, false⟩ (.prim .i32) (.cons ⟨0, -1, -1, 0, 1, 1, 38, false⟩ (.prim .i16) .nil))
theorem b170 : (Go.Proofs.Try.f170).body.map strip = some (sc_bSub X.F X.Fs fs170 []) := by kernel_rfl
theorem ok170 : FnOK PP 170 := fnOK_of Go.Proofs.Try.func170 b170 (by kernel_rfl)
theorem sf170 : SubFns PP fs170 [] := by
  simp [SubFns, hasSub, fs170]
theorem c170 (w : World) : Calls PP 170 #[] w fun e w' => ∃ v, e = .returned v ∧ v.oneCell' = true ∧ FsV w' (fun k => w.heap.size ≤ k ∧ k < w'.heap.size) fs170 v ∧ Below w.heap.size w w' := bSub_ok hX fok uFs fs170 [] (by kernel_rfl) sf170 (by decide +kernel) Go.Proofs.Try.func170 b170 (by kernel_rfl) (by kernel_rfl) w
def fs155 : Fs := (.cons ⟨0, -1, -1, 0, 0, 0, 9, false⟩ (.prim .str) (.cons ⟨0, -1, -1, 0, 1, 1, 169, false⟩ (.list 169 174 3 (.struct 174 3 231 (some (2, 2)) (.cons ⟨0, -1, -1, 0, 0, 0, 21, false⟩ (.prim .i32) (.cons ⟨0, -1, -1, 0, 1, 1, 38, false⟩ (.prim .i16) .nil)))) .nil))
theorem b155 : (Go.Proofs.Try.f155).body.map strip = some (sc_bSub X.F X.Fs fs155 [170]) := by kernel_rfl
theorem ok155 : FnOK PP 155 := fnOK_of Go.Proofs.Try.func155 b155 (by kernel_rfl)
theorem sf155 : SubFns PP fs155 [170] := by
  simp only [SubFns, hasSub, Bool.false_eq_true, if_false, if_true, List.headD_cons, List.tail_cons, fs155]
  exact ⟨⟨ok170, fun w => (c170 w).mono fun e w' ⟨v, q1, q2, q3, q4⟩ => ⟨v, q1, q2, by simp only [SubV]; exact q3, q4⟩⟩, trivial⟩
theorem c155 (w : World) : Calls PP 155 #[] w fun e w' => ∃ v, e = .returned v ∧ v.oneCell' = true ∧ FsV w' (fun k => w.heap.size ≤ k ∧ k < w'.heap.size) fs155 v ∧ Below w.heap.size w w' := bSub_ok hX fok uFs fs155 [170] (by kernel_rfl) sf155 (by decide +kernel) Go.Proofs.Try.func155 b155 (by kernel_rfl) (by kernel_rfl) w
def fs105 : Fs := (.cons ⟨0, -1, -1, 0, 0, 0, 9, false⟩ (.prim .str) (.cons ⟨0, -1, -1, 0, 1, 1, 165, false⟩ (.list 165 171 3 (.struct 171 3 230 (some (2, 2)) (.cons ⟨0, -1, -1, 0, 0, 0, 9, false⟩ (.prim .str) (.cons ⟨0, -1, -1, 0, 1, 1, 169, false⟩ (.list 169 174 3 (.struct 174 3 231 (some (2, 2)) (.cons ⟨0, -1, -1, 0, 0, 0, 21, false⟩ (.prim .i32) (.cons ⟨0, -1, -1, 0, 1, 1, 38, false⟩ (.prim .i16) .nil)))) .nil)))) .nil))
theorem b105 : (Go.Proofs.Try.f105).body.map strip = some (sc_bSub X.F X.Fs fs105 [155]) := by kernel_rfl
theorem ok105 : FnOK PP 105 := fnOK_of Go.Proofs.Try.func105 b105 (by kernel_rfl)
theorem sf105 : SubFns PP fs105 [155] := by
  simp only [SubFns, hasSub, Bool.false_eq_true, if_false, if_true, List.headD_cons, List.tail_cons, fs105]
  exact ⟨⟨ok155, fun w => (c155 w).mono fun e w' ⟨v, q1, q2, q3, q4⟩ => ⟨v, q1, q2, by simp only [SubV]; exact q3, q4⟩⟩, trivial⟩
theorem c105 (w : World) : Calls PP 105 #[] w fun e w' => ∃ v, e = .returned v ∧ v.oneCell' = true ∧ FsV w' (fun k => w.heap.size ≤ k ∧ k < w'.heap.size) fs105 v ∧ Below w.heap.size w w' := bSub_ok hX fok uFs fs105 [155] (by kernel_rfl) sf105 (by decide +kernel) Go.Proofs.Try.func105 b105 (by kernel_rfl) (by kernel_rfl) w
def fs156 : Fs := (.cons ⟨0, -1, -1, 0, 0, 0, 21, false⟩ (.prim .i32) (.cons ⟨0, -1, -1, 0, 1, 1, 38, false⟩ (.prim .i16) .nil))
theorem b156 : (Go.Proofs.Try.f156).body.map strip = some (sc_bSub X.F X.Fs fs156 []) := by kernel_rfl
theorem ok156 : FnOK PP 156 := fnOK_of Go.Proofs.Try.func156 b156 (by kernel_rfl)
theorem sf156 : SubFns PP fs156 [] := by
  simp [SubFns, hasSub, fs156]
theorem c156 (w : World) : Calls PP 156 #[] w fun e w' => ∃ v, e = .returned v ∧ v.oneCell' = true ∧ FsV w' (fun k => w.heap.size ≤ k ∧ k < w'.heap.size) fs156 v ∧ Below w.heap.size w w' := bSub_ok hX fok uFs fs156 [] (by kernel_rfl) sf156 (by decide +kernel) Go.Proofs.Try.func156 b156 (by kernel_rfl) (by kernel_rfl) w
def fs106 : Fs := (.cons ⟨0, -1, -1, 0, 0, 0, 9, false⟩ (.prim .str) (.cons ⟨0, -1, -1, 0, 1, 1, 176, false⟩ (.list 176 180 3 (.struct 180 3 233 (some (2, 2)) (.cons ⟨0, -1, -1, 0, 0, 0, 21, false⟩ (.prim .i32) (.cons ⟨0, -1, -1, 0, 1, 1, 38, false⟩ (.prim .i16) .nil)))) .nil))
theorem b106 : (Go.Proofs.Try.f106).body.map strip = some (sc_bSub X.F X.Fs fs106 [156]) := by kernel_rfl
theorem ok106 : FnOK PP 106 := fnOK_of Go.Proofs.Try.func106 b106 (by kernel_rfl)
theorem sf106 : SubFns PP fs106 [156] := by
  simp only [SubFns, hasSub, Bool.false_eq_true, if_false, if_true, List.headD_cons, List.tail_cons, fs106]
  exact ⟨⟨ok156, fun w => (c156 w).mono fun e w' ⟨v, q1, q2, q3, q4⟩ => ⟨v, q1, q2, by simp only [SubV]; exact q3, q4⟩⟩, trivial⟩
theorem c106 (w : World) : Calls PP 106 #[] w fun e w' => ∃ v, e = .returned v ∧ v.oneCell' = true ∧ FsV w' (fun k => w.heap.size ≤ k ∧ k < w'.heap.size) fs106 v ∧ Below w.heap.size w w' := bSub_ok hX fok uFs fs106 [156] (by kernel_rfl) sf106 (by decide +kernel) Go.Proofs.Try.func106 b106 (by kernel_rfl) (by kernel_rfl) w
def fs : Fs := (.cons ⟨0, -1, -1, 0, 1, 1, 21, false⟩ (.prim .i32) (.cons ⟨4, -1, -1, 0, 2, 2, 38, false⟩ (.prim .i16) (.cons ⟨4, -1, -1, 0, 3, 3, 160, false⟩ (.list 160 167 3 (.struct 167 3 229 (some (2, 2)) (.cons ⟨0, -1, -1, 0, 0, 0, 9, false⟩ (.prim .str) (.cons ⟨0, -1, -1, 0, 1, 1, 165, false⟩ (.list 165 171 3 (.struct 171 3 230 (some (2, 2)) (.cons ⟨0, -1, -1, 0, 0, 0, 9, false⟩ (.prim .str) (.cons ⟨0, -1, -1, 0, 1, 1, 169, false⟩ (.list 169 174 3 (.struct 174 3 231 (some (2, 2)) (.cons ⟨0, -1, -1, 0, 0, 0, 21, false⟩ (.prim .i32) (.cons ⟨0, -1, -1, 0, 1, 1, 38, false⟩ (.prim .i16) .nil)))) .nil)))) .nil)))) (.cons ⟨0, 3, -1, 0, 4, 4, 161, false⟩ (.list 161 178 3 (.struct 178 3 232 (some (2, 2)) (.cons ⟨0, -1, -1, 0, 0, 0, 9, false⟩ (.prim .str) (.cons ⟨0, -1, -1, 0, 1, 1, 176, false⟩ (.list 176 180 3 (.struct 180 3 233 (some (2, 2)) (.cons ⟨0, -1, -1, 0, 0, 0, 21, false⟩ (.prim .i32) (.cons ⟨0, -1, -1, 0, 1, 1, 38, false⟩ (.prim .i16) .nil)))) .nil)))) .nil))))
theorem b50 : (Go.Proofs.Try.f50).body.map strip = some (sc_bTop X.F X.Fs X.M fs (3) [105, 106]) := by kernel_rfl
theorem ok50 : FnOK PP 50 := fnOK_of Go.Proofs.Try.func50 b50 (by kernel_rfl)
theorem sfTop : SubFns PP fs [105, 106] := by
  simp only [SubFns, hasSub, Bool.false_eq_true, if_false, if_true, List.headD_cons, List.tail_cons, fs]
  exact ⟨⟨ok105, fun w => (c105 w).mono fun e w' ⟨v, q1, q2, q3, q4⟩ => ⟨v, q1, q2, by simp only [SubV]; exact q3, q4⟩⟩, ⟨⟨ok106, fun w => (c106 w).mono fun e w' ⟨v, q1, q2, q3, q4⟩ => ⟨v, q1, q2, by simp only [SubV]; exact q3, q4⟩⟩, trivial⟩⟩
theorem cSp (w : World) : Calls PP 50 #[] w fun e w' => ∃ v, e = .returned (msgV v (3)) ∧ v.oneCell' = true ∧ FsV w' (fun k => w.heap.size ≤ k ∧ k < w'.heap.size) fs v ∧ Below w.heap.size w w' := bTop_ok hX fok uFs arrM mB fs (3) [105, 106] (by kernel_rfl) sfTop (by decide +kernel) Go.Proofs.Try.func50 b50 (by kernel_rfl) (by kernel_rfl) w
noncomputable abbrev zc : Array Value := zcOf PP 163
noncomputable def cs : Array Value := dSetAll 0 [] zc
def scD : SC := .skip
theorem b154 : (Go.Proofs.Try.f154).body.map strip = some (scD) := by kernel_rfl
theorem dA : DefAt PP 154 6 [] := defAt_ok (N := 2) Go.Proofs.Try.func154 b154 (by kernel_rfl) (by kernel_rfl) (by decide) (by kernel_rfl) (by kernel_rfl)
theorem defFn : DefFn PP 154 163 zc cs := ⟨dA.1, fun w b hc => dA.2 w b 0 zc 163 hc (by decide +kernel)⟩
theorem b103 : (Go.Proofs.Try.f103).body.map strip = some (sc_NewPtr 163 154) := by kernel_rfl
theorem ok103 : FnOK PP 103 := fnOK_of Go.Proofs.Try.func103 b103 (by kernel_rfl)
theorem cNP (w : World) : Calls PP 103 #[] w fun e w' => ∃ b, e = .returned (.pointer (some ⟨b, 0, none⟩)) ∧ w.heap.size ≤ b ∧ w'.heap[b]? = some (.cells cs 163 (0, 0)) ∧ Below w.heap.size w w' := newPtr_ok (zc_of (by kernel_rfl)) defFn Go.Proofs.Try.func103 b103 (by kernel_rfl) (by kernel_rfl) w
theorem b104 : (Go.Proofs.Try.f104).body.map strip = some (sc_MaxV 5) := by kernel_rfl
theorem ok104 : FnOK PP 104 := fnOK_of Go.Proofs.Try.func104 b104 (by kernel_rfl)
theorem b49 : (Go.Proofs.Try.f49).body.map strip = some (sc_Max 103 104 38 3) := by kernel_rfl
theorem ok49 : FnOK PP 49 := fnOK_of Go.Proofs.Try.func49 b49 (by kernel_rfl)
theorem cMax (w : World) : Calls PP 49 #[] w fun e w' => e = .returned (.int .i64 ((5 : Nat) : Int)) ∧ Below w.heap.size w w' := max_ok (by kernel_rfl) (by kernel_rfl) (by decide) ok103 cNP ok104 (fun w v => maxV_ok Go.Proofs.Try.func104 b104 (by kernel_rfl) (by kernel_rfl) w v) Go.Proofs.Try.func49 b49 (by kernel_rfl) (by kernel_rfl) w
theorem b107 : (Go.Proofs.Try.f107).body.map strip = some (sc_SetV 163 38) := by kernel_rfl
theorem ok107 : FnOK PP 107 := fnOK_of Go.Proofs.Try.func107 b107 (by kernel_rfl)
theorem b108 : (Go.Proofs.Try.f108).body.map strip = some (aTop ids 163 31 (some 3) (some (5, 5)) fs) := by kernel_rfl
theorem ok108 : FnOK PP 108 := fnOK_of Go.Proofs.Try.func108 b108 (by kernel_rfl)
theorem cAT (w : World) (b : Nat) (n : Int) (hc : w.heap[b]? = some (.cells (cs.setIfInBounds 0 (.int .i16 n)) 163 (0, 0))) (h0 : 0 ≤ n) (h1 : n < 32768) : Calls PP 108 #[.pointer (some ⟨b, 0, none⟩), .slice none 0 0] w fun e w' => ∃ dv, e = .returned dv ∧ Own X.U8 w' w.heap.size dv (wFs n (flexAt (some 3) n) fs (defL fs) ++ wTags (flexAt (some 3) n) []) ∧ Below w.heap.size w w' :=
  newAT_ok ka Go.Proofs.Try.func108 b108 (by kernel_rfl) (by kernel_rfl) (by decide +kernel) (fun n => by kernel_rfl) (fun n => by kernel_rfl) (by decide +kernel) w b n hc h0 h1
theorem b51 : (Go.Proofs.Try.f51).body.map strip = some (sc_New 103 107 108 3 38) := by kernel_rfl
theorem ok51 : FnOK PP 51 := fnOK_of Go.Proofs.Try.func51 b51 (by kernel_rfl)
theorem cNew (w : World) (ver : Nat) (h : ver ≤ 5) : Calls PP 51 #[.int .i64 (ver : Int)] w (RetOwn X.U8 w ((fun n : Int => wFs n (flexAt (some 3) n) fs (defL fs) ++ wTags (flexAt (some 3) n) []) ver)) :=
  new_ok (out := fun n : Int => wFs n (flexAt (some 3) n) fs (defL fs) ++ wTags (flexAt (some 3) n) []) (by kernel_rfl) (by kernel_rfl) ok103 cNP ok107 (fun w b hc n => setV_ok (by kernel_rfl) (by kernel_rfl) Go.Proofs.Try.func107 b107 (by kernel_rfl) (by kernel_rfl) w b cs _ hc (by decide +kernel) n) ok108 cAT Go.Proofs.Try.func51 b51 (by kernel_rfl) (by kernel_rfl) w ver (by omega)
theorem b13 : (Go.Proofs.Try.f13).body.map strip = some (sc_LawNew 49 50 19 51 21 20 17 X.I X.M X.Fs) := by kernel_rfl
theorem law (w : World) (n : Nat) (hn : n < 256) : Calls PP 13 #[.int .u8 (n : Int)] w fun e w' => e = .returned (.bool true) ∧ Below w.heap.size w w' :=
  lawNew_ok (G := G0) hX hm arrM (m := 5) (by decide) fs (3) (fun n : Int => wFs n (flexAt (some 3) n) fs (defL fs) ++ wTags (flexAt (some 3) n) []) ok49 cMax ok50 cSp ok19 (fun w n m h1 h2 => version_ok hX Go.Proofs.Try.func19 b19 (by kernel_rfl) (by kernel_rfl) w n m h1 h2) ok51 cNew ok21 (defC fs (by decide +kernel) (by decide +kernel)) ok20 (fun w fv mf ver t tv h1 h2 h3 => write_ok hX ok59 Go.Proofs.Try.func20 b20 (by kernel_rfl) (by kernel_rfl) fs (partC fs (by decide +kernel) (by decide +kernel)) w fv mf ver t tv h1 h2 h3) ok17 (fun w xs b1 b2 c1 c2 h1 h2 h3 => same_ok hX hm Go.Proofs.Try.func17 b17 (by kernel_rfl) (by kernel_rfl) w xs b1 b2 c1 c2 h1 h2 h3) (fun ver h => by simp [flexAt]) (fun ver h => new_len _ _ fs (by decide +kernel)) Go.Proofs.Try.func13 b13 (by kernel_rfl) (by kernel_rfl) w n hn
end Go.Proofs.Ytioodpjcpadkoaa.K.NewAddPartitionsToTxnResponse
