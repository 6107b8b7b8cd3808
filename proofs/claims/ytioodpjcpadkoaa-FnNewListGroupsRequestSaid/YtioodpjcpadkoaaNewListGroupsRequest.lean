/- NewListGroupsRequest: what the law on it computes. No condition. -/
import Derived.Test.YtioodpjcpadkoaaSeat
import Derived.Test.YtioodpjcpadkoaaD1
namespace Go.Proofs.Ytioodpjcpadkoaa.K.NewListGroupsRequest
open Go Go.RowKit Go.Proofs.Ytioodpjcpadkoaa.T Go.Proofs.Ytioodpjcpadkoaa.K
set_option linter.unusedVariables false
set_option linter.unusedSimpArgs false
def fs : Fs := (.cons ⟨4, -1, -1, 0, 1, 1, 100, false⟩ (.list 100 9 1 (.prim .str)) (.cons ⟨5, -1, -1, 0, 2, 2, 100, false⟩ (.list 100 9 1 (.prim .str)) .nil))
theorem b29 : (Go.Proofs.Try.f29).body.map strip = some (sc_bTop X.F X.Fs X.M fs (3) []) := by kernel_rfl
theorem ok29 : FnOK PP 29 := fnOK_of Go.Proofs.Try.func29 b29 (by kernel_rfl)
theorem sfTop : SubFns PP fs [] := by
  simp [SubFns, hasSub, fs]
theorem cSp (w : World) : Calls PP 29 #[] w fun e w' => ∃ v, e = .returned (msgV v (3)) ∧ v.oneCell' = true ∧ FsV w' (fun k => w.heap.size ≤ k ∧ k < w'.heap.size) fs v ∧ Below w.heap.size w w' := bTop_ok hX fok uFs arrM mB fs (3) [] (by kernel_rfl) sfTop (by decide +kernel) Go.Proofs.Try.func29 b29 (by kernel_rfl) (by kernel_rfl) w
noncomputable abbrev zc : Array Value := zcOf PP 102
noncomputable def cs : Array Value := dSetAll 0 [] zc
def scD : SC := .skip
theorem b137 : (Go.Proofs.Try.f137).body.map strip = some (scD) := by kernel_rfl
theorem dA : DefAt PP 137 4 [] := defAt_ok (N := 2) Go.Proofs.Try.func137 b137 (by kernel_rfl) (by kernel_rfl) (by decide) (by kernel_rfl) (by kernel_rfl)
theorem defFn : DefFn PP 137 102 zc cs := ⟨dA.1, fun w b hc => dA.2 w b 0 zc 102 hc (by decide +kernel)⟩
theorem b68 : (Go.Proofs.Try.f68).body.map strip = some (sc_NewPtr 102 137) := by kernel_rfl
theorem ok68 : FnOK PP 68 := fnOK_of Go.Proofs.Try.func68 b68 (by kernel_rfl)
theorem cNP (w : World) : Calls PP 68 #[] w fun e w' => ∃ b, e = .returned (.pointer (some ⟨b, 0, none⟩)) ∧ w.heap.size ≤ b ∧ w'.heap[b]? = some (.cells cs 102 (0, 0)) ∧ Below w.heap.size w w' := newPtr_ok (zc_of (by kernel_rfl)) defFn Go.Proofs.Try.func68 b68 (by kernel_rfl) (by kernel_rfl) w
theorem b69 : (Go.Proofs.Try.f69).body.map strip = some (sc_MaxV 5) := by kernel_rfl
theorem ok69 : FnOK PP 69 := fnOK_of Go.Proofs.Try.func69 b69 (by kernel_rfl)
theorem b28 : (Go.Proofs.Try.f28).body.map strip = some (sc_Max 68 69 38 3) := by kernel_rfl
theorem ok28 : FnOK PP 28 := fnOK_of Go.Proofs.Try.func28 b28 (by kernel_rfl)
theorem cMax (w : World) : Calls PP 28 #[] w fun e w' => e = .returned (.int .i64 ((5 : Nat) : Int)) ∧ Below w.heap.size w w' := max_ok (by kernel_rfl) (by kernel_rfl) (by decide) ok68 cNP ok69 (fun w v => maxV_ok Go.Proofs.Try.func69 b69 (by kernel_rfl) (by kernel_rfl) w v) Go.Proofs.Try.func28 b28 (by kernel_rfl) (by kernel_rfl) w
theorem b70 : (Go.Proofs.Try.f70).body.map strip = some (sc_SetV 102 38) := by kernel_rfl
theorem ok70 : FnOK PP 70 := fnOK_of Go.Proofs.Try.func70 b70 (by kernel_rfl)
theorem b71 : (Go.Proofs.Try.f71).body.map strip = some (aTop ids 102 13 (some 3) (some (3, 3)) fs) := by kernel_rfl
theorem ok71 : FnOK PP 71 := fnOK_of Go.Proofs.Try.func71 b71 (by kernel_rfl)
theorem cAT (w : World) (b : Nat) (n : Int) (hc : w.heap[b]? = some (.cells (cs.setIfInBounds 0 (.int .i16 n)) 102 (0, 0))) (h0 : 0 ≤ n) (h1 : n < 32768) : Calls PP 71 #[.pointer (some ⟨b, 0, none⟩), .slice none 0 0] w fun e w' => ∃ dv, e = .returned dv ∧ Own X.U8 w' w.heap.size dv (wFs n (flexAt (some 3) n) fs (defL fs) ++ wTags (flexAt (some 3) n) []) ∧ Below w.heap.size w w' :=
  newAT_ok ka Go.Proofs.Try.func71 b71 (by kernel_rfl) (by kernel_rfl) (by decide +kernel) (fun n => by kernel_rfl) (fun n => by kernel_rfl) (by decide +kernel) w b n hc h0 h1
theorem b30 : (Go.Proofs.Try.f30).body.map strip = some (sc_New 68 70 71 3 38) := by kernel_rfl
theorem ok30 : FnOK PP 30 := fnOK_of Go.Proofs.Try.func30 b30 (by kernel_rfl)
theorem cNew (w : World) (ver : Nat) (h : ver ≤ 5) : Calls PP 30 #[.int .i64 (ver : Int)] w (RetOwn X.U8 w ((fun n : Int => wFs n (flexAt (some 3) n) fs (defL fs) ++ wTags (flexAt (some 3) n) []) ver)) :=
  new_ok (out := fun n : Int => wFs n (flexAt (some 3) n) fs (defL fs) ++ wTags (flexAt (some 3) n) []) (by kernel_rfl) (by kernel_rfl) ok68 cNP ok70 (fun w b hc n => setV_ok (by kernel_rfl) (by kernel_rfl) Go.Proofs.Try.func70 b70 (by kernel_rfl) (by kernel_rfl) w b cs _ hc (by decide +kernel) n) ok71 cAT Go.Proofs.Try.func30 b30 (by kernel_rfl) (by kernel_rfl) w ver (by omega)
theorem b6 : (Go.Proofs.Try.f6).body.map strip = some (sc_LawNew 28 29 19 30 21 20 17 X.I X.M X.Fs) := by kernel_rfl
theorem law (w : World) (n : Nat) (hn : n < 256) : Calls PP 6 #[.int .u8 (n : Int)] w fun e w' => e = .returned (.bool true) ∧ Below w.heap.size w w' :=
  lawNew_ok (G := G0) hX hm arrM (m := 5) (by decide) fs (3) (fun n : Int => wFs n (flexAt (some 3) n) fs (defL fs) ++ wTags (flexAt (some 3) n) []) ok28 cMax ok29 cSp ok19 (fun w n m h1 h2 => version_ok hX Go.Proofs.Try.func19 b19 (by kernel_rfl) (by kernel_rfl) w n m h1 h2) ok30 cNew ok21 (defC fs (by decide +kernel) (by decide +kernel)) ok20 (fun w fv mf ver t tv h1 h2 h3 => write_ok hX ok59 Go.Proofs.Try.func20 b20 (by kernel_rfl) (by kernel_rfl) fs (partC fs (by decide +kernel) (by decide +kernel)) w fv mf ver t tv h1 h2 h3) ok17 (fun w xs b1 b2 c1 c2 h1 h2 h3 => same_ok hX hm Go.Proofs.Try.func17 b17 (by kernel_rfl) (by kernel_rfl) w xs b1 b2 c1 c2 h1 h2 h3) (fun ver h => by simp [flexAt]) (fun ver h => new_len _ _ fs (by decide +kernel)) Go.Proofs.Try.func6 b6 (by kernel_rfl) (by kernel_rfl) w n hn
end Go.Proofs.Ytioodpjcpadkoaa.K.NewListGroupsRequest
