/- NewDescribeDelegationTokenRequest: what the law on it computes. No condition. -/
import Derived.Test.YtioodpjcpadkoaaSeat
import Derived.Test.YtioodpjcpadkoaaD1
namespace Go.Proofs.Ytioodpjcpadkoaa.K.NewDescribeDelegationTokenRequest
open Go Go.RowKit Go.Proofs.Ytioodpjcpadkoaa.T Go.Proofs.Ytioodpjcpadkoaa.K
set_option linter.unusedVariables false
set_option linter.unusedSimpArgs false
def fs74 : Fs := (.cons ⟨0, -1, -1, 0, 0, 0, 9, false⟩ (.prim .str) (.cons ⟨0, -1, -1, 0, 1, 1, 9, false⟩ (.prim .str) .nil))
theorem b74 : (Go.Proofs.Try.f74).body.map strip = some (sc_bSub X.F X.Fs fs74 []) := by kernel_rfl
theorem ok74 : FnOK PP 74 := fnOK_of Go.Proofs.Try.func74 b74 (by kernel_rfl)
theorem sf74 : SubFns PP fs74 [] := by
  simp [SubFns, hasSub, fs74]
theorem c74 (w : World) : Calls PP 74 #[] w fun e w' => ∃ v, e = .returned v ∧ v.oneCell' = true ∧ FsV w' (fun k => w.heap.size ≤ k ∧ k < w'.heap.size) fs74 v ∧ Below w.heap.size w w' := bSub_ok hX fok uFs fs74 [] (by kernel_rfl) sf74 (by decide +kernel) Go.Proofs.Try.func74 b74 (by kernel_rfl) (by kernel_rfl) w
def fs : Fs := (.cons ⟨0, -1, 0, 0, 1, 1, 105, false⟩ (.list 105 111 3 (.struct 111 3 219 (some (2, 2)) (.cons ⟨0, -1, -1, 0, 0, 0, 9, false⟩ (.prim .str) (.cons ⟨0, -1, -1, 0, 1, 1, 9, false⟩ (.prim .str) .nil)))) .nil)
theorem b32 : (Go.Proofs.Try.f32).body.map strip = some (sc_bTop X.F X.Fs X.M fs (2) [74]) := by kernel_rfl
theorem ok32 : FnOK PP 32 := fnOK_of Go.Proofs.Try.func32 b32 (by kernel_rfl)
theorem sfTop : SubFns PP fs [74] := by
  simp only [SubFns, hasSub, Bool.false_eq_true, if_false, if_true, List.headD_cons, List.tail_cons, fs]
  exact ⟨⟨ok74, fun w => (c74 w).mono fun e w' ⟨v, q1, q2, q3, q4⟩ => ⟨v, q1, q2, by simp only [SubV]; exact q3, q4⟩⟩, trivial⟩
theorem cSp (w : World) : Calls PP 32 #[] w fun e w' => ∃ v, e = .returned (msgV v (2)) ∧ v.oneCell' = true ∧ FsV w' (fun k => w.heap.size ≤ k ∧ k < w'.heap.size) fs v ∧ Below w.heap.size w w' := bTop_ok hX fok uFs arrM mB fs (2) [74] (by kernel_rfl) sfTop (by decide +kernel) Go.Proofs.Try.func32 b32 (by kernel_rfl) (by kernel_rfl) w
noncomputable abbrev zc : Array Value := zcOf PP 107
noncomputable def cs : Array Value := dSetAll 0 [] zc
def scD : SC := .skip
theorem b142 : (Go.Proofs.Try.f142).body.map strip = some (scD) := by kernel_rfl
theorem dA : DefAt PP 142 3 [] := defAt_ok (N := 2) Go.Proofs.Try.func142 b142 (by kernel_rfl) (by kernel_rfl) (by decide) (by kernel_rfl) (by kernel_rfl)
theorem defFn : DefFn PP 142 107 zc cs := ⟨dA.1, fun w b hc => dA.2 w b 0 zc 107 hc (by decide +kernel)⟩
theorem b72 : (Go.Proofs.Try.f72).body.map strip = some (sc_NewPtr 107 142) := by kernel_rfl
theorem ok72 : FnOK PP 72 := fnOK_of Go.Proofs.Try.func72 b72 (by kernel_rfl)
theorem cNP (w : World) : Calls PP 72 #[] w fun e w' => ∃ b, e = .returned (.pointer (some ⟨b, 0, none⟩)) ∧ w.heap.size ≤ b ∧ w'.heap[b]? = some (.cells cs 107 (0, 0)) ∧ Below w.heap.size w w' := newPtr_ok (zc_of (by kernel_rfl)) defFn Go.Proofs.Try.func72 b72 (by kernel_rfl) (by kernel_rfl) w
theorem b73 : (Go.Proofs.Try.f73).body.map strip = some (sc_MaxV 3) := by kernel_rfl
theorem ok73 : FnOK PP 73 := fnOK_of Go.Proofs.Try.func73 b73 (by kernel_rfl)
theorem b31 : (Go.Proofs.Try.f31).body.map strip = some (sc_Max 72 73 38 3) := by kernel_rfl
theorem ok31 : FnOK PP 31 := fnOK_of Go.Proofs.Try.func31 b31 (by kernel_rfl)
theorem cMax (w : World) : Calls PP 31 #[] w fun e w' => e = .returned (.int .i64 ((3 : Nat) : Int)) ∧ Below w.heap.size w w' := max_ok (by kernel_rfl) (by kernel_rfl) (by decide) ok72 cNP ok73 (fun w v => maxV_ok Go.Proofs.Try.func73 b73 (by kernel_rfl) (by kernel_rfl) w v) Go.Proofs.Try.func31 b31 (by kernel_rfl) (by kernel_rfl) w
theorem b75 : (Go.Proofs.Try.f75).body.map strip = some (sc_SetV 107 38) := by kernel_rfl
theorem ok75 : FnOK PP 75 := fnOK_of Go.Proofs.Try.func75 b75 (by kernel_rfl)
theorem b76 : (Go.Proofs.Try.f76).body.map strip = some (aTop ids 107 12 (some 2) (some (2, 2)) fs) := by kernel_rfl
theorem ok76 : FnOK PP 76 := fnOK_of Go.Proofs.Try.func76 b76 (by kernel_rfl)
theorem cAT (w : World) (b : Nat) (n : Int) (hc : w.heap[b]? = some (.cells (cs.setIfInBounds 0 (.int .i16 n)) 107 (0, 0))) (h0 : 0 ≤ n) (h1 : n < 32768) : Calls PP 76 #[.pointer (some ⟨b, 0, none⟩), .slice none 0 0] w fun e w' => ∃ dv, e = .returned dv ∧ Own X.U8 w' w.heap.size dv (wFs n (flexAt (some 2) n) fs (defL fs) ++ wTags (flexAt (some 2) n) []) ∧ Below w.heap.size w w' :=
  newAT_ok ka Go.Proofs.Try.func76 b76 (by kernel_rfl) (by kernel_rfl) (by decide +kernel) (fun n => by kernel_rfl) (fun n => by kernel_rfl) (by decide +kernel) w b n hc h0 h1
theorem b33 : (Go.Proofs.Try.f33).body.map strip = some (sc_New 72 75 76 3 38) := by kernel_rfl
theorem ok33 : FnOK PP 33 := fnOK_of Go.Proofs.Try.func33 b33 (by kernel_rfl)
theorem cNew (w : World) (ver : Nat) (h : ver ≤ 3) : Calls PP 33 #[.int .i64 (ver : Int)] w (RetOwn X.U8 w ((fun n : Int => wFs n (flexAt (some 2) n) fs (defL fs) ++ wTags (flexAt (some 2) n) []) ver)) :=
  new_ok (out := fun n : Int => wFs n (flexAt (some 2) n) fs (defL fs) ++ wTags (flexAt (some 2) n) []) (by kernel_rfl) (by kernel_rfl) ok72 cNP ok75 (fun w b hc n => setV_ok (by kernel_rfl) (by kernel_rfl) Go.Proofs.Try.func75 b75 (by kernel_rfl) (by kernel_rfl) w b cs _ hc (by decide +kernel) n) ok76 cAT Go.Proofs.Try.func33 b33 (by kernel_rfl) (by kernel_rfl) w ver (by omega)
theorem b7 : (Go.Proofs.Try.f7).body.map strip = some (sc_LawNew 31 32 19 33 21 20 17 X.I X.M X.Fs) := by kernel_rfl
theorem law (w : World) (n : Nat) (hn : n < 256) : Calls PP 7 #[.int .u8 (n : Int)] w fun e w' => e = .returned (.bool true) ∧ Below w.heap.size w w' :=
  lawNew_ok (G := G0) hX hm arrM (m := 3) (by decide) fs (2) (fun n : Int => wFs n (flexAt (some 2) n) fs (defL fs) ++ wTags (flexAt (some 2) n) []) ok31 cMax ok32 cSp ok19 (fun w n m h1 h2 => version_ok hX Go.Proofs.Try.func19 b19 (by kernel_rfl) (by kernel_rfl) w n m h1 h2) ok33 cNew ok21 (defC fs (by decide +kernel) (by decide +kernel)) ok20 (fun w fv mf ver t tv h1 h2 h3 => write_ok hX ok59 Go.Proofs.Try.func20 b20 (by kernel_rfl) (by kernel_rfl) fs (partC fs (by decide +kernel) (by decide +kernel)) w fv mf ver t tv h1 h2 h3) ok17 (fun w xs b1 b2 c1 c2 h1 h2 h3 => same_ok hX hm Go.Proofs.Try.func17 b17 (by kernel_rfl) (by kernel_rfl) w xs b1 b2 c1 c2 h1 h2 h3) (fun ver h => by simp [flexAt]) (fun ver h => new_len _ _ fs (by decide +kernel)) Go.Proofs.Try.func7 b7 (by kernel_rfl) (by kernel_rfl) w n hn
end Go.Proofs.Ytioodpjcpadkoaa.K.NewDescribeDelegationTokenRequest
