/- NewExpireDelegationTokenRequest: what the law on it computes. No condition. -/
import Derived.Test.YtioodpjcpadkoaaSeat
namespace Go.Proofs.Ytioodpjcpadkoaa.K.NewExpireDelegationTokenRequest
open Go Go.RowKit Go.Proofs.Ytioodpjcpadkoaa.T Go.Proofs.Ytioodpjcpadkoaa.K
set_option linter.unusedVariables false
set_option linter.unusedSimpArgs false
def fs : Fs := (.cons ⟨0, -1, -1, 0, 1, 1, 28, false⟩ (.prim .bytes) (.cons ⟨0, -1, -1, 0, 2, 2, 2, false⟩ (.prim .i64) .nil))
theorem b16 : (Go.Proofs.Try.f16).body.map strip = some (sc_bTop X.F X.Fs X.M fs (2) []) := by kernel_rfl
theorem ok16 : FnOK PP 16 := fnOK_of Go.Proofs.Try.func16 b16 (by kernel_rfl)
theorem sfTop : SubFns PP fs [] := by
  simp [SubFns, hasSub, fs]
theorem cSp (w : World) : Calls PP 16 #[] w fun e w' => ∃ v, e = .returned (msgV v (2)) ∧ v.oneCell' = true ∧ FsV w' (fun k => w.heap.size ≤ k ∧ k < w'.heap.size) fs v ∧ Below w.heap.size w w' := bTop_ok hX fok uFs arrM mB fs (2) [] (by kernel_rfl) sfTop (by decide +kernel) Go.Proofs.Try.func16 b16 (by kernel_rfl) (by kernel_rfl) w
noncomputable abbrev zc : Array Value := zcOf PP 74
noncomputable def cs : Array Value := zc
def scD : SC := .skip
theorem b114 : (Go.Proofs.Try.f114).body.map strip = some (scD) := by kernel_rfl
theorem ok114 : FnOK PP 114 := fnOK_of Go.Proofs.Try.func114 b114 (by kernel_rfl)
theorem defFn : DefFn PP 114 74 zc cs := ⟨ok114, fun w b hc => fn_calls (N := 2) Go.Proofs.Try.func114 b114 (by kernel_rfl) (by simp) fun a0 hs hd ha => SC.wp_skip ⟨hd, .tuple #[], by simp [results, show (Go.Proofs.Try.f114).results = #[] by kernel_rfl], rfl, by unfold cs; exact (setRow_self _ _ _ _ _ hc).symm⟩⟩
theorem b55 : (Go.Proofs.Try.f55).body.map strip = some (sc_NewPtr 74 114) := by kernel_rfl
theorem ok55 : FnOK PP 55 := fnOK_of Go.Proofs.Try.func55 b55 (by kernel_rfl)
theorem cNP (w : World) : Calls PP 55 #[] w fun e w' => ∃ b, e = .returned (.pointer (some ⟨b, 0, none⟩)) ∧ w.heap.size ≤ b ∧ w'.heap[b]? = some (.cells cs 74 (0, 0)) ∧ Below w.heap.size w w' := newPtr_ok (zc_of (by kernel_rfl)) defFn Go.Proofs.Try.func55 b55 (by kernel_rfl) (by kernel_rfl) w
theorem b56 : (Go.Proofs.Try.f56).body.map strip = some (sc_MaxV 2) := by kernel_rfl
theorem ok56 : FnOK PP 56 := fnOK_of Go.Proofs.Try.func56 b56 (by kernel_rfl)
theorem b15 : (Go.Proofs.Try.f15).body.map strip = some (sc_Max 55 56 38 3) := by kernel_rfl
theorem ok15 : FnOK PP 15 := fnOK_of Go.Proofs.Try.func15 b15 (by kernel_rfl)
theorem cMax (w : World) : Calls PP 15 #[] w fun e w' => e = .returned (.int .i64 ((2 : Nat) : Int)) ∧ Below w.heap.size w w' := max_ok (by kernel_rfl) (by kernel_rfl) (by decide) ok55 cNP ok56 (fun w v => maxV_ok Go.Proofs.Try.func56 b56 (by kernel_rfl) (by kernel_rfl) w v) Go.Proofs.Try.func15 b15 (by kernel_rfl) (by kernel_rfl) w
theorem b57 : (Go.Proofs.Try.f57).body.map strip = some (sc_SetV 74 38) := by kernel_rfl
theorem ok57 : FnOK PP 57 := fnOK_of Go.Proofs.Try.func57 b57 (by kernel_rfl)
theorem b58 : (Go.Proofs.Try.f58).body.map strip = some (aTop ids 74 9 (some 2) (some (3, 3)) fs) := by kernel_rfl
theorem ok58 : FnOK PP 58 := fnOK_of Go.Proofs.Try.func58 b58 (by kernel_rfl)
theorem cAT (w : World) (b : Nat) (n : Int) (hc : w.heap[b]? = some (.cells (cs.setIfInBounds 0 (.int .i16 n)) 74 (0, 0))) (h0 : 0 ≤ n) (h1 : n < 32768) : Calls PP 58 #[.pointer (some ⟨b, 0, none⟩), .slice none 0 0] w fun e w' => ∃ dv, e = .returned dv ∧ Own X.U8 w' w.heap.size dv (wFs n (flexAt (some 2) n) fs (defL fs) ++ wTags (flexAt (some 2) n) []) ∧ Below w.heap.size w w' :=
  newAT_ok ka Go.Proofs.Try.func58 b58 (by kernel_rfl) (by kernel_rfl) (by decide +kernel) (fun n => by kernel_rfl) (fun n => by kernel_rfl) (by decide +kernel) w b n hc h0 h1
theorem b18 : (Go.Proofs.Try.f18).body.map strip = some (sc_New 55 57 58 3 38) := by kernel_rfl
theorem ok18 : FnOK PP 18 := fnOK_of Go.Proofs.Try.func18 b18 (by kernel_rfl)
theorem cNew (w : World) (ver : Nat) (h : ver ≤ 2) : Calls PP 18 #[.int .i64 (ver : Int)] w (RetOwn X.U8 w ((fun n : Int => wFs n (flexAt (some 2) n) fs (defL fs) ++ wTags (flexAt (some 2) n) []) ver)) :=
  new_ok (out := fun n : Int => wFs n (flexAt (some 2) n) fs (defL fs) ++ wTags (flexAt (some 2) n) []) (by kernel_rfl) (by kernel_rfl) ok55 cNP ok57 (fun w b hc n => setV_ok (by kernel_rfl) (by kernel_rfl) Go.Proofs.Try.func57 b57 (by kernel_rfl) (by kernel_rfl) w b cs _ hc (by decide +kernel) n) ok58 cAT Go.Proofs.Try.func18 b18 (by kernel_rfl) (by kernel_rfl) w ver (by omega)
theorem b3 : (Go.Proofs.Try.f3).body.map strip = some (sc_LawNew 15 16 19 18 21 20 17 X.I X.M X.Fs) := by kernel_rfl
theorem law (w : World) (n : Nat) (hn : n < 256) : Calls PP 3 #[.int .u8 (n : Int)] w fun e w' => e = .returned (.bool true) ∧ Below w.heap.size w w' :=
  lawNew_ok (G := G0) hX hm arrM (m := 2) (by decide) fs (2) (fun n : Int => wFs n (flexAt (some 2) n) fs (defL fs) ++ wTags (flexAt (some 2) n) []) ok15 cMax ok16 cSp ok19 (fun w n m h1 h2 => version_ok hX Go.Proofs.Try.func19 b19 (by kernel_rfl) (by kernel_rfl) w n m h1 h2) ok18 cNew ok21 (defC fs (by decide +kernel) (by decide +kernel)) ok20 (fun w fv mf ver t tv h1 h2 h3 => write_ok hX ok59 Go.Proofs.Try.func20 b20 (by kernel_rfl) (by kernel_rfl) fs (partC fs (by decide +kernel) (by decide +kernel)) w fv mf ver t tv h1 h2 h3) ok17 (fun w xs b1 b2 c1 c2 h1 h2 h3 => same_ok hX hm Go.Proofs.Try.func17 b17 (by kernel_rfl) (by kernel_rfl) w xs b1 b2 c1 c2 h1 h2 h3) (fun ver h => by simp [flexAt]) (fun ver h => new_len _ _ fs (by decide +kernel)) Go.Proofs.Try.func3 b3 (by kernel_rfl) (by kernel_rfl) w n hn
end Go.Proofs.Ytioodpjcpadkoaa.K.NewExpireDelegationTokenRequest
