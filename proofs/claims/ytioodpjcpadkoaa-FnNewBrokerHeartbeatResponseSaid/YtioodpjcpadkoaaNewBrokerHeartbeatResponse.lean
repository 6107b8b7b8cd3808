/- NewBrokerHeartbeatResponse: what the law on it computes. No condition. -/
import Derived.Test.YtioodpjcpadkoaaSeat
import Derived.Test.YtioodpjcpadkoaaD1
namespace Go.Proofs.Ytioodpjcpadkoaa.K.NewBrokerHeartbeatResponse
open Go Go.RowKit Go.Proofs.Ytioodpjcpadkoaa.T Go.Proofs.Ytioodpjcpadkoaa.K
set_option linter.unusedVariables false
set_option linter.unusedSimpArgs false
def fs : Fs := (.cons ⟨0, -1, -1, 0, 1, 1, 21, false⟩ (.prim .i32) (.cons ⟨0, -1, -1, 0, 2, 2, 38, false⟩ (.prim .i16) (.cons ⟨0, -1, -1, 0, 3, 3, 4, false⟩ (.prim .bool) (.cons ⟨0, -1, -1, 1, 4, 4, 4, false⟩ (.prim .bool) (.cons ⟨0, -1, -1, 0, 5, 5, 4, false⟩ (.prim .bool) .nil)))))
theorem b23 : (Go.Proofs.Try.f23).body.map strip = some (sc_bTop X.F X.Fs X.M fs (0) []) := by kernel_rfl
theorem ok23 : FnOK PP 23 := fnOK_of Go.Proofs.Try.func23 b23 (by kernel_rfl)
theorem sfTop : SubFns PP fs [] := by
  simp [SubFns, hasSub, fs]
theorem cSp (w : World) : Calls PP 23 #[] w fun e w' => ∃ v, e = .returned (msgV v (0)) ∧ v.oneCell' = true ∧ FsV w' (fun k => w.heap.size ≤ k ∧ k < w'.heap.size) fs v ∧ Below w.heap.size w w' := bTop_ok hX fok uFs arrM mB fs (0) [] (by kernel_rfl) sfTop (by decide +kernel) Go.Proofs.Try.func23 b23 (by kernel_rfl) (by kernel_rfl) w
noncomputable abbrev zc : Array Value := zcOf PP 90
noncomputable def cs : Array Value := dSetAll 0 [(4, (.bool true))] zc
def scD : SC := .reg [mv 2 0, nilc 3 2, fa 4 90 3 4, ⟨none, .store 4 (.tmp 4) (.const (.bool true)), none⟩]
theorem b129 : (Go.Proofs.Try.f129).body.map strip = some (scD) := by kernel_rfl
theorem dA : DefAt PP 129 7 [(4, (.bool true))] := defAt_ok (N := 5) Go.Proofs.Try.func129 b129 (by kernel_rfl) (by kernel_rfl) (by decide) (by kernel_rfl) (by kernel_rfl)
theorem defFn : DefFn PP 129 90 zc cs := ⟨dA.1, fun w b hc => dA.2 w b 0 zc 90 hc (by decide +kernel)⟩
theorem b60 : (Go.Proofs.Try.f60).body.map strip = some (sc_NewPtr 90 129) := by kernel_rfl
theorem ok60 : FnOK PP 60 := fnOK_of Go.Proofs.Try.func60 b60 (by kernel_rfl)
theorem cNP (w : World) : Calls PP 60 #[] w fun e w' => ∃ b, e = .returned (.pointer (some ⟨b, 0, none⟩)) ∧ w.heap.size ≤ b ∧ w'.heap[b]? = some (.cells cs 90 (0, 0)) ∧ Below w.heap.size w w' := newPtr_ok (zc_of (by kernel_rfl)) defFn Go.Proofs.Try.func60 b60 (by kernel_rfl) (by kernel_rfl) w
theorem b61 : (Go.Proofs.Try.f61).body.map strip = some (sc_MaxV 2) := by kernel_rfl
theorem ok61 : FnOK PP 61 := fnOK_of Go.Proofs.Try.func61 b61 (by kernel_rfl)
theorem b22 : (Go.Proofs.Try.f22).body.map strip = some (sc_Max 60 61 38 3) := by kernel_rfl
theorem ok22 : FnOK PP 22 := fnOK_of Go.Proofs.Try.func22 b22 (by kernel_rfl)
theorem cMax (w : World) : Calls PP 22 #[] w fun e w' => e = .returned (.int .i64 ((2 : Nat) : Int)) ∧ Below w.heap.size w w' := max_ok (by kernel_rfl) (by kernel_rfl) (by decide) ok60 cNP ok61 (fun w v => maxV_ok Go.Proofs.Try.func61 b61 (by kernel_rfl) (by kernel_rfl) w v) Go.Proofs.Try.func22 b22 (by kernel_rfl) (by kernel_rfl) w
theorem b62 : (Go.Proofs.Try.f62).body.map strip = some (sc_SetV 90 38) := by kernel_rfl
theorem ok62 : FnOK PP 62 := fnOK_of Go.Proofs.Try.func62 b62 (by kernel_rfl)
theorem b63 : (Go.Proofs.Try.f63).body.map strip = some (aTop ids 90 12 (some 0) (some (6, 6)) fs) := by kernel_rfl
theorem ok63 : FnOK PP 63 := fnOK_of Go.Proofs.Try.func63 b63 (by kernel_rfl)
theorem cAT (w : World) (b : Nat) (n : Int) (hc : w.heap[b]? = some (.cells (cs.setIfInBounds 0 (.int .i16 n)) 90 (0, 0))) (h0 : 0 ≤ n) (h1 : n < 32768) : Calls PP 63 #[.pointer (some ⟨b, 0, none⟩), .slice none 0 0] w fun e w' => ∃ dv, e = .returned dv ∧ Own X.U8 w' w.heap.size dv (wFs n (flexAt (some 0) n) fs (defL fs) ++ wTags (flexAt (some 0) n) []) ∧ Below w.heap.size w w' :=
  newAT_ok ka Go.Proofs.Try.func63 b63 (by kernel_rfl) (by kernel_rfl) (by decide +kernel) (fun n => by kernel_rfl) (fun n => by kernel_rfl) (by decide +kernel) w b n hc h0 h1
theorem b24 : (Go.Proofs.Try.f24).body.map strip = some (sc_New 60 62 63 3 38) := by kernel_rfl
theorem ok24 : FnOK PP 24 := fnOK_of Go.Proofs.Try.func24 b24 (by kernel_rfl)
theorem cNew (w : World) (ver : Nat) (h : ver ≤ 2) : Calls PP 24 #[.int .i64 (ver : Int)] w (RetOwn X.U8 w ((fun n : Int => wFs n (flexAt (some 0) n) fs (defL fs) ++ wTags (flexAt (some 0) n) []) ver)) :=
  new_ok (out := fun n : Int => wFs n (flexAt (some 0) n) fs (defL fs) ++ wTags (flexAt (some 0) n) []) (by kernel_rfl) (by kernel_rfl) ok60 cNP ok62 (fun w b hc n => setV_ok (by kernel_rfl) (by kernel_rfl) Go.Proofs.Try.func62 b62 (by kernel_rfl) (by kernel_rfl) w b cs _ hc (by decide +kernel) n) ok63 cAT Go.Proofs.Try.func24 b24 (by kernel_rfl) (by kernel_rfl) w ver (by omega)
theorem b4 : (Go.Proofs.Try.f4).body.map strip = some (sc_LawNew 22 23 19 24 21 20 17 X.I X.M X.Fs) := by kernel_rfl
theorem law (w : World) (n : Nat) (hn : n < 256) : Calls PP 4 #[.int .u8 (n : Int)] w fun e w' => e = .returned (.bool true) ∧ Below w.heap.size w w' :=
  lawNew_ok (G := G0) hX hm arrM (m := 2) (by decide) fs (0) (fun n : Int => wFs n (flexAt (some 0) n) fs (defL fs) ++ wTags (flexAt (some 0) n) []) ok22 cMax ok23 cSp ok19 (fun w n m h1 h2 => version_ok hX Go.Proofs.Try.func19 b19 (by kernel_rfl) (by kernel_rfl) w n m h1 h2) ok24 cNew ok21 (defC fs (by decide +kernel) (by decide +kernel)) ok20 (fun w fv mf ver t tv h1 h2 h3 => write_ok hX ok59 Go.Proofs.Try.func20 b20 (by kernel_rfl) (by kernel_rfl) fs (partC fs (by decide +kernel) (by decide +kernel)) w fv mf ver t tv h1 h2 h3) ok17 (fun w xs b1 b2 c1 c2 h1 h2 h3 => same_ok hX hm Go.Proofs.Try.func17 b17 (by kernel_rfl) (by kernel_rfl) w xs b1 b2 c1 c2 h1 h2 h3) (fun ver h => by simp [flexAt]) (fun ver h => new_len _ _ fs (by decide +kernel)) Go.Proofs.Try.func4 b4 (by kernel_rfl) (by kernel_rfl) w n hn
end Go.Proofs.Ytioodpjcpadkoaa.K.NewBrokerHeartbeatResponse
