/- AgainDescribeProducersRequest: what the law on it computes. No condition. -/
import Derived.Test.YtdmdmnfdfkejbaaGreatDoorB0
import Derived.Test.YtdmdmnfdfkejbaaGreatDoorQA
import Derived.Test.YtdmdmnfdfkejbaaGreatDoorQR
import Derived.Test.YtdmdmnfdfkejbaaGreatDoorQS
namespace Go.Proofs.YtdmdmnfdfkejbaaGreatDoor.K.AgainDescribeProducersRequest
open Go Go.RowKit Go.Proofs Go.Proofs.YtdmdmnfdfkejbaaGreatDoor.T Go.Proofs.YtdmdmnfdfkejbaaGreatDoor.K
set_option linter.unusedVariables false
set_option linter.unusedSimpArgs false
def fs58 : Fs := (.cons ⟨0, -1, -1, 0, 0, 0, 9, false⟩ (.prim .str) (.cons ⟨0, -1, -1, 0, 1, 1, 104, false⟩ (.list 104 21 1 (.prim .i32)) .nil))
theorem b58 : (Go.Proofs.Tryz.f58).body.map strip = some (sc_bSub X.F X.Fs fs58 []) := by kernel_rfl
theorem ok58 : FnOK PP 58 := fnOK_of Go.Proofs.Tryz.func58 b58 (by kernel_rfl)
theorem sf58 : SubFns PP fs58 [] := by
  simp [SubFns, hasSub, fs58]
theorem c58 (w : World) : Calls PP 58 #[] w fun e w' => ∃ v, e = .returned v ∧ v.oneCell' = true ∧ FsV w' (fun k => w.heap.size ≤ k ∧ k < w'.heap.size) fs58 v ∧ Below w.heap.size w w' := bSub_ok hX fok uFs fs58 [] (by kernel_rfl) sf58 (by decide +kernel) Go.Proofs.Tryz.func58 b58 (by kernel_rfl) (by kernel_rfl) w
def fs : Fs := (.cons ⟨0, -1, -1, 0, 1, 1, 100, false⟩ (.list 100 106 3 (.struct 106 3 154 (some (2, 2)) (.cons ⟨0, -1, -1, 0, 0, 0, 9, false⟩ (.prim .str) (.cons ⟨0, -1, -1, 0, 1, 1, 104, false⟩ (.list 104 21 1 (.prim .i32)) .nil)))) .nil)
theorem b25 : (Go.Proofs.Tryz.f25).body.map strip = some (sc_bTop X.F X.Fs X.M fs (0) [58]) := by kernel_rfl
theorem ok25 : FnOK PP 25 := fnOK_of Go.Proofs.Tryz.func25 b25 (by kernel_rfl)
theorem sfTop : SubFns PP fs [58] := by
  simp only [SubFns, hasSub, Bool.false_eq_true, if_false, if_true, List.headD_cons, List.tail_cons, fs]
  exact ⟨⟨ok58, fun w => (c58 w).mono fun e w' ⟨v, q1, q2, q3, q4⟩ => ⟨v, q1, q2, by simp only [SubV]; exact q3, q4⟩⟩, trivial⟩
theorem cSp (w : World) : Calls PP 25 #[] w fun e w' => ∃ v, e = .returned (msgV v (0)) ∧ v.oneCell' = true ∧ FsV w' (fun k => w.heap.size ≤ k ∧ k < w'.heap.size) fs v ∧ Below w.heap.size w w' := bTop_ok hX fok uFs arrM mB fs (0) [58] (by kernel_rfl) sfTop (by decide +kernel) Go.Proofs.Tryz.func25 b25 (by kernel_rfl) (by kernel_rfl) w
def sc154 : SC := .skip
theorem b154 : (Go.Proofs.Tryz.f154).body.map strip = some (sc154) := by kernel_rfl
theorem d154 : DefAt PP 154 3 [] := defAt_ok (N := 2) Go.Proofs.Tryz.func154 b154 (by kernel_rfl) (by kernel_rfl) (by decide) (by kernel_rfl) (by kernel_rfl)
def sc112 : SC := .skip
theorem b112 : (Go.Proofs.Tryz.f112).body.map strip = some (sc112) := by kernel_rfl
theorem d112 : DefAt PP 112 3 [] := defAt_ok (N := 2) Go.Proofs.Tryz.func112 b112 (by kernel_rfl) (by kernel_rfl) (by decide) (by kernel_rfl) (by kernel_rfl)
theorem dfs : DefFs PP fs := ⟨⟨⟨_, d154, (by kernel_rfl), (by kernel_rfl)⟩, ⟨trivial, ⟨trivial, trivial⟩⟩⟩, trivial⟩
noncomputable abbrev zc : Array Value := zcOf PP 102
noncomputable def cs : Array Value := dSetAll 0 [] zc
theorem defFn : DefFn PP 112 102 zc cs := ⟨d112.1, fun w b hc => d112.2 w b 0 zc 102 hc (by decide +kernel)⟩
theorem b56 : (Go.Proofs.Tryz.f56).body.map strip = some (sc_NewPtr 102 112) := by kernel_rfl
theorem ok56 : FnOK PP 56 := fnOK_of Go.Proofs.Tryz.func56 b56 (by kernel_rfl)
theorem cNP (w : World) : Calls PP 56 #[] w fun e w' => ∃ b, e = .returned (.pointer (some ⟨b, 0, none⟩)) ∧ w.heap.size ≤ b ∧ w'.heap[b]? = some (.cells cs 102 (0, 0)) ∧ Below w.heap.size w w' := newPtr_ok (zc_of (by kernel_rfl)) defFn Go.Proofs.Tryz.func56 b56 (by kernel_rfl) (by kernel_rfl) w
theorem b57 : (Go.Proofs.Tryz.f57).body.map strip = some (sc_MaxV 0) := by kernel_rfl
theorem ok57 : FnOK PP 57 := fnOK_of Go.Proofs.Tryz.func57 b57 (by kernel_rfl)
theorem b24 : (Go.Proofs.Tryz.f24).body.map strip = some (sc_Max 56 57 42 3) := by kernel_rfl
theorem ok24 : FnOK PP 24 := fnOK_of Go.Proofs.Tryz.func24 b24 (by kernel_rfl)
theorem cMax (w : World) : Calls PP 24 #[] w fun e w' => e = .returned (.int .i64 ((0 : Nat) : Int)) ∧ Below w.heap.size w w' := max_ok (by kernel_rfl) (by kernel_rfl) (by decide) ok56 cNP ok57 (fun w v => maxV_ok Go.Proofs.Tryz.func57 b57 (by kernel_rfl) (by kernel_rfl) w v) Go.Proofs.Tryz.func24 b24 (by kernel_rfl) (by kernel_rfl) w
theorem b59 : (Go.Proofs.Tryz.f59).body.map strip = some (sc_SetV 102 42) := by kernel_rfl
theorem ok59 : FnOK PP 59 := fnOK_of Go.Proofs.Tryz.func59 b59 (by kernel_rfl)
theorem b61 : (Go.Proofs.Tryz.f61).body.map strip = some (aTop ids 102 14 (some 0) (some (2, 2)) fs) := by kernel_rfl
theorem ok61 : FnOK PP 61 := fnOK_of Go.Proofs.Tryz.func61 b61 (by kernel_rfl)
def M : RTop := { S := 102, size := 3, d := 112, t := 23, N := 125, flex := (some 0), tags := (some (2, 2)), fs := fs }
theorem b113 : (Go.Proofs.Tryz.f113).body.map strip = some (rTop rids 102 112 23 (some 0) (some (2, 2)) fs) := by kernel_rfl
theorem b60 : (Go.Proofs.Tryz.f60).body.map strip = some (sc_ReadFromW 113) := by kernel_rfl
theorem ok60 : FnOK PP 60 := fnOK_of Go.Proofs.Tryz.func60 b60 (by kernel_rfl)
theorem ok113 : FnOK PP 113 := fnOK_of Go.Proofs.Tryz.func113 b113 (by kernel_rfl)
theorem cR (a : Addr) (B : Nat) (w0 : World) (h : 0 < B) (hg : ∀ w', Below B w0 w' → GlE a w') : ReadC PP rids M B G0 (errV a) 113 w0 := readFrom_ok (kr a) (fun _ => trivial) hg h (by kernel_rfl) dfs d112 (by kernel_rfl) (by kernel_rfl) Go.Proofs.Tryz.func113 b113 (by kernel_rfl) (by kernel_rfl)
theorem b26 : (Go.Proofs.Tryz.f26).body.map strip = some (sc_Again 3 42 22 51 56 59 60 61) := by kernel_rfl
theorem cAg (a : Addr) : AgC PP X.U8 (some 0) fs 0 0 (GlE a) 26 :=
  again_ok (I := rids) (M := M) (gb := 0) (m := 0) (G := G0) (Gl := GlE a) (err := errV a) (by kernel_rfl) (by kernel_rfl) (by kernel_rfl) (by kernel_rfl) (by decide) ⟨_, _, rfl⟩ ok56 cNP ok59 (fun w b cs E hc hs n => setV_ok (by kernel_rfl) (by kernel_rfl) Go.Proofs.Tryz.func59 b59 (by kernel_rfl) (by kernel_rfl) w b cs E hc hs n) ok60 (fun w x y Q h => readFromW_ok ok113 Go.Proofs.Tryz.func60 b60 (by kernel_rfl) (by kernel_rfl) w x y Q h) (fun B w0 h hg => cR a B w0 h hg) ok61 (fun w b ver ts u hb hc h0 hh ht hl => appendTo_calls ka Go.Proofs.Tryz.func61 b61 (by kernel_rfl) (by kernel_rfl) w b 0 ver ts u hb hc h0 hh ht hl) (by decide +kernel) (by decide) (by kernel_rfl) (by kernel_rfl) Go.Proofs.Tryz.func26 b26 (by kernel_rfl) (by kernel_rfl) (by kernel_rfl)
theorem okv : ∀ v : Nat, v ≤ 0 → okFsR v (flexAt (some 0) v) fs = true := by decide +kernel
theorem b6 : (Go.Proofs.Tryz.f6).body.map strip = some (sc_LawAgain X.T 4 X.I 11 24 25 15 13 26 20) := by kernel_rfl
theorem law (a : Addr) (w : World) (n : Nat) (hn : n < 256) (t : Tree) (tv : Value) (ht : TV G0 w (· < w.heap.size) t tv) (hgb : 0 < w.heap.size) (hgl : ∀ w', Below w.heap.size w w' → GlE a w') (hk : KAll t) (hlim : ∀ v : Nat, v ≤ 0 → (wMsg v (flexAt (some 0) v) fs t.l t.u).length ≤ lim) : Calls PP 6 #[.int .u8 (n : Int), tv] w fun e w' => e = .returned (.bool true) ∧ Below w.heap.size w w' :=
  lawAgain_ok (G := G0) hX hm (m := 0) (Gl := GlE a) (by decide) fs (0) (some 0) (fun v => by simp [flexAt]) ok11 cFit ok24 cMax ok25 cSp ok15 cVer ok13 (cWr fs (by decide +kernel) (by decide +kernel)) (cAg a) ok20 cSame Go.Proofs.Tryz.func6 b6 (by kernel_rfl) (by kernel_rfl) w n hn t tv ht hgb hgl (fun v hv => okv v hv) (fun v _ => kAll_fs v fs t.l hk.l) hk.u hlim
def flex : Option Int := (some 0)
def mx : Nat := 0
end Go.Proofs.YtdmdmnfdfkejbaaGreatDoor.K.AgainDescribeProducersRequest

