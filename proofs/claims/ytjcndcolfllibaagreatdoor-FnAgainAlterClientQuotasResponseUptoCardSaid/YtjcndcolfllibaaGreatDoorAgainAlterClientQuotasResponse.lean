/- AgainAlterClientQuotasResponse: what the law on it computes. No condition. -/
import Derived.Test.YtjcndcolfllibaaGreatDoorB0
import Derived.Test.YtjcndcolfllibaaGreatDoorQA
import Derived.Test.YtjcndcolfllibaaGreatDoorQR
import Derived.Test.YtjcndcolfllibaaGreatDoorQS
namespace Go.Proofs.YtjcndcolfllibaaGreatDoor.K.AgainAlterClientQuotasResponse
open Go Go.RowKit Go.Proofs Go.Proofs.YtjcndcolfllibaaGreatDoor.T Go.Proofs.YtjcndcolfllibaaGreatDoor.K
set_option linter.unusedVariables false
set_option linter.unusedSimpArgs false
def fs116 : Fs := (.cons ⟨0, -1, -1, 0, 0, 0, 9, false⟩ (.prim .str) (.cons ⟨0, -1, 0, 0, 1, 1, 75, false⟩ (.prim .str) .nil))
theorem b116 : (Go.Proofs.Tryz.f116).body.map strip = some (sc_bSub X.F X.Fs fs116 []) := by kernel_rfl
theorem ok116 : FnOK PP 116 := fnOK_of Go.Proofs.Tryz.func116 b116 (by kernel_rfl)
theorem sf116 : SubFns PP fs116 [] := by
  simp [SubFns, hasSub, fs116]
theorem c116 (w : World) : Calls PP 116 #[] w fun e w' => ∃ v, e = .returned v ∧ v.oneCell' = true ∧ FsV w' (fun k => w.heap.size ≤ k ∧ k < w'.heap.size) fs116 v ∧ Below w.heap.size w w' := bSub_ok hX fok uFs fs116 [] (by kernel_rfl) sf116 (by decide +kernel) Go.Proofs.Tryz.func116 b116 (by kernel_rfl) (by kernel_rfl) w
def fs54 : Fs := (.cons ⟨0, -1, -1, 0, 0, 0, 42, false⟩ (.prim .i16) (.cons ⟨0, -1, 0, 0, 1, 1, 75, false⟩ (.prim .str) (.cons ⟨0, -1, -1, 0, 2, 2, 111, false⟩ (.list 111 116 3 (.struct 116 3 164 (some (2, 2)) (.cons ⟨0, -1, -1, 0, 0, 0, 9, false⟩ (.prim .str) (.cons ⟨0, -1, 0, 0, 1, 1, 75, false⟩ (.prim .str) .nil)))) .nil)))
theorem b54 : (Go.Proofs.Tryz.f54).body.map strip = some (sc_bSub X.F X.Fs fs54 [116]) := by kernel_rfl
theorem ok54 : FnOK PP 54 := fnOK_of Go.Proofs.Tryz.func54 b54 (by kernel_rfl)
theorem sf54 : SubFns PP fs54 [116] := by
  simp only [SubFns, hasSub, Bool.false_eq_true, if_false, if_true, List.headD_cons, List.tail_cons, fs54]
  exact ⟨⟨ok116, fun w => (c116 w).mono fun e w' ⟨v, q1, q2, q3, q4⟩ => ⟨v, q1, q2, by simp only [SubV]; exact q3, q4⟩⟩, trivial⟩
theorem c54 (w : World) : Calls PP 54 #[] w fun e w' => ∃ v, e = .returned v ∧ v.oneCell' = true ∧ FsV w' (fun k => w.heap.size ≤ k ∧ k < w'.heap.size) fs54 v ∧ Below w.heap.size w w' := bSub_ok hX fok uFs fs54 [116] (by kernel_rfl) sf54 (by decide +kernel) Go.Proofs.Tryz.func54 b54 (by kernel_rfl) (by kernel_rfl) w
def fs : Fs := (.cons ⟨0, -1, -1, 0, 1, 1, 21, false⟩ (.prim .i32) (.cons ⟨0, -1, -1, 0, 2, 2, 107, false⟩ (.list 107 113 4 (.struct 113 4 163 (some (3, 3)) (.cons ⟨0, -1, -1, 0, 0, 0, 42, false⟩ (.prim .i16) (.cons ⟨0, -1, 0, 0, 1, 1, 75, false⟩ (.prim .str) (.cons ⟨0, -1, -1, 0, 2, 2, 111, false⟩ (.list 111 116 3 (.struct 116 3 164 (some (2, 2)) (.cons ⟨0, -1, -1, 0, 0, 0, 9, false⟩ (.prim .str) (.cons ⟨0, -1, 0, 0, 1, 1, 75, false⟩ (.prim .str) .nil)))) .nil))))) .nil))
theorem b22 : (Go.Proofs.Tryz.f22).body.map strip = some (sc_bTop X.F X.Fs X.M fs (1) [54]) := by kernel_rfl
theorem ok22 : FnOK PP 22 := fnOK_of Go.Proofs.Tryz.func22 b22 (by kernel_rfl)
theorem sfTop : SubFns PP fs [54] := by
  simp only [SubFns, hasSub, Bool.false_eq_true, if_false, if_true, List.headD_cons, List.tail_cons, fs]
  exact ⟨⟨ok54, fun w => (c54 w).mono fun e w' ⟨v, q1, q2, q3, q4⟩ => ⟨v, q1, q2, by simp only [SubV]; exact q3, q4⟩⟩, trivial⟩
theorem cSp (w : World) : Calls PP 22 #[] w fun e w' => ∃ v, e = .returned (msgV v (1)) ∧ v.oneCell' = true ∧ FsV w' (fun k => w.heap.size ≤ k ∧ k < w'.heap.size) fs v ∧ Below w.heap.size w w' := bTop_ok hX fok uFs arrM mB fs (1) [54] (by kernel_rfl) sfTop (by decide +kernel) Go.Proofs.Tryz.func22 b22 (by kernel_rfl) (by kernel_rfl) w
def sc163 : SC := .skip
theorem b163 : (Go.Proofs.Tryz.f163).body.map strip = some (sc163) := by kernel_rfl
theorem d163 : DefAt PP 163 4 [] := defAt_ok (N := 2) Go.Proofs.Tryz.func163 b163 (by kernel_rfl) (by kernel_rfl) (by decide) (by kernel_rfl) (by kernel_rfl)
def sc164 : SC := .skip
theorem b164 : (Go.Proofs.Tryz.f164).body.map strip = some (sc164) := by kernel_rfl
theorem d164 : DefAt PP 164 3 [] := defAt_ok (N := 2) Go.Proofs.Tryz.func164 b164 (by kernel_rfl) (by kernel_rfl) (by decide) (by kernel_rfl) (by kernel_rfl)
def sc115 : SC := .skip
theorem b115 : (Go.Proofs.Tryz.f115).body.map strip = some (sc115) := by kernel_rfl
theorem d115 : DefAt PP 115 4 [] := defAt_ok (N := 2) Go.Proofs.Tryz.func115 b115 (by kernel_rfl) (by kernel_rfl) (by decide) (by kernel_rfl) (by kernel_rfl)
theorem dfs : DefFs PP fs := ⟨trivial, ⟨⟨⟨_, d163, (by kernel_rfl), (by kernel_rfl)⟩, ⟨trivial, ⟨trivial, ⟨⟨⟨_, d164, (by kernel_rfl), (by kernel_rfl)⟩, ⟨trivial, ⟨trivial, trivial⟩⟩⟩, trivial⟩⟩⟩⟩, trivial⟩⟩
noncomputable abbrev zc : Array Value := zcOf PP 109
noncomputable def cs : Array Value := dSetAll 0 [] zc
theorem defFn : DefFn PP 115 109 zc cs := ⟨d115.1, fun w b hc => d115.2 w b 0 zc 109 hc (by decide +kernel)⟩
theorem b52 : (Go.Proofs.Tryz.f52).body.map strip = some (sc_NewPtr 109 115) := by kernel_rfl
theorem ok52 : FnOK PP 52 := fnOK_of Go.Proofs.Tryz.func52 b52 (by kernel_rfl)
theorem cNP (w : World) : Calls PP 52 #[] w fun e w' => ∃ b, e = .returned (.pointer (some ⟨b, 0, none⟩)) ∧ w.heap.size ≤ b ∧ w'.heap[b]? = some (.cells cs 109 (0, 0)) ∧ Below w.heap.size w w' := newPtr_ok (zc_of (by kernel_rfl)) defFn Go.Proofs.Tryz.func52 b52 (by kernel_rfl) (by kernel_rfl) w
theorem b53 : (Go.Proofs.Tryz.f53).body.map strip = some (sc_MaxV 1) := by kernel_rfl
theorem ok53 : FnOK PP 53 := fnOK_of Go.Proofs.Tryz.func53 b53 (by kernel_rfl)
theorem b21 : (Go.Proofs.Tryz.f21).body.map strip = some (sc_Max 52 53 42 3) := by kernel_rfl
theorem ok21 : FnOK PP 21 := fnOK_of Go.Proofs.Tryz.func21 b21 (by kernel_rfl)
theorem cMax (w : World) : Calls PP 21 #[] w fun e w' => e = .returned (.int .i64 ((1 : Nat) : Int)) ∧ Below w.heap.size w w' := max_ok (by kernel_rfl) (by kernel_rfl) (by decide) ok52 cNP ok53 (fun w v => maxV_ok Go.Proofs.Tryz.func53 b53 (by kernel_rfl) (by kernel_rfl) w v) Go.Proofs.Tryz.func21 b21 (by kernel_rfl) (by kernel_rfl) w
theorem b55 : (Go.Proofs.Tryz.f55).body.map strip = some (sc_SetV 109 42) := by kernel_rfl
theorem ok55 : FnOK PP 55 := fnOK_of Go.Proofs.Tryz.func55 b55 (by kernel_rfl)
theorem b57 : (Go.Proofs.Tryz.f57).body.map strip = some (aTop ids 109 18 (some 1) (some (3, 3)) fs) := by kernel_rfl
theorem ok57 : FnOK PP 57 := fnOK_of Go.Proofs.Tryz.func57 b57 (by kernel_rfl)
def M : RTop := { S := 109, size := 4, d := 115, t := 28, N := 168, flex := (some 1), tags := (some (3, 3)), fs := fs }
theorem b117 : (Go.Proofs.Tryz.f117).body.map strip = some (rTop rids 109 115 28 (some 1) (some (3, 3)) fs) := by kernel_rfl
theorem b56 : (Go.Proofs.Tryz.f56).body.map strip = some (sc_ReadFromW 117) := by kernel_rfl
theorem ok56 : FnOK PP 56 := fnOK_of Go.Proofs.Tryz.func56 b56 (by kernel_rfl)
theorem ok117 : FnOK PP 117 := fnOK_of Go.Proofs.Tryz.func117 b117 (by kernel_rfl)
theorem cR (a : Addr) (B : Nat) (w0 : World) (h : 1 < B) (hg : ∀ w', Below B w0 w' → GlE a w') : ReadC PP rids M B G0 (errV a) 117 w0 := readFrom_ok (kr a) (fun _ => trivial) hg h (by kernel_rfl) dfs d115 (by kernel_rfl) (by kernel_rfl) Go.Proofs.Tryz.func117 b117 (by kernel_rfl) (by kernel_rfl)
theorem b23 : (Go.Proofs.Tryz.f23).body.map strip = some (sc_Again 3 42 22 51 52 55 56 57) := by kernel_rfl
theorem cAg (a : Addr) : AgC PP X.U8 (some 1) fs 1 1 (GlE a) 23 :=
  again_ok (I := rids) (M := M) (gb := 1) (m := 1) (G := G0) (Gl := GlE a) (err := errV a) (by kernel_rfl) (by kernel_rfl) (by kernel_rfl) (by kernel_rfl) (by decide) ⟨_, _, rfl⟩ ok52 cNP ok55 (fun w b cs E hc hs n => setV_ok (by kernel_rfl) (by kernel_rfl) Go.Proofs.Tryz.func55 b55 (by kernel_rfl) (by kernel_rfl) w b cs E hc hs n) ok56 (fun w x y Q h => readFromW_ok ok117 Go.Proofs.Tryz.func56 b56 (by kernel_rfl) (by kernel_rfl) w x y Q h) (fun B w0 h hg => cR a B w0 h hg) ok57 (fun w b ver ts u hb hc h0 hh ht hl => appendTo_calls ka Go.Proofs.Tryz.func57 b57 (by kernel_rfl) (by kernel_rfl) w b 0 ver ts u hb hc h0 hh ht hl) (by decide +kernel) (by decide) (by kernel_rfl) (by kernel_rfl) Go.Proofs.Tryz.func23 b23 (by kernel_rfl) (by kernel_rfl) (by kernel_rfl)
theorem okv : ∀ v : Nat, v ≤ 1 → okFsR v (flexAt (some 1) v) fs = true := by decide +kernel
theorem b5 : (Go.Proofs.Tryz.f5).body.map strip = some (sc_LawAgain X.T 4 X.I 11 21 22 15 13 23 17) := by kernel_rfl
theorem law (a : Addr) (w : World) (n : Nat) (hn : n < 256) (t : Tree) (tv : Value) (ht : TV G0 w (· < w.heap.size) t tv) (hgb : 1 < w.heap.size) (hgl : ∀ w', Below w.heap.size w w' → GlE a w') (hk : KAll t) (hlim : ∀ v : Nat, v ≤ 1 → (wMsg v (flexAt (some 1) v) fs t.l t.u).length ≤ lim) : Calls PP 5 #[.int .u8 (n : Int), tv] w fun e w' => e = .returned (.bool true) ∧ Below w.heap.size w w' :=
  lawAgain_ok (G := G0) hX hm (m := 1) (Gl := GlE a) (by decide) fs (1) (some 1) (fun v => by simp [flexAt]) ok11 cFit ok21 cMax ok22 cSp ok15 cVer ok13 (cWr fs (by decide +kernel) (by decide +kernel)) (cAg a) ok17 cSame Go.Proofs.Tryz.func5 b5 (by kernel_rfl) (by kernel_rfl) w n hn t tv ht hgb hgl (fun v hv => okv v hv) (fun v _ => kAll_fs v fs t.l hk.l) hk.u hlim
def flex : Option Int := (some 1)
def mx : Nat := 1
end Go.Proofs.YtjcndcolfllibaaGreatDoor.K.AgainAlterClientQuotasResponse

