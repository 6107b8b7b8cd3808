/- CutAlterPartitionAssignmentsResponse: what the law on it computes. No condition. -/
import Derived.Test.YtjcndcolfllibaaGreatDoorB1
import Derived.Test.YtjcndcolfllibaaGreatDoorQA
import Derived.Test.YtjcndcolfllibaaGreatDoorQR
import Derived.Test.YtjcndcolfllibaaGreatDoorQS
namespace Go.Proofs.YtjcndcolfllibaaGreatDoor.K.CutAlterPartitionAssignmentsResponse
open Go Go.RowKit Go.Proofs Go.Proofs.YtjcndcolfllibaaGreatDoor.T Go.Proofs.YtjcndcolfllibaaGreatDoor.K
set_option linter.unusedVariables false
set_option linter.unusedSimpArgs false
def fs129 : Fs := (.cons ⟨0, -1, -1, 0, 0, 0, 21, false⟩ (.prim .i32) (.cons ⟨0, -1, -1, 0, 1, 1, 42, false⟩ (.prim .i16) (.cons ⟨0, -1, 0, 0, 2, 2, 75, false⟩ (.prim .str) .nil)))
theorem b129 : (Go.Proofs.Tryz.f129).body.map strip = some (sc_bSub X.F X.Fs fs129 []) := by kernel_rfl
theorem ok129 : FnOK PP 129 := fnOK_of Go.Proofs.Tryz.func129 b129 (by kernel_rfl)
theorem sf129 : SubFns PP fs129 [] := by
  simp [SubFns, hasSub, fs129]
theorem c129 (w : World) : Calls PP 129 #[] w fun e w' => ∃ v, e = .returned v ∧ v.oneCell' = true ∧ FsV w' (fun k => w.heap.size ≤ k ∧ k < w'.heap.size) fs129 v ∧ Below w.heap.size w w' := bSub_ok hX fok uFs fs129 [] (by kernel_rfl) sf129 (by decide +kernel) Go.Proofs.Tryz.func129 b129 (by kernel_rfl) (by kernel_rfl) w
def fs79 : Fs := (.cons ⟨0, -1, -1, 0, 0, 0, 9, false⟩ (.prim .str) (.cons ⟨0, -1, -1, 0, 1, 1, 156, false⟩ (.list 156 160 4 (.struct 160 4 175 (some (3, 3)) (.cons ⟨0, -1, -1, 0, 0, 0, 21, false⟩ (.prim .i32) (.cons ⟨0, -1, -1, 0, 1, 1, 42, false⟩ (.prim .i16) (.cons ⟨0, -1, 0, 0, 2, 2, 75, false⟩ (.prim .str) .nil))))) .nil))
theorem b79 : (Go.Proofs.Tryz.f79).body.map strip = some (sc_bSub X.F X.Fs fs79 [129]) := by kernel_rfl
theorem ok79 : FnOK PP 79 := fnOK_of Go.Proofs.Tryz.func79 b79 (by kernel_rfl)
theorem sf79 : SubFns PP fs79 [129] := by
  simp only [SubFns, hasSub, Bool.false_eq_true, if_false, if_true, List.headD_cons, List.tail_cons, fs79]
  exact ⟨⟨ok129, fun w => (c129 w).mono fun e w' ⟨v, q1, q2, q3, q4⟩ => ⟨v, q1, q2, by simp only [SubV]; exact q3, q4⟩⟩, trivial⟩
theorem c79 (w : World) : Calls PP 79 #[] w fun e w' => ∃ v, e = .returned v ∧ v.oneCell' = true ∧ FsV w' (fun k => w.heap.size ≤ k ∧ k < w'.heap.size) fs79 v ∧ Below w.heap.size w w' := bSub_ok hX fok uFs fs79 [129] (by kernel_rfl) sf79 (by decide +kernel) Go.Proofs.Tryz.func79 b79 (by kernel_rfl) (by kernel_rfl) w
def fs : Fs := (.cons ⟨0, -1, -1, 0, 1, 1, 21, false⟩ (.prim .i32) (.cons ⟨1, -1, -1, 1, 2, 2, 4, false⟩ (.prim .bool) (.cons ⟨0, -1, -1, 0, 3, 3, 42, false⟩ (.prim .i16) (.cons ⟨0, -1, 0, 0, 4, 4, 75, false⟩ (.prim .str) (.cons ⟨0, -1, -1, 0, 5, 5, 151, false⟩ (.list 151 158 3 (.struct 158 3 174 (some (2, 2)) (.cons ⟨0, -1, -1, 0, 0, 0, 9, false⟩ (.prim .str) (.cons ⟨0, -1, -1, 0, 1, 1, 156, false⟩ (.list 156 160 4 (.struct 160 4 175 (some (3, 3)) (.cons ⟨0, -1, -1, 0, 0, 0, 21, false⟩ (.prim .i32) (.cons ⟨0, -1, -1, 0, 1, 1, 42, false⟩ (.prim .i16) (.cons ⟨0, -1, 0, 0, 2, 2, 75, false⟩ (.prim .str) .nil))))) .nil)))) .nil)))))
theorem b34 : (Go.Proofs.Tryz.f34).body.map strip = some (sc_bTop X.F X.Fs X.M fs (0) [79]) := by kernel_rfl
theorem ok34 : FnOK PP 34 := fnOK_of Go.Proofs.Tryz.func34 b34 (by kernel_rfl)
theorem sfTop : SubFns PP fs [79] := by
  simp only [SubFns, hasSub, Bool.false_eq_true, if_false, if_true, List.headD_cons, List.tail_cons, fs]
  exact ⟨⟨ok79, fun w => (c79 w).mono fun e w' ⟨v, q1, q2, q3, q4⟩ => ⟨v, q1, q2, by simp only [SubV]; exact q3, q4⟩⟩, trivial⟩
theorem cSp (w : World) : Calls PP 34 #[] w fun e w' => ∃ v, e = .returned (msgV v (0)) ∧ v.oneCell' = true ∧ FsV w' (fun k => w.heap.size ≤ k ∧ k < w'.heap.size) fs v ∧ Below w.heap.size w w' := bTop_ok hX fok uFs arrM mB fs (0) [79] (by kernel_rfl) sfTop (by decide +kernel) Go.Proofs.Tryz.func34 b34 (by kernel_rfl) (by kernel_rfl) w
def sc174 : SC := .skip
theorem b174 : (Go.Proofs.Tryz.f174).body.map strip = some (sc174) := by kernel_rfl
theorem d174 : DefAt PP 174 3 [] := defAt_ok (N := 2) Go.Proofs.Tryz.func174 b174 (by kernel_rfl) (by kernel_rfl) (by decide) (by kernel_rfl) (by kernel_rfl)
def sc175 : SC := .skip
theorem b175 : (Go.Proofs.Tryz.f175).body.map strip = some (sc175) := by kernel_rfl
theorem d175 : DefAt PP 175 4 [] := defAt_ok (N := 2) Go.Proofs.Tryz.func175 b175 (by kernel_rfl) (by kernel_rfl) (by decide) (by kernel_rfl) (by kernel_rfl)
def sc128 : SC := .reg [mv 2 0, nilc 3 2, fa 4 153 3 2, ⟨none, .store 4 (.tmp 4) (.const (.bool true)), none⟩]
theorem b128 : (Go.Proofs.Tryz.f128).body.map strip = some (sc128) := by kernel_rfl
theorem d128 : DefAt PP 128 7 [(2, (.bool true))] := defAt_ok (N := 5) Go.Proofs.Tryz.func128 b128 (by kernel_rfl) (by kernel_rfl) (by decide) (by kernel_rfl) (by kernel_rfl)
theorem dfs : DefFs PP fs := ⟨trivial, ⟨trivial, ⟨trivial, ⟨trivial, ⟨⟨⟨_, d174, (by kernel_rfl), (by kernel_rfl)⟩, ⟨trivial, ⟨⟨⟨_, d175, (by kernel_rfl), (by kernel_rfl)⟩, ⟨trivial, ⟨trivial, ⟨trivial, trivial⟩⟩⟩⟩, trivial⟩⟩⟩, trivial⟩⟩⟩⟩⟩
noncomputable abbrev zc : Array Value := zcOf PP 153
noncomputable def cs : Array Value := dSetAll 0 [(2, (.bool true))] zc
theorem defFn : DefFn PP 128 153 zc cs := ⟨d128.1, fun w b hc => d128.2 w b 0 zc 153 hc (by decide +kernel)⟩
theorem b77 : (Go.Proofs.Tryz.f77).body.map strip = some (sc_NewPtr 153 128) := by kernel_rfl
theorem ok77 : FnOK PP 77 := fnOK_of Go.Proofs.Tryz.func77 b77 (by kernel_rfl)
theorem cNP (w : World) : Calls PP 77 #[] w fun e w' => ∃ b, e = .returned (.pointer (some ⟨b, 0, none⟩)) ∧ w.heap.size ≤ b ∧ w'.heap[b]? = some (.cells cs 153 (0, 0)) ∧ Below w.heap.size w w' := newPtr_ok (zc_of (by kernel_rfl)) defFn Go.Proofs.Tryz.func77 b77 (by kernel_rfl) (by kernel_rfl) w
theorem b78 : (Go.Proofs.Tryz.f78).body.map strip = some (sc_MaxV 1) := by kernel_rfl
theorem ok78 : FnOK PP 78 := fnOK_of Go.Proofs.Tryz.func78 b78 (by kernel_rfl)
theorem b33 : (Go.Proofs.Tryz.f33).body.map strip = some (sc_Max 77 78 42 3) := by kernel_rfl
theorem ok33 : FnOK PP 33 := fnOK_of Go.Proofs.Tryz.func33 b33 (by kernel_rfl)
theorem cMax (w : World) : Calls PP 33 #[] w fun e w' => e = .returned (.int .i64 ((1 : Nat) : Int)) ∧ Below w.heap.size w w' := max_ok (by kernel_rfl) (by kernel_rfl) (by decide) ok77 cNP ok78 (fun w v => maxV_ok Go.Proofs.Tryz.func78 b78 (by kernel_rfl) (by kernel_rfl) w v) Go.Proofs.Tryz.func33 b33 (by kernel_rfl) (by kernel_rfl) w
theorem b80 : (Go.Proofs.Tryz.f80).body.map strip = some (sc_SetV 153 42) := by kernel_rfl
theorem ok80 : FnOK PP 80 := fnOK_of Go.Proofs.Tryz.func80 b80 (by kernel_rfl)
theorem b82 : (Go.Proofs.Tryz.f82).body.map strip = some (aTop ids 153 21 (some 0) (some (6, 6)) fs) := by kernel_rfl
theorem ok82 : FnOK PP 82 := fnOK_of Go.Proofs.Tryz.func82 b82 (by kernel_rfl)
def M : RTop := { S := 153, size := 7, d := 128, t := 31, N := 188, flex := (some 0), tags := (some (6, 6)), fs := fs }
theorem b130 : (Go.Proofs.Tryz.f130).body.map strip = some (rTop rids 153 128 31 (some 0) (some (6, 6)) fs) := by kernel_rfl
theorem b81 : (Go.Proofs.Tryz.f81).body.map strip = some (sc_ReadFromW 130) := by kernel_rfl
theorem ok81 : FnOK PP 81 := fnOK_of Go.Proofs.Tryz.func81 b81 (by kernel_rfl)
theorem ok130 : FnOK PP 130 := fnOK_of Go.Proofs.Tryz.func130 b130 (by kernel_rfl)
theorem cR (a : Addr) (B : Nat) (w0 : World) (h : 1 < B) (hg : ∀ w', Below B w0 w' → GlE a w') : ReadC PP rids M B G0 (errV a) 130 w0 := readFrom_ok (kr a) (fun _ => trivial) hg h (by kernel_rfl) dfs d128 (by kernel_rfl) (by kernel_rfl) Go.Proofs.Tryz.func130 b130 (by kernel_rfl) (by kernel_rfl)
theorem b35 : (Go.Proofs.Tryz.f35).body.map strip = some (sc_Again 3 42 22 51 77 80 81 82) := by kernel_rfl
theorem cAg (a : Addr) : AgC PP X.U8 (some 0) fs 1 1 (GlE a) 35 :=
  again_ok (I := rids) (M := M) (gb := 1) (m := 1) (G := G0) (Gl := GlE a) (err := errV a) (by kernel_rfl) (by kernel_rfl) (by kernel_rfl) (by kernel_rfl) (by decide) ⟨_, _, rfl⟩ ok77 cNP ok80 (fun w b cs E hc hs n => setV_ok (by kernel_rfl) (by kernel_rfl) Go.Proofs.Tryz.func80 b80 (by kernel_rfl) (by kernel_rfl) w b cs E hc hs n) ok81 (fun w x y Q h => readFromW_ok ok130 Go.Proofs.Tryz.func81 b81 (by kernel_rfl) (by kernel_rfl) w x y Q h) (fun B w0 h hg => cR a B w0 h hg) ok82 (fun w b ver ts u hb hc h0 hh ht hl => appendTo_calls ka Go.Proofs.Tryz.func82 b82 (by kernel_rfl) (by kernel_rfl) w b 0 ver ts u hb hc h0 hh ht hl) (by decide +kernel) (by decide) (by kernel_rfl) (by kernel_rfl) Go.Proofs.Tryz.func35 b35 (by kernel_rfl) (by kernel_rfl) (by kernel_rfl)
theorem okv : ∀ v : Nat, v ≤ 1 → okFsR v (flexAt (some 0) v) fs = true := by decide +kernel
theorem b9 : (Go.Proofs.Tryz.f9).body.map strip = some (sc_LawCut X.T 4 X.I X.Bs 39 11 33 34 15 13 35) := by kernel_rfl
theorem law (a : Addr) (w : World) (n at_ : Nat) (hn : n < 256) (hat : at_ < 65536) (t : Tree) (tv : Value) (ht : TV G0 w (· < w.heap.size) t tv) (hgb : 1 < w.heap.size) (hgl : ∀ w', Below w.heap.size w w' → GlE a w') (hk : KAll t) (hlim : ∀ v : Nat, v ≤ 1 → (wMsg v (flexAt (some 0) v) fs t.l t.u).length ≤ lim) : Calls PP 9 #[.int .u8 (n : Int), tv, .int .u16 (at_ : Int)] w fun e w' => e = .returned (.bool true) ∧ Below w.heap.size w w' :=
  lawCut_ok (G := G0) hX hm (by kernel_rfl) (m := 1) (Gl := GlE a) (by decide) fs (0) (some 0) (fun v => by simp [flexAt]) ok11 cFit ok33 cMax ok34 cSp ok15 cVer ok13 (cWr fs (by decide +kernel) (by decide +kernel)) (cAg a) Go.Proofs.Tryz.func9 b9 (by kernel_rfl) (by kernel_rfl) w n at_ hn hat t tv ht hgb hgl (fun v hv => okv v hv) (fun v _ => kAll_fs v fs t.l hk.l) hk.u hlim
def flex : Option Int := (some 0)
def mx : Nat := 1
end Go.Proofs.YtjcndcolfllibaaGreatDoor.K.CutAlterPartitionAssignmentsResponse

