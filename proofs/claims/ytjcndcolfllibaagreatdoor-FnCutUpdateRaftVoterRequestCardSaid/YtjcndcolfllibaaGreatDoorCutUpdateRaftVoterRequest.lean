/- CutUpdateRaftVoterRequest: what the law on it computes. No condition. -/
import Derived.Test.YtjcndcolfllibaaGreatDoorB1
import Derived.Test.YtjcndcolfllibaaGreatDoorQA
import Derived.Test.YtjcndcolfllibaaGreatDoorQR
import Derived.Test.YtjcndcolfllibaaGreatDoorQS
namespace Go.Proofs.YtjcndcolfllibaaGreatDoor.K.CutUpdateRaftVoterRequest
open Go Go.RowKit Go.Proofs Go.Proofs.YtjcndcolfllibaaGreatDoor.T Go.Proofs.YtjcndcolfllibaaGreatDoor.K
set_option linter.unusedVariables false
set_option linter.unusedSimpArgs false
def fs72 : Fs := (.cons ⟨0, -1, -1, 0, 0, 0, 9, false⟩ (.prim .str) (.cons ⟨0, -1, -1, 0, 1, 1, 9, false⟩ (.prim .str) (.cons ⟨0, -1, -1, 0, 2, 2, 39, false⟩ (.prim .u16) .nil)))
theorem b72 : (Go.Proofs.Tryz.f72).body.map strip = some (sc_bSub X.F X.Fs fs72 []) := by kernel_rfl
theorem ok72 : FnOK PP 72 := fnOK_of Go.Proofs.Tryz.func72 b72 (by kernel_rfl)
theorem sf72 : SubFns PP fs72 [] := by
  simp [SubFns, hasSub, fs72]
theorem c72 (w : World) : Calls PP 72 #[] w fun e w' => ∃ v, e = .returned v ∧ v.oneCell' = true ∧ FsV w' (fun k => w.heap.size ≤ k ∧ k < w'.heap.size) fs72 v ∧ Below w.heap.size w w' := bSub_ok hX fok uFs fs72 [] (by kernel_rfl) sf72 (by decide +kernel) Go.Proofs.Tryz.func72 b72 (by kernel_rfl) (by kernel_rfl) w
def fs73 : Fs := (.cons ⟨0, -1, -1, 0, 0, 0, 42, false⟩ (.prim .i16) (.cons ⟨0, -1, -1, 0, 1, 1, 42, false⟩ (.prim .i16) .nil))
theorem b73 : (Go.Proofs.Tryz.f73).body.map strip = some (sc_bSub X.F X.Fs fs73 []) := by kernel_rfl
theorem ok73 : FnOK PP 73 := fnOK_of Go.Proofs.Tryz.func73 b73 (by kernel_rfl)
theorem sf73 : SubFns PP fs73 [] := by
  simp [SubFns, hasSub, fs73]
theorem c73 (w : World) : Calls PP 73 #[] w fun e w' => ∃ v, e = .returned v ∧ v.oneCell' = true ∧ FsV w' (fun k => w.heap.size ≤ k ∧ k < w'.heap.size) fs73 v ∧ Below w.heap.size w w' := bSub_ok hX fok uFs fs73 [] (by kernel_rfl) sf73 (by decide +kernel) Go.Proofs.Tryz.func73 b73 (by kernel_rfl) (by kernel_rfl) w
def fs : Fs := (.cons ⟨0, -1, 0, 0, 1, 1, 75, false⟩ (.prim .str) (.cons ⟨0, -1, -1, 0, 2, 2, 21, false⟩ (.prim .i32) (.cons ⟨0, -1, -1, 0, 3, 3, 21, false⟩ (.prim .i32) (.cons ⟨0, -1, -1, 0, 4, 4, 136, false⟩ (.prim .uuid) (.cons ⟨0, -1, -1, 0, 5, 20, 141, false⟩ (.list 141 148 4 (.struct 148 4 170 (some (3, 3)) (.cons ⟨0, -1, -1, 0, 0, 0, 9, false⟩ (.prim .str) (.cons ⟨0, -1, -1, 0, 1, 1, 9, false⟩ (.prim .str) (.cons ⟨0, -1, -1, 0, 2, 2, 39, false⟩ (.prim .u16) .nil))))) (.cons ⟨0, -1, -1, 0, 6, 21, 143, false⟩ (.struct 143 3 172 (some (2, 2)) (.cons ⟨0, -1, -1, 0, 0, 0, 42, false⟩ (.prim .i16) (.cons ⟨0, -1, -1, 0, 1, 1, 42, false⟩ (.prim .i16) .nil))) .nil))))))
theorem b31 : (Go.Proofs.Tryz.f31).body.map strip = some (sc_bTop X.F X.Fs X.M fs (0) [72, 73]) := by kernel_rfl
theorem ok31 : FnOK PP 31 := fnOK_of Go.Proofs.Tryz.func31 b31 (by kernel_rfl)
theorem sfTop : SubFns PP fs [72, 73] := by
  simp only [SubFns, hasSub, Bool.false_eq_true, if_false, if_true, List.headD_cons, List.tail_cons, fs]
  exact ⟨⟨ok72, fun w => (c72 w).mono fun e w' ⟨v, q1, q2, q3, q4⟩ => ⟨v, q1, q2, by simp only [SubV]; exact q3, q4⟩⟩, ⟨⟨ok73, fun w => (c73 w).mono fun e w' ⟨v, q1, q2, q3, q4⟩ => ⟨v, q1, q2, by simp only [SubV]; exact q3, q4⟩⟩, trivial⟩⟩
theorem cSp (w : World) : Calls PP 31 #[] w fun e w' => ∃ v, e = .returned (msgV v (0)) ∧ v.oneCell' = true ∧ FsV w' (fun k => w.heap.size ≤ k ∧ k < w'.heap.size) fs v ∧ Below w.heap.size w w' := bTop_ok hX fok uFs arrM mB fs (0) [72, 73] (by kernel_rfl) sfTop (by decide +kernel) Go.Proofs.Tryz.func31 b31 (by kernel_rfl) (by kernel_rfl) w
def sc170 : SC := .skip
theorem b170 : (Go.Proofs.Tryz.f170).body.map strip = some (sc170) := by kernel_rfl
theorem d170 : DefAt PP 170 4 [] := defAt_ok (N := 2) Go.Proofs.Tryz.func170 b170 (by kernel_rfl) (by kernel_rfl) (by decide) (by kernel_rfl) (by kernel_rfl)
def sc172 : SC := .skip
theorem b172 : (Go.Proofs.Tryz.f172).body.map strip = some (sc172) := by kernel_rfl
theorem d172 : DefAt PP 172 3 [] := defAt_ok (N := 2) Go.Proofs.Tryz.func172 b172 (by kernel_rfl) (by kernel_rfl) (by decide) (by kernel_rfl) (by kernel_rfl)
def sc125 : SC := .seq (.reg [mv 3 0, nilc 4 3, fa 5 145 4 6, asg 2 5]) (.reg [mv 6 2])
theorem b125 : (Go.Proofs.Tryz.f125).body.map strip = some (sc125) := by kernel_rfl
theorem d125 : DefAt PP 125 25 [] := defAt_ok (N := 7) Go.Proofs.Tryz.func125 b125 (by kernel_rfl) (by kernel_rfl) (by decide) (by kernel_rfl) (by kernel_rfl)
theorem dfs : DefFs PP fs := ⟨trivial, ⟨trivial, ⟨trivial, ⟨trivial, ⟨⟨⟨_, d170, (by kernel_rfl), (by kernel_rfl)⟩, ⟨trivial, ⟨trivial, ⟨trivial, trivial⟩⟩⟩⟩, ⟨⟨⟨_, d172, (by kernel_rfl), (by kernel_rfl)⟩, ⟨trivial, ⟨trivial, trivial⟩⟩⟩, trivial⟩⟩⟩⟩⟩⟩
noncomputable abbrev zc : Array Value := zcOf PP 145
noncomputable def cs : Array Value := dSetAll 0 [] zc
theorem defFn : DefFn PP 125 145 zc cs := ⟨d125.1, fun w b hc => d125.2 w b 0 zc 145 hc (by decide +kernel)⟩
theorem b70 : (Go.Proofs.Tryz.f70).body.map strip = some (sc_NewPtr 145 125) := by kernel_rfl
theorem ok70 : FnOK PP 70 := fnOK_of Go.Proofs.Tryz.func70 b70 (by kernel_rfl)
theorem cNP (w : World) : Calls PP 70 #[] w fun e w' => ∃ b, e = .returned (.pointer (some ⟨b, 0, none⟩)) ∧ w.heap.size ≤ b ∧ w'.heap[b]? = some (.cells cs 145 (0, 0)) ∧ Below w.heap.size w w' := newPtr_ok (zc_of (by kernel_rfl)) defFn Go.Proofs.Tryz.func70 b70 (by kernel_rfl) (by kernel_rfl) w
theorem b71 : (Go.Proofs.Tryz.f71).body.map strip = some (sc_MaxV 0) := by kernel_rfl
theorem ok71 : FnOK PP 71 := fnOK_of Go.Proofs.Tryz.func71 b71 (by kernel_rfl)
theorem b30 : (Go.Proofs.Tryz.f30).body.map strip = some (sc_Max 70 71 42 3) := by kernel_rfl
theorem ok30 : FnOK PP 30 := fnOK_of Go.Proofs.Tryz.func30 b30 (by kernel_rfl)
theorem cMax (w : World) : Calls PP 30 #[] w fun e w' => e = .returned (.int .i64 ((0 : Nat) : Int)) ∧ Below w.heap.size w w' := max_ok (by kernel_rfl) (by kernel_rfl) (by decide) ok70 cNP ok71 (fun w v => maxV_ok Go.Proofs.Tryz.func71 b71 (by kernel_rfl) (by kernel_rfl) w v) Go.Proofs.Tryz.func30 b30 (by kernel_rfl) (by kernel_rfl) w
theorem b74 : (Go.Proofs.Tryz.f74).body.map strip = some (sc_SetV 145 42) := by kernel_rfl
theorem ok74 : FnOK PP 74 := fnOK_of Go.Proofs.Tryz.func74 b74 (by kernel_rfl)
theorem b76 : (Go.Proofs.Tryz.f76).body.map strip = some (aTop ids 145 20 (some 0) (some (7, 24)) fs) := by kernel_rfl
theorem ok76 : FnOK PP 76 := fnOK_of Go.Proofs.Tryz.func76 b76 (by kernel_rfl)
def M : RTop := { S := 145, size := 25, d := 125, t := 28, N := 160, flex := (some 0), tags := (some (7, 24)), fs := fs }
theorem b126 : (Go.Proofs.Tryz.f126).body.map strip = some (rTop rids 145 125 28 (some 0) (some (7, 24)) fs) := by kernel_rfl
theorem b75 : (Go.Proofs.Tryz.f75).body.map strip = some (sc_ReadFromW 126) := by kernel_rfl
theorem ok75 : FnOK PP 75 := fnOK_of Go.Proofs.Tryz.func75 b75 (by kernel_rfl)
theorem ok126 : FnOK PP 126 := fnOK_of Go.Proofs.Tryz.func126 b126 (by kernel_rfl)
theorem cR (a : Addr) (B : Nat) (w0 : World) (h : 1 < B) (hg : ∀ w', Below B w0 w' → GlE a w') : ReadC PP rids M B G0 (errV a) 126 w0 := readFrom_ok (kr a) (fun _ => trivial) hg h (by kernel_rfl) dfs d125 (by kernel_rfl) (by kernel_rfl) Go.Proofs.Tryz.func126 b126 (by kernel_rfl) (by kernel_rfl)
theorem b32 : (Go.Proofs.Tryz.f32).body.map strip = some (sc_Again 3 42 22 51 70 74 75 76) := by kernel_rfl
theorem cAg (a : Addr) : AgC PP X.U8 (some 0) fs 1 0 (GlE a) 32 :=
  again_ok (I := rids) (M := M) (gb := 1) (m := 0) (G := G0) (Gl := GlE a) (err := errV a) (by kernel_rfl) (by kernel_rfl) (by kernel_rfl) (by kernel_rfl) (by decide) ⟨_, _, rfl⟩ ok70 cNP ok74 (fun w b cs E hc hs n => setV_ok (by kernel_rfl) (by kernel_rfl) Go.Proofs.Tryz.func74 b74 (by kernel_rfl) (by kernel_rfl) w b cs E hc hs n) ok75 (fun w x y Q h => readFromW_ok ok126 Go.Proofs.Tryz.func75 b75 (by kernel_rfl) (by kernel_rfl) w x y Q h) (fun B w0 h hg => cR a B w0 h hg) ok76 (fun w b ver ts u hb hc h0 hh ht hl => appendTo_calls ka Go.Proofs.Tryz.func76 b76 (by kernel_rfl) (by kernel_rfl) w b 0 ver ts u hb hc h0 hh ht hl) (by decide +kernel) (by decide) (by kernel_rfl) (by kernel_rfl) Go.Proofs.Tryz.func32 b32 (by kernel_rfl) (by kernel_rfl) (by kernel_rfl)
theorem okv : ∀ v : Nat, v ≤ 0 → okFsR v (flexAt (some 0) v) fs = true := by decide +kernel
theorem b8 : (Go.Proofs.Tryz.f8).body.map strip = some (sc_LawCut X.T 4 X.I X.Bs 39 11 30 31 15 13 32) := by kernel_rfl
theorem law (a : Addr) (w : World) (n at_ : Nat) (hn : n < 256) (hat : at_ < 65536) (t : Tree) (tv : Value) (ht : TV G0 w (· < w.heap.size) t tv) (hgb : 1 < w.heap.size) (hgl : ∀ w', Below w.heap.size w w' → GlE a w') (hk : KAll t) (hlim : ∀ v : Nat, v ≤ 0 → (wMsg v (flexAt (some 0) v) fs t.l t.u).length ≤ lim) : Calls PP 8 #[.int .u8 (n : Int), tv, .int .u16 (at_ : Int)] w fun e w' => e = .returned (.bool true) ∧ Below w.heap.size w w' :=
  lawCut_ok (G := G0) hX hm (by kernel_rfl) (m := 0) (Gl := GlE a) (by decide) fs (0) (some 0) (fun v => by simp [flexAt]) ok11 cFit ok30 cMax ok31 cSp ok15 cVer ok13 (cWr fs (by decide +kernel) (by decide +kernel)) (cAg a) Go.Proofs.Tryz.func8 b8 (by kernel_rfl) (by kernel_rfl) w n at_ hn hat t tv ht hgb hgl (fun v hv => okv v hv) (fun v _ => kAll_fs v fs t.l hk.l) hk.u hlim
def flex : Option Int := (some 0)
def mx : Nat := 0
end Go.Proofs.YtjcndcolfllibaaGreatDoor.K.CutUpdateRaftVoterRequest

