/- CutBeginQuorumEpochRequest: what the law on it computes. No condition. -/
import Derived.Test.YtmapoohbongifaaGreatDoorB1
import Derived.Test.YtmapoohbongifaaGreatDoorQA
import Derived.Test.YtmapoohbongifaaGreatDoorQR
import Derived.Test.YtmapoohbongifaaGreatDoorQS
namespace Go.Proofs.YtmapoohbongifaaGreatDoor.K.CutBeginQuorumEpochRequest
open Go Go.RowKit Go.Proofs Go.Proofs.YtmapoohbongifaaGreatDoor.T Go.Proofs.YtmapoohbongifaaGreatDoor.K
set_option linter.unusedVariables false
set_option linter.unusedSimpArgs false
def fs90 : Fs := (.cons ⟨0, -1, -1, 0, 0, 0, 21, false⟩ (.prim .i32) (.cons ⟨1, -1, -1, 0, 1, 1, 84, false⟩ (.prim .uuid) (.cons ⟨0, -1, -1, 0, 2, 17, 21, false⟩ (.prim .i32) (.cons ⟨0, -1, -1, 0, 3, 18, 21, false⟩ (.prim .i32) .nil))))
theorem b90 : (Go.Proofs.Tryz.f90).body.map strip = some (sc_bSub X.F X.Fs fs90 []) := by kernel_rfl
theorem ok90 : FnOK PP 90 := fnOK_of Go.Proofs.Tryz.func90 b90 (by kernel_rfl)
theorem sf90 : SubFns PP fs90 [] := by
  simp [SubFns, hasSub, fs90]
theorem c90 (w : World) : Calls PP 90 #[] w fun e w' => ∃ v, e = .returned v ∧ v.oneCell' = true ∧ FsV w' (fun k => w.heap.size ≤ k ∧ k < w'.heap.size) fs90 v ∧ Below w.heap.size w w' := bSub_ok hX fok uFs fs90 [] (by kernel_rfl) sf90 (by decide +kernel) Go.Proofs.Tryz.func90 b90 (by kernel_rfl) (by kernel_rfl) w
def fs43 : Fs := (.cons ⟨0, -1, -1, 0, 0, 0, 9, false⟩ (.prim .str) (.cons ⟨0, -1, -1, 0, 1, 1, 124, false⟩ (.list 124 129 20 (.struct 129 20 137 (some (4, 19)) (.cons ⟨0, -1, -1, 0, 0, 0, 21, false⟩ (.prim .i32) (.cons ⟨1, -1, -1, 0, 1, 1, 84, false⟩ (.prim .uuid) (.cons ⟨0, -1, -1, 0, 2, 17, 21, false⟩ (.prim .i32) (.cons ⟨0, -1, -1, 0, 3, 18, 21, false⟩ (.prim .i32) .nil)))))) .nil))
theorem b43 : (Go.Proofs.Tryz.f43).body.map strip = some (sc_bSub X.F X.Fs fs43 [90]) := by kernel_rfl
theorem ok43 : FnOK PP 43 := fnOK_of Go.Proofs.Tryz.func43 b43 (by kernel_rfl)
theorem sf43 : SubFns PP fs43 [90] := by
  simp only [SubFns, hasSub, Bool.false_eq_true, if_false, if_true, List.headD_cons, List.tail_cons, fs43]
  exact ⟨⟨ok90, fun w => (c90 w).mono fun e w' ⟨v, q1, q2, q3, q4⟩ => ⟨v, q1, q2, by simp only [SubV]; exact q3, q4⟩⟩, trivial⟩
theorem c43 (w : World) : Calls PP 43 #[] w fun e w' => ∃ v, e = .returned v ∧ v.oneCell' = true ∧ FsV w' (fun k => w.heap.size ≤ k ∧ k < w'.heap.size) fs43 v ∧ Below w.heap.size w w' := bSub_ok hX fok uFs fs43 [90] (by kernel_rfl) sf43 (by decide +kernel) Go.Proofs.Tryz.func43 b43 (by kernel_rfl) (by kernel_rfl) w
def fs44 : Fs := (.cons ⟨0, -1, -1, 0, 0, 0, 9, false⟩ (.prim .str) (.cons ⟨0, -1, -1, 0, 1, 1, 9, false⟩ (.prim .str) (.cons ⟨0, -1, -1, 0, 2, 2, 27, false⟩ (.prim .u16) .nil)))
theorem b44 : (Go.Proofs.Tryz.f44).body.map strip = some (sc_bSub X.F X.Fs fs44 []) := by kernel_rfl
theorem ok44 : FnOK PP 44 := fnOK_of Go.Proofs.Tryz.func44 b44 (by kernel_rfl)
theorem sf44 : SubFns PP fs44 [] := by
  simp [SubFns, hasSub, fs44]
theorem c44 (w : World) : Calls PP 44 #[] w fun e w' => ∃ v, e = .returned v ∧ v.oneCell' = true ∧ FsV w' (fun k => w.heap.size ≤ k ∧ k < w'.heap.size) fs44 v ∧ Below w.heap.size w w' := bSub_ok hX fok uFs fs44 [] (by kernel_rfl) sf44 (by decide +kernel) Go.Proofs.Tryz.func44 b44 (by kernel_rfl) (by kernel_rfl) w
def fs : Fs := (.cons ⟨0, -1, 0, 0, 1, 1, 90, false⟩ (.prim .str) (.cons ⟨1, -1, -1, -1, 2, 2, 21, false⟩ (.prim .i32) (.cons ⟨0, -1, -1, 0, 3, 3, 119, false⟩ (.list 119 126 3 (.struct 126 3 136 (some (2, 2)) (.cons ⟨0, -1, -1, 0, 0, 0, 9, false⟩ (.prim .str) (.cons ⟨0, -1, -1, 0, 1, 1, 124, false⟩ (.list 124 129 20 (.struct 129 20 137 (some (4, 19)) (.cons ⟨0, -1, -1, 0, 0, 0, 21, false⟩ (.prim .i32) (.cons ⟨1, -1, -1, 0, 1, 1, 84, false⟩ (.prim .uuid) (.cons ⟨0, -1, -1, 0, 2, 17, 21, false⟩ (.prim .i32) (.cons ⟨0, -1, -1, 0, 3, 18, 21, false⟩ (.prim .i32) .nil)))))) .nil)))) (.cons ⟨1, -1, -1, 0, 4, 4, 120, false⟩ (.list 120 132 4 (.struct 132 4 138 (some (3, 3)) (.cons ⟨0, -1, -1, 0, 0, 0, 9, false⟩ (.prim .str) (.cons ⟨0, -1, -1, 0, 1, 1, 9, false⟩ (.prim .str) (.cons ⟨0, -1, -1, 0, 2, 2, 27, false⟩ (.prim .u16) .nil))))) .nil))))
theorem b19 : (Go.Proofs.Tryz.f19).body.map strip = some (sc_bTop X.F X.Fs X.M fs (1) [43, 44]) := by kernel_rfl
theorem ok19 : FnOK PP 19 := fnOK_of Go.Proofs.Tryz.func19 b19 (by kernel_rfl)
theorem sfTop : SubFns PP fs [43, 44] := by
  simp only [SubFns, hasSub, Bool.false_eq_true, if_false, if_true, List.headD_cons, List.tail_cons, fs]
  exact ⟨⟨ok43, fun w => (c43 w).mono fun e w' ⟨v, q1, q2, q3, q4⟩ => ⟨v, q1, q2, by simp only [SubV]; exact q3, q4⟩⟩, ⟨⟨ok44, fun w => (c44 w).mono fun e w' ⟨v, q1, q2, q3, q4⟩ => ⟨v, q1, q2, by simp only [SubV]; exact q3, q4⟩⟩, trivial⟩⟩
theorem cSp (w : World) : Calls PP 19 #[] w fun e w' => ∃ v, e = .returned (msgV v (1)) ∧ v.oneCell' = true ∧ FsV w' (fun k => w.heap.size ≤ k ∧ k < w'.heap.size) fs v ∧ Below w.heap.size w w' := bTop_ok hX fok uFs arrM mB fs (1) [43, 44] (by kernel_rfl) sfTop (by decide +kernel) Go.Proofs.Tryz.func19 b19 (by kernel_rfl) (by kernel_rfl) w
def sc136 : SC := .skip
theorem b136 : (Go.Proofs.Tryz.f136).body.map strip = some (sc136) := by kernel_rfl
theorem d136 : DefAt PP 136 3 [] := defAt_ok (N := 2) Go.Proofs.Tryz.func136 b136 (by kernel_rfl) (by kernel_rfl) (by decide) (by kernel_rfl) (by kernel_rfl)
def sc137 : SC := .skip
theorem b137 : (Go.Proofs.Tryz.f137).body.map strip = some (sc137) := by kernel_rfl
theorem d137 : DefAt PP 137 20 [] := defAt_ok (N := 2) Go.Proofs.Tryz.func137 b137 (by kernel_rfl) (by kernel_rfl) (by decide) (by kernel_rfl) (by kernel_rfl)
def sc138 : SC := .skip
theorem b138 : (Go.Proofs.Tryz.f138).body.map strip = some (sc138) := by kernel_rfl
theorem d138 : DefAt PP 138 4 [] := defAt_ok (N := 2) Go.Proofs.Tryz.func138 b138 (by kernel_rfl) (by kernel_rfl) (by decide) (by kernel_rfl) (by kernel_rfl)
def sc89 : SC := .reg [mv 2 0, nilc 3 2, fa 4 122 3 2, ⟨none, .store 21 (.tmp 4) (.const (.int .i32 (-1))), none⟩]
theorem b89 : (Go.Proofs.Tryz.f89).body.map strip = some (sc89) := by kernel_rfl
theorem d89 : DefAt PP 89 6 [(2, (.int .i32 (-1)))] := defAt_ok (N := 5) Go.Proofs.Tryz.func89 b89 (by kernel_rfl) (by kernel_rfl) (by decide) (by kernel_rfl) (by kernel_rfl)
theorem dfs : DefFs PP fs := ⟨trivial, ⟨trivial, ⟨⟨⟨_, d136, (by kernel_rfl), (by kernel_rfl)⟩, ⟨trivial, ⟨⟨⟨_, d137, (by kernel_rfl), (by kernel_rfl)⟩, ⟨trivial, ⟨trivial, ⟨trivial, ⟨trivial, trivial⟩⟩⟩⟩⟩, trivial⟩⟩⟩, ⟨⟨⟨_, d138, (by kernel_rfl), (by kernel_rfl)⟩, ⟨trivial, ⟨trivial, ⟨trivial, trivial⟩⟩⟩⟩, trivial⟩⟩⟩⟩
noncomputable abbrev zc : Array Value := zcOf PP 122
noncomputable def cs : Array Value := dSetAll 0 [(2, (.int .i32 (-1)))] zc
theorem defFn : DefFn PP 89 122 zc cs := ⟨d89.1, fun w b hc => d89.2 w b 0 zc 122 hc (by decide +kernel)⟩
theorem b41 : (Go.Proofs.Tryz.f41).body.map strip = some (sc_NewPtr 122 89) := by kernel_rfl
theorem ok41 : FnOK PP 41 := fnOK_of Go.Proofs.Tryz.func41 b41 (by kernel_rfl)
theorem cNP (w : World) : Calls PP 41 #[] w fun e w' => ∃ b, e = .returned (.pointer (some ⟨b, 0, none⟩)) ∧ w.heap.size ≤ b ∧ w'.heap[b]? = some (.cells cs 122 (0, 0)) ∧ Below w.heap.size w w' := newPtr_ok (zc_of (by kernel_rfl)) defFn Go.Proofs.Tryz.func41 b41 (by kernel_rfl) (by kernel_rfl) w
theorem b42 : (Go.Proofs.Tryz.f42).body.map strip = some (sc_MaxV 1) := by kernel_rfl
theorem ok42 : FnOK PP 42 := fnOK_of Go.Proofs.Tryz.func42 b42 (by kernel_rfl)
theorem b18 : (Go.Proofs.Tryz.f18).body.map strip = some (sc_Max 41 42 42 3) := by kernel_rfl
theorem ok18 : FnOK PP 18 := fnOK_of Go.Proofs.Tryz.func18 b18 (by kernel_rfl)
theorem cMax (w : World) : Calls PP 18 #[] w fun e w' => e = .returned (.int .i64 ((1 : Nat) : Int)) ∧ Below w.heap.size w w' := max_ok (by kernel_rfl) (by kernel_rfl) (by decide) ok41 cNP ok42 (fun w v => maxV_ok Go.Proofs.Tryz.func42 b42 (by kernel_rfl) (by kernel_rfl) w v) Go.Proofs.Tryz.func18 b18 (by kernel_rfl) (by kernel_rfl) w
theorem b45 : (Go.Proofs.Tryz.f45).body.map strip = some (sc_SetV 122 42) := by kernel_rfl
theorem ok45 : FnOK PP 45 := fnOK_of Go.Proofs.Tryz.func45 b45 (by kernel_rfl)
theorem b47 : (Go.Proofs.Tryz.f47).body.map strip = some (aTop ids 122 26 (some 1) (some (5, 5)) fs) := by kernel_rfl
theorem ok47 : FnOK PP 47 := fnOK_of Go.Proofs.Tryz.func47 b47 (by kernel_rfl)
def M : RTop := { S := 122, size := 6, d := 89, t := 39, N := 255, flex := (some 1), tags := (some (5, 5)), fs := fs }
theorem b91 : (Go.Proofs.Tryz.f91).body.map strip = some (rTop rids 122 89 39 (some 1) (some (5, 5)) fs) := by kernel_rfl
theorem b46 : (Go.Proofs.Tryz.f46).body.map strip = some (sc_ReadFromW 91) := by kernel_rfl
theorem ok46 : FnOK PP 46 := fnOK_of Go.Proofs.Tryz.func46 b46 (by kernel_rfl)
theorem ok91 : FnOK PP 91 := fnOK_of Go.Proofs.Tryz.func91 b91 (by kernel_rfl)
theorem cR (a : Addr) (B : Nat) (w0 : World) (h : 1 < B) (hg : ∀ w', Below B w0 w' → GlE a w') : ReadC PP rids M B G0 (errV a) 91 w0 := readFrom_ok (kr a) (fun _ => trivial) hg h (by kernel_rfl) dfs d89 (by kernel_rfl) (by kernel_rfl) Go.Proofs.Tryz.func91 b91 (by kernel_rfl) (by kernel_rfl)
theorem b20 : (Go.Proofs.Tryz.f20).body.map strip = some (sc_Again 3 42 22 52 41 45 46 47) := by kernel_rfl
theorem cAg (a : Addr) : AgC PP X.U8 (some 1) fs 1 1 (GlE a) 20 :=
  again_ok (I := rids) (M := M) (gb := 1) (m := 1) (G := G0) (Gl := GlE a) (err := errV a) (by kernel_rfl) (by kernel_rfl) (by kernel_rfl) (by kernel_rfl) (by decide) ⟨_, _, rfl⟩ ok41 cNP ok45 (fun w b cs E hc hs n => setV_ok (by kernel_rfl) (by kernel_rfl) Go.Proofs.Tryz.func45 b45 (by kernel_rfl) (by kernel_rfl) w b cs E hc hs n) ok46 (fun w x y Q h => readFromW_ok ok91 Go.Proofs.Tryz.func46 b46 (by kernel_rfl) (by kernel_rfl) w x y Q h) (fun B w0 h hg => cR a B w0 h hg) ok47 (fun w b ver ts u hb hc h0 hh ht hl => appendTo_calls ka Go.Proofs.Tryz.func47 b47 (by kernel_rfl) (by kernel_rfl) w b 0 ver ts u hb hc h0 hh ht hl) (by decide +kernel) (by decide) (by kernel_rfl) (by kernel_rfl) Go.Proofs.Tryz.func20 b20 (by kernel_rfl) (by kernel_rfl) (by kernel_rfl)
theorem okv : ∀ v : Nat, v ≤ 1 → okFsR v (flexAt (some 1) v) fs = true := by decide +kernel
theorem b5 : (Go.Proofs.Tryz.f5).body.map strip = some (sc_LawCut X.T 4 X.I X.Bs 27 8 18 19 12 10 20) := by kernel_rfl
theorem law (a : Addr) (w : World) (n at_ : Nat) (hn : n < 256) (hat : at_ < 65536) (t : Tree) (tv : Value) (ht : TV G0 w (· < w.heap.size) t tv) (hgb : 1 < w.heap.size) (hgl : ∀ w', Below w.heap.size w w' → GlE a w') (hk : KAll t) (hlim : ∀ v : Nat, v ≤ 1 → (wMsg v (flexAt (some 1) v) fs t.l t.u).length ≤ lim) : Calls PP 5 #[.int .u8 (n : Int), tv, .int .u16 (at_ : Int)] w fun e w' => e = .returned (.bool true) ∧ Below w.heap.size w w' :=
  lawCut_ok (G := G0) hX hm (by kernel_rfl) (m := 1) (Gl := GlE a) (by decide) fs (1) (some 1) (fun v => by simp [flexAt]) ok8 cFit ok18 cMax ok19 cSp ok12 cVer ok10 (cWr fs (by decide +kernel) (by decide +kernel)) (cAg a) Go.Proofs.Tryz.func5 b5 (by kernel_rfl) (by kernel_rfl) w n at_ hn hat t tv ht hgb hgl (fun v hv => okv v hv) (fun v _ => kAll_fs v fs t.l hk.l) hk.u hlim
def flex : Option Int := (some 1)
def mx : Nat := 1
end Go.Proofs.YtmapoohbongifaaGreatDoor.K.CutBeginQuorumEpochRequest

