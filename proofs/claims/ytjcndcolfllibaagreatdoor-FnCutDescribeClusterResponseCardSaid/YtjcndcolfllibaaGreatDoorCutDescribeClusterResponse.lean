/- CutDescribeClusterResponse: what the law on it computes. No condition. -/
import Derived.Test.YtjcndcolfllibaaGreatDoorB1
import Derived.Test.YtjcndcolfllibaaGreatDoorQA
import Derived.Test.YtjcndcolfllibaaGreatDoorQR
import Derived.Test.YtjcndcolfllibaaGreatDoorQS
namespace Go.Proofs.YtjcndcolfllibaaGreatDoor.K.CutDescribeClusterResponse
open Go Go.RowKit Go.Proofs Go.Proofs.YtjcndcolfllibaaGreatDoor.T Go.Proofs.YtjcndcolfllibaaGreatDoor.K
set_option linter.unusedVariables false
set_option linter.unusedSimpArgs false
def fs85 : Fs := (.cons ⟨0, -1, -1, 0, 0, 0, 21, false⟩ (.prim .i32) (.cons ⟨0, -1, -1, 0, 1, 1, 9, false⟩ (.prim .str) (.cons ⟨0, -1, -1, 0, 2, 2, 21, false⟩ (.prim .i32) (.cons ⟨0, -1, 0, 0, 3, 3, 75, false⟩ (.prim .str) (.cons ⟨2, -1, -1, 0, 4, 4, 4, false⟩ (.prim .bool) .nil)))))
theorem b85 : (Go.Proofs.Tryz.f85).body.map strip = some (sc_bSub X.F X.Fs fs85 []) := by kernel_rfl
theorem ok85 : FnOK PP 85 := fnOK_of Go.Proofs.Tryz.func85 b85 (by kernel_rfl)
theorem sf85 : SubFns PP fs85 [] := by
  simp [SubFns, hasSub, fs85]
theorem c85 (w : World) : Calls PP 85 #[] w fun e w' => ∃ v, e = .returned v ∧ v.oneCell' = true ∧ FsV w' (fun k => w.heap.size ≤ k ∧ k < w'.heap.size) fs85 v ∧ Below w.heap.size w w' := bSub_ok hX fok uFs fs85 [] (by kernel_rfl) sf85 (by decide +kernel) Go.Proofs.Tryz.func85 b85 (by kernel_rfl) (by kernel_rfl) w
def fs : Fs := (.cons ⟨0, -1, -1, 0, 1, 1, 21, false⟩ (.prim .i32) (.cons ⟨0, -1, -1, 0, 2, 2, 42, false⟩ (.prim .i16) (.cons ⟨0, -1, 0, 0, 3, 3, 75, false⟩ (.prim .str) (.cons ⟨1, -1, -1, 1, 4, 4, 121, false⟩ (.prim .i8) (.cons ⟨0, -1, -1, 0, 5, 5, 9, false⟩ (.prim .str) (.cons ⟨0, -1, -1, -1, 6, 6, 21, false⟩ (.prim .i32) (.cons ⟨0, -1, -1, 0, 7, 7, 161, false⟩ (.list 161 166 6 (.struct 166 6 176 (some (5, 5)) (.cons ⟨0, -1, -1, 0, 0, 0, 21, false⟩ (.prim .i32) (.cons ⟨0, -1, -1, 0, 1, 1, 9, false⟩ (.prim .str) (.cons ⟨0, -1, -1, 0, 2, 2, 21, false⟩ (.prim .i32) (.cons ⟨0, -1, 0, 0, 3, 3, 75, false⟩ (.prim .str) (.cons ⟨2, -1, -1, 0, 4, 4, 4, false⟩ (.prim .bool) .nil))))))) (.cons ⟨0, -1, -1, -2147483648, 8, 8, 21, false⟩ (.prim .i32) .nil))))))))
theorem b37 : (Go.Proofs.Tryz.f37).body.map strip = some (sc_bTop X.F X.Fs X.M fs (0) [85]) := by kernel_rfl
theorem ok37 : FnOK PP 37 := fnOK_of Go.Proofs.Tryz.func37 b37 (by kernel_rfl)
theorem sfTop : SubFns PP fs [85] := by
  simp only [SubFns, hasSub, Bool.false_eq_true, if_false, if_true, List.headD_cons, List.tail_cons, fs]
  exact ⟨⟨ok85, fun w => (c85 w).mono fun e w' ⟨v, q1, q2, q3, q4⟩ => ⟨v, q1, q2, by simp only [SubV]; exact q3, q4⟩⟩, trivial⟩
theorem cSp (w : World) : Calls PP 37 #[] w fun e w' => ∃ v, e = .returned (msgV v (0)) ∧ v.oneCell' = true ∧ FsV w' (fun k => w.heap.size ≤ k ∧ k < w'.heap.size) fs v ∧ Below w.heap.size w w' := bTop_ok hX fok uFs arrM mB fs (0) [85] (by kernel_rfl) sfTop (by decide +kernel) Go.Proofs.Tryz.func37 b37 (by kernel_rfl) (by kernel_rfl) w
def sc176 : SC := .skip
theorem b176 : (Go.Proofs.Tryz.f176).body.map strip = some (sc176) := by kernel_rfl
theorem d176 : DefAt PP 176 6 [] := defAt_ok (N := 2) Go.Proofs.Tryz.func176 b176 (by kernel_rfl) (by kernel_rfl) (by decide) (by kernel_rfl) (by kernel_rfl)
def sc132 : SC := .seq (.reg [mv 2 0, nilc 3 2, fa 4 163 3 4, ⟨none, .store 121 (.tmp 4) (.const (.int .i8 1)), none⟩]) (.seq (.reg [mv 5 0, nilc 6 5, fa 7 163 6 6, ⟨none, .store 21 (.tmp 7) (.const (.int .i32 (-1))), none⟩]) (.reg [mv 8 0, nilc 9 8, fa 10 163 9 8, ⟨none, .store 21 (.tmp 10) (.const (.int .i32 (-2147483648))), none⟩]))
theorem b132 : (Go.Proofs.Tryz.f132).body.map strip = some (sc132) := by kernel_rfl
theorem d132 : DefAt PP 132 10 [(4, (.int .i8 1)), (6, (.int .i32 (-1))), (8, (.int .i32 (-2147483648)))] := defAt_ok (N := 11) Go.Proofs.Tryz.func132 b132 (by kernel_rfl) (by kernel_rfl) (by decide) (by kernel_rfl) (by kernel_rfl)
theorem dfs : DefFs PP fs := ⟨trivial, ⟨trivial, ⟨trivial, ⟨trivial, ⟨trivial, ⟨trivial, ⟨⟨⟨_, d176, (by kernel_rfl), (by kernel_rfl)⟩, ⟨trivial, ⟨trivial, ⟨trivial, ⟨trivial, ⟨trivial, trivial⟩⟩⟩⟩⟩⟩, ⟨trivial, trivial⟩⟩⟩⟩⟩⟩⟩⟩
noncomputable abbrev zc : Array Value := zcOf PP 163
noncomputable def cs : Array Value := dSetAll 0 [(4, (.int .i8 1)), (6, (.int .i32 (-1))), (8, (.int .i32 (-2147483648)))] zc
theorem defFn : DefFn PP 132 163 zc cs := ⟨d132.1, fun w b hc => d132.2 w b 0 zc 163 hc (by decide +kernel)⟩
theorem b83 : (Go.Proofs.Tryz.f83).body.map strip = some (sc_NewPtr 163 132) := by kernel_rfl
theorem ok83 : FnOK PP 83 := fnOK_of Go.Proofs.Tryz.func83 b83 (by kernel_rfl)
theorem cNP (w : World) : Calls PP 83 #[] w fun e w' => ∃ b, e = .returned (.pointer (some ⟨b, 0, none⟩)) ∧ w.heap.size ≤ b ∧ w'.heap[b]? = some (.cells cs 163 (0, 0)) ∧ Below w.heap.size w w' := newPtr_ok (zc_of (by kernel_rfl)) defFn Go.Proofs.Tryz.func83 b83 (by kernel_rfl) (by kernel_rfl) w
theorem b84 : (Go.Proofs.Tryz.f84).body.map strip = some (sc_MaxV 2) := by kernel_rfl
theorem ok84 : FnOK PP 84 := fnOK_of Go.Proofs.Tryz.func84 b84 (by kernel_rfl)
theorem b36 : (Go.Proofs.Tryz.f36).body.map strip = some (sc_Max 83 84 42 3) := by kernel_rfl
theorem ok36 : FnOK PP 36 := fnOK_of Go.Proofs.Tryz.func36 b36 (by kernel_rfl)
theorem cMax (w : World) : Calls PP 36 #[] w fun e w' => e = .returned (.int .i64 ((2 : Nat) : Int)) ∧ Below w.heap.size w w' := max_ok (by kernel_rfl) (by kernel_rfl) (by decide) ok83 cNP ok84 (fun w v => maxV_ok Go.Proofs.Tryz.func84 b84 (by kernel_rfl) (by kernel_rfl) w v) Go.Proofs.Tryz.func36 b36 (by kernel_rfl) (by kernel_rfl) w
theorem b86 : (Go.Proofs.Tryz.f86).body.map strip = some (sc_SetV 163 42) := by kernel_rfl
theorem ok86 : FnOK PP 86 := fnOK_of Go.Proofs.Tryz.func86 b86 (by kernel_rfl)
theorem b88 : (Go.Proofs.Tryz.f88).body.map strip = some (aTop ids 163 22 (some 0) (some (9, 9)) fs) := by kernel_rfl
theorem ok88 : FnOK PP 88 := fnOK_of Go.Proofs.Tryz.func88 b88 (by kernel_rfl)
def M : RTop := { S := 163, size := 10, d := 132, t := 29, N := 175, flex := (some 0), tags := (some (9, 9)), fs := fs }
theorem b133 : (Go.Proofs.Tryz.f133).body.map strip = some (rTop rids 163 132 29 (some 0) (some (9, 9)) fs) := by kernel_rfl
theorem b87 : (Go.Proofs.Tryz.f87).body.map strip = some (sc_ReadFromW 133) := by kernel_rfl
theorem ok87 : FnOK PP 87 := fnOK_of Go.Proofs.Tryz.func87 b87 (by kernel_rfl)
theorem ok133 : FnOK PP 133 := fnOK_of Go.Proofs.Tryz.func133 b133 (by kernel_rfl)
theorem cR (a : Addr) (B : Nat) (w0 : World) (h : 1 < B) (hg : ∀ w', Below B w0 w' → GlE a w') : ReadC PP rids M B G0 (errV a) 133 w0 := readFrom_ok (kr a) (fun _ => trivial) hg h (by kernel_rfl) dfs d132 (by kernel_rfl) (by kernel_rfl) Go.Proofs.Tryz.func133 b133 (by kernel_rfl) (by kernel_rfl)
theorem b38 : (Go.Proofs.Tryz.f38).body.map strip = some (sc_Again 3 42 22 51 83 86 87 88) := by kernel_rfl
theorem cAg (a : Addr) : AgC PP X.U8 (some 0) fs 1 2 (GlE a) 38 :=
  again_ok (I := rids) (M := M) (gb := 1) (m := 2) (G := G0) (Gl := GlE a) (err := errV a) (by kernel_rfl) (by kernel_rfl) (by kernel_rfl) (by kernel_rfl) (by decide) ⟨_, _, rfl⟩ ok83 cNP ok86 (fun w b cs E hc hs n => setV_ok (by kernel_rfl) (by kernel_rfl) Go.Proofs.Tryz.func86 b86 (by kernel_rfl) (by kernel_rfl) w b cs E hc hs n) ok87 (fun w x y Q h => readFromW_ok ok133 Go.Proofs.Tryz.func87 b87 (by kernel_rfl) (by kernel_rfl) w x y Q h) (fun B w0 h hg => cR a B w0 h hg) ok88 (fun w b ver ts u hb hc h0 hh ht hl => appendTo_calls ka Go.Proofs.Tryz.func88 b88 (by kernel_rfl) (by kernel_rfl) w b 0 ver ts u hb hc h0 hh ht hl) (by decide +kernel) (by decide) (by kernel_rfl) (by kernel_rfl) Go.Proofs.Tryz.func38 b38 (by kernel_rfl) (by kernel_rfl) (by kernel_rfl)
theorem okv : ∀ v : Nat, v ≤ 2 → okFsR v (flexAt (some 0) v) fs = true := by decide +kernel
theorem b10 : (Go.Proofs.Tryz.f10).body.map strip = some (sc_LawCut X.T 4 X.I X.Bs 39 11 36 37 15 13 38) := by kernel_rfl
theorem law (a : Addr) (w : World) (n at_ : Nat) (hn : n < 256) (hat : at_ < 65536) (t : Tree) (tv : Value) (ht : TV G0 w (· < w.heap.size) t tv) (hgb : 1 < w.heap.size) (hgl : ∀ w', Below w.heap.size w w' → GlE a w') (hk : KAll t) (hlim : ∀ v : Nat, v ≤ 2 → (wMsg v (flexAt (some 0) v) fs t.l t.u).length ≤ lim) : Calls PP 10 #[.int .u8 (n : Int), tv, .int .u16 (at_ : Int)] w fun e w' => e = .returned (.bool true) ∧ Below w.heap.size w w' :=
  lawCut_ok (G := G0) hX hm (by kernel_rfl) (m := 2) (Gl := GlE a) (by decide) fs (0) (some 0) (fun v => by simp [flexAt]) ok11 cFit ok36 cMax ok37 cSp ok15 cVer ok13 (cWr fs (by decide +kernel) (by decide +kernel)) (cAg a) Go.Proofs.Tryz.func10 b10 (by kernel_rfl) (by kernel_rfl) w n at_ hn hat t tv ht hgb hgl (fun v hv => okv v hv) (fun v _ => kAll_fs v fs t.l hk.l) hk.u hlim
def flex : Option Int := (some 0)
def mx : Nat := 2
end Go.Proofs.YtjcndcolfllibaaGreatDoor.K.CutDescribeClusterResponse

