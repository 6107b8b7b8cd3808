/- AgainDescribeACLsResponse: what the law on it computes. No condition. -/
import Derived.Test.YtmapoohbongifaaGreatDoorB0
import Derived.Test.YtmapoohbongifaaGreatDoorQA
import Derived.Test.YtmapoohbongifaaGreatDoorQR
import Derived.Test.YtmapoohbongifaaGreatDoorQS
namespace Go.Proofs.YtmapoohbongifaaGreatDoor.K.AgainDescribeACLsResponse
open Go Go.RowKit Go.Proofs Go.Proofs.YtmapoohbongifaaGreatDoor.T Go.Proofs.YtmapoohbongifaaGreatDoor.K
set_option linter.unusedVariables false
set_option linter.unusedSimpArgs false
def fs85 : Fs := (.cons ⟨0, -1, -1, 0, 0, 0, 9, false⟩ (.prim .str) (.cons ⟨0, -1, -1, 0, 1, 1, 9, false⟩ (.prim .str) (.cons ⟨0, -1, -1, 0, 2, 2, 115, true⟩ (.prim .i8) (.cons ⟨0, -1, -1, 0, 3, 3, 116, true⟩ (.prim .i8) .nil))))
theorem b85 : (Go.Proofs.Tryz.f85).body.map strip = some (sc_bSub X.F X.Fs fs85 []) := by kernel_rfl
theorem ok85 : FnOK PP 85 := fnOK_of Go.Proofs.Tryz.func85 b85 (by kernel_rfl)
theorem sf85 : SubFns PP fs85 [] := by
  simp [SubFns, hasSub, fs85]
theorem c85 (w : World) : Calls PP 85 #[] w fun e w' => ∃ v, e = .returned v ∧ v.oneCell' = true ∧ FsV w' (fun k => w.heap.size ≤ k ∧ k < w'.heap.size) fs85 v ∧ Below w.heap.size w w' := bSub_ok hX fok uFs fs85 [] (by kernel_rfl) sf85 (by decide +kernel) Go.Proofs.Tryz.func85 b85 (by kernel_rfl) (by kernel_rfl) w
def fs37 : Fs := (.cons ⟨0, -1, -1, 0, 0, 0, 108, true⟩ (.prim .i8) (.cons ⟨0, -1, -1, 0, 1, 1, 9, false⟩ (.prim .str) (.cons ⟨1, -1, -1, 3, 2, 2, 109, true⟩ (.prim .i8) (.cons ⟨0, -1, -1, 0, 3, 3, 110, false⟩ (.list 110 118 5 (.struct 118 5 135 (some (4, 4)) (.cons ⟨0, -1, -1, 0, 0, 0, 9, false⟩ (.prim .str) (.cons ⟨0, -1, -1, 0, 1, 1, 9, false⟩ (.prim .str) (.cons ⟨0, -1, -1, 0, 2, 2, 115, true⟩ (.prim .i8) (.cons ⟨0, -1, -1, 0, 3, 3, 116, true⟩ (.prim .i8) .nil)))))) .nil))))
theorem b37 : (Go.Proofs.Tryz.f37).body.map strip = some (sc_bSub X.F X.Fs fs37 [85]) := by kernel_rfl
theorem ok37 : FnOK PP 37 := fnOK_of Go.Proofs.Tryz.func37 b37 (by kernel_rfl)
theorem sf37 : SubFns PP fs37 [85] := by
  simp only [SubFns, hasSub, Bool.false_eq_true, if_false, if_true, List.headD_cons, List.tail_cons, fs37]
  exact ⟨⟨ok85, fun w => (c85 w).mono fun e w' ⟨v, q1, q2, q3, q4⟩ => ⟨v, q1, q2, by simp only [SubV]; exact q3, q4⟩⟩, trivial⟩
theorem c37 (w : World) : Calls PP 37 #[] w fun e w' => ∃ v, e = .returned v ∧ v.oneCell' = true ∧ FsV w' (fun k => w.heap.size ≤ k ∧ k < w'.heap.size) fs37 v ∧ Below w.heap.size w w' := bSub_ok hX fok uFs fs37 [85] (by kernel_rfl) sf37 (by decide +kernel) Go.Proofs.Tryz.func37 b37 (by kernel_rfl) (by kernel_rfl) w
def fs : Fs := (.cons ⟨0, -1, -1, 0, 1, 1, 21, false⟩ (.prim .i32) (.cons ⟨0, -1, -1, 0, 2, 2, 42, false⟩ (.prim .i16) (.cons ⟨0, -1, 0, 0, 3, 3, 90, false⟩ (.prim .str) (.cons ⟨0, -1, -1, 0, 4, 4, 104, false⟩ (.list 104 112 5 (.struct 112 5 130 (some (4, 4)) (.cons ⟨0, -1, -1, 0, 0, 0, 108, true⟩ (.prim .i8) (.cons ⟨0, -1, -1, 0, 1, 1, 9, false⟩ (.prim .str) (.cons ⟨1, -1, -1, 3, 2, 2, 109, true⟩ (.prim .i8) (.cons ⟨0, -1, -1, 0, 3, 3, 110, false⟩ (.list 110 118 5 (.struct 118 5 135 (some (4, 4)) (.cons ⟨0, -1, -1, 0, 0, 0, 9, false⟩ (.prim .str) (.cons ⟨0, -1, -1, 0, 1, 1, 9, false⟩ (.prim .str) (.cons ⟨0, -1, -1, 0, 2, 2, 115, true⟩ (.prim .i8) (.cons ⟨0, -1, -1, 0, 3, 3, 116, true⟩ (.prim .i8) .nil)))))) .nil)))))) .nil))))
theorem b15 : (Go.Proofs.Tryz.f15).body.map strip = some (sc_bTop X.F X.Fs X.M fs (2) [37]) := by kernel_rfl
theorem ok15 : FnOK PP 15 := fnOK_of Go.Proofs.Tryz.func15 b15 (by kernel_rfl)
theorem sfTop : SubFns PP fs [37] := by
  simp only [SubFns, hasSub, Bool.false_eq_true, if_false, if_true, List.headD_cons, List.tail_cons, fs]
  exact ⟨⟨ok37, fun w => (c37 w).mono fun e w' ⟨v, q1, q2, q3, q4⟩ => ⟨v, q1, q2, by simp only [SubV]; exact q3, q4⟩⟩, trivial⟩
theorem cSp (w : World) : Calls PP 15 #[] w fun e w' => ∃ v, e = .returned (msgV v (2)) ∧ v.oneCell' = true ∧ FsV w' (fun k => w.heap.size ≤ k ∧ k < w'.heap.size) fs v ∧ Below w.heap.size w w' := bTop_ok hX fok uFs arrM mB fs (2) [37] (by kernel_rfl) sfTop (by decide +kernel) Go.Proofs.Tryz.func15 b15 (by kernel_rfl) (by kernel_rfl) w
def sc130 : SC := .reg [mv 2 0, nilc 3 2, fa 4 112 3 2, ⟨none, .store 109 (.tmp 4) (.const (.int .i8 3)), none⟩]
theorem b130 : (Go.Proofs.Tryz.f130).body.map strip = some (sc130) := by kernel_rfl
theorem d130 : DefAt PP 130 5 [(2, (.int .i8 3))] := defAt_ok (N := 5) Go.Proofs.Tryz.func130 b130 (by kernel_rfl) (by kernel_rfl) (by decide) (by kernel_rfl) (by kernel_rfl)
def sc135 : SC := .skip
theorem b135 : (Go.Proofs.Tryz.f135).body.map strip = some (sc135) := by kernel_rfl
theorem d135 : DefAt PP 135 5 [] := defAt_ok (N := 2) Go.Proofs.Tryz.func135 b135 (by kernel_rfl) (by kernel_rfl) (by decide) (by kernel_rfl) (by kernel_rfl)
def sc84 : SC := .skip
theorem b84 : (Go.Proofs.Tryz.f84).body.map strip = some (sc84) := by kernel_rfl
theorem d84 : DefAt PP 84 6 [] := defAt_ok (N := 2) Go.Proofs.Tryz.func84 b84 (by kernel_rfl) (by kernel_rfl) (by decide) (by kernel_rfl) (by kernel_rfl)
theorem dfs : DefFs PP fs := ⟨trivial, ⟨trivial, ⟨trivial, ⟨⟨⟨_, d130, (by kernel_rfl), (by kernel_rfl)⟩, ⟨trivial, ⟨trivial, ⟨trivial, ⟨⟨⟨_, d135, (by kernel_rfl), (by kernel_rfl)⟩, ⟨trivial, ⟨trivial, ⟨trivial, ⟨trivial, trivial⟩⟩⟩⟩⟩, trivial⟩⟩⟩⟩⟩, trivial⟩⟩⟩⟩
noncomputable abbrev zc : Array Value := zcOf PP 106
noncomputable def cs : Array Value := dSetAll 0 [] zc
theorem defFn : DefFn PP 84 106 zc cs := ⟨d84.1, fun w b hc => d84.2 w b 0 zc 106 hc (by decide +kernel)⟩
theorem b35 : (Go.Proofs.Tryz.f35).body.map strip = some (sc_NewPtr 106 84) := by kernel_rfl
theorem ok35 : FnOK PP 35 := fnOK_of Go.Proofs.Tryz.func35 b35 (by kernel_rfl)
theorem cNP (w : World) : Calls PP 35 #[] w fun e w' => ∃ b, e = .returned (.pointer (some ⟨b, 0, none⟩)) ∧ w.heap.size ≤ b ∧ w'.heap[b]? = some (.cells cs 106 (0, 0)) ∧ Below w.heap.size w w' := newPtr_ok (zc_of (by kernel_rfl)) defFn Go.Proofs.Tryz.func35 b35 (by kernel_rfl) (by kernel_rfl) w
theorem b36 : (Go.Proofs.Tryz.f36).body.map strip = some (sc_MaxV 3) := by kernel_rfl
theorem ok36 : FnOK PP 36 := fnOK_of Go.Proofs.Tryz.func36 b36 (by kernel_rfl)
theorem b14 : (Go.Proofs.Tryz.f14).body.map strip = some (sc_Max 35 36 42 3) := by kernel_rfl
theorem ok14 : FnOK PP 14 := fnOK_of Go.Proofs.Tryz.func14 b14 (by kernel_rfl)
theorem cMax (w : World) : Calls PP 14 #[] w fun e w' => e = .returned (.int .i64 ((3 : Nat) : Int)) ∧ Below w.heap.size w w' := max_ok (by kernel_rfl) (by kernel_rfl) (by decide) ok35 cNP ok36 (fun w v => maxV_ok Go.Proofs.Tryz.func36 b36 (by kernel_rfl) (by kernel_rfl) w v) Go.Proofs.Tryz.func14 b14 (by kernel_rfl) (by kernel_rfl) w
theorem b38 : (Go.Proofs.Tryz.f38).body.map strip = some (sc_SetV 106 42) := by kernel_rfl
theorem ok38 : FnOK PP 38 := fnOK_of Go.Proofs.Tryz.func38 b38 (by kernel_rfl)
theorem b40 : (Go.Proofs.Tryz.f40).body.map strip = some (aTop ids 106 27 (some 2) (some (5, 5)) fs) := by kernel_rfl
theorem ok40 : FnOK PP 40 := fnOK_of Go.Proofs.Tryz.func40 b40 (by kernel_rfl)
def M : RTop := { S := 106, size := 6, d := 84, t := 41, N := 222, flex := (some 2), tags := (some (5, 5)), fs := fs }
theorem b86 : (Go.Proofs.Tryz.f86).body.map strip = some (rTop rids 106 84 41 (some 2) (some (5, 5)) fs) := by kernel_rfl
theorem b39 : (Go.Proofs.Tryz.f39).body.map strip = some (sc_ReadFromW 86) := by kernel_rfl
theorem ok39 : FnOK PP 39 := fnOK_of Go.Proofs.Tryz.func39 b39 (by kernel_rfl)
theorem ok86 : FnOK PP 86 := fnOK_of Go.Proofs.Tryz.func86 b86 (by kernel_rfl)
theorem cR (a : Addr) (B : Nat) (w0 : World) (h : 1 < B) (hg : ∀ w', Below B w0 w' → GlE a w') : ReadC PP rids M B G0 (errV a) 86 w0 := readFrom_ok (kr a) (fun _ => trivial) hg h (by kernel_rfl) dfs d84 (by kernel_rfl) (by kernel_rfl) Go.Proofs.Tryz.func86 b86 (by kernel_rfl) (by kernel_rfl)
theorem b16 : (Go.Proofs.Tryz.f16).body.map strip = some (sc_Again 3 42 22 52 35 38 39 40) := by kernel_rfl
theorem cAg (a : Addr) : AgC PP X.U8 (some 2) fs 1 3 (GlE a) 16 :=
  again_ok (I := rids) (M := M) (gb := 1) (m := 3) (G := G0) (Gl := GlE a) (err := errV a) (by kernel_rfl) (by kernel_rfl) (by kernel_rfl) (by kernel_rfl) (by decide) ⟨_, _, rfl⟩ ok35 cNP ok38 (fun w b cs E hc hs n => setV_ok (by kernel_rfl) (by kernel_rfl) Go.Proofs.Tryz.func38 b38 (by kernel_rfl) (by kernel_rfl) w b cs E hc hs n) ok39 (fun w x y Q h => readFromW_ok ok86 Go.Proofs.Tryz.func39 b39 (by kernel_rfl) (by kernel_rfl) w x y Q h) (fun B w0 h hg => cR a B w0 h hg) ok40 (fun w b ver ts u hb hc h0 hh ht hl => appendTo_calls ka Go.Proofs.Tryz.func40 b40 (by kernel_rfl) (by kernel_rfl) w b 0 ver ts u hb hc h0 hh ht hl) (by decide +kernel) (by decide) (by kernel_rfl) (by kernel_rfl) Go.Proofs.Tryz.func16 b16 (by kernel_rfl) (by kernel_rfl) (by kernel_rfl)
theorem okv : ∀ v : Nat, v ≤ 3 → okFsR v (flexAt (some 2) v) fs = true := by decide +kernel
theorem b4 : (Go.Proofs.Tryz.f4).body.map strip = some (sc_LawAgain X.T 4 X.I 8 14 15 12 10 16 17) := by kernel_rfl
theorem law (a : Addr) (w : World) (n : Nat) (hn : n < 256) (t : Tree) (tv : Value) (ht : TV G0 w (· < w.heap.size) t tv) (hgb : 1 < w.heap.size) (hgl : ∀ w', Below w.heap.size w w' → GlE a w') (hk : KAll t) (hlim : ∀ v : Nat, v ≤ 3 → (wMsg v (flexAt (some 2) v) fs t.l t.u).length ≤ lim) : Calls PP 4 #[.int .u8 (n : Int), tv] w fun e w' => e = .returned (.bool true) ∧ Below w.heap.size w w' :=
  lawAgain_ok (G := G0) hX hm (m := 3) (Gl := GlE a) (by decide) fs (2) (some 2) (fun v => by simp [flexAt]) ok8 cFit ok14 cMax ok15 cSp ok12 cVer ok10 (cWr fs (by decide +kernel) (by decide +kernel)) (cAg a) ok17 cSame Go.Proofs.Tryz.func4 b4 (by kernel_rfl) (by kernel_rfl) w n hn t tv ht hgb hgl (fun v hv => okv v hv) (fun v _ => kAll_fs v fs t.l hk.l) hk.u hlim
def flex : Option Int := (some 2)
def mx : Nat := 3
end Go.Proofs.YtmapoohbongifaaGreatDoor.K.AgainDescribeACLsResponse

