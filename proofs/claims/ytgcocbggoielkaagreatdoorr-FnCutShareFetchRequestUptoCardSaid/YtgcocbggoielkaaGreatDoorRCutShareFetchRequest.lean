/- CutShareFetchRequest: what the law on it computes. No condition. -/
import Derived.Test.YtgcocbggoielkaaGreatDoorRB1
import Derived.Test.YtgcocbggoielkaaGreatDoorRQA
import Derived.Test.YtgcocbggoielkaaGreatDoorRQR
import Derived.Test.YtgcocbggoielkaaGreatDoorRQS
namespace Go.Proofs.YtgcocbggoielkaaGreatDoorR.K.CutShareFetchRequest
open Go Go.RowKit Go.Proofs Go.Proofs.YtgcocbggoielkaaGreatDoorR.T Go.Proofs.YtgcocbggoielkaaGreatDoorR.K
set_option linter.unusedVariables false
set_option linter.unusedSimpArgs false
def fs92 : Fs := (.cons ⟨0, -1, -1, 0, 0, 0, 2, false⟩ (.prim .i64) (.cons ⟨0, -1, -1, 0, 1, 1, 2, false⟩ (.prim .i64) (.cons ⟨0, -1, -1, 0, 2, 2, 99, false⟩ (.list 99 66 1 (.prim .i8)) .nil)))
theorem b92 : (Go.Proofs.Tryz.f92).body.map strip = some (sc_bSub X.F X.Fs fs92 []) := by kernel_rfl
theorem ok92 : FnOK PP 92 := fnOK_of Go.Proofs.Tryz.func92 b92 (by kernel_rfl)
theorem sf92 : SubFns PP fs92 [] := by
  simp [SubFns, hasSub, fs92]
theorem c92 (w : World) : Calls PP 92 #[] w fun e w' => ∃ v, e = .returned v ∧ v.oneCell' = true ∧ FsV w' (fun k => w.heap.size ≤ k ∧ k < w'.heap.size) fs92 v ∧ Below w.heap.size w w' := bSub_ok hX fok uFs fs92 [] (by kernel_rfl) sf92 (by decide +kernel) Go.Proofs.Tryz.func92 b92 (by kernel_rfl) (by kernel_rfl) w
def fs59 : Fs := (.cons ⟨0, -1, -1, 0, 0, 0, 21, false⟩ (.prim .i32) (.cons ⟨0, 0, -1, 0, 1, 1, 21, false⟩ (.prim .i32) (.cons ⟨0, -1, -1, 0, 2, 2, 95, false⟩ (.list 95 101 4 (.struct 101 4 107 (some (3, 3)) (.cons ⟨0, -1, -1, 0, 0, 0, 2, false⟩ (.prim .i64) (.cons ⟨0, -1, -1, 0, 1, 1, 2, false⟩ (.prim .i64) (.cons ⟨0, -1, -1, 0, 2, 2, 99, false⟩ (.list 99 66 1 (.prim .i8)) .nil))))) .nil)))
theorem b59 : (Go.Proofs.Tryz.f59).body.map strip = some (sc_bSub X.F X.Fs fs59 [92]) := by kernel_rfl
theorem ok59 : FnOK PP 59 := fnOK_of Go.Proofs.Tryz.func59 b59 (by kernel_rfl)
theorem sf59 : SubFns PP fs59 [92] := by
  simp only [SubFns, hasSub, Bool.false_eq_true, if_false, if_true, List.headD_cons, List.tail_cons, fs59]
  exact ⟨⟨ok92, fun w => (c92 w).mono fun e w' ⟨v, q1, q2, q3, q4⟩ => ⟨v, q1, q2, by simp only [SubV]; exact q3, q4⟩⟩, trivial⟩
theorem c59 (w : World) : Calls PP 59 #[] w fun e w' => ∃ v, e = .returned v ∧ v.oneCell' = true ∧ FsV w' (fun k => w.heap.size ≤ k ∧ k < w'.heap.size) fs59 v ∧ Below w.heap.size w w' := bSub_ok hX fok uFs fs59 [92] (by kernel_rfl) sf59 (by decide +kernel) Go.Proofs.Tryz.func59 b59 (by kernel_rfl) (by kernel_rfl) w
def fs27 : Fs := (.cons ⟨0, -1, -1, 0, 0, 0, 89, false⟩ (.prim .uuid) (.cons ⟨0, -1, -1, 0, 1, 16, 90, false⟩ (.list 90 97 4 (.struct 97 4 106 (some (3, 3)) (.cons ⟨0, -1, -1, 0, 0, 0, 21, false⟩ (.prim .i32) (.cons ⟨0, 0, -1, 0, 1, 1, 21, false⟩ (.prim .i32) (.cons ⟨0, -1, -1, 0, 2, 2, 95, false⟩ (.list 95 101 4 (.struct 101 4 107 (some (3, 3)) (.cons ⟨0, -1, -1, 0, 0, 0, 2, false⟩ (.prim .i64) (.cons ⟨0, -1, -1, 0, 1, 1, 2, false⟩ (.prim .i64) (.cons ⟨0, -1, -1, 0, 2, 2, 99, false⟩ (.list 99 66 1 (.prim .i8)) .nil))))) .nil))))) .nil))
theorem b27 : (Go.Proofs.Tryz.f27).body.map strip = some (sc_bSub X.F X.Fs fs27 [59]) := by kernel_rfl
theorem ok27 : FnOK PP 27 := fnOK_of Go.Proofs.Tryz.func27 b27 (by kernel_rfl)
theorem sf27 : SubFns PP fs27 [59] := by
  simp only [SubFns, hasSub, Bool.false_eq_true, if_false, if_true, List.headD_cons, List.tail_cons, fs27]
  exact ⟨⟨ok59, fun w => (c59 w).mono fun e w' ⟨v, q1, q2, q3, q4⟩ => ⟨v, q1, q2, by simp only [SubV]; exact q3, q4⟩⟩, trivial⟩
theorem c27 (w : World) : Calls PP 27 #[] w fun e w' => ∃ v, e = .returned v ∧ v.oneCell' = true ∧ FsV w' (fun k => w.heap.size ≤ k ∧ k < w'.heap.size) fs27 v ∧ Below w.heap.size w w' := bSub_ok hX fok uFs fs27 [59] (by kernel_rfl) sf27 (by decide +kernel) Go.Proofs.Tryz.func27 b27 (by kernel_rfl) (by kernel_rfl) w
def fs28 : Fs := (.cons ⟨0, -1, -1, 0, 0, 0, 89, false⟩ (.prim .uuid) (.cons ⟨0, -1, -1, 0, 1, 16, 105, false⟩ (.list 105 21 1 (.prim .i32)) .nil))
theorem b28 : (Go.Proofs.Tryz.f28).body.map strip = some (sc_bSub X.F X.Fs fs28 []) := by kernel_rfl
theorem ok28 : FnOK PP 28 := fnOK_of Go.Proofs.Tryz.func28 b28 (by kernel_rfl)
theorem sf28 : SubFns PP fs28 [] := by
  simp [SubFns, hasSub, fs28]
theorem c28 (w : World) : Calls PP 28 #[] w fun e w' => ∃ v, e = .returned v ∧ v.oneCell' = true ∧ FsV w' (fun k => w.heap.size ≤ k ∧ k < w'.heap.size) fs28 v ∧ Below w.heap.size w w' := bSub_ok hX fok uFs fs28 [] (by kernel_rfl) sf28 (by decide +kernel) Go.Proofs.Tryz.func28 b28 (by kernel_rfl) (by kernel_rfl) w
def fs : Fs := (.cons ⟨0, -1, 0, 0, 1, 1, 65, false⟩ (.prim .str) (.cons ⟨0, -1, 0, 0, 2, 2, 65, false⟩ (.prim .str) (.cons ⟨0, -1, -1, 0, 3, 3, 21, false⟩ (.prim .i32) (.cons ⟨0, -1, -1, 0, 4, 4, 21, false⟩ (.prim .i32) (.cons ⟨0, -1, -1, 0, 5, 5, 21, false⟩ (.prim .i32) (.cons ⟨0, -1, -1, 2147483647, 6, 6, 21, false⟩ (.prim .i32) (.cons ⟨1, -1, -1, 0, 7, 7, 21, false⟩ (.prim .i32) (.cons ⟨1, -1, -1, 0, 8, 8, 21, false⟩ (.prim .i32) (.cons ⟨2, -1, -1, 0, 9, 9, 66, false⟩ (.prim .i8) (.cons ⟨2, -1, -1, 0, 10, 10, 4, false⟩ (.prim .bool) (.cons ⟨0, -1, -1, 0, 11, 11, 67, false⟩ (.list 67 92 18 (.struct 92 18 104 (some (2, 17)) (.cons ⟨0, -1, -1, 0, 0, 0, 89, false⟩ (.prim .uuid) (.cons ⟨0, -1, -1, 0, 1, 16, 90, false⟩ (.list 90 97 4 (.struct 97 4 106 (some (3, 3)) (.cons ⟨0, -1, -1, 0, 0, 0, 21, false⟩ (.prim .i32) (.cons ⟨0, 0, -1, 0, 1, 1, 21, false⟩ (.prim .i32) (.cons ⟨0, -1, -1, 0, 2, 2, 95, false⟩ (.list 95 101 4 (.struct 101 4 107 (some (3, 3)) (.cons ⟨0, -1, -1, 0, 0, 0, 2, false⟩ (.prim .i64) (.cons ⟨0, -1, -1, 0, 1, 1, 2, false⟩ (.prim .i64) (.cons ⟨0, -1, -1, 0, 2, 2, 99, false⟩ (.list 99 66 1 (.prim .i8)) .nil))))) .nil))))) .nil)))) (.cons ⟨0, -1, -1, 0, 12, 12, 68, false⟩ (.list 68 107 18 (.struct 107 18 110 (some (2, 17)) (.cons ⟨0, -1, -1, 0, 0, 0, 89, false⟩ (.prim .uuid) (.cons ⟨0, -1, -1, 0, 1, 16, 105, false⟩ (.list 105 21 1 (.prim .i32)) .nil)))) .nil))))))))))))
theorem b10 : (Go.Proofs.Tryz.f10).body.map strip = some (sc_bTop X.F X.Fs X.M fs (0) [27, 28]) := by kernel_rfl
theorem ok10 : FnOK PP 10 := fnOK_of Go.Proofs.Tryz.func10 b10 (by kernel_rfl)
theorem sfTop : SubFns PP fs [27, 28] := by
  simp only [SubFns, hasSub, Bool.false_eq_true, if_false, if_true, List.headD_cons, List.tail_cons, fs]
  exact ⟨⟨ok27, fun w => (c27 w).mono fun e w' ⟨v, q1, q2, q3, q4⟩ => ⟨v, q1, q2, by simp only [SubV]; exact q3, q4⟩⟩, ⟨⟨ok28, fun w => (c28 w).mono fun e w' ⟨v, q1, q2, q3, q4⟩ => ⟨v, q1, q2, by simp only [SubV]; exact q3, q4⟩⟩, trivial⟩⟩
theorem cSp (w : World) : Calls PP 10 #[] w fun e w' => ∃ v, e = .returned (msgV v (0)) ∧ v.oneCell' = true ∧ FsV w' (fun k => w.heap.size ≤ k ∧ k < w'.heap.size) fs v ∧ Below w.heap.size w w' := bTop_ok hX fok uFs arrM mB fs (0) [27, 28] (by kernel_rfl) sfTop (by decide +kernel) Go.Proofs.Tryz.func10 b10 (by kernel_rfl) (by kernel_rfl) w
def sc104 : SC := .skip
theorem b104 : (Go.Proofs.Tryz.f104).body.map strip = some (sc104) := by kernel_rfl
theorem d104 : DefAt PP 104 18 [] := defAt_ok (N := 2) Go.Proofs.Tryz.func104 b104 (by kernel_rfl) (by kernel_rfl) (by decide) (by kernel_rfl) (by kernel_rfl)
def sc106 : SC := .skip
theorem b106 : (Go.Proofs.Tryz.f106).body.map strip = some (sc106) := by kernel_rfl
theorem d106 : DefAt PP 106 4 [] := defAt_ok (N := 2) Go.Proofs.Tryz.func106 b106 (by kernel_rfl) (by kernel_rfl) (by decide) (by kernel_rfl) (by kernel_rfl)
def sc107 : SC := .skip
theorem b107 : (Go.Proofs.Tryz.f107).body.map strip = some (sc107) := by kernel_rfl
theorem d107 : DefAt PP 107 4 [] := defAt_ok (N := 2) Go.Proofs.Tryz.func107 b107 (by kernel_rfl) (by kernel_rfl) (by decide) (by kernel_rfl) (by kernel_rfl)
def sc110 : SC := .skip
theorem b110 : (Go.Proofs.Tryz.f110).body.map strip = some (sc110) := by kernel_rfl
theorem d110 : DefAt PP 110 18 [] := defAt_ok (N := 2) Go.Proofs.Tryz.func110 b110 (by kernel_rfl) (by kernel_rfl) (by decide) (by kernel_rfl) (by kernel_rfl)
def sc50 : SC := .reg [mv 2 0, nilc 3 2, fa 4 73 3 6, ⟨none, .store 21 (.tmp 4) (.const (.int .i32 2147483647)), none⟩]
theorem b50 : (Go.Proofs.Tryz.f50).body.map strip = some (sc50) := by kernel_rfl
theorem d50 : DefAt PP 50 14 [(6, (.int .i32 2147483647))] := defAt_ok (N := 5) Go.Proofs.Tryz.func50 b50 (by kernel_rfl) (by kernel_rfl) (by decide) (by kernel_rfl) (by kernel_rfl)
theorem dfs : DefFs PP fs := ⟨trivial, ⟨trivial, ⟨trivial, ⟨trivial, ⟨trivial, ⟨trivial, ⟨trivial, ⟨trivial, ⟨trivial, ⟨trivial, ⟨⟨⟨_, d104, (by kernel_rfl), (by kernel_rfl)⟩, ⟨trivial, ⟨⟨⟨_, d106, (by kernel_rfl), (by kernel_rfl)⟩, ⟨trivial, ⟨trivial, ⟨⟨⟨_, d107, (by kernel_rfl), (by kernel_rfl)⟩, ⟨trivial, ⟨trivial, ⟨trivial, trivial⟩⟩⟩⟩, trivial⟩⟩⟩⟩, trivial⟩⟩⟩, ⟨⟨⟨_, d110, (by kernel_rfl), (by kernel_rfl)⟩, ⟨trivial, ⟨trivial, trivial⟩⟩⟩, trivial⟩⟩⟩⟩⟩⟩⟩⟩⟩⟩⟩⟩
noncomputable abbrev zc : Array Value := zcOf PP 73
noncomputable def cs : Array Value := dSetAll 0 [(6, (.int .i32 2147483647))] zc
theorem defFn : DefFn PP 50 73 zc cs := ⟨d50.1, fun w b hc => d50.2 w b 0 zc 73 hc (by decide +kernel)⟩
theorem b24 : (Go.Proofs.Tryz.f24).body.map strip = some (sc_NewPtr 73 50) := by kernel_rfl
theorem ok24 : FnOK PP 24 := fnOK_of Go.Proofs.Tryz.func24 b24 (by kernel_rfl)
theorem cNP (w : World) : Calls PP 24 #[] w fun e w' => ∃ b, e = .returned (.pointer (some ⟨b, 0, none⟩)) ∧ w.heap.size ≤ b ∧ w'.heap[b]? = some (.cells cs 73 (0, 0)) ∧ Below w.heap.size w w' := newPtr_ok (zc_of (by kernel_rfl)) defFn Go.Proofs.Tryz.func24 b24 (by kernel_rfl) (by kernel_rfl) w
theorem b25 : (Go.Proofs.Tryz.f25).body.map strip = some (sc_MaxV 2) := by kernel_rfl
theorem ok25 : FnOK PP 25 := fnOK_of Go.Proofs.Tryz.func25 b25 (by kernel_rfl)
theorem b8 : (Go.Proofs.Tryz.f8).body.map strip = some (sc_Max 24 25 42 3) := by kernel_rfl
theorem ok8 : FnOK PP 8 := fnOK_of Go.Proofs.Tryz.func8 b8 (by kernel_rfl)
theorem cMax (w : World) : Calls PP 8 #[] w fun e w' => e = .returned (.int .i64 ((2 : Nat) : Int)) ∧ Below w.heap.size w w' := max_ok (by kernel_rfl) (by kernel_rfl) (by decide) ok24 cNP ok25 (fun w v => maxV_ok Go.Proofs.Tryz.func25 b25 (by kernel_rfl) (by kernel_rfl) w v) Go.Proofs.Tryz.func8 b8 (by kernel_rfl) (by kernel_rfl) w
theorem b29 : (Go.Proofs.Tryz.f29).body.map strip = some (sc_SetV 73 42) := by kernel_rfl
theorem ok29 : FnOK PP 29 := fnOK_of Go.Proofs.Tryz.func29 b29 (by kernel_rfl)
theorem b31 : (Go.Proofs.Tryz.f31).body.map strip = some (aTop ids 73 41 (some 0) (some (13, 13)) fs) := by kernel_rfl
theorem ok31 : FnOK PP 31 := fnOK_of Go.Proofs.Tryz.func31 b31 (by kernel_rfl)
def M : RTop := { S := 73, size := 14, d := 50, t := 61, N := 408, flex := (some 0), tags := (some (13, 13)), fs := fs }
theorem b60 : (Go.Proofs.Tryz.f60).body.map strip = some (rTop rids 73 50 61 (some 0) (some (13, 13)) fs) := by kernel_rfl
theorem b30 : (Go.Proofs.Tryz.f30).body.map strip = some (sc_ReadFromW 60) := by kernel_rfl
theorem ok30 : FnOK PP 30 := fnOK_of Go.Proofs.Tryz.func30 b30 (by kernel_rfl)
theorem ok60 : FnOK PP 60 := fnOK_of Go.Proofs.Tryz.func60 b60 (by kernel_rfl)
theorem cR (a : Addr) (B : Nat) (w0 : World) (h : 0 < B) (hg : ∀ w', Below B w0 w' → GlE a w') : ReadC PP rids M B G0 (errV a) 60 w0 := readFrom_ok (kr a) (fun _ => trivial) hg h (by kernel_rfl) dfs d50 (by kernel_rfl) (by kernel_rfl) Go.Proofs.Tryz.func60 b60 (by kernel_rfl) (by kernel_rfl)
theorem b12 : (Go.Proofs.Tryz.f12).body.map strip = some (sc_Again 3 42 22 52 24 29 30 31) := by kernel_rfl
theorem cAg (a : Addr) : AgC PP X.U8 (some 0) fs 0 2 (GlE a) 12 :=
  again_ok (I := rids) (M := M) (gb := 0) (m := 2) (G := G0) (Gl := GlE a) (err := errV a) (by kernel_rfl) (by kernel_rfl) (by kernel_rfl) (by kernel_rfl) (by decide) ⟨_, _, rfl⟩ ok24 cNP ok29 (fun w b cs E hc hs n => setV_ok (by kernel_rfl) (by kernel_rfl) Go.Proofs.Tryz.func29 b29 (by kernel_rfl) (by kernel_rfl) w b cs E hc hs n) ok30 (fun w x y Q h => readFromW_ok ok60 Go.Proofs.Tryz.func30 b30 (by kernel_rfl) (by kernel_rfl) w x y Q h) (fun B w0 h hg => cR a B w0 h hg) ok31 (fun w b ver ts u hb hc h0 hh ht hl => appendTo_calls ka Go.Proofs.Tryz.func31 b31 (by kernel_rfl) (by kernel_rfl) w b 0 ver ts u hb hc h0 hh ht hl) (by decide +kernel) (by decide) (by kernel_rfl) (by kernel_rfl) Go.Proofs.Tryz.func12 b12 (by kernel_rfl) (by kernel_rfl) (by kernel_rfl)
theorem okv : ∀ v : Nat, v ≤ 2 → okFsR v (flexAt (some 0) v) fs = true := by decide +kernel
theorem b3 : (Go.Proofs.Tryz.f3).body.map strip = some (sc_LawCut X.T 4 X.I X.Bs 27 7 8 10 11 9 12) := by kernel_rfl
theorem law (a : Addr) (w : World) (n at_ : Nat) (hn : n < 256) (hat : at_ < 65536) (t : Tree) (tv : Value) (ht : TV G0 w (· < w.heap.size) t tv) (hgb : 0 < w.heap.size) (hgl : ∀ w', Below w.heap.size w w' → GlE a w') (hk : KAll t) (hlim : ∀ v : Nat, v ≤ 2 → (wMsg v (flexAt (some 0) v) fs t.l t.u).length ≤ lim) : Calls PP 3 #[.int .u8 (n : Int), tv, .int .u16 (at_ : Int)] w fun e w' => e = .returned (.bool true) ∧ Below w.heap.size w w' :=
  lawCut_ok (G := G0) hX hm (by kernel_rfl) (m := 2) (Gl := GlE a) (by decide) fs (0) (some 0) (fun v => by simp [flexAt]) ok7 cFit ok8 cMax ok10 cSp ok11 cVer ok9 (cWr fs (by decide +kernel) (by decide +kernel)) (cAg a) Go.Proofs.Tryz.func3 b3 (by kernel_rfl) (by kernel_rfl) w n at_ hn hat t tv ht hgb hgl (fun v hv => okv v hv) (fun v _ => kAll_fs v fs t.l hk.l) hk.u hlim
def flex : Option Int := (some 0)
def mx : Nat := 2
end Go.Proofs.YtgcocbggoielkaaGreatDoorR.K.CutShareFetchRequest

