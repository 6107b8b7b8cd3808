/- CutReadShareGroupStateResponse: what the law on it computes. No condition. -/
import Derived.Test.YtmapoohbongifaaGreatDoorB1
import Derived.Test.YtmapoohbongifaaGreatDoorQA
import Derived.Test.YtmapoohbongifaaGreatDoorQR
import Derived.Test.YtmapoohbongifaaGreatDoorQS
namespace Go.Proofs.YtmapoohbongifaaGreatDoor.K.CutReadShareGroupStateResponse
open Go Go.RowKit Go.Proofs Go.Proofs.YtmapoohbongifaaGreatDoor.T Go.Proofs.YtmapoohbongifaaGreatDoor.K
set_option linter.unusedVariables false
set_option linter.unusedSimpArgs false
def fs107 : Fs := (.cons ⟨0, -1, -1, 0, 0, 0, 2, false⟩ (.prim .i64) (.cons ⟨0, -1, -1, 0, 1, 1, 2, false⟩ (.prim .i64) (.cons ⟨0, -1, -1, 0, 2, 2, 99, false⟩ (.prim .i8) (.cons ⟨0, -1, -1, 0, 3, 3, 42, false⟩ (.prim .i16) .nil))))
theorem b107 : (Go.Proofs.Tryz.f107).body.map strip = some (sc_bSub X.F X.Fs fs107 []) := by kernel_rfl
theorem ok107 : FnOK PP 107 := fnOK_of Go.Proofs.Tryz.func107 b107 (by kernel_rfl)
theorem sf107 : SubFns PP fs107 [] := by
  simp [SubFns, hasSub, fs107]
theorem c107 (w : World) : Calls PP 107 #[] w fun e w' => ∃ v, e = .returned v ∧ v.oneCell' = true ∧ FsV w' (fun k => w.heap.size ≤ k ∧ k < w'.heap.size) fs107 v ∧ Below w.heap.size w w' := bSub_ok hX fok uFs fs107 [] (by kernel_rfl) sf107 (by decide +kernel) Go.Proofs.Tryz.func107 b107 (by kernel_rfl) (by kernel_rfl) w
def fs70 : Fs := (.cons ⟨0, -1, -1, 0, 0, 0, 21, false⟩ (.prim .i32) (.cons ⟨0, -1, -1, 0, 1, 1, 42, false⟩ (.prim .i16) (.cons ⟨0, -1, 0, 0, 2, 2, 90, false⟩ (.prim .str) (.cons ⟨0, -1, -1, 0, 3, 3, 21, false⟩ (.prim .i32) (.cons ⟨0, -1, -1, 0, 4, 4, 2, false⟩ (.prim .i64) (.cons ⟨0, -1, -1, 0, 5, 5, 91, false⟩ (.list 91 101 5 (.struct 101 5 122 (some (4, 4)) (.cons ⟨0, -1, -1, 0, 0, 0, 2, false⟩ (.prim .i64) (.cons ⟨0, -1, -1, 0, 1, 1, 2, false⟩ (.prim .i64) (.cons ⟨0, -1, -1, 0, 2, 2, 99, false⟩ (.prim .i8) (.cons ⟨0, -1, -1, 0, 3, 3, 42, false⟩ (.prim .i16) .nil)))))) .nil))))))
theorem b70 : (Go.Proofs.Tryz.f70).body.map strip = some (sc_bSub X.F X.Fs fs70 [107]) := by kernel_rfl
theorem ok70 : FnOK PP 70 := fnOK_of Go.Proofs.Tryz.func70 b70 (by kernel_rfl)
theorem sf70 : SubFns PP fs70 [107] := by
  simp only [SubFns, hasSub, Bool.false_eq_true, if_false, if_true, List.headD_cons, List.tail_cons, fs70]
  exact ⟨⟨ok107, fun w => (c107 w).mono fun e w' ⟨v, q1, q2, q3, q4⟩ => ⟨v, q1, q2, by simp only [SubV]; exact q3, q4⟩⟩, trivial⟩
theorem c70 (w : World) : Calls PP 70 #[] w fun e w' => ∃ v, e = .returned v ∧ v.oneCell' = true ∧ FsV w' (fun k => w.heap.size ≤ k ∧ k < w'.heap.size) fs70 v ∧ Below w.heap.size w w' := bSub_ok hX fok uFs fs70 [107] (by kernel_rfl) sf70 (by decide +kernel) Go.Proofs.Tryz.func70 b70 (by kernel_rfl) (by kernel_rfl) w
def fs31 : Fs := (.cons ⟨0, -1, -1, 0, 0, 0, 84, false⟩ (.prim .uuid) (.cons ⟨0, -1, -1, 0, 1, 16, 85, false⟩ (.list 85 93 7 (.struct 93 7 114 (some (6, 6)) (.cons ⟨0, -1, -1, 0, 0, 0, 21, false⟩ (.prim .i32) (.cons ⟨0, -1, -1, 0, 1, 1, 42, false⟩ (.prim .i16) (.cons ⟨0, -1, 0, 0, 2, 2, 90, false⟩ (.prim .str) (.cons ⟨0, -1, -1, 0, 3, 3, 21, false⟩ (.prim .i32) (.cons ⟨0, -1, -1, 0, 4, 4, 2, false⟩ (.prim .i64) (.cons ⟨0, -1, -1, 0, 5, 5, 91, false⟩ (.list 91 101 5 (.struct 101 5 122 (some (4, 4)) (.cons ⟨0, -1, -1, 0, 0, 0, 2, false⟩ (.prim .i64) (.cons ⟨0, -1, -1, 0, 1, 1, 2, false⟩ (.prim .i64) (.cons ⟨0, -1, -1, 0, 2, 2, 99, false⟩ (.prim .i8) (.cons ⟨0, -1, -1, 0, 3, 3, 42, false⟩ (.prim .i16) .nil)))))) .nil)))))))) .nil))
theorem b31 : (Go.Proofs.Tryz.f31).body.map strip = some (sc_bSub X.F X.Fs fs31 [70]) := by kernel_rfl
theorem ok31 : FnOK PP 31 := fnOK_of Go.Proofs.Tryz.func31 b31 (by kernel_rfl)
theorem sf31 : SubFns PP fs31 [70] := by
  simp only [SubFns, hasSub, Bool.false_eq_true, if_false, if_true, List.headD_cons, List.tail_cons, fs31]
  exact ⟨⟨ok70, fun w => (c70 w).mono fun e w' ⟨v, q1, q2, q3, q4⟩ => ⟨v, q1, q2, by simp only [SubV]; exact q3, q4⟩⟩, trivial⟩
theorem c31 (w : World) : Calls PP 31 #[] w fun e w' => ∃ v, e = .returned v ∧ v.oneCell' = true ∧ FsV w' (fun k => w.heap.size ≤ k ∧ k < w'.heap.size) fs31 v ∧ Below w.heap.size w w' := bSub_ok hX fok uFs fs31 [70] (by kernel_rfl) sf31 (by decide +kernel) Go.Proofs.Tryz.func31 b31 (by kernel_rfl) (by kernel_rfl) w
def fs : Fs := (.cons ⟨0, -1, -1, 0, 1, 1, 67, false⟩ (.list 67 87 18 (.struct 87 18 112 (some (2, 17)) (.cons ⟨0, -1, -1, 0, 0, 0, 84, false⟩ (.prim .uuid) (.cons ⟨0, -1, -1, 0, 1, 16, 85, false⟩ (.list 85 93 7 (.struct 93 7 114 (some (6, 6)) (.cons ⟨0, -1, -1, 0, 0, 0, 21, false⟩ (.prim .i32) (.cons ⟨0, -1, -1, 0, 1, 1, 42, false⟩ (.prim .i16) (.cons ⟨0, -1, 0, 0, 2, 2, 90, false⟩ (.prim .str) (.cons ⟨0, -1, -1, 0, 3, 3, 21, false⟩ (.prim .i32) (.cons ⟨0, -1, -1, 0, 4, 4, 2, false⟩ (.prim .i64) (.cons ⟨0, -1, -1, 0, 5, 5, 91, false⟩ (.list 91 101 5 (.struct 101 5 122 (some (4, 4)) (.cons ⟨0, -1, -1, 0, 0, 0, 2, false⟩ (.prim .i64) (.cons ⟨0, -1, -1, 0, 1, 1, 2, false⟩ (.prim .i64) (.cons ⟨0, -1, -1, 0, 2, 2, 99, false⟩ (.prim .i8) (.cons ⟨0, -1, -1, 0, 3, 3, 42, false⟩ (.prim .i16) .nil)))))) .nil)))))))) .nil)))) .nil)
theorem b11 : (Go.Proofs.Tryz.f11).body.map strip = some (sc_bTop X.F X.Fs X.M fs (0) [31]) := by kernel_rfl
theorem ok11 : FnOK PP 11 := fnOK_of Go.Proofs.Tryz.func11 b11 (by kernel_rfl)
theorem sfTop : SubFns PP fs [31] := by
  simp only [SubFns, hasSub, Bool.false_eq_true, if_false, if_true, List.headD_cons, List.tail_cons, fs]
  exact ⟨⟨ok31, fun w => (c31 w).mono fun e w' ⟨v, q1, q2, q3, q4⟩ => ⟨v, q1, q2, by simp only [SubV]; exact q3, q4⟩⟩, trivial⟩
theorem cSp (w : World) : Calls PP 11 #[] w fun e w' => ∃ v, e = .returned (msgV v (0)) ∧ v.oneCell' = true ∧ FsV w' (fun k => w.heap.size ≤ k ∧ k < w'.heap.size) fs v ∧ Below w.heap.size w w' := bTop_ok hX fok uFs arrM mB fs (0) [31] (by kernel_rfl) sfTop (by decide +kernel) Go.Proofs.Tryz.func11 b11 (by kernel_rfl) (by kernel_rfl) w
def sc112 : SC := .skip
theorem b112 : (Go.Proofs.Tryz.f112).body.map strip = some (sc112) := by kernel_rfl
theorem d112 : DefAt PP 112 18 [] := defAt_ok (N := 2) Go.Proofs.Tryz.func112 b112 (by kernel_rfl) (by kernel_rfl) (by decide) (by kernel_rfl) (by kernel_rfl)
def sc114 : SC := .skip
theorem b114 : (Go.Proofs.Tryz.f114).body.map strip = some (sc114) := by kernel_rfl
theorem d114 : DefAt PP 114 7 [] := defAt_ok (N := 2) Go.Proofs.Tryz.func114 b114 (by kernel_rfl) (by kernel_rfl) (by decide) (by kernel_rfl) (by kernel_rfl)
def sc122 : SC := .skip
theorem b122 : (Go.Proofs.Tryz.f122).body.map strip = some (sc122) := by kernel_rfl
theorem d122 : DefAt PP 122 5 [] := defAt_ok (N := 2) Go.Proofs.Tryz.func122 b122 (by kernel_rfl) (by kernel_rfl) (by decide) (by kernel_rfl) (by kernel_rfl)
def sc61 : SC := .skip
theorem b61 : (Go.Proofs.Tryz.f61).body.map strip = some (sc61) := by kernel_rfl
theorem d61 : DefAt PP 61 3 [] := defAt_ok (N := 2) Go.Proofs.Tryz.func61 b61 (by kernel_rfl) (by kernel_rfl) (by decide) (by kernel_rfl) (by kernel_rfl)
theorem dfs : DefFs PP fs := ⟨⟨⟨_, d112, (by kernel_rfl), (by kernel_rfl)⟩, ⟨trivial, ⟨⟨⟨_, d114, (by kernel_rfl), (by kernel_rfl)⟩, ⟨trivial, ⟨trivial, ⟨trivial, ⟨trivial, ⟨trivial, ⟨⟨⟨_, d122, (by kernel_rfl), (by kernel_rfl)⟩, ⟨trivial, ⟨trivial, ⟨trivial, ⟨trivial, trivial⟩⟩⟩⟩⟩, trivial⟩⟩⟩⟩⟩⟩⟩, trivial⟩⟩⟩, trivial⟩
noncomputable abbrev zc : Array Value := zcOf PP 72
noncomputable def cs : Array Value := dSetAll 0 [] zc
theorem defFn : DefFn PP 61 72 zc cs := ⟨d61.1, fun w b hc => d61.2 w b 0 zc 72 hc (by decide +kernel)⟩
theorem b28 : (Go.Proofs.Tryz.f28).body.map strip = some (sc_NewPtr 72 61) := by kernel_rfl
theorem ok28 : FnOK PP 28 := fnOK_of Go.Proofs.Tryz.func28 b28 (by kernel_rfl)
theorem cNP (w : World) : Calls PP 28 #[] w fun e w' => ∃ b, e = .returned (.pointer (some ⟨b, 0, none⟩)) ∧ w.heap.size ≤ b ∧ w'.heap[b]? = some (.cells cs 72 (0, 0)) ∧ Below w.heap.size w w' := newPtr_ok (zc_of (by kernel_rfl)) defFn Go.Proofs.Tryz.func28 b28 (by kernel_rfl) (by kernel_rfl) w
theorem b29 : (Go.Proofs.Tryz.f29).body.map strip = some (sc_MaxV 0) := by kernel_rfl
theorem ok29 : FnOK PP 29 := fnOK_of Go.Proofs.Tryz.func29 b29 (by kernel_rfl)
theorem b9 : (Go.Proofs.Tryz.f9).body.map strip = some (sc_Max 28 29 42 3) := by kernel_rfl
theorem ok9 : FnOK PP 9 := fnOK_of Go.Proofs.Tryz.func9 b9 (by kernel_rfl)
theorem cMax (w : World) : Calls PP 9 #[] w fun e w' => e = .returned (.int .i64 ((0 : Nat) : Int)) ∧ Below w.heap.size w w' := max_ok (by kernel_rfl) (by kernel_rfl) (by decide) ok28 cNP ok29 (fun w v => maxV_ok Go.Proofs.Tryz.func29 b29 (by kernel_rfl) (by kernel_rfl) w v) Go.Proofs.Tryz.func9 b9 (by kernel_rfl) (by kernel_rfl) w
theorem b32 : (Go.Proofs.Tryz.f32).body.map strip = some (sc_SetV 72 42) := by kernel_rfl
theorem ok32 : FnOK PP 32 := fnOK_of Go.Proofs.Tryz.func32 b32 (by kernel_rfl)
theorem b34 : (Go.Proofs.Tryz.f34).body.map strip = some (aTop ids 72 26 (some 0) (some (2, 2)) fs) := by kernel_rfl
theorem ok34 : FnOK PP 34 := fnOK_of Go.Proofs.Tryz.func34 b34 (by kernel_rfl)
def M : RTop := { S := 72, size := 3, d := 61, t := 39, N := 231, flex := (some 0), tags := (some (2, 2)), fs := fs }
theorem b71 : (Go.Proofs.Tryz.f71).body.map strip = some (rTop rids 72 61 39 (some 0) (some (2, 2)) fs) := by kernel_rfl
theorem b33 : (Go.Proofs.Tryz.f33).body.map strip = some (sc_ReadFromW 71) := by kernel_rfl
theorem ok33 : FnOK PP 33 := fnOK_of Go.Proofs.Tryz.func33 b33 (by kernel_rfl)
theorem ok71 : FnOK PP 71 := fnOK_of Go.Proofs.Tryz.func71 b71 (by kernel_rfl)
theorem cR (a : Addr) (B : Nat) (w0 : World) (h : 1 < B) (hg : ∀ w', Below B w0 w' → GlE a w') : ReadC PP rids M B G0 (errV a) 71 w0 := readFrom_ok (kr a) (fun _ => trivial) hg h (by kernel_rfl) dfs d61 (by kernel_rfl) (by kernel_rfl) Go.Proofs.Tryz.func71 b71 (by kernel_rfl) (by kernel_rfl)
theorem b13 : (Go.Proofs.Tryz.f13).body.map strip = some (sc_Again 3 42 22 52 28 32 33 34) := by kernel_rfl
theorem cAg (a : Addr) : AgC PP X.U8 (some 0) fs 1 0 (GlE a) 13 :=
  again_ok (I := rids) (M := M) (gb := 1) (m := 0) (G := G0) (Gl := GlE a) (err := errV a) (by kernel_rfl) (by kernel_rfl) (by kernel_rfl) (by kernel_rfl) (by decide) ⟨_, _, rfl⟩ ok28 cNP ok32 (fun w b cs E hc hs n => setV_ok (by kernel_rfl) (by kernel_rfl) Go.Proofs.Tryz.func32 b32 (by kernel_rfl) (by kernel_rfl) w b cs E hc hs n) ok33 (fun w x y Q h => readFromW_ok ok71 Go.Proofs.Tryz.func33 b33 (by kernel_rfl) (by kernel_rfl) w x y Q h) (fun B w0 h hg => cR a B w0 h hg) ok34 (fun w b ver ts u hb hc h0 hh ht hl => appendTo_calls ka Go.Proofs.Tryz.func34 b34 (by kernel_rfl) (by kernel_rfl) w b 0 ver ts u hb hc h0 hh ht hl) (by decide +kernel) (by decide) (by kernel_rfl) (by kernel_rfl) Go.Proofs.Tryz.func13 b13 (by kernel_rfl) (by kernel_rfl) (by kernel_rfl)
theorem okv : ∀ v : Nat, v ≤ 0 → okFsR v (flexAt (some 0) v) fs = true := by decide +kernel
theorem b3 : (Go.Proofs.Tryz.f3).body.map strip = some (sc_LawCut X.T 4 X.I X.Bs 27 8 9 11 12 10 13) := by kernel_rfl
theorem law (a : Addr) (w : World) (n at_ : Nat) (hn : n < 256) (hat : at_ < 65536) (t : Tree) (tv : Value) (ht : TV G0 w (· < w.heap.size) t tv) (hgb : 1 < w.heap.size) (hgl : ∀ w', Below w.heap.size w w' → GlE a w') (hk : KAll t) (hlim : ∀ v : Nat, v ≤ 0 → (wMsg v (flexAt (some 0) v) fs t.l t.u).length ≤ lim) : Calls PP 3 #[.int .u8 (n : Int), tv, .int .u16 (at_ : Int)] w fun e w' => e = .returned (.bool true) ∧ Below w.heap.size w w' :=
  lawCut_ok (G := G0) hX hm (by kernel_rfl) (m := 0) (Gl := GlE a) (by decide) fs (0) (some 0) (fun v => by simp [flexAt]) ok8 cFit ok9 cMax ok11 cSp ok12 cVer ok10 (cWr fs (by decide +kernel) (by decide +kernel)) (cAg a) Go.Proofs.Tryz.func3 b3 (by kernel_rfl) (by kernel_rfl) w n at_ hn hat t tv ht hgb hgl (fun v hv => okv v hv) (fun v _ => kAll_fs v fs t.l hk.l) hk.u hlim
def flex : Option Int := (some 0)
def mx : Nat := 0
end Go.Proofs.YtmapoohbongifaaGreatDoor.K.CutReadShareGroupStateResponse

