/- AgainProduceResponse: what the law on it computes. No condition. -/
import Derived.Test.YtdnpafdgglpagaaGreatDoorN13
import Derived.Test.YtdnpafdgglpagaaGreatDoorQA
import Derived.Test.YtdnpafdgglpagaaGreatDoorQR
import Derived.Test.YtdnpafdgglpagaaGreatDoorQS
namespace Go.Proofs.YtdnpafdgglpagaaGreatDoor.K.AgainProduceResponse
open Go Go.RowKit Go.Proofs Go.Proofs.YtdnpafdgglpagaaGreatDoor.T Go.Proofs.YtdnpafdgglpagaaGreatDoor.K
set_option linter.unusedVariables false
set_option linter.unusedSimpArgs false
def fs54 : Fs := (.cons ⟨0, -1, -1, 0, 0, 0, 21, false⟩ (.prim .i32) (.cons ⟨0, -1, 0, 0, 1, 1, 83, false⟩ (.prim .str) .nil))
def kn54 : Fs := .nil
theorem b54 : (Go.Proofs.Tryz.f54).body.map strip = some (sc_bSub X.F X.Fs fs54 kn54 [] []) := by kernel_rfl
theorem ok54 : FnOK PP 54 := fnOK_of Go.Proofs.Tryz.func54 b54 (by kernel_rfl)
theorem sf54 : SubFns PP fs54 [] := by
  simp [SubFns, hasSub, fs54]
theorem sk54 : SubFns PP kn54 [] := by
  simp [SubFns, hasSub, kn54]
theorem c54 (w : World) : Calls PP 54 #[] w fun e w' => ∃ v, e = .returned v ∧ v.oneCell' = true ∧ FsV w' (fun k => w.heap.size ≤ k ∧ k < w'.heap.size) fs54 kn54 v ∧ Below w.heap.size w w' := bSub_ok hX fok uFs fs54 kn54 [] [] (by kernel_rfl) (by kernel_rfl) sf54 sk54 (by decide +kernel) Go.Proofs.Tryz.func54 b54 (by kernel_rfl) (by kernel_rfl) w
def fs55 : Fs := (.cons ⟨0, -1, -1, -1, 0, 0, 21, false⟩ (.prim .i32) (.cons ⟨0, -1, -1, -1, 1, 1, 21, false⟩ (.prim .i32) .nil))
def kn55 : Fs := .nil
theorem b55 : (Go.Proofs.Tryz.f55).body.map strip = some (sc_bSub X.F X.Fs fs55 kn55 [] []) := by kernel_rfl
theorem ok55 : FnOK PP 55 := fnOK_of Go.Proofs.Tryz.func55 b55 (by kernel_rfl)
theorem sf55 : SubFns PP fs55 [] := by
  simp [SubFns, hasSub, fs55]
theorem sk55 : SubFns PP kn55 [] := by
  simp [SubFns, hasSub, kn55]
theorem c55 (w : World) : Calls PP 55 #[] w fun e w' => ∃ v, e = .returned v ∧ v.oneCell' = true ∧ FsV w' (fun k => w.heap.size ≤ k ∧ k < w'.heap.size) fs55 kn55 v ∧ Below w.heap.size w w' := bSub_ok hX fok uFs fs55 kn55 [] [] (by kernel_rfl) (by kernel_rfl) sf55 sk55 (by decide +kernel) Go.Proofs.Tryz.func55 b55 (by kernel_rfl) (by kernel_rfl) w
def fs30 : Fs := (.cons ⟨0, -1, -1, 0, 0, 0, 21, false⟩ (.prim .i32) (.cons ⟨0, -1, -1, 0, 1, 1, 40, false⟩ (.prim .i16) (.cons ⟨0, -1, -1, 0, 2, 2, 2, false⟩ (.prim .i64) (.cons ⟨2, -1, -1, -1, 3, 3, 2, false⟩ (.prim .i64) (.cons ⟨5, -1, -1, -1, 4, 4, 2, false⟩ (.prim .i64) (.cons ⟨8, -1, -1, 0, 5, 5, 82, false⟩ (.list 82 93 3 (.struct 93 3 70 (some (2, 2)) (.cons ⟨0, -1, -1, 0, 0, 0, 21, false⟩ (.prim .i32) (.cons ⟨0, -1, 0, 0, 1, 1, 83, false⟩ (.prim .str) .nil)) .nil)) (.cons ⟨8, -1, 8, 0, 6, 6, 83, false⟩ (.prim .str) .nil)))))))
def kn30 : Fs := (.cons ⟨0, -1, -1, 0, 7, 7, 85, false⟩ (.struct 85 3 47 (some (2, 2)) (.cons ⟨0, -1, -1, -1, 0, 0, 21, false⟩ (.prim .i32) (.cons ⟨0, -1, -1, -1, 1, 1, 21, false⟩ (.prim .i32) .nil)) .nil) .nil)
theorem b30 : (Go.Proofs.Tryz.f30).body.map strip = some (sc_bSub X.F X.Fs fs30 kn30 [54] [55]) := by kernel_rfl
theorem ok30 : FnOK PP 30 := fnOK_of Go.Proofs.Tryz.func30 b30 (by kernel_rfl)
theorem sf30 : SubFns PP fs30 [54] := by
  simp only [SubFns, hasSub, Bool.false_eq_true, if_false, if_true, List.headD_cons, List.tail_cons, fs30]
  exact ⟨⟨ok54, fun w => (c54 w).mono fun e w' ⟨v, q1, q2, q3, q4⟩ => ⟨v, q1, q2, by simp only [SubV]; exact q3, q4⟩⟩, trivial⟩
theorem sk30 : SubFns PP kn30 [55] := by
  simp only [SubFns, hasSub, Bool.false_eq_true, if_false, if_true, List.headD_cons, List.tail_cons, kn30]
  exact ⟨⟨ok55, fun w => (c55 w).mono fun e w' ⟨v, q1, q2, q3, q4⟩ => ⟨v, q1, q2, by simp only [SubV]; exact q3, q4⟩⟩, trivial⟩
theorem c30 (w : World) : Calls PP 30 #[] w fun e w' => ∃ v, e = .returned v ∧ v.oneCell' = true ∧ FsV w' (fun k => w.heap.size ≤ k ∧ k < w'.heap.size) fs30 kn30 v ∧ Below w.heap.size w w' := bSub_ok hX fok uFs fs30 kn30 [54] [55] (by kernel_rfl) (by kernel_rfl) sf30 sk30 (by decide +kernel) Go.Proofs.Tryz.func30 b30 (by kernel_rfl) (by kernel_rfl) w
def fs15 : Fs := (.cons ⟨0, 12, -1, 0, 0, 0, 9, false⟩ (.prim .str) (.cons ⟨13, -1, -1, 0, 1, 1, 75, false⟩ (.prim .uuid) (.cons ⟨0, -1, -1, 0, 2, 17, 76, false⟩ (.list 76 87 11 (.struct 87 11 66 (some (8, 10)) (.cons ⟨0, -1, -1, 0, 0, 0, 21, false⟩ (.prim .i32) (.cons ⟨0, -1, -1, 0, 1, 1, 40, false⟩ (.prim .i16) (.cons ⟨0, -1, -1, 0, 2, 2, 2, false⟩ (.prim .i64) (.cons ⟨2, -1, -1, -1, 3, 3, 2, false⟩ (.prim .i64) (.cons ⟨5, -1, -1, -1, 4, 4, 2, false⟩ (.prim .i64) (.cons ⟨8, -1, -1, 0, 5, 5, 82, false⟩ (.list 82 93 3 (.struct 93 3 70 (some (2, 2)) (.cons ⟨0, -1, -1, 0, 0, 0, 21, false⟩ (.prim .i32) (.cons ⟨0, -1, 0, 0, 1, 1, 83, false⟩ (.prim .str) .nil)) .nil)) (.cons ⟨8, -1, 8, 0, 6, 6, 83, false⟩ (.prim .str) .nil))))))) (.cons ⟨0, -1, -1, 0, 7, 7, 85, false⟩ (.struct 85 3 47 (some (2, 2)) (.cons ⟨0, -1, -1, -1, 0, 0, 21, false⟩ (.prim .i32) (.cons ⟨0, -1, -1, -1, 1, 1, 21, false⟩ (.prim .i32) .nil)) .nil) .nil))) .nil)))
def kn15 : Fs := .nil
theorem b15 : (Go.Proofs.Tryz.f15).body.map strip = some (sc_bSub X.F X.Fs fs15 kn15 [30] []) := by kernel_rfl
theorem ok15 : FnOK PP 15 := fnOK_of Go.Proofs.Tryz.func15 b15 (by kernel_rfl)
theorem sf15 : SubFns PP fs15 [30] := by
  simp only [SubFns, hasSub, Bool.false_eq_true, if_false, if_true, List.headD_cons, List.tail_cons, fs15]
  exact ⟨⟨ok30, fun w => (c30 w).mono fun e w' ⟨v, q1, q2, q3, q4⟩ => ⟨v, q1, q2, by simp only [SubV]; exact q3, q4⟩⟩, trivial⟩
theorem sk15 : SubFns PP kn15 [] := by
  simp [SubFns, hasSub, kn15]
theorem c15 (w : World) : Calls PP 15 #[] w fun e w' => ∃ v, e = .returned v ∧ v.oneCell' = true ∧ FsV w' (fun k => w.heap.size ≤ k ∧ k < w'.heap.size) fs15 kn15 v ∧ Below w.heap.size w w' := bSub_ok hX fok uFs fs15 kn15 [30] [] (by kernel_rfl) (by kernel_rfl) sf15 sk15 (by decide +kernel) Go.Proofs.Tryz.func15 b15 (by kernel_rfl) (by kernel_rfl) w
def fs16 : Fs := (.cons ⟨0, -1, -1, 0, 0, 0, 21, false⟩ (.prim .i32) (.cons ⟨0, -1, -1, 0, 1, 1, 9, false⟩ (.prim .str) (.cons ⟨0, -1, -1, 0, 2, 2, 21, false⟩ (.prim .i32) (.cons ⟨0, -1, 0, 0, 3, 3, 83, false⟩ (.prim .str) .nil))))
def kn16 : Fs := .nil
theorem b16 : (Go.Proofs.Tryz.f16).body.map strip = some (sc_bSub X.F X.Fs fs16 kn16 [] []) := by kernel_rfl
theorem ok16 : FnOK PP 16 := fnOK_of Go.Proofs.Tryz.func16 b16 (by kernel_rfl)
theorem sf16 : SubFns PP fs16 [] := by
  simp [SubFns, hasSub, fs16]
theorem sk16 : SubFns PP kn16 [] := by
  simp [SubFns, hasSub, kn16]
theorem c16 (w : World) : Calls PP 16 #[] w fun e w' => ∃ v, e = .returned v ∧ v.oneCell' = true ∧ FsV w' (fun k => w.heap.size ≤ k ∧ k < w'.heap.size) fs16 kn16 v ∧ Below w.heap.size w w' := bSub_ok hX fok uFs fs16 kn16 [] [] (by kernel_rfl) (by kernel_rfl) sf16 sk16 (by decide +kernel) Go.Proofs.Tryz.func16 b16 (by kernel_rfl) (by kernel_rfl) w
def fs : Fs := (.cons ⟨0, -1, -1, 0, 1, 1, 57, false⟩ (.list 57 78 19 (.struct 78 19 60 (some (3, 18)) (.cons ⟨0, 12, -1, 0, 0, 0, 9, false⟩ (.prim .str) (.cons ⟨13, -1, -1, 0, 1, 1, 75, false⟩ (.prim .uuid) (.cons ⟨0, -1, -1, 0, 2, 17, 76, false⟩ (.list 76 87 11 (.struct 87 11 66 (some (8, 10)) (.cons ⟨0, -1, -1, 0, 0, 0, 21, false⟩ (.prim .i32) (.cons ⟨0, -1, -1, 0, 1, 1, 40, false⟩ (.prim .i16) (.cons ⟨0, -1, -1, 0, 2, 2, 2, false⟩ (.prim .i64) (.cons ⟨2, -1, -1, -1, 3, 3, 2, false⟩ (.prim .i64) (.cons ⟨5, -1, -1, -1, 4, 4, 2, false⟩ (.prim .i64) (.cons ⟨8, -1, -1, 0, 5, 5, 82, false⟩ (.list 82 93 3 (.struct 93 3 70 (some (2, 2)) (.cons ⟨0, -1, -1, 0, 0, 0, 21, false⟩ (.prim .i32) (.cons ⟨0, -1, 0, 0, 1, 1, 83, false⟩ (.prim .str) .nil)) .nil)) (.cons ⟨8, -1, 8, 0, 6, 6, 83, false⟩ (.prim .str) .nil))))))) (.cons ⟨0, -1, -1, 0, 7, 7, 85, false⟩ (.struct 85 3 47 (some (2, 2)) (.cons ⟨0, -1, -1, -1, 0, 0, 21, false⟩ (.prim .i32) (.cons ⟨0, -1, -1, -1, 1, 1, 21, false⟩ (.prim .i32) .nil)) .nil) .nil))) .nil))) .nil)) (.cons ⟨1, -1, -1, 0, 2, 2, 21, false⟩ (.prim .i32) .nil))
def kn : Fs := (.cons ⟨0, -1, -1, 0, 3, 3, 58, false⟩ (.list 58 101 5 (.struct 101 5 79 (some (4, 4)) (.cons ⟨0, -1, -1, 0, 0, 0, 21, false⟩ (.prim .i32) (.cons ⟨0, -1, -1, 0, 1, 1, 9, false⟩ (.prim .str) (.cons ⟨0, -1, -1, 0, 2, 2, 21, false⟩ (.prim .i32) (.cons ⟨0, -1, 0, 0, 3, 3, 83, false⟩ (.prim .str) .nil)))) .nil)) .nil)
theorem b7 : (Go.Proofs.Tryz.f7).body.map strip = some (sc_bTop X.F X.Fs X.M fs kn (9) [15] [16]) := by kernel_rfl
theorem ok7 : FnOK PP 7 := fnOK_of Go.Proofs.Tryz.func7 b7 (by kernel_rfl)
theorem sfTop : SubFns PP fs [15] := by
  simp only [SubFns, hasSub, Bool.false_eq_true, if_false, if_true, List.headD_cons, List.tail_cons, fs]
  exact ⟨⟨ok15, fun w => (c15 w).mono fun e w' ⟨v, q1, q2, q3, q4⟩ => ⟨v, q1, q2, by simp only [SubV]; exact q3, q4⟩⟩, trivial⟩
theorem skTop : SubFns PP kn [16] := by
  simp only [SubFns, hasSub, Bool.false_eq_true, if_false, if_true, List.headD_cons, List.tail_cons, kn]
  exact ⟨⟨ok16, fun w => (c16 w).mono fun e w' ⟨v, q1, q2, q3, q4⟩ => ⟨v, q1, q2, by simp only [SubV]; exact q3, q4⟩⟩, trivial⟩
theorem cSp (w : World) : Calls PP 7 #[] w fun e w' => ∃ v, e = .returned (msgV v (9)) ∧ v.oneCell' = true ∧ FsV w' (fun k => w.heap.size ≤ k ∧ k < w'.heap.size) fs kn v ∧ Below w.heap.size w w' := bTop_ok hX fok uFs arrM mB fs kn (9) [15] [16] (by kernel_rfl) (by kernel_rfl) sfTop skTop (by decide +kernel) Go.Proofs.Tryz.func7 b7 (by kernel_rfl) (by kernel_rfl) w
def sc70 : SC := .skip
theorem b70 : (Go.Proofs.Tryz.f70).body.map strip = some (sc70) := by kernel_rfl
theorem d70 : DefAt PP 70 3 [] := defAt_ok (N := 2) Go.Proofs.Tryz.func70 b70 (by kernel_rfl) (by kernel_rfl) (by decide) (by kernel_rfl) (by kernel_rfl)
def sc66 : SC := .seq (.reg [mv 3 0, nilc 4 3, fa 5 87 4 3, ⟨none, .store 2 (.tmp 5) (.const (.int .i64 (-1))), none⟩]) (.seq (.reg [mv 6 0, nilc 7 6, fa 8 87 7 4, ⟨none, .store 2 (.tmp 8) (.const (.int .i64 (-1))), none⟩]) (.seq (.reg [mv 9 0, nilc 10 9, fa 11 87 10 7, asg 2 11]) (.seq (.reg [mv 12 2]) (.seq (.reg [mv 13 2, nilc 14 13, fa 15 85 14 0, ⟨none, .store 21 (.tmp 15) (.const (.int .i32 (-1))), none⟩]) (.reg [mv 16 2, nilc 17 16, fa 18 85 17 1, ⟨none, .store 21 (.tmp 18) (.const (.int .i32 (-1))), none⟩])))))
theorem b66 : (Go.Proofs.Tryz.f66).body.map strip = some (sc66) := by kernel_rfl
theorem d66 : DefAt PP 66 11 [(3, (.int .i64 (-1))), (4, (.int .i64 (-1))), (7, (.int .i32 (-1))), (8, (.int .i32 (-1)))] := defAt_ok (N := 19) Go.Proofs.Tryz.func66 b66 (by kernel_rfl) (by kernel_rfl) (by decide) (by kernel_rfl) (by kernel_rfl)
theorem ks30 : knSet [(3, (.int .i64 (-1))), (4, (.int .i64 (-1))), (7, (.int .i32 (-1))), (8, (.int .i32 (-1)))] 11 kn30 := fun cs q h => ⟨dSetAll_find _ cs q 7 _ (by omega) (by rfl), dSetAll_find _ cs q 8 _ (by omega) (by rfl)⟩
def sc60 : SC := .skip
theorem b60 : (Go.Proofs.Tryz.f60).body.map strip = some (sc60) := by kernel_rfl
theorem d60 : DefAt PP 60 19 [] := defAt_ok (N := 2) Go.Proofs.Tryz.func60 b60 (by kernel_rfl) (by kernel_rfl) (by decide) (by kernel_rfl) (by kernel_rfl)
def sc79 : SC := .skip
theorem b79 : (Go.Proofs.Tryz.f79).body.map strip = some (sc79) := by kernel_rfl
theorem d79 : DefAt PP 79 5 [] := defAt_ok (N := 2) Go.Proofs.Tryz.func79 b79 (by kernel_rfl) (by kernel_rfl) (by decide) (by kernel_rfl) (by kernel_rfl)
def sc21 : SC := .skip
theorem b21 : (Go.Proofs.Tryz.f21).body.map strip = some (sc21) := by kernel_rfl
theorem d21 : DefAt PP 21 5 [] := defAt_ok (N := 2) Go.Proofs.Tryz.func21 b21 (by kernel_rfl) (by kernel_rfl) (by decide) (by kernel_rfl) (by kernel_rfl)
theorem dfs : DefFs PP fs := ⟨⟨⟨_, d60, ⟨(by kernel_rfl), (by kernel_rfl), trivial⟩, (by kernel_rfl)⟩, ⟨trivial, ⟨trivial, ⟨⟨⟨_, d66, ⟨(by kernel_rfl), (by kernel_rfl), ks30⟩, (by kernel_rfl)⟩, ⟨trivial, ⟨trivial, ⟨trivial, ⟨trivial, ⟨trivial, ⟨⟨⟨_, d70, ⟨(by kernel_rfl), (by kernel_rfl), trivial⟩, (by kernel_rfl)⟩, ⟨trivial, ⟨trivial, trivial⟩⟩, trivial⟩, ⟨trivial, trivial⟩⟩⟩⟩⟩⟩⟩, ⟨⟨_, d47, ⟨(by kernel_rfl), (by kernel_rfl), trivial⟩, (by kernel_rfl)⟩, ⟨trivial, ⟨trivial, trivial⟩⟩, trivial⟩⟩, trivial⟩⟩⟩, trivial⟩, ⟨trivial, trivial⟩⟩
theorem dfk : DefKn PP kn := ⟨⟨_, d79, ⟨(by kernel_rfl), (by kernel_rfl), trivial⟩, (by kernel_rfl)⟩, ⟨trivial, ⟨trivial, ⟨trivial, ⟨trivial, trivial⟩⟩⟩⟩, trivial⟩
noncomputable abbrev zc : Array Value := zcOf PP 63
noncomputable def cs : Array Value := dSetAll 0 [] zc
theorem defFn : DefFn PP 21 63 zc cs := ⟨d21.1, fun w b hc => d21.2 w b 0 zc 63 hc (by decide +kernel)⟩
theorem b12 : (Go.Proofs.Tryz.f12).body.map strip = some (sc_NewPtr 63 21) := by kernel_rfl
theorem ok12 : FnOK PP 12 := fnOK_of Go.Proofs.Tryz.func12 b12 (by kernel_rfl)
theorem cNP (w : World) : Calls PP 12 #[] w fun e w' => ∃ b, e = .returned (.pointer (some ⟨b, 0, none⟩)) ∧ w.heap.size ≤ b ∧ w'.heap[b]? = some (.cells cs 63 (0, 0)) ∧ Below w.heap.size w w' := newPtr_ok (zc_of (by kernel_rfl)) defFn Go.Proofs.Tryz.func12 b12 (by kernel_rfl) (by kernel_rfl) w
theorem b13 : (Go.Proofs.Tryz.f13).body.map strip = some (sc_MaxV 13) := by kernel_rfl
theorem ok13 : FnOK PP 13 := fnOK_of Go.Proofs.Tryz.func13 b13 (by kernel_rfl)
theorem b5 : (Go.Proofs.Tryz.f5).body.map strip = some (sc_Max 12 13 40 3) := by kernel_rfl
theorem ok5 : FnOK PP 5 := fnOK_of Go.Proofs.Tryz.func5 b5 (by kernel_rfl)
theorem cMax (w : World) : Calls PP 5 #[] w fun e w' => e = .returned (.int .i64 ((13 : Nat) : Int)) ∧ Below w.heap.size w w' := max_ok (by kernel_rfl) (by kernel_rfl) (by decide) ok12 cNP ok13 (fun w v => maxV_ok Go.Proofs.Tryz.func13 b13 (by kernel_rfl) (by kernel_rfl) w v) Go.Proofs.Tryz.func5 b5 (by kernel_rfl) (by kernel_rfl) w
theorem b17 : (Go.Proofs.Tryz.f17).body.map strip = some (sc_SetV 63 40) := by kernel_rfl
theorem ok17 : FnOK PP 17 := fnOK_of Go.Proofs.Tryz.func17 b17 (by kernel_rfl)
theorem b19 : (Go.Proofs.Tryz.f19).body.map strip = some (aTop ids 63 47 (some 9) (some (4, 4)) fs kn) := by kernel_rfl
theorem ok19 : FnOK PP 19 := fnOK_of Go.Proofs.Tryz.func19 b19 (by kernel_rfl)
def M : RTop := { S := 63, size := 5, d := 21, t := 62, N := 423, flex := (some 9), tags := (some (4, 4)), fs := fs, kn := kn }
theorem b31 : (Go.Proofs.Tryz.f31).body.map strip = some (rTop rids 63 21 62 (some 9) (some (4, 4)) fs kn) := by kernel_rfl
theorem b18 : (Go.Proofs.Tryz.f18).body.map strip = some (sc_ReadFromW 31) := by kernel_rfl
theorem ok18 : FnOK PP 18 := fnOK_of Go.Proofs.Tryz.func18 b18 (by kernel_rfl)
theorem ok31 : FnOK PP 31 := fnOK_of Go.Proofs.Tryz.func31 b31 (by kernel_rfl)
theorem cR (a : Addr) (B : Nat) (w0 : World) (h : 1 < B) (hg : ∀ w', Below B w0 w' → GlE a w') : ReadC PP rids M B G0 (errV a) 31 w0 := readFrom_ok (kr a) (fun _ => trivial) hg h (by kernel_rfl) hm ⟨_, _, rfl⟩ dfs dfk d21 (by kernel_rfl) (by kernel_rfl) trivial (by kernel_rfl) Go.Proofs.Tryz.func31 b31 (by kernel_rfl) (by kernel_rfl)
theorem b9 : (Go.Proofs.Tryz.f9).body.map strip = some (sc_Again 3 40 22 50 12 17 18 19) := by kernel_rfl
theorem hszt : ∀ f off, M.tags = some (f, off) → off < M.size ∧ 1 ≤ off := fun f off h => by
  simp only [M, Option.some.injEq, Prod.mk.injEq] at h
  obtain ⟨rfl, rfl⟩ := h
  decide
theorem cAg (a : Addr) : AgC PP X.U8 (some 9) fs kn 1 13 (GlE a) 9 :=
  again_ok (I := rids) (M := M) (gb := 1) (m := 13) (G := G0) (Gl := GlE a) (err := errV a) (by kernel_rfl) (by kernel_rfl) (by kernel_rfl) (by kernel_rfl) (by decide) ⟨_, _, rfl⟩ ok12 cNP ok17 (fun w b cs E hc hs n => setV_ok (by kernel_rfl) (by kernel_rfl) Go.Proofs.Tryz.func17 b17 (by kernel_rfl) (by kernel_rfl) w b cs E hc hs n) ok18 (fun w x y Q h => readFromW_ok ok31 Go.Proofs.Tryz.func18 b18 (by kernel_rfl) (by kernel_rfl) w x y Q h) (fun B w0 h hg => cR a B w0 h hg) ok19 (fun w b ver ts u hb hc h0 hh ht hkn hl => appendTo_calls hm ka Go.Proofs.Tryz.func19 b19 (by kernel_rfl) (by kernel_rfl) w b 0 ver ts u hb hc h0 hh ht hkn hl) (by decide +kernel) (by decide) (by kernel_rfl) (by kernel_rfl) (by decide +kernel) hszt (by kernel_rfl) (by kernel_rfl) Go.Proofs.Tryz.func9 b9 (by kernel_rfl) (by kernel_rfl) (by kernel_rfl)
theorem okv : ∀ v : Nat, v ≤ 13 → okFsR v (flexAt (some 9) v) fs = true ∧ okKn v (flexAt (some 9) v) kn = true := by decide +kernel
theorem cfs : (30 + cFs fs + cFs kn) * 1048576 ≤ 4294967295 := by decide +kernel
theorem b3 : (Go.Proofs.Tryz.f3).body.map strip = some (sc_LawAgain X.T 4 X.I 4 5 7 8 6 9 10) := by kernel_rfl
theorem law (a : Addr) (w : World) (n : Nat) (hn : n < 256) (t : Tree) (tv : Value) (ht : TV G0 w (· < w.heap.size) t tv) (hgb : 1 < w.heap.size) (hgl : ∀ w', Below w.heap.size w w' → GlE a w') (hk : KAll t) (hb : t.bulk ≤ 1048576) : Calls PP 3 #[.int .u8 (n : Int), tv] w fun e w' => e = .returned (.bool true) ∧ Below w.heap.size w w' := by
  obtain ⟨hkf, hlim⟩ := bulk_ok fs kn t hk cfs hb
  exact lawAgain_ok (G := G0) hX hm (m := 13) (Gl := GlE a) (by decide) fs kn (9) (some 9) (fun v => by simp [flexAt]) ok4 cFit ok5 cMax ok7 cSp ok8 cVer ok6 (fun w fv mflex ver t tv h0 h1 h2 h3 => cWr fs kn (by decide +kernel) (by decide +kernel) (by decide +kernel) (by decide +kernel) w fv mflex ver t tv h0 h1 h2 h3) (cAg a) ok10 cSame Go.Proofs.Tryz.func3 b3 (by kernel_rfl) (by kernel_rfl) w n hn t tv ht hgb hgl (fun v hv => okv v hv) (fun v _ => hkf v) hk.u (fun v _ => hlim v _)
end Go.Proofs.YtdnpafdgglpagaaGreatDoor.K.AgainProduceResponse
