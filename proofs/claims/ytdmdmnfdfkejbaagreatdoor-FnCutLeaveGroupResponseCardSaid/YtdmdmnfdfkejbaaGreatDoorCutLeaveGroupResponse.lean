/- CutLeaveGroupResponse: what the law on it computes. No condition. -/
import Derived.Test.YtdmdmnfdfkejbaaGreatDoorB1
import Derived.Test.YtdmdmnfdfkejbaaGreatDoorQA
import Derived.Test.YtdmdmnfdfkejbaaGreatDoorQR
import Derived.Test.YtdmdmnfdfkejbaaGreatDoorQS
namespace Go.Proofs.YtdmdmnfdfkejbaaGreatDoor.K.CutLeaveGroupResponse
open Go Go.RowKit Go.Proofs Go.Proofs.YtdmdmnfdfkejbaaGreatDoor.T Go.Proofs.YtdmdmnfdfkejbaaGreatDoor.K
set_option linter.unusedVariables false
set_option linter.unusedSimpArgs false
def fs70 : Fs := (.cons ⟨0, -1, -1, 0, 0, 0, 9, false⟩ (.prim .str) (.cons ⟨0, -1, 0, 0, 1, 1, 73, false⟩ (.prim .str) (.cons ⟨0, -1, -1, 0, 2, 2, 42, false⟩ (.prim .i16) .nil)))
theorem b70 : (Go.Proofs.Tryz.f70).body.map strip = some (sc_bSub X.F X.Fs fs70 []) := by kernel_rfl
theorem ok70 : FnOK PP 70 := fnOK_of Go.Proofs.Tryz.func70 b70 (by kernel_rfl)
theorem sf70 : SubFns PP fs70 [] := by
  simp [SubFns, hasSub, fs70]
theorem c70 (w : World) : Calls PP 70 #[] w fun e w' => ∃ v, e = .returned v ∧ v.oneCell' = true ∧ FsV w' (fun k => w.heap.size ≤ k ∧ k < w'.heap.size) fs70 v ∧ Below w.heap.size w w' := bSub_ok hX fok uFs fs70 [] (by kernel_rfl) sf70 (by decide +kernel) Go.Proofs.Tryz.func70 b70 (by kernel_rfl) (by kernel_rfl) w
def fs : Fs := (.cons ⟨1, -1, -1, 0, 1, 1, 21, false⟩ (.prim .i32) (.cons ⟨0, -1, -1, 0, 2, 2, 42, false⟩ (.prim .i16) (.cons ⟨3, -1, -1, 0, 3, 3, 115, false⟩ (.list 115 120 4 (.struct 120 4 159 (some (3, 3)) (.cons ⟨0, -1, -1, 0, 0, 0, 9, false⟩ (.prim .str) (.cons ⟨0, -1, 0, 0, 1, 1, 73, false⟩ (.prim .str) (.cons ⟨0, -1, -1, 0, 2, 2, 42, false⟩ (.prim .i16) .nil))))) .nil)))
theorem b31 : (Go.Proofs.Tryz.f31).body.map strip = some (sc_bTop X.F X.Fs X.M fs (4) [70]) := by kernel_rfl
theorem ok31 : FnOK PP 31 := fnOK_of Go.Proofs.Tryz.func31 b31 (by kernel_rfl)
theorem sfTop : SubFns PP fs [70] := by
  simp only [SubFns, hasSub, Bool.false_eq_true, if_false, if_true, List.headD_cons, List.tail_cons, fs]
  exact ⟨⟨ok70, fun w => (c70 w).mono fun e w' ⟨v, q1, q2, q3, q4⟩ => ⟨v, q1, q2, by simp only [SubV]; exact q3, q4⟩⟩, trivial⟩
theorem cSp (w : World) : Calls PP 31 #[] w fun e w' => ∃ v, e = .returned (msgV v (4)) ∧ v.oneCell' = true ∧ FsV w' (fun k => w.heap.size ≤ k ∧ k < w'.heap.size) fs v ∧ Below w.heap.size w w' := bTop_ok hX fok uFs arrM mB fs (4) [70] (by kernel_rfl) sfTop (by decide +kernel) Go.Proofs.Tryz.func31 b31 (by kernel_rfl) (by kernel_rfl) w
def sc159 : SC := .skip
theorem b159 : (Go.Proofs.Tryz.f159).body.map strip = some (sc159) := by kernel_rfl
theorem d159 : DefAt PP 159 4 [] := defAt_ok (N := 2) Go.Proofs.Tryz.func159 b159 (by kernel_rfl) (by kernel_rfl) (by decide) (by kernel_rfl) (by kernel_rfl)
def sc118 : SC := .skip
theorem b118 : (Go.Proofs.Tryz.f118).body.map strip = some (sc118) := by kernel_rfl
theorem d118 : DefAt PP 118 5 [] := defAt_ok (N := 2) Go.Proofs.Tryz.func118 b118 (by kernel_rfl) (by kernel_rfl) (by decide) (by kernel_rfl) (by kernel_rfl)
theorem dfs : DefFs PP fs := ⟨trivial, ⟨trivial, ⟨⟨⟨_, d159, (by kernel_rfl), (by kernel_rfl)⟩, ⟨trivial, ⟨trivial, ⟨trivial, trivial⟩⟩⟩⟩, trivial⟩⟩⟩
noncomputable abbrev zc : Array Value := zcOf PP 117
noncomputable def cs : Array Value := dSetAll 0 [] zc
theorem defFn : DefFn PP 118 117 zc cs := ⟨d118.1, fun w b hc => d118.2 w b 0 zc 117 hc (by decide +kernel)⟩
theorem b68 : (Go.Proofs.Tryz.f68).body.map strip = some (sc_NewPtr 117 118) := by kernel_rfl
theorem ok68 : FnOK PP 68 := fnOK_of Go.Proofs.Tryz.func68 b68 (by kernel_rfl)
theorem cNP (w : World) : Calls PP 68 #[] w fun e w' => ∃ b, e = .returned (.pointer (some ⟨b, 0, none⟩)) ∧ w.heap.size ≤ b ∧ w'.heap[b]? = some (.cells cs 117 (0, 0)) ∧ Below w.heap.size w w' := newPtr_ok (zc_of (by kernel_rfl)) defFn Go.Proofs.Tryz.func68 b68 (by kernel_rfl) (by kernel_rfl) w
theorem b69 : (Go.Proofs.Tryz.f69).body.map strip = some (sc_MaxV 5) := by kernel_rfl
theorem ok69 : FnOK PP 69 := fnOK_of Go.Proofs.Tryz.func69 b69 (by kernel_rfl)
theorem b30 : (Go.Proofs.Tryz.f30).body.map strip = some (sc_Max 68 69 42 3) := by kernel_rfl
theorem ok30 : FnOK PP 30 := fnOK_of Go.Proofs.Tryz.func30 b30 (by kernel_rfl)
theorem cMax (w : World) : Calls PP 30 #[] w fun e w' => e = .returned (.int .i64 ((5 : Nat) : Int)) ∧ Below w.heap.size w w' := max_ok (by kernel_rfl) (by kernel_rfl) (by decide) ok68 cNP ok69 (fun w v => maxV_ok Go.Proofs.Tryz.func69 b69 (by kernel_rfl) (by kernel_rfl) w v) Go.Proofs.Tryz.func30 b30 (by kernel_rfl) (by kernel_rfl) w
theorem b71 : (Go.Proofs.Tryz.f71).body.map strip = some (sc_SetV 117 42) := by kernel_rfl
theorem ok71 : FnOK PP 71 := fnOK_of Go.Proofs.Tryz.func71 b71 (by kernel_rfl)
theorem b73 : (Go.Proofs.Tryz.f73).body.map strip = some (aTop ids 117 15 (some 4) (some (4, 4)) fs) := by kernel_rfl
theorem ok73 : FnOK PP 73 := fnOK_of Go.Proofs.Tryz.func73 b73 (by kernel_rfl)
def M : RTop := { S := 117, size := 5, d := 118, t := 22, N := 121, flex := (some 4), tags := (some (4, 4)), fs := fs }
theorem b119 : (Go.Proofs.Tryz.f119).body.map strip = some (rTop rids 117 118 22 (some 4) (some (4, 4)) fs) := by kernel_rfl
theorem b72 : (Go.Proofs.Tryz.f72).body.map strip = some (sc_ReadFromW 119) := by kernel_rfl
theorem ok72 : FnOK PP 72 := fnOK_of Go.Proofs.Tryz.func72 b72 (by kernel_rfl)
theorem ok119 : FnOK PP 119 := fnOK_of Go.Proofs.Tryz.func119 b119 (by kernel_rfl)
theorem cR (a : Addr) (B : Nat) (w0 : World) (h : 0 < B) (hg : ∀ w', Below B w0 w' → GlE a w') : ReadC PP rids M B G0 (errV a) 119 w0 := readFrom_ok (kr a) (fun _ => trivial) hg h (by kernel_rfl) dfs d118 (by kernel_rfl) (by kernel_rfl) Go.Proofs.Tryz.func119 b119 (by kernel_rfl) (by kernel_rfl)
theorem b32 : (Go.Proofs.Tryz.f32).body.map strip = some (sc_Again 3 42 22 51 68 71 72 73) := by kernel_rfl
theorem cAg (a : Addr) : AgC PP X.U8 (some 4) fs 0 5 (GlE a) 32 :=
  again_ok (I := rids) (M := M) (gb := 0) (m := 5) (G := G0) (Gl := GlE a) (err := errV a) (by kernel_rfl) (by kernel_rfl) (by kernel_rfl) (by kernel_rfl) (by decide) ⟨_, _, rfl⟩ ok68 cNP ok71 (fun w b cs E hc hs n => setV_ok (by kernel_rfl) (by kernel_rfl) Go.Proofs.Tryz.func71 b71 (by kernel_rfl) (by kernel_rfl) w b cs E hc hs n) ok72 (fun w x y Q h => readFromW_ok ok119 Go.Proofs.Tryz.func72 b72 (by kernel_rfl) (by kernel_rfl) w x y Q h) (fun B w0 h hg => cR a B w0 h hg) ok73 (fun w b ver ts u hb hc h0 hh ht hl => appendTo_calls ka Go.Proofs.Tryz.func73 b73 (by kernel_rfl) (by kernel_rfl) w b 0 ver ts u hb hc h0 hh ht hl) (by decide +kernel) (by decide) (by kernel_rfl) (by kernel_rfl) Go.Proofs.Tryz.func32 b32 (by kernel_rfl) (by kernel_rfl) (by kernel_rfl)
theorem okv : ∀ v : Nat, v ≤ 5 → okFsR v (flexAt (some 4) v) fs = true := by decide +kernel
theorem b8 : (Go.Proofs.Tryz.f8).body.map strip = some (sc_LawCut X.T 4 X.I X.Bs 27 11 30 31 15 13 32) := by kernel_rfl
theorem law (a : Addr) (w : World) (n at_ : Nat) (hn : n < 256) (hat : at_ < 65536) (t : Tree) (tv : Value) (ht : TV G0 w (· < w.heap.size) t tv) (hgb : 0 < w.heap.size) (hgl : ∀ w', Below w.heap.size w w' → GlE a w') (hk : KAll t) (hlim : ∀ v : Nat, v ≤ 5 → (wMsg v (flexAt (some 4) v) fs t.l t.u).length ≤ lim) : Calls PP 8 #[.int .u8 (n : Int), tv, .int .u16 (at_ : Int)] w fun e w' => e = .returned (.bool true) ∧ Below w.heap.size w w' :=
  lawCut_ok (G := G0) hX hm (by kernel_rfl) (m := 5) (Gl := GlE a) (by decide) fs (4) (some 4) (fun v => by simp [flexAt]) ok11 cFit ok30 cMax ok31 cSp ok15 cVer ok13 (cWr fs (by decide +kernel) (by decide +kernel)) (cAg a) Go.Proofs.Tryz.func8 b8 (by kernel_rfl) (by kernel_rfl) w n at_ hn hat t tv ht hgb hgl (fun v hv => okv v hv) (fun v _ => kAll_fs v fs t.l hk.l) hk.u hlim
def flex : Option Int := (some 4)
def mx : Nat := 5
end Go.Proofs.YtdmdmnfdfkejbaaGreatDoor.K.CutLeaveGroupResponse

