/- AgainJoinGroupResponse: what the law on it computes. No condition. -/
import Derived.Test.YtmapoohbongifaaGreatDoorB1
import Derived.Test.YtmapoohbongifaaGreatDoorQA
import Derived.Test.YtmapoohbongifaaGreatDoorQR
import Derived.Test.YtmapoohbongifaaGreatDoorQS
namespace Go.Proofs.YtmapoohbongifaaGreatDoor.K.AgainJoinGroupResponse
open Go Go.RowKit Go.Proofs Go.Proofs.YtmapoohbongifaaGreatDoor.T Go.Proofs.YtmapoohbongifaaGreatDoor.K
set_option linter.unusedVariables false
set_option linter.unusedSimpArgs false
def fs56 : Fs := (.cons ⟨0, -1, -1, 0, 0, 0, 9, false⟩ (.prim .str) (.cons ⟨5, -1, 5, 0, 1, 1, 90, false⟩ (.prim .str) (.cons ⟨0, -1, -1, 0, 2, 2, 22, false⟩ (.prim .bytes) .nil)))
theorem b56 : (Go.Proofs.Tryz.f56).body.map strip = some (sc_bSub X.F X.Fs fs56 []) := by kernel_rfl
theorem ok56 : FnOK PP 56 := fnOK_of Go.Proofs.Tryz.func56 b56 (by kernel_rfl)
theorem sf56 : SubFns PP fs56 [] := by
  simp [SubFns, hasSub, fs56]
theorem c56 (w : World) : Calls PP 56 #[] w fun e w' => ∃ v, e = .returned v ∧ v.oneCell' = true ∧ FsV w' (fun k => w.heap.size ≤ k ∧ k < w'.heap.size) fs56 v ∧ Below w.heap.size w w' := bSub_ok hX fok uFs fs56 [] (by kernel_rfl) sf56 (by decide +kernel) Go.Proofs.Tryz.func56 b56 (by kernel_rfl) (by kernel_rfl) w
def fs : Fs := (.cons ⟨2, -1, -1, 0, 1, 1, 21, false⟩ (.prim .i32) (.cons ⟨0, -1, -1, 0, 2, 2, 42, false⟩ (.prim .i16) (.cons ⟨0, -1, -1, -1, 3, 3, 21, false⟩ (.prim .i32) (.cons ⟨7, -1, 7, 0, 4, 4, 90, false⟩ (.prim .str) (.cons ⟨0, -1, 7, 0, 5, 5, 90, false⟩ (.prim .str) (.cons ⟨0, -1, -1, 0, 6, 6, 9, false⟩ (.prim .str) (.cons ⟨9, -1, -1, 0, 7, 7, 4, false⟩ (.prim .bool) (.cons ⟨0, -1, -1, 0, 8, 8, 9, false⟩ (.prim .str) (.cons ⟨0, -1, -1, 0, 9, 9, 144, false⟩ (.list 144 150 4 (.struct 150 4 143 (some (3, 3)) (.cons ⟨0, -1, -1, 0, 0, 0, 9, false⟩ (.prim .str) (.cons ⟨5, -1, 5, 0, 1, 1, 90, false⟩ (.prim .str) (.cons ⟨0, -1, -1, 0, 2, 2, 22, false⟩ (.prim .bytes) .nil))))) .nil)))))))))
theorem b25 : (Go.Proofs.Tryz.f25).body.map strip = some (sc_bTop X.F X.Fs X.M fs (6) [56]) := by kernel_rfl
theorem ok25 : FnOK PP 25 := fnOK_of Go.Proofs.Tryz.func25 b25 (by kernel_rfl)
theorem sfTop : SubFns PP fs [56] := by
  simp only [SubFns, hasSub, Bool.false_eq_true, if_false, if_true, List.headD_cons, List.tail_cons, fs]
  exact ⟨⟨ok56, fun w => (c56 w).mono fun e w' ⟨v, q1, q2, q3, q4⟩ => ⟨v, q1, q2, by simp only [SubV]; exact q3, q4⟩⟩, trivial⟩
theorem cSp (w : World) : Calls PP 25 #[] w fun e w' => ∃ v, e = .returned (msgV v (6)) ∧ v.oneCell' = true ∧ FsV w' (fun k => w.heap.size ≤ k ∧ k < w'.heap.size) fs v ∧ Below w.heap.size w w' := bTop_ok hX fok uFs arrM mB fs (6) [56] (by kernel_rfl) sfTop (by decide +kernel) Go.Proofs.Tryz.func25 b25 (by kernel_rfl) (by kernel_rfl) w
def sc143 : SC := .skip
theorem b143 : (Go.Proofs.Tryz.f143).body.map strip = some (sc143) := by kernel_rfl
theorem d143 : DefAt PP 143 4 [] := defAt_ok (N := 2) Go.Proofs.Tryz.func143 b143 (by kernel_rfl) (by kernel_rfl) (by decide) (by kernel_rfl) (by kernel_rfl)
def sc96 : SC := .reg [mv 2 0, nilc 3 2, fa 4 146 3 3, ⟨none, .store 21 (.tmp 4) (.const (.int .i32 (-1))), none⟩]
theorem b96 : (Go.Proofs.Tryz.f96).body.map strip = some (sc96) := by kernel_rfl
theorem d96 : DefAt PP 96 11 [(3, (.int .i32 (-1)))] := defAt_ok (N := 5) Go.Proofs.Tryz.func96 b96 (by kernel_rfl) (by kernel_rfl) (by decide) (by kernel_rfl) (by kernel_rfl)
theorem dfs : DefFs PP fs := ⟨trivial, ⟨trivial, ⟨trivial, ⟨trivial, ⟨trivial, ⟨trivial, ⟨trivial, ⟨trivial, ⟨⟨⟨_, d143, (by kernel_rfl), (by kernel_rfl)⟩, ⟨trivial, ⟨trivial, ⟨trivial, trivial⟩⟩⟩⟩, trivial⟩⟩⟩⟩⟩⟩⟩⟩⟩
noncomputable abbrev zc : Array Value := zcOf PP 146
noncomputable def cs : Array Value := dSetAll 0 [(3, (.int .i32 (-1)))] zc
theorem defFn : DefFn PP 96 146 zc cs := ⟨d96.1, fun w b hc => d96.2 w b 0 zc 146 hc (by decide +kernel)⟩
theorem b54 : (Go.Proofs.Tryz.f54).body.map strip = some (sc_NewPtr 146 96) := by kernel_rfl
theorem ok54 : FnOK PP 54 := fnOK_of Go.Proofs.Tryz.func54 b54 (by kernel_rfl)
theorem cNP (w : World) : Calls PP 54 #[] w fun e w' => ∃ b, e = .returned (.pointer (some ⟨b, 0, none⟩)) ∧ w.heap.size ≤ b ∧ w'.heap[b]? = some (.cells cs 146 (0, 0)) ∧ Below w.heap.size w w' := newPtr_ok (zc_of (by kernel_rfl)) defFn Go.Proofs.Tryz.func54 b54 (by kernel_rfl) (by kernel_rfl) w
theorem b55 : (Go.Proofs.Tryz.f55).body.map strip = some (sc_MaxV 9) := by kernel_rfl
theorem ok55 : FnOK PP 55 := fnOK_of Go.Proofs.Tryz.func55 b55 (by kernel_rfl)
theorem b24 : (Go.Proofs.Tryz.f24).body.map strip = some (sc_Max 54 55 42 3) := by kernel_rfl
theorem ok24 : FnOK PP 24 := fnOK_of Go.Proofs.Tryz.func24 b24 (by kernel_rfl)
theorem cMax (w : World) : Calls PP 24 #[] w fun e w' => e = .returned (.int .i64 ((9 : Nat) : Int)) ∧ Below w.heap.size w w' := max_ok (by kernel_rfl) (by kernel_rfl) (by decide) ok54 cNP ok55 (fun w v => maxV_ok Go.Proofs.Tryz.func55 b55 (by kernel_rfl) (by kernel_rfl) w v) Go.Proofs.Tryz.func24 b24 (by kernel_rfl) (by kernel_rfl) w
theorem b57 : (Go.Proofs.Tryz.f57).body.map strip = some (sc_SetV 146 42) := by kernel_rfl
theorem ok57 : FnOK PP 57 := fnOK_of Go.Proofs.Tryz.func57 b57 (by kernel_rfl)
theorem b59 : (Go.Proofs.Tryz.f59).body.map strip = some (aTopL ids 9 146 23 (some 6) (some (10, 10)) fs) := by kernel_rfl
theorem ok59 : FnOK PP 59 := fnOK_of Go.Proofs.Tryz.func59 b59 (by kernel_rfl)
def M : RTop := { S := 146, size := 11, d := 96, t := 29, N := 197, flex := (some 6), tags := (some (10, 10)), fs := fs }
theorem b97 : (Go.Proofs.Tryz.f97).body.map strip = some (rTopL rids 9 146 96 29 (some 6) (some (10, 10)) fs) := by kernel_rfl
theorem b58 : (Go.Proofs.Tryz.f58).body.map strip = some (sc_ReadFromW 97) := by kernel_rfl
theorem ok58 : FnOK PP 58 := fnOK_of Go.Proofs.Tryz.func58 b58 (by kernel_rfl)
theorem ok97 : FnOK PP 97 := fnOK_of Go.Proofs.Tryz.func97 b97 (by kernel_rfl)
theorem cR (a : Addr) (B : Nat) (w0 : World) (h : 1 < B) (hg : ∀ w', Below B w0 w' → GlE a w') : ReadC PP rids M B G0 (errV a) 97 w0 := readFromL_ok (tStr := 9) (kr a) (fun _ => trivial) hg h (by kernel_rfl) dfs d96 (by kernel_rfl) (by kernel_rfl) Go.Proofs.Tryz.func97 b97 (by kernel_rfl) (by kernel_rfl)
theorem b26 : (Go.Proofs.Tryz.f26).body.map strip = some (sc_Again 3 42 22 52 54 57 58 59) := by kernel_rfl
theorem cAg (a : Addr) : AgC PP X.U8 (some 6) fs 1 9 (GlE a) 26 :=
  againL_ok (I := rids) (M := M) (gb := 1) (m := 9) (G := G0) (Gl := GlE a) (err := errV a) (by kernel_rfl) (by kernel_rfl) (by kernel_rfl) (by kernel_rfl) (by decide) ⟨_, _, rfl⟩ ok54 cNP ok57 (fun w b cs E hc hs n => setV_ok (by kernel_rfl) (by kernel_rfl) Go.Proofs.Tryz.func57 b57 (by kernel_rfl) (by kernel_rfl) w b cs E hc hs n) ok58 (fun w x y Q h => readFromW_ok ok97 Go.Proofs.Tryz.func58 b58 (by kernel_rfl) (by kernel_rfl) w x y Q h) (fun B w0 h hg => cR a B w0 h hg) ok59 (fun w b ver ts u hb hc h0 hh ht hn hl => appendToL_calls ka Go.Proofs.Tryz.func59 b59 (by kernel_rfl) (by kernel_rfl) w b 0 ver ts u hb hc h0 hh hn ht hl) (by decide +kernel) (by decide) (by kernel_rfl) (by kernel_rfl) Go.Proofs.Tryz.func26 b26 (by kernel_rfl) (by kernel_rfl) (by kernel_rfl)
theorem okv : ∀ v : Nat, v ≤ 9 → okFsR v (flexAt (some 6) v) fs = true := by decide +kernel
theorem b7 : (Go.Proofs.Tryz.f7).body.map strip = some (sc_LawAgain X.T 4 X.I 8 24 25 12 10 26 17) := by kernel_rfl
theorem law (a : Addr) (w : World) (n : Nat) (hn : n < 256) (t : Tree) (tv : Value) (ht : TV G0 w (· < w.heap.size) t tv) (hgb : 1 < w.heap.size) (hgl : ∀ w', Below w.heap.size w w' → GlE a w') (hk : KAll t) (hlim : ∀ v : Nat, v ≤ 9 → (wMsg v (flexAt (some 6) v) fs t.l t.u).length ≤ lim) : Calls PP 7 #[.int .u8 (n : Int), tv] w fun e w' => e = .returned (.bool true) ∧ Below w.heap.size w w' :=
  lawAgain_ok (G := G0) hX hm (m := 9) (Gl := GlE a) (by decide) fs (6) (some 6) (fun v => by simp [flexAt]) ok8 cFit ok24 cMax ok25 cSp ok12 cVer ok10 (cWr fs (by decide +kernel) (by decide +kernel)) (cAg a) ok17 cSame Go.Proofs.Tryz.func7 b7 (by kernel_rfl) (by kernel_rfl) w n hn t tv ht hgb hgl (fun v hv => okv v hv) (fun v _ => kAll_fs v fs t.l hk.l) hk.u hlim
def flex : Option Int := (some 6)
def mx : Nat := 9
end Go.Proofs.YtmapoohbongifaaGreatDoor.K.AgainJoinGroupResponse

