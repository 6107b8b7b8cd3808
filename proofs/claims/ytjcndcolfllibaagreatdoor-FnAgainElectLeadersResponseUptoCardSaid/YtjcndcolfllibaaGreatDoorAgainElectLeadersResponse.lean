/- AgainElectLeadersResponse: what the law on it computes. No condition. -/
import Derived.Test.YtjcndcolfllibaaGreatDoorB0
import Derived.Test.YtjcndcolfllibaaGreatDoorQA
import Derived.Test.YtjcndcolfllibaaGreatDoorQR
import Derived.Test.YtjcndcolfllibaaGreatDoorQS
namespace Go.Proofs.YtjcndcolfllibaaGreatDoor.K.AgainElectLeadersResponse
open Go Go.RowKit Go.Proofs Go.Proofs.YtjcndcolfllibaaGreatDoor.T Go.Proofs.YtjcndcolfllibaaGreatDoor.K
set_option linter.unusedVariables false
set_option linter.unusedSimpArgs false
def fs111 : Fs := (.cons ⟨0, -1, -1, 0, 0, 0, 21, false⟩ (.prim .i32) (.cons ⟨0, -1, -1, 0, 1, 1, 42, false⟩ (.prim .i16) (.cons ⟨0, -1, 0, 0, 2, 2, 75, false⟩ (.prim .str) .nil)))
theorem b111 : (Go.Proofs.Tryz.f111).body.map strip = some (sc_bSub X.F X.Fs fs111 []) := by kernel_rfl
theorem ok111 : FnOK PP 111 := fnOK_of Go.Proofs.Tryz.func111 b111 (by kernel_rfl)
theorem sf111 : SubFns PP fs111 [] := by
  simp [SubFns, hasSub, fs111]
theorem c111 (w : World) : Calls PP 111 #[] w fun e w' => ∃ v, e = .returned v ∧ v.oneCell' = true ∧ FsV w' (fun k => w.heap.size ≤ k ∧ k < w'.heap.size) fs111 v ∧ Below w.heap.size w w' := bSub_ok hX fok uFs fs111 [] (by kernel_rfl) sf111 (by decide +kernel) Go.Proofs.Tryz.func111 b111 (by kernel_rfl) (by kernel_rfl) w
def fs48 : Fs := (.cons ⟨0, -1, -1, 0, 0, 0, 9, false⟩ (.prim .str) (.cons ⟨0, -1, -1, 0, 1, 1, 101, false⟩ (.list 101 106 4 (.struct 106 4 161 (some (3, 3)) (.cons ⟨0, -1, -1, 0, 0, 0, 21, false⟩ (.prim .i32) (.cons ⟨0, -1, -1, 0, 1, 1, 42, false⟩ (.prim .i16) (.cons ⟨0, -1, 0, 0, 2, 2, 75, false⟩ (.prim .str) .nil))))) .nil))
theorem b48 : (Go.Proofs.Tryz.f48).body.map strip = some (sc_bSub X.F X.Fs fs48 [111]) := by kernel_rfl
theorem ok48 : FnOK PP 48 := fnOK_of Go.Proofs.Tryz.func48 b48 (by kernel_rfl)
theorem sf48 : SubFns PP fs48 [111] := by
  simp only [SubFns, hasSub, Bool.false_eq_true, if_false, if_true, List.headD_cons, List.tail_cons, fs48]
  exact ⟨⟨ok111, fun w => (c111 w).mono fun e w' ⟨v, q1, q2, q3, q4⟩ => ⟨v, q1, q2, by simp only [SubV]; exact q3, q4⟩⟩, trivial⟩
theorem c48 (w : World) : Calls PP 48 #[] w fun e w' => ∃ v, e = .returned v ∧ v.oneCell' = true ∧ FsV w' (fun k => w.heap.size ≤ k ∧ k < w'.heap.size) fs48 v ∧ Below w.heap.size w w' := bSub_ok hX fok uFs fs48 [111] (by kernel_rfl) sf48 (by decide +kernel) Go.Proofs.Tryz.func48 b48 (by kernel_rfl) (by kernel_rfl) w
def fs : Fs := (.cons ⟨0, -1, -1, 0, 1, 1, 21, false⟩ (.prim .i32) (.cons ⟨1, -1, -1, 0, 2, 2, 42, false⟩ (.prim .i16) (.cons ⟨0, -1, -1, 0, 3, 3, 95, false⟩ (.list 95 103 3 (.struct 103 3 160 (some (2, 2)) (.cons ⟨0, -1, -1, 0, 0, 0, 9, false⟩ (.prim .str) (.cons ⟨0, -1, -1, 0, 1, 1, 101, false⟩ (.list 101 106 4 (.struct 106 4 161 (some (3, 3)) (.cons ⟨0, -1, -1, 0, 0, 0, 21, false⟩ (.prim .i32) (.cons ⟨0, -1, -1, 0, 1, 1, 42, false⟩ (.prim .i16) (.cons ⟨0, -1, 0, 0, 2, 2, 75, false⟩ (.prim .str) .nil))))) .nil)))) .nil)))
theorem b19 : (Go.Proofs.Tryz.f19).body.map strip = some (sc_bTop X.F X.Fs X.M fs (2) [48]) := by kernel_rfl
theorem ok19 : FnOK PP 19 := fnOK_of Go.Proofs.Tryz.func19 b19 (by kernel_rfl)
theorem sfTop : SubFns PP fs [48] := by
  simp only [SubFns, hasSub, Bool.false_eq_true, if_false, if_true, List.headD_cons, List.tail_cons, fs]
  exact ⟨⟨ok48, fun w => (c48 w).mono fun e w' ⟨v, q1, q2, q3, q4⟩ => ⟨v, q1, q2, by simp only [SubV]; exact q3, q4⟩⟩, trivial⟩
theorem cSp (w : World) : Calls PP 19 #[] w fun e w' => ∃ v, e = .returned (msgV v (2)) ∧ v.oneCell' = true ∧ FsV w' (fun k => w.heap.size ≤ k ∧ k < w'.heap.size) fs v ∧ Below w.heap.size w w' := bTop_ok hX fok uFs arrM mB fs (2) [48] (by kernel_rfl) sfTop (by decide +kernel) Go.Proofs.Tryz.func19 b19 (by kernel_rfl) (by kernel_rfl) w
def sc160 : SC := .skip
theorem b160 : (Go.Proofs.Tryz.f160).body.map strip = some (sc160) := by kernel_rfl
theorem d160 : DefAt PP 160 3 [] := defAt_ok (N := 2) Go.Proofs.Tryz.func160 b160 (by kernel_rfl) (by kernel_rfl) (by decide) (by kernel_rfl) (by kernel_rfl)
def sc161 : SC := .skip
theorem b161 : (Go.Proofs.Tryz.f161).body.map strip = some (sc161) := by kernel_rfl
theorem d161 : DefAt PP 161 4 [] := defAt_ok (N := 2) Go.Proofs.Tryz.func161 b161 (by kernel_rfl) (by kernel_rfl) (by decide) (by kernel_rfl) (by kernel_rfl)
def sc110 : SC := .skip
theorem b110 : (Go.Proofs.Tryz.f110).body.map strip = some (sc110) := by kernel_rfl
theorem d110 : DefAt PP 110 5 [] := defAt_ok (N := 2) Go.Proofs.Tryz.func110 b110 (by kernel_rfl) (by kernel_rfl) (by decide) (by kernel_rfl) (by kernel_rfl)
theorem dfs : DefFs PP fs := ⟨trivial, ⟨trivial, ⟨⟨⟨_, d160, (by kernel_rfl), (by kernel_rfl)⟩, ⟨trivial, ⟨⟨⟨_, d161, (by kernel_rfl), (by kernel_rfl)⟩, ⟨trivial, ⟨trivial, ⟨trivial, trivial⟩⟩⟩⟩, trivial⟩⟩⟩, trivial⟩⟩⟩
noncomputable abbrev zc : Array Value := zcOf PP 97
noncomputable def cs : Array Value := dSetAll 0 [] zc
theorem defFn : DefFn PP 110 97 zc cs := ⟨d110.1, fun w b hc => d110.2 w b 0 zc 97 hc (by decide +kernel)⟩
theorem b46 : (Go.Proofs.Tryz.f46).body.map strip = some (sc_NewPtr 97 110) := by kernel_rfl
theorem ok46 : FnOK PP 46 := fnOK_of Go.Proofs.Tryz.func46 b46 (by kernel_rfl)
theorem cNP (w : World) : Calls PP 46 #[] w fun e w' => ∃ b, e = .returned (.pointer (some ⟨b, 0, none⟩)) ∧ w.heap.size ≤ b ∧ w'.heap[b]? = some (.cells cs 97 (0, 0)) ∧ Below w.heap.size w w' := newPtr_ok (zc_of (by kernel_rfl)) defFn Go.Proofs.Tryz.func46 b46 (by kernel_rfl) (by kernel_rfl) w
theorem b47 : (Go.Proofs.Tryz.f47).body.map strip = some (sc_MaxV 2) := by kernel_rfl
theorem ok47 : FnOK PP 47 := fnOK_of Go.Proofs.Tryz.func47 b47 (by kernel_rfl)
theorem b18 : (Go.Proofs.Tryz.f18).body.map strip = some (sc_Max 46 47 42 3) := by kernel_rfl
theorem ok18 : FnOK PP 18 := fnOK_of Go.Proofs.Tryz.func18 b18 (by kernel_rfl)
theorem cMax (w : World) : Calls PP 18 #[] w fun e w' => e = .returned (.int .i64 ((2 : Nat) : Int)) ∧ Below w.heap.size w w' := max_ok (by kernel_rfl) (by kernel_rfl) (by decide) ok46 cNP ok47 (fun w v => maxV_ok Go.Proofs.Tryz.func47 b47 (by kernel_rfl) (by kernel_rfl) w v) Go.Proofs.Tryz.func18 b18 (by kernel_rfl) (by kernel_rfl) w
theorem b49 : (Go.Proofs.Tryz.f49).body.map strip = some (sc_SetV 97 42) := by kernel_rfl
theorem ok49 : FnOK PP 49 := fnOK_of Go.Proofs.Tryz.func49 b49 (by kernel_rfl)
theorem b51 : (Go.Proofs.Tryz.f51).body.map strip = some (aTop ids 97 19 (some 2) (some (4, 4)) fs) := by kernel_rfl
theorem ok51 : FnOK PP 51 := fnOK_of Go.Proofs.Tryz.func51 b51 (by kernel_rfl)
def M : RTop := { S := 97, size := 5, d := 110, t := 29, N := 170, flex := (some 2), tags := (some (4, 4)), fs := fs }
theorem b112 : (Go.Proofs.Tryz.f112).body.map strip = some (rTop rids 97 110 29 (some 2) (some (4, 4)) fs) := by kernel_rfl
theorem b50 : (Go.Proofs.Tryz.f50).body.map strip = some (sc_ReadFromW 112) := by kernel_rfl
theorem ok50 : FnOK PP 50 := fnOK_of Go.Proofs.Tryz.func50 b50 (by kernel_rfl)
theorem ok112 : FnOK PP 112 := fnOK_of Go.Proofs.Tryz.func112 b112 (by kernel_rfl)
theorem cR (a : Addr) (B : Nat) (w0 : World) (h : 1 < B) (hg : ∀ w', Below B w0 w' → GlE a w') : ReadC PP rids M B G0 (errV a) 112 w0 := readFrom_ok (kr a) (fun _ => trivial) hg h (by kernel_rfl) dfs d110 (by kernel_rfl) (by kernel_rfl) Go.Proofs.Tryz.func112 b112 (by kernel_rfl) (by kernel_rfl)
theorem b20 : (Go.Proofs.Tryz.f20).body.map strip = some (sc_Again 3 42 22 51 46 49 50 51) := by kernel_rfl
theorem cAg (a : Addr) : AgC PP X.U8 (some 2) fs 1 2 (GlE a) 20 :=
  again_ok (I := rids) (M := M) (gb := 1) (m := 2) (G := G0) (Gl := GlE a) (err := errV a) (by kernel_rfl) (by kernel_rfl) (by kernel_rfl) (by kernel_rfl) (by decide) ⟨_, _, rfl⟩ ok46 cNP ok49 (fun w b cs E hc hs n => setV_ok (by kernel_rfl) (by kernel_rfl) Go.Proofs.Tryz.func49 b49 (by kernel_rfl) (by kernel_rfl) w b cs E hc hs n) ok50 (fun w x y Q h => readFromW_ok ok112 Go.Proofs.Tryz.func50 b50 (by kernel_rfl) (by kernel_rfl) w x y Q h) (fun B w0 h hg => cR a B w0 h hg) ok51 (fun w b ver ts u hb hc h0 hh ht hl => appendTo_calls ka Go.Proofs.Tryz.func51 b51 (by kernel_rfl) (by kernel_rfl) w b 0 ver ts u hb hc h0 hh ht hl) (by decide +kernel) (by decide) (by kernel_rfl) (by kernel_rfl) Go.Proofs.Tryz.func20 b20 (by kernel_rfl) (by kernel_rfl) (by kernel_rfl)
theorem okv : ∀ v : Nat, v ≤ 2 → okFsR v (flexAt (some 2) v) fs = true := by decide +kernel
theorem b4 : (Go.Proofs.Tryz.f4).body.map strip = some (sc_LawAgain X.T 4 X.I 11 18 19 15 13 20 17) := by kernel_rfl
theorem law (a : Addr) (w : World) (n : Nat) (hn : n < 256) (t : Tree) (tv : Value) (ht : TV G0 w (· < w.heap.size) t tv) (hgb : 1 < w.heap.size) (hgl : ∀ w', Below w.heap.size w w' → GlE a w') (hk : KAll t) (hlim : ∀ v : Nat, v ≤ 2 → (wMsg v (flexAt (some 2) v) fs t.l t.u).length ≤ lim) : Calls PP 4 #[.int .u8 (n : Int), tv] w fun e w' => e = .returned (.bool true) ∧ Below w.heap.size w w' :=
  lawAgain_ok (G := G0) hX hm (m := 2) (Gl := GlE a) (by decide) fs (2) (some 2) (fun v => by simp [flexAt]) ok11 cFit ok18 cMax ok19 cSp ok15 cVer ok13 (cWr fs (by decide +kernel) (by decide +kernel)) (cAg a) ok17 cSame Go.Proofs.Tryz.func4 b4 (by kernel_rfl) (by kernel_rfl) w n hn t tv ht hgb hgl (fun v hv => okv v hv) (fun v _ => kAll_fs v fs t.l hk.l) hk.u hlim
def flex : Option Int := (some 2)
def mx : Nat := 2
end Go.Proofs.YtjcndcolfllibaaGreatDoor.K.AgainElectLeadersResponse

