/- CutDeleteRecordsRequest: what the law on it computes. No condition. -/
import Derived.Test.YtdmdmnfdfkejbaaGreatDoorB1
import Derived.Test.YtdmdmnfdfkejbaaGreatDoorQA
import Derived.Test.YtdmdmnfdfkejbaaGreatDoorQR
import Derived.Test.YtdmdmnfdfkejbaaGreatDoorQS
namespace Go.Proofs.YtdmdmnfdfkejbaaGreatDoor.K.CutDeleteRecordsRequest
open Go Go.RowKit Go.Proofs Go.Proofs.YtdmdmnfdfkejbaaGreatDoor.T Go.Proofs.YtdmdmnfdfkejbaaGreatDoor.K
set_option linter.unusedVariables false
set_option linter.unusedSimpArgs false
def fs121 : Fs := (.cons ⟨0, -1, -1, 0, 0, 0, 21, false⟩ (.prim .i32) (.cons ⟨0, -1, -1, 0, 1, 1, 2, false⟩ (.prim .i64) .nil))
theorem b121 : (Go.Proofs.Tryz.f121).body.map strip = some (sc_bSub X.F X.Fs fs121 []) := by kernel_rfl
theorem ok121 : FnOK PP 121 := fnOK_of Go.Proofs.Tryz.func121 b121 (by kernel_rfl)
theorem sf121 : SubFns PP fs121 [] := by
  simp [SubFns, hasSub, fs121]
theorem c121 (w : World) : Calls PP 121 #[] w fun e w' => ∃ v, e = .returned v ∧ v.oneCell' = true ∧ FsV w' (fun k => w.heap.size ≤ k ∧ k < w'.heap.size) fs121 v ∧ Below w.heap.size w w' := bSub_ok hX fok uFs fs121 [] (by kernel_rfl) sf121 (by decide +kernel) Go.Proofs.Tryz.func121 b121 (by kernel_rfl) (by kernel_rfl) w
def fs76 : Fs := (.cons ⟨0, -1, -1, 0, 0, 0, 9, false⟩ (.prim .str) (.cons ⟨0, -1, -1, 0, 1, 1, 125, false⟩ (.list 125 130 3 (.struct 130 3 161 (some (2, 2)) (.cons ⟨0, -1, -1, 0, 0, 0, 21, false⟩ (.prim .i32) (.cons ⟨0, -1, -1, 0, 1, 1, 2, false⟩ (.prim .i64) .nil)))) .nil))
theorem b76 : (Go.Proofs.Tryz.f76).body.map strip = some (sc_bSub X.F X.Fs fs76 [121]) := by kernel_rfl
theorem ok76 : FnOK PP 76 := fnOK_of Go.Proofs.Tryz.func76 b76 (by kernel_rfl)
theorem sf76 : SubFns PP fs76 [121] := by
  simp only [SubFns, hasSub, Bool.false_eq_true, if_false, if_true, List.headD_cons, List.tail_cons, fs76]
  exact ⟨⟨ok121, fun w => (c121 w).mono fun e w' ⟨v, q1, q2, q3, q4⟩ => ⟨v, q1, q2, by simp only [SubV]; exact q3, q4⟩⟩, trivial⟩
theorem c76 (w : World) : Calls PP 76 #[] w fun e w' => ∃ v, e = .returned v ∧ v.oneCell' = true ∧ FsV w' (fun k => w.heap.size ≤ k ∧ k < w'.heap.size) fs76 v ∧ Below w.heap.size w w' := bSub_ok hX fok uFs fs76 [121] (by kernel_rfl) sf76 (by decide +kernel) Go.Proofs.Tryz.func76 b76 (by kernel_rfl) (by kernel_rfl) w
def fs : Fs := (.cons ⟨0, -1, -1, 0, 1, 1, 121, false⟩ (.list 121 127 3 (.struct 127 3 160 (some (2, 2)) (.cons ⟨0, -1, -1, 0, 0, 0, 9, false⟩ (.prim .str) (.cons ⟨0, -1, -1, 0, 1, 1, 125, false⟩ (.list 125 130 3 (.struct 130 3 161 (some (2, 2)) (.cons ⟨0, -1, -1, 0, 0, 0, 21, false⟩ (.prim .i32) (.cons ⟨0, -1, -1, 0, 1, 1, 2, false⟩ (.prim .i64) .nil)))) .nil)))) (.cons ⟨0, -1, -1, 15000, 2, 2, 21, false⟩ (.prim .i32) .nil))
theorem b34 : (Go.Proofs.Tryz.f34).body.map strip = some (sc_bTop X.F X.Fs X.M fs (2) [76]) := by kernel_rfl
theorem ok34 : FnOK PP 34 := fnOK_of Go.Proofs.Tryz.func34 b34 (by kernel_rfl)
theorem sfTop : SubFns PP fs [76] := by
  simp only [SubFns, hasSub, Bool.false_eq_true, if_false, if_true, List.headD_cons, List.tail_cons, fs]
  exact ⟨⟨ok76, fun w => (c76 w).mono fun e w' ⟨v, q1, q2, q3, q4⟩ => ⟨v, q1, q2, by simp only [SubV]; exact q3, q4⟩⟩, trivial⟩
theorem cSp (w : World) : Calls PP 34 #[] w fun e w' => ∃ v, e = .returned (msgV v (2)) ∧ v.oneCell' = true ∧ FsV w' (fun k => w.heap.size ≤ k ∧ k < w'.heap.size) fs v ∧ Below w.heap.size w w' := bTop_ok hX fok uFs arrM mB fs (2) [76] (by kernel_rfl) sfTop (by decide +kernel) Go.Proofs.Tryz.func34 b34 (by kernel_rfl) (by kernel_rfl) w
def sc160 : SC := .skip
theorem b160 : (Go.Proofs.Tryz.f160).body.map strip = some (sc160) := by kernel_rfl
theorem d160 : DefAt PP 160 3 [] := defAt_ok (N := 2) Go.Proofs.Tryz.func160 b160 (by kernel_rfl) (by kernel_rfl) (by decide) (by kernel_rfl) (by kernel_rfl)
def sc161 : SC := .skip
theorem b161 : (Go.Proofs.Tryz.f161).body.map strip = some (sc161) := by kernel_rfl
theorem d161 : DefAt PP 161 3 [] := defAt_ok (N := 2) Go.Proofs.Tryz.func161 b161 (by kernel_rfl) (by kernel_rfl) (by decide) (by kernel_rfl) (by kernel_rfl)
def sc120 : SC := .reg [mv 2 0, nilc 3 2, fa 4 123 3 2, ⟨none, .store 21 (.tmp 4) (.const (.int .i32 15000)), none⟩]
theorem b120 : (Go.Proofs.Tryz.f120).body.map strip = some (sc120) := by kernel_rfl
theorem d120 : DefAt PP 120 4 [(2, (.int .i32 15000))] := defAt_ok (N := 5) Go.Proofs.Tryz.func120 b120 (by kernel_rfl) (by kernel_rfl) (by decide) (by kernel_rfl) (by kernel_rfl)
theorem dfs : DefFs PP fs := ⟨⟨⟨_, d160, (by kernel_rfl), (by kernel_rfl)⟩, ⟨trivial, ⟨⟨⟨_, d161, (by kernel_rfl), (by kernel_rfl)⟩, ⟨trivial, ⟨trivial, trivial⟩⟩⟩, trivial⟩⟩⟩, ⟨trivial, trivial⟩⟩
noncomputable abbrev zc : Array Value := zcOf PP 123
noncomputable def cs : Array Value := dSetAll 0 [(2, (.int .i32 15000))] zc
theorem defFn : DefFn PP 120 123 zc cs := ⟨d120.1, fun w b hc => d120.2 w b 0 zc 123 hc (by decide +kernel)⟩
theorem b74 : (Go.Proofs.Tryz.f74).body.map strip = some (sc_NewPtr 123 120) := by kernel_rfl
theorem ok74 : FnOK PP 74 := fnOK_of Go.Proofs.Tryz.func74 b74 (by kernel_rfl)
theorem cNP (w : World) : Calls PP 74 #[] w fun e w' => ∃ b, e = .returned (.pointer (some ⟨b, 0, none⟩)) ∧ w.heap.size ≤ b ∧ w'.heap[b]? = some (.cells cs 123 (0, 0)) ∧ Below w.heap.size w w' := newPtr_ok (zc_of (by kernel_rfl)) defFn Go.Proofs.Tryz.func74 b74 (by kernel_rfl) (by kernel_rfl) w
theorem b75 : (Go.Proofs.Tryz.f75).body.map strip = some (sc_MaxV 2) := by kernel_rfl
theorem ok75 : FnOK PP 75 := fnOK_of Go.Proofs.Tryz.func75 b75 (by kernel_rfl)
theorem b33 : (Go.Proofs.Tryz.f33).body.map strip = some (sc_Max 74 75 42 3) := by kernel_rfl
theorem ok33 : FnOK PP 33 := fnOK_of Go.Proofs.Tryz.func33 b33 (by kernel_rfl)
theorem cMax (w : World) : Calls PP 33 #[] w fun e w' => e = .returned (.int .i64 ((2 : Nat) : Int)) ∧ Below w.heap.size w w' := max_ok (by kernel_rfl) (by kernel_rfl) (by decide) ok74 cNP ok75 (fun w v => maxV_ok Go.Proofs.Tryz.func75 b75 (by kernel_rfl) (by kernel_rfl) w v) Go.Proofs.Tryz.func33 b33 (by kernel_rfl) (by kernel_rfl) w
theorem b77 : (Go.Proofs.Tryz.f77).body.map strip = some (sc_SetV 123 42) := by kernel_rfl
theorem ok77 : FnOK PP 77 := fnOK_of Go.Proofs.Tryz.func77 b77 (by kernel_rfl)
theorem b79 : (Go.Proofs.Tryz.f79).body.map strip = some (aTop ids 123 17 (some 2) (some (3, 3)) fs) := by kernel_rfl
theorem ok79 : FnOK PP 79 := fnOK_of Go.Proofs.Tryz.func79 b79 (by kernel_rfl)
def M : RTop := { S := 123, size := 4, d := 120, t := 27, N := 150, flex := (some 2), tags := (some (3, 3)), fs := fs }
theorem b122 : (Go.Proofs.Tryz.f122).body.map strip = some (rTop rids 123 120 27 (some 2) (some (3, 3)) fs) := by kernel_rfl
theorem b78 : (Go.Proofs.Tryz.f78).body.map strip = some (sc_ReadFromW 122) := by kernel_rfl
theorem ok78 : FnOK PP 78 := fnOK_of Go.Proofs.Tryz.func78 b78 (by kernel_rfl)
theorem ok122 : FnOK PP 122 := fnOK_of Go.Proofs.Tryz.func122 b122 (by kernel_rfl)
theorem cR (a : Addr) (B : Nat) (w0 : World) (h : 0 < B) (hg : ∀ w', Below B w0 w' → GlE a w') : ReadC PP rids M B G0 (errV a) 122 w0 := readFrom_ok (kr a) (fun _ => trivial) hg h (by kernel_rfl) dfs d120 (by kernel_rfl) (by kernel_rfl) Go.Proofs.Tryz.func122 b122 (by kernel_rfl) (by kernel_rfl)
theorem b35 : (Go.Proofs.Tryz.f35).body.map strip = some (sc_Again 3 42 22 51 74 77 78 79) := by kernel_rfl
theorem cAg (a : Addr) : AgC PP X.U8 (some 2) fs 0 2 (GlE a) 35 :=
  again_ok (I := rids) (M := M) (gb := 0) (m := 2) (G := G0) (Gl := GlE a) (err := errV a) (by kernel_rfl) (by kernel_rfl) (by kernel_rfl) (by kernel_rfl) (by decide) ⟨_, _, rfl⟩ ok74 cNP ok77 (fun w b cs E hc hs n => setV_ok (by kernel_rfl) (by kernel_rfl) Go.Proofs.Tryz.func77 b77 (by kernel_rfl) (by kernel_rfl) w b cs E hc hs n) ok78 (fun w x y Q h => readFromW_ok ok122 Go.Proofs.Tryz.func78 b78 (by kernel_rfl) (by kernel_rfl) w x y Q h) (fun B w0 h hg => cR a B w0 h hg) ok79 (fun w b ver ts u hb hc h0 hh ht hl => appendTo_calls ka Go.Proofs.Tryz.func79 b79 (by kernel_rfl) (by kernel_rfl) w b 0 ver ts u hb hc h0 hh ht hl) (by decide +kernel) (by decide) (by kernel_rfl) (by kernel_rfl) Go.Proofs.Tryz.func35 b35 (by kernel_rfl) (by kernel_rfl) (by kernel_rfl)
theorem okv : ∀ v : Nat, v ≤ 2 → okFsR v (flexAt (some 2) v) fs = true := by decide +kernel
theorem b9 : (Go.Proofs.Tryz.f9).body.map strip = some (sc_LawCut X.T 4 X.I X.Bs 27 11 33 34 15 13 35) := by kernel_rfl
theorem law (a : Addr) (w : World) (n at_ : Nat) (hn : n < 256) (hat : at_ < 65536) (t : Tree) (tv : Value) (ht : TV G0 w (· < w.heap.size) t tv) (hgb : 0 < w.heap.size) (hgl : ∀ w', Below w.heap.size w w' → GlE a w') (hk : KAll t) (hlim : ∀ v : Nat, v ≤ 2 → (wMsg v (flexAt (some 2) v) fs t.l t.u).length ≤ lim) : Calls PP 9 #[.int .u8 (n : Int), tv, .int .u16 (at_ : Int)] w fun e w' => e = .returned (.bool true) ∧ Below w.heap.size w w' :=
  lawCut_ok (G := G0) hX hm (by kernel_rfl) (m := 2) (Gl := GlE a) (by decide) fs (2) (some 2) (fun v => by simp [flexAt]) ok11 cFit ok33 cMax ok34 cSp ok15 cVer ok13 (cWr fs (by decide +kernel) (by decide +kernel)) (cAg a) Go.Proofs.Tryz.func9 b9 (by kernel_rfl) (by kernel_rfl) w n at_ hn hat t tv ht hgb hgl (fun v hv => okv v hv) (fun v _ => kAll_fs v fs t.l hk.l) hk.u hlim
def flex : Option Int := (some 2)
def mx : Nat := 2
end Go.Proofs.YtdmdmnfdfkejbaaGreatDoor.K.CutDeleteRecordsRequest

