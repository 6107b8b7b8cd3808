/- AgainDeleteACLsRequest: what the law on it computes. No condition. -/
import Derived.Test.YtjcndcolfllibaaGreatDoorB0
import Derived.Test.YtjcndcolfllibaaGreatDoorQA
import Derived.Test.YtjcndcolfllibaaGreatDoorQR
import Derived.Test.YtjcndcolfllibaaGreatDoorQS
namespace Go.Proofs.YtjcndcolfllibaaGreatDoor.K.AgainDeleteACLsRequest
open Go Go.RowKit Go.Proofs Go.Proofs.YtjcndcolfllibaaGreatDoor.T Go.Proofs.YtjcndcolfllibaaGreatDoor.K
set_option linter.unusedVariables false
set_option linter.unusedSimpArgs false
def fs60 : Fs := (.cons ⟨0, -1, -1, 0, 0, 0, 122, true⟩ (.prim .i8) (.cons ⟨0, -1, 0, 0, 1, 1, 75, false⟩ (.prim .str) (.cons ⟨1, -1, -1, 3, 2, 2, 123, true⟩ (.prim .i8) (.cons ⟨0, -1, 0, 0, 3, 3, 75, false⟩ (.prim .str) (.cons ⟨0, -1, 0, 0, 4, 4, 75, false⟩ (.prim .str) (.cons ⟨0, -1, -1, 0, 5, 5, 124, true⟩ (.prim .i8) (.cons ⟨0, -1, -1, 0, 6, 6, 125, true⟩ (.prim .i8) .nil)))))))
theorem b60 : (Go.Proofs.Tryz.f60).body.map strip = some (sc_bSub X.F X.Fs fs60 []) := by kernel_rfl
theorem ok60 : FnOK PP 60 := fnOK_of Go.Proofs.Tryz.func60 b60 (by kernel_rfl)
theorem sf60 : SubFns PP fs60 [] := by
  simp [SubFns, hasSub, fs60]
theorem c60 (w : World) : Calls PP 60 #[] w fun e w' => ∃ v, e = .returned v ∧ v.oneCell' = true ∧ FsV w' (fun k => w.heap.size ≤ k ∧ k < w'.heap.size) fs60 v ∧ Below w.heap.size w w' := bSub_ok hX fok uFs fs60 [] (by kernel_rfl) sf60 (by decide +kernel) Go.Proofs.Tryz.func60 b60 (by kernel_rfl) (by kernel_rfl) w
def fs : Fs := (.cons ⟨0, -1, -1, 0, 1, 1, 117, false⟩ (.list 117 127 8 (.struct 127 8 165 (some (7, 7)) (.cons ⟨0, -1, -1, 0, 0, 0, 122, true⟩ (.prim .i8) (.cons ⟨0, -1, 0, 0, 1, 1, 75, false⟩ (.prim .str) (.cons ⟨1, -1, -1, 3, 2, 2, 123, true⟩ (.prim .i8) (.cons ⟨0, -1, 0, 0, 3, 3, 75, false⟩ (.prim .str) (.cons ⟨0, -1, 0, 0, 4, 4, 75, false⟩ (.prim .str) (.cons ⟨0, -1, -1, 0, 5, 5, 124, true⟩ (.prim .i8) (.cons ⟨0, -1, -1, 0, 6, 6, 125, true⟩ (.prim .i8) .nil))))))))) .nil)
theorem b25 : (Go.Proofs.Tryz.f25).body.map strip = some (sc_bTop X.F X.Fs X.M fs (2) [60]) := by kernel_rfl
theorem ok25 : FnOK PP 25 := fnOK_of Go.Proofs.Tryz.func25 b25 (by kernel_rfl)
theorem sfTop : SubFns PP fs [60] := by
  simp only [SubFns, hasSub, Bool.false_eq_true, if_false, if_true, List.headD_cons, List.tail_cons, fs]
  exact ⟨⟨ok60, fun w => (c60 w).mono fun e w' ⟨v, q1, q2, q3, q4⟩ => ⟨v, q1, q2, by simp only [SubV]; exact q3, q4⟩⟩, trivial⟩
theorem cSp (w : World) : Calls PP 25 #[] w fun e w' => ∃ v, e = .returned (msgV v (2)) ∧ v.oneCell' = true ∧ FsV w' (fun k => w.heap.size ≤ k ∧ k < w'.heap.size) fs v ∧ Below w.heap.size w w' := bTop_ok hX fok uFs arrM mB fs (2) [60] (by kernel_rfl) sfTop (by decide +kernel) Go.Proofs.Tryz.func25 b25 (by kernel_rfl) (by kernel_rfl) w
def sc165 : SC := .reg [mv 2 0, nilc 3 2, fa 4 127 3 2, ⟨none, .store 123 (.tmp 4) (.const (.int .i8 3)), none⟩]
theorem b165 : (Go.Proofs.Tryz.f165).body.map strip = some (sc165) := by kernel_rfl
theorem d165 : DefAt PP 165 8 [(2, (.int .i8 3))] := defAt_ok (N := 5) Go.Proofs.Tryz.func165 b165 (by kernel_rfl) (by kernel_rfl) (by decide) (by kernel_rfl) (by kernel_rfl)
def sc118 : SC := .skip
theorem b118 : (Go.Proofs.Tryz.f118).body.map strip = some (sc118) := by kernel_rfl
theorem d118 : DefAt PP 118 3 [] := defAt_ok (N := 2) Go.Proofs.Tryz.func118 b118 (by kernel_rfl) (by kernel_rfl) (by decide) (by kernel_rfl) (by kernel_rfl)
theorem dfs : DefFs PP fs := ⟨⟨⟨_, d165, (by kernel_rfl), (by kernel_rfl)⟩, ⟨trivial, ⟨trivial, ⟨trivial, ⟨trivial, ⟨trivial, ⟨trivial, ⟨trivial, trivial⟩⟩⟩⟩⟩⟩⟩⟩, trivial⟩
noncomputable abbrev zc : Array Value := zcOf PP 119
noncomputable def cs : Array Value := dSetAll 0 [] zc
theorem defFn : DefFn PP 118 119 zc cs := ⟨d118.1, fun w b hc => d118.2 w b 0 zc 119 hc (by decide +kernel)⟩
theorem b58 : (Go.Proofs.Tryz.f58).body.map strip = some (sc_NewPtr 119 118) := by kernel_rfl
theorem ok58 : FnOK PP 58 := fnOK_of Go.Proofs.Tryz.func58 b58 (by kernel_rfl)
theorem cNP (w : World) : Calls PP 58 #[] w fun e w' => ∃ b, e = .returned (.pointer (some ⟨b, 0, none⟩)) ∧ w.heap.size ≤ b ∧ w'.heap[b]? = some (.cells cs 119 (0, 0)) ∧ Below w.heap.size w w' := newPtr_ok (zc_of (by kernel_rfl)) defFn Go.Proofs.Tryz.func58 b58 (by kernel_rfl) (by kernel_rfl) w
theorem b59 : (Go.Proofs.Tryz.f59).body.map strip = some (sc_MaxV 3) := by kernel_rfl
theorem ok59 : FnOK PP 59 := fnOK_of Go.Proofs.Tryz.func59 b59 (by kernel_rfl)
theorem b24 : (Go.Proofs.Tryz.f24).body.map strip = some (sc_Max 58 59 42 3) := by kernel_rfl
theorem ok24 : FnOK PP 24 := fnOK_of Go.Proofs.Tryz.func24 b24 (by kernel_rfl)
theorem cMax (w : World) : Calls PP 24 #[] w fun e w' => e = .returned (.int .i64 ((3 : Nat) : Int)) ∧ Below w.heap.size w w' := max_ok (by kernel_rfl) (by kernel_rfl) (by decide) ok58 cNP ok59 (fun w v => maxV_ok Go.Proofs.Tryz.func59 b59 (by kernel_rfl) (by kernel_rfl) w v) Go.Proofs.Tryz.func24 b24 (by kernel_rfl) (by kernel_rfl) w
theorem b61 : (Go.Proofs.Tryz.f61).body.map strip = some (sc_SetV 119 42) := by kernel_rfl
theorem ok61 : FnOK PP 61 := fnOK_of Go.Proofs.Tryz.func61 b61 (by kernel_rfl)
theorem b63 : (Go.Proofs.Tryz.f63).body.map strip = some (aTop ids 119 21 (some 2) (some (2, 2)) fs) := by kernel_rfl
theorem ok63 : FnOK PP 63 := fnOK_of Go.Proofs.Tryz.func63 b63 (by kernel_rfl)
def M : RTop := { S := 119, size := 3, d := 118, t := 32, N := 153, flex := (some 2), tags := (some (2, 2)), fs := fs }
theorem b119 : (Go.Proofs.Tryz.f119).body.map strip = some (rTop rids 119 118 32 (some 2) (some (2, 2)) fs) := by kernel_rfl
theorem b62 : (Go.Proofs.Tryz.f62).body.map strip = some (sc_ReadFromW 119) := by kernel_rfl
theorem ok62 : FnOK PP 62 := fnOK_of Go.Proofs.Tryz.func62 b62 (by kernel_rfl)
theorem ok119 : FnOK PP 119 := fnOK_of Go.Proofs.Tryz.func119 b119 (by kernel_rfl)
theorem cR (a : Addr) (B : Nat) (w0 : World) (h : 1 < B) (hg : ∀ w', Below B w0 w' → GlE a w') : ReadC PP rids M B G0 (errV a) 119 w0 := readFrom_ok (kr a) (fun _ => trivial) hg h (by kernel_rfl) dfs d118 (by kernel_rfl) (by kernel_rfl) Go.Proofs.Tryz.func119 b119 (by kernel_rfl) (by kernel_rfl)
theorem b26 : (Go.Proofs.Tryz.f26).body.map strip = some (sc_Again 3 42 22 51 58 61 62 63) := by kernel_rfl
theorem cAg (a : Addr) : AgC PP X.U8 (some 2) fs 1 3 (GlE a) 26 :=
  again_ok (I := rids) (M := M) (gb := 1) (m := 3) (G := G0) (Gl := GlE a) (err := errV a) (by kernel_rfl) (by kernel_rfl) (by kernel_rfl) (by kernel_rfl) (by decide) ⟨_, _, rfl⟩ ok58 cNP ok61 (fun w b cs E hc hs n => setV_ok (by kernel_rfl) (by kernel_rfl) Go.Proofs.Tryz.func61 b61 (by kernel_rfl) (by kernel_rfl) w b cs E hc hs n) ok62 (fun w x y Q h => readFromW_ok ok119 Go.Proofs.Tryz.func62 b62 (by kernel_rfl) (by kernel_rfl) w x y Q h) (fun B w0 h hg => cR a B w0 h hg) ok63 (fun w b ver ts u hb hc h0 hh ht hl => appendTo_calls ka Go.Proofs.Tryz.func63 b63 (by kernel_rfl) (by kernel_rfl) w b 0 ver ts u hb hc h0 hh ht hl) (by decide +kernel) (by decide) (by kernel_rfl) (by kernel_rfl) Go.Proofs.Tryz.func26 b26 (by kernel_rfl) (by kernel_rfl) (by kernel_rfl)
theorem okv : ∀ v : Nat, v ≤ 3 → okFsR v (flexAt (some 2) v) fs = true := by decide +kernel
theorem b6 : (Go.Proofs.Tryz.f6).body.map strip = some (sc_LawAgain X.T 4 X.I 11 24 25 15 13 26 17) := by kernel_rfl
theorem law (a : Addr) (w : World) (n : Nat) (hn : n < 256) (t : Tree) (tv : Value) (ht : TV G0 w (· < w.heap.size) t tv) (hgb : 1 < w.heap.size) (hgl : ∀ w', Below w.heap.size w w' → GlE a w') (hk : KAll t) (hlim : ∀ v : Nat, v ≤ 3 → (wMsg v (flexAt (some 2) v) fs t.l t.u).length ≤ lim) : Calls PP 6 #[.int .u8 (n : Int), tv] w fun e w' => e = .returned (.bool true) ∧ Below w.heap.size w w' :=
  lawAgain_ok (G := G0) hX hm (m := 3) (Gl := GlE a) (by decide) fs (2) (some 2) (fun v => by simp [flexAt]) ok11 cFit ok24 cMax ok25 cSp ok15 cVer ok13 (cWr fs (by decide +kernel) (by decide +kernel)) (cAg a) ok17 cSame Go.Proofs.Tryz.func6 b6 (by kernel_rfl) (by kernel_rfl) w n hn t tv ht hgb hgl (fun v hv => okv v hv) (fun v _ => kAll_fs v fs t.l hk.l) hk.u hlim
def flex : Option Int := (some 2)
def mx : Nat := 3
end Go.Proofs.YtjcndcolfllibaaGreatDoor.K.AgainDeleteACLsRequest

