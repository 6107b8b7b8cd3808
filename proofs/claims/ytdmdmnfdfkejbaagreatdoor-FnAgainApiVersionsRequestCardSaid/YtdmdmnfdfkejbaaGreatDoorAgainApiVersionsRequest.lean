/- AgainApiVersionsRequest: what the law on it computes. No condition. -/
import Derived.Test.YtdmdmnfdfkejbaaGreatDoorB0
import Derived.Test.YtdmdmnfdfkejbaaGreatDoorQA
import Derived.Test.YtdmdmnfdfkejbaaGreatDoorQR
import Derived.Test.YtdmdmnfdfkejbaaGreatDoorQS
namespace Go.Proofs.YtdmdmnfdfkejbaaGreatDoor.K.AgainApiVersionsRequest
open Go Go.RowKit Go.Proofs Go.Proofs.YtdmdmnfdfkejbaaGreatDoor.T Go.Proofs.YtdmdmnfdfkejbaaGreatDoor.K
set_option linter.unusedVariables false
set_option linter.unusedSimpArgs false
def fs : Fs := (.cons ⟨3, -1, -1, 0, 1, 1, 9, false⟩ (.prim .str) (.cons ⟨3, -1, -1, 0, 2, 2, 9, false⟩ (.prim .str) (.cons ⟨5, -1, 5, 0, 3, 3, 73, false⟩ (.prim .str) (.cons ⟨5, -1, -1, -1, 4, 4, 21, false⟩ (.prim .i32) .nil))))
theorem b18 : (Go.Proofs.Tryz.f18).body.map strip = some (sc_bTop X.F X.Fs X.M fs (3) []) := by kernel_rfl
theorem ok18 : FnOK PP 18 := fnOK_of Go.Proofs.Tryz.func18 b18 (by kernel_rfl)
theorem sfTop : SubFns PP fs [] := by
  simp [SubFns, hasSub, fs]
theorem cSp (w : World) : Calls PP 18 #[] w fun e w' => ∃ v, e = .returned (msgV v (3)) ∧ v.oneCell' = true ∧ FsV w' (fun k => w.heap.size ≤ k ∧ k < w'.heap.size) fs v ∧ Below w.heap.size w w' := bTop_ok hX fok uFs arrM mB fs (3) [] (by kernel_rfl) sfTop (by decide +kernel) Go.Proofs.Tryz.func18 b18 (by kernel_rfl) (by kernel_rfl) w
def sc105 : SC := .reg [mv 2 0, nilc 3 2, fa 4 93 3 4, ⟨none, .store 21 (.tmp 4) (.const (.int .i32 (-1))), none⟩]
theorem b105 : (Go.Proofs.Tryz.f105).body.map strip = some (sc105) := by kernel_rfl
theorem d105 : DefAt PP 105 6 [(4, (.int .i32 (-1)))] := defAt_ok (N := 5) Go.Proofs.Tryz.func105 b105 (by kernel_rfl) (by kernel_rfl) (by decide) (by kernel_rfl) (by kernel_rfl)
theorem dfs : DefFs PP fs := ⟨trivial, ⟨trivial, ⟨trivial, ⟨trivial, trivial⟩⟩⟩⟩
noncomputable abbrev zc : Array Value := zcOf PP 93
noncomputable def cs : Array Value := dSetAll 0 [(4, (.int .i32 (-1)))] zc
theorem defFn : DefFn PP 105 93 zc cs := ⟨d105.1, fun w b hc => d105.2 w b 0 zc 93 hc (by decide +kernel)⟩
theorem b46 : (Go.Proofs.Tryz.f46).body.map strip = some (sc_NewPtr 93 105) := by kernel_rfl
theorem ok46 : FnOK PP 46 := fnOK_of Go.Proofs.Tryz.func46 b46 (by kernel_rfl)
theorem cNP (w : World) : Calls PP 46 #[] w fun e w' => ∃ b, e = .returned (.pointer (some ⟨b, 0, none⟩)) ∧ w.heap.size ≤ b ∧ w'.heap[b]? = some (.cells cs 93 (0, 0)) ∧ Below w.heap.size w w' := newPtr_ok (zc_of (by kernel_rfl)) defFn Go.Proofs.Tryz.func46 b46 (by kernel_rfl) (by kernel_rfl) w
theorem b47 : (Go.Proofs.Tryz.f47).body.map strip = some (sc_MaxV 5) := by kernel_rfl
theorem ok47 : FnOK PP 47 := fnOK_of Go.Proofs.Tryz.func47 b47 (by kernel_rfl)
theorem b17 : (Go.Proofs.Tryz.f17).body.map strip = some (sc_Max 46 47 42 3) := by kernel_rfl
theorem ok17 : FnOK PP 17 := fnOK_of Go.Proofs.Tryz.func17 b17 (by kernel_rfl)
theorem cMax (w : World) : Calls PP 17 #[] w fun e w' => e = .returned (.int .i64 ((5 : Nat) : Int)) ∧ Below w.heap.size w w' := max_ok (by kernel_rfl) (by kernel_rfl) (by decide) ok46 cNP ok47 (fun w v => maxV_ok Go.Proofs.Tryz.func47 b47 (by kernel_rfl) (by kernel_rfl) w v) Go.Proofs.Tryz.func17 b17 (by kernel_rfl) (by kernel_rfl) w
theorem b48 : (Go.Proofs.Tryz.f48).body.map strip = some (sc_SetV 93 42) := by kernel_rfl
theorem ok48 : FnOK PP 48 := fnOK_of Go.Proofs.Tryz.func48 b48 (by kernel_rfl)
theorem b50 : (Go.Proofs.Tryz.f50).body.map strip = some (aTop ids 93 11 (some 3) (some (5, 5)) fs) := by kernel_rfl
theorem ok50 : FnOK PP 50 := fnOK_of Go.Proofs.Tryz.func50 b50 (by kernel_rfl)
def M : RTop := { S := 93, size := 6, d := 105, t := 15, N := 80, flex := (some 3), tags := (some (5, 5)), fs := fs }
theorem b106 : (Go.Proofs.Tryz.f106).body.map strip = some (rTop rids 93 105 15 (some 3) (some (5, 5)) fs) := by kernel_rfl
theorem b49 : (Go.Proofs.Tryz.f49).body.map strip = some (sc_ReadFromW 106) := by kernel_rfl
theorem ok49 : FnOK PP 49 := fnOK_of Go.Proofs.Tryz.func49 b49 (by kernel_rfl)
theorem ok106 : FnOK PP 106 := fnOK_of Go.Proofs.Tryz.func106 b106 (by kernel_rfl)
theorem cR (a : Addr) (B : Nat) (w0 : World) (h : 0 < B) (hg : ∀ w', Below B w0 w' → GlE a w') : ReadC PP rids M B G0 (errV a) 106 w0 := readFrom_ok (kr a) (fun _ => trivial) hg h (by kernel_rfl) dfs d105 (by kernel_rfl) (by kernel_rfl) Go.Proofs.Tryz.func106 b106 (by kernel_rfl) (by kernel_rfl)
theorem b19 : (Go.Proofs.Tryz.f19).body.map strip = some (sc_Again 3 42 22 51 46 48 49 50) := by kernel_rfl
theorem cAg (a : Addr) : AgC PP X.U8 (some 3) fs 0 5 (GlE a) 19 :=
  again_ok (I := rids) (M := M) (gb := 0) (m := 5) (G := G0) (Gl := GlE a) (err := errV a) (by kernel_rfl) (by kernel_rfl) (by kernel_rfl) (by kernel_rfl) (by decide) ⟨_, _, rfl⟩ ok46 cNP ok48 (fun w b cs E hc hs n => setV_ok (by kernel_rfl) (by kernel_rfl) Go.Proofs.Tryz.func48 b48 (by kernel_rfl) (by kernel_rfl) w b cs E hc hs n) ok49 (fun w x y Q h => readFromW_ok ok106 Go.Proofs.Tryz.func49 b49 (by kernel_rfl) (by kernel_rfl) w x y Q h) (fun B w0 h hg => cR a B w0 h hg) ok50 (fun w b ver ts u hb hc h0 hh ht hl => appendTo_calls ka Go.Proofs.Tryz.func50 b50 (by kernel_rfl) (by kernel_rfl) w b 0 ver ts u hb hc h0 hh ht hl) (by decide +kernel) (by decide) (by kernel_rfl) (by kernel_rfl) Go.Proofs.Tryz.func19 b19 (by kernel_rfl) (by kernel_rfl) (by kernel_rfl)
theorem okv : ∀ v : Nat, v ≤ 5 → okFsR v (flexAt (some 3) v) fs = true := by decide +kernel
theorem b4 : (Go.Proofs.Tryz.f4).body.map strip = some (sc_LawAgain X.T 4 X.I 11 17 18 15 13 19 20) := by kernel_rfl
theorem law (a : Addr) (w : World) (n : Nat) (hn : n < 256) (t : Tree) (tv : Value) (ht : TV G0 w (· < w.heap.size) t tv) (hgb : 0 < w.heap.size) (hgl : ∀ w', Below w.heap.size w w' → GlE a w') (hk : KAll t) (hlim : ∀ v : Nat, v ≤ 5 → (wMsg v (flexAt (some 3) v) fs t.l t.u).length ≤ lim) : Calls PP 4 #[.int .u8 (n : Int), tv] w fun e w' => e = .returned (.bool true) ∧ Below w.heap.size w w' :=
  lawAgain_ok (G := G0) hX hm (m := 5) (Gl := GlE a) (by decide) fs (3) (some 3) (fun v => by simp [flexAt]) ok11 cFit ok17 cMax ok18 cSp ok15 cVer ok13 (cWr fs (by decide +kernel) (by decide +kernel)) (cAg a) ok20 cSame Go.Proofs.Tryz.func4 b4 (by kernel_rfl) (by kernel_rfl) w n hn t tv ht hgb hgl (fun v hv => okv v hv) (fun v _ => kAll_fs v fs t.l hk.l) hk.u hlim
def flex : Option Int := (some 3)
def mx : Nat := 5
end Go.Proofs.YtdmdmnfdfkejbaaGreatDoor.K.AgainApiVersionsRequest

