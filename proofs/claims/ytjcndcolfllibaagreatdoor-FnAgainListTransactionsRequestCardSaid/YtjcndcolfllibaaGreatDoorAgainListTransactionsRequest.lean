/- AgainListTransactionsRequest: what the law on it computes. No condition. -/
import Derived.Test.YtjcndcolfllibaaGreatDoorB0
import Derived.Test.YtjcndcolfllibaaGreatDoorQA
import Derived.Test.YtjcndcolfllibaaGreatDoorQR
import Derived.Test.YtjcndcolfllibaaGreatDoorQS
namespace Go.Proofs.YtjcndcolfllibaaGreatDoor.K.AgainListTransactionsRequest
open Go Go.RowKit Go.Proofs Go.Proofs.YtjcndcolfllibaaGreatDoor.T Go.Proofs.YtjcndcolfllibaaGreatDoor.K
set_option linter.unusedVariables false
set_option linter.unusedSimpArgs false
def fs : Fs := (.cons ⟨0, -1, -1, 0, 1, 1, 73, false⟩ (.list 73 9 1 (.prim .str)) (.cons ⟨0, -1, -1, 0, 2, 2, 74, false⟩ (.list 74 2 1 (.prim .i64)) (.cons ⟨1, -1, -1, -1, 3, 3, 2, false⟩ (.prim .i64) (.cons ⟨2, -1, 2, 0, 4, 4, 75, false⟩ (.prim .str) .nil))))
theorem b14 : (Go.Proofs.Tryz.f14).body.map strip = some (sc_bTop X.F X.Fs X.M fs (0) []) := by kernel_rfl
theorem ok14 : FnOK PP 14 := fnOK_of Go.Proofs.Tryz.func14 b14 (by kernel_rfl)
theorem sfTop : SubFns PP fs [] := by
  simp [SubFns, hasSub, fs]
theorem cSp (w : World) : Calls PP 14 #[] w fun e w' => ∃ v, e = .returned (msgV v (0)) ∧ v.oneCell' = true ∧ FsV w' (fun k => w.heap.size ≤ k ∧ k < w'.heap.size) fs v ∧ Below w.heap.size w w' := bTop_ok hX fok uFs arrM mB fs (0) [] (by kernel_rfl) sfTop (by decide +kernel) Go.Proofs.Tryz.func14 b14 (by kernel_rfl) (by kernel_rfl) w
def sc90 : SC := .reg [mv 2 0, nilc 3 2, fa 4 80 3 3, ⟨none, .store 2 (.tmp 4) (.const (.int .i64 (-1))), none⟩]
theorem b90 : (Go.Proofs.Tryz.f90).body.map strip = some (sc90) := by kernel_rfl
theorem d90 : DefAt PP 90 6 [(3, (.int .i64 (-1)))] := defAt_ok (N := 5) Go.Proofs.Tryz.func90 b90 (by kernel_rfl) (by kernel_rfl) (by decide) (by kernel_rfl) (by kernel_rfl)
theorem dfs : DefFs PP fs := ⟨trivial, ⟨trivial, ⟨trivial, ⟨trivial, trivial⟩⟩⟩⟩
noncomputable abbrev zc : Array Value := zcOf PP 80
noncomputable def cs : Array Value := dSetAll 0 [(3, (.int .i64 (-1)))] zc
theorem defFn : DefFn PP 90 80 zc cs := ⟨d90.1, fun w b hc => d90.2 w b 0 zc 80 hc (by decide +kernel)⟩
theorem b40 : (Go.Proofs.Tryz.f40).body.map strip = some (sc_NewPtr 80 90) := by kernel_rfl
theorem ok40 : FnOK PP 40 := fnOK_of Go.Proofs.Tryz.func40 b40 (by kernel_rfl)
theorem cNP (w : World) : Calls PP 40 #[] w fun e w' => ∃ b, e = .returned (.pointer (some ⟨b, 0, none⟩)) ∧ w.heap.size ≤ b ∧ w'.heap[b]? = some (.cells cs 80 (0, 0)) ∧ Below w.heap.size w w' := newPtr_ok (zc_of (by kernel_rfl)) defFn Go.Proofs.Tryz.func40 b40 (by kernel_rfl) (by kernel_rfl) w
theorem b41 : (Go.Proofs.Tryz.f41).body.map strip = some (sc_MaxV 2) := by kernel_rfl
theorem ok41 : FnOK PP 41 := fnOK_of Go.Proofs.Tryz.func41 b41 (by kernel_rfl)
theorem b12 : (Go.Proofs.Tryz.f12).body.map strip = some (sc_Max 40 41 42 3) := by kernel_rfl
theorem ok12 : FnOK PP 12 := fnOK_of Go.Proofs.Tryz.func12 b12 (by kernel_rfl)
theorem cMax (w : World) : Calls PP 12 #[] w fun e w' => e = .returned (.int .i64 ((2 : Nat) : Int)) ∧ Below w.heap.size w w' := max_ok (by kernel_rfl) (by kernel_rfl) (by decide) ok40 cNP ok41 (fun w v => maxV_ok Go.Proofs.Tryz.func41 b41 (by kernel_rfl) (by kernel_rfl) w v) Go.Proofs.Tryz.func12 b12 (by kernel_rfl) (by kernel_rfl) w
theorem b43 : (Go.Proofs.Tryz.f43).body.map strip = some (sc_SetV 80 42) := by kernel_rfl
theorem ok43 : FnOK PP 43 := fnOK_of Go.Proofs.Tryz.func43 b43 (by kernel_rfl)
theorem b45 : (Go.Proofs.Tryz.f45).body.map strip = some (aTop ids 80 15 (some 0) (some (5, 5)) fs) := by kernel_rfl
theorem ok45 : FnOK PP 45 := fnOK_of Go.Proofs.Tryz.func45 b45 (by kernel_rfl)
def M : RTop := { S := 80, size := 6, d := 90, t := 23, N := 134, flex := (some 0), tags := (some (5, 5)), fs := fs }
theorem b99 : (Go.Proofs.Tryz.f99).body.map strip = some (rTop rids 80 90 23 (some 0) (some (5, 5)) fs) := by kernel_rfl
theorem b44 : (Go.Proofs.Tryz.f44).body.map strip = some (sc_ReadFromW 99) := by kernel_rfl
theorem ok44 : FnOK PP 44 := fnOK_of Go.Proofs.Tryz.func44 b44 (by kernel_rfl)
theorem ok99 : FnOK PP 99 := fnOK_of Go.Proofs.Tryz.func99 b99 (by kernel_rfl)
theorem cR (a : Addr) (B : Nat) (w0 : World) (h : 1 < B) (hg : ∀ w', Below B w0 w' → GlE a w') : ReadC PP rids M B G0 (errV a) 99 w0 := readFrom_ok (kr a) (fun _ => trivial) hg h (by kernel_rfl) dfs d90 (by kernel_rfl) (by kernel_rfl) Go.Proofs.Tryz.func99 b99 (by kernel_rfl) (by kernel_rfl)
theorem b16 : (Go.Proofs.Tryz.f16).body.map strip = some (sc_Again 3 42 22 51 40 43 44 45) := by kernel_rfl
theorem cAg (a : Addr) : AgC PP X.U8 (some 0) fs 1 2 (GlE a) 16 :=
  again_ok (I := rids) (M := M) (gb := 1) (m := 2) (G := G0) (Gl := GlE a) (err := errV a) (by kernel_rfl) (by kernel_rfl) (by kernel_rfl) (by kernel_rfl) (by decide) ⟨_, _, rfl⟩ ok40 cNP ok43 (fun w b cs E hc hs n => setV_ok (by kernel_rfl) (by kernel_rfl) Go.Proofs.Tryz.func43 b43 (by kernel_rfl) (by kernel_rfl) w b cs E hc hs n) ok44 (fun w x y Q h => readFromW_ok ok99 Go.Proofs.Tryz.func44 b44 (by kernel_rfl) (by kernel_rfl) w x y Q h) (fun B w0 h hg => cR a B w0 h hg) ok45 (fun w b ver ts u hb hc h0 hh ht hl => appendTo_calls ka Go.Proofs.Tryz.func45 b45 (by kernel_rfl) (by kernel_rfl) w b 0 ver ts u hb hc h0 hh ht hl) (by decide +kernel) (by decide) (by kernel_rfl) (by kernel_rfl) Go.Proofs.Tryz.func16 b16 (by kernel_rfl) (by kernel_rfl) (by kernel_rfl)
theorem okv : ∀ v : Nat, v ≤ 2 → okFsR v (flexAt (some 0) v) fs = true := by decide +kernel
theorem b3 : (Go.Proofs.Tryz.f3).body.map strip = some (sc_LawAgain X.T 4 X.I 11 12 14 15 13 16 17) := by kernel_rfl
theorem law (a : Addr) (w : World) (n : Nat) (hn : n < 256) (t : Tree) (tv : Value) (ht : TV G0 w (· < w.heap.size) t tv) (hgb : 1 < w.heap.size) (hgl : ∀ w', Below w.heap.size w w' → GlE a w') (hk : KAll t) (hlim : ∀ v : Nat, v ≤ 2 → (wMsg v (flexAt (some 0) v) fs t.l t.u).length ≤ lim) : Calls PP 3 #[.int .u8 (n : Int), tv] w fun e w' => e = .returned (.bool true) ∧ Below w.heap.size w w' :=
  lawAgain_ok (G := G0) hX hm (m := 2) (Gl := GlE a) (by decide) fs (0) (some 0) (fun v => by simp [flexAt]) ok11 cFit ok12 cMax ok14 cSp ok15 cVer ok13 (cWr fs (by decide +kernel) (by decide +kernel)) (cAg a) ok17 cSame Go.Proofs.Tryz.func3 b3 (by kernel_rfl) (by kernel_rfl) w n hn t tv ht hgb hgl (fun v hv => okv v hv) (fun v _ => kAll_fs v fs t.l hk.l) hk.u hlim
def flex : Option Int := (some 0)
def mx : Nat := 2
end Go.Proofs.YtjcndcolfllibaaGreatDoor.K.AgainListTransactionsRequest

