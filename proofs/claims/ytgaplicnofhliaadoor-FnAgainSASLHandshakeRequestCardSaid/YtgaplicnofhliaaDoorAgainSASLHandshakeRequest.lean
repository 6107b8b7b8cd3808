/- AgainSASLHandshakeRequest: what the law on it computes. No condition. -/
import Derived.Test.YtgaplicnofhliaaDoorM12
import Derived.Test.YtgaplicnofhliaaDoorQA
import Derived.Test.YtgaplicnofhliaaDoorQR
import Derived.Test.YtgaplicnofhliaaDoorQS
namespace Go.Proofs.YtgaplicnofhliaaDoor.K.AgainSASLHandshakeRequest
open Go Go.RowKit Go.Proofs.YtgaplicnofhliaaDoor.T Go.Proofs.YtgaplicnofhliaaDoor.K
set_option linter.unusedVariables false
set_option linter.unusedSimpArgs false
def fs : Fs := (.cons ⟨0, -1, -1, 0, 1, 1, 9, false⟩ (.prim .str) .nil)
theorem b10 : (Go.Proofs.Tryd.f10).body.map strip = some (sc_bTop X.F X.Fs X.M fs (-1) []) := by kernel_rfl
theorem ok10 : FnOK PP 10 := fnOK_of Go.Proofs.Tryd.func10 b10 (by kernel_rfl)
theorem sfTop : SubFns PP fs [] := by
  simp [SubFns, hasSub, fs]
theorem cSp (w : World) : Calls PP 10 #[] w fun e w' => ∃ v, e = .returned (msgV v (-1)) ∧ v.oneCell' = true ∧ FsV w' (fun k => w.heap.size ≤ k ∧ k < w'.heap.size) fs v ∧ Below w.heap.size w w' := bTop_ok hX fok uFs arrM mB fs (-1) [] (by kernel_rfl) sfTop (by decide +kernel) Go.Proofs.Tryd.func10 b10 (by kernel_rfl) (by kernel_rfl) w
def sc51 : SC := .skip
theorem b51 : (Go.Proofs.Tryd.f51).body.map strip = some (sc51) := by kernel_rfl
theorem d51 : DefAt PP 51 2 [] := defAt_ok (N := 2) Go.Proofs.Tryd.func51 b51 (by kernel_rfl) (by kernel_rfl) (by decide) (by kernel_rfl) (by kernel_rfl)
theorem dfs : DefFs PP fs := ⟨trivial, trivial⟩
noncomputable abbrev zc : Array Value := zcOf PP 107
noncomputable def cs : Array Value := dSetAll 0 [] zc
theorem defFn : DefFn PP 51 107 zc cs := ⟨d51.1, fun w b hc => d51.2 w b 0 zc 107 hc (by decide +kernel)⟩
theorem b28 : (Go.Proofs.Tryd.f28).body.map strip = some (sc_NewPtr 107 51) := by kernel_rfl
theorem ok28 : FnOK PP 28 := fnOK_of Go.Proofs.Tryd.func28 b28 (by kernel_rfl)
theorem cNP (w : World) : Calls PP 28 #[] w fun e w' => ∃ b, e = .returned (.pointer (some ⟨b, 0, none⟩)) ∧ w.heap.size ≤ b ∧ w'.heap[b]? = some (.cells cs 107 (0, 0)) ∧ Below w.heap.size w w' := newPtr_ok (zc_of (by kernel_rfl)) defFn Go.Proofs.Tryd.func28 b28 (by kernel_rfl) (by kernel_rfl) w
theorem b29 : (Go.Proofs.Tryd.f29).body.map strip = some (sc_MaxV 1) := by kernel_rfl
theorem ok29 : FnOK PP 29 := fnOK_of Go.Proofs.Tryd.func29 b29 (by kernel_rfl)
theorem b8 : (Go.Proofs.Tryd.f8).body.map strip = some (sc_Max 28 29 64 3) := by kernel_rfl
theorem ok8 : FnOK PP 8 := fnOK_of Go.Proofs.Tryd.func8 b8 (by kernel_rfl)
theorem cMax (w : World) : Calls PP 8 #[] w fun e w' => e = .returned (.int .i64 ((1 : Nat) : Int)) ∧ Below w.heap.size w w' := max_ok (by kernel_rfl) (by kernel_rfl) (by decide) ok28 cNP ok29 (fun w v => maxV_ok Go.Proofs.Tryd.func29 b29 (by kernel_rfl) (by kernel_rfl) w v) Go.Proofs.Tryd.func8 b8 (by kernel_rfl) (by kernel_rfl) w
theorem b31 : (Go.Proofs.Tryd.f31).body.map strip = some (sc_SetV 107 64) := by kernel_rfl
theorem ok31 : FnOK PP 31 := fnOK_of Go.Proofs.Tryd.func31 b31 (by kernel_rfl)
theorem b33 : (Go.Proofs.Tryd.f33).body.map strip = some (aTop ids 107 7 none none fs) := by kernel_rfl
theorem ok33 : FnOK PP 33 := fnOK_of Go.Proofs.Tryd.func33 b33 (by kernel_rfl)
def M : RTop := { S := 107, size := 2, d := 51, t := 11, N := 29, flex := none, tags := none, fs := fs }
theorem b60 : (Go.Proofs.Tryd.f60).body.map strip = some (rTop rids 107 51 11 none none fs) := by kernel_rfl
theorem b32 : (Go.Proofs.Tryd.f32).body.map strip = some (sc_ReadFromW 60) := by kernel_rfl
theorem ok32 : FnOK PP 32 := fnOK_of Go.Proofs.Tryd.func32 b32 (by kernel_rfl)
theorem ok60 : FnOK PP 60 := fnOK_of Go.Proofs.Tryd.func60 b60 (by kernel_rfl)
theorem cR (a : Addr) (B : Nat) (w0 : World) (h : 1 < B) (hg : ∀ w', Below B w0 w' → GlE a w') : ReadC PP rids M B G0 (errV a) 60 w0 := readFrom_ok (kr a) (fun _ => trivial) hg h (by kernel_rfl) dfs d51 (by kernel_rfl) (by kernel_rfl) Go.Proofs.Tryd.func60 b60 (by kernel_rfl) (by kernel_rfl)
theorem b12 : (Go.Proofs.Tryd.f12).body.map strip = some (sc_Again 3 64 22 73 28 31 32 33) := by kernel_rfl
theorem cAg (a : Addr) : AgC PP X.U8 none fs 1 1 (GlE a) 12 :=
  again_ok (I := rids) (M := M) (gb := 1) (m := 1) (G := G0) (Gl := GlE a) (err := errV a) (by kernel_rfl) (by kernel_rfl) (by kernel_rfl) (by kernel_rfl) (by decide) ⟨_, _, rfl⟩ ok28 cNP ok31 (fun w b cs E hc hs n => setV_ok (by kernel_rfl) (by kernel_rfl) Go.Proofs.Tryd.func31 b31 (by kernel_rfl) (by kernel_rfl) w b cs E hc hs n) ok32 (fun w x y Q h => readFromW_ok ok60 Go.Proofs.Tryd.func32 b32 (by kernel_rfl) (by kernel_rfl) w x y Q h) (fun B w0 h hg => cR a B w0 h hg) ok33 (fun w b ver ts u hb hc h0 hh ht hl => appendTo_calls ka Go.Proofs.Tryd.func33 b33 (by kernel_rfl) (by kernel_rfl) w b 0 ver ts u hb hc h0 hh ht hl) (by decide +kernel) (by decide) (by kernel_rfl) (by kernel_rfl) Go.Proofs.Tryd.func12 b12 (by kernel_rfl) (by kernel_rfl) (by kernel_rfl)
theorem okv : ∀ v : Nat, v ≤ 1 → okFsR v (flexAt none v) fs = true := by decide +kernel
theorem b3 : (Go.Proofs.Tryd.f3).body.map strip = some (sc_LawAgain X.T 4 X.I 7 8 10 11 9 12 13) := by kernel_rfl
theorem law (a : Addr) (w : World) (n : Nat) (hn : n < 256) (t : Tree) (tv : Value) (ht : TV G0 w (· < w.heap.size) t tv) (hgb : 1 < w.heap.size) (hgl : ∀ w', Below w.heap.size w w' → GlE a w') (hk : KAll t) (hlim : ∀ v : Nat, v ≤ 1 → (wMsg v (flexAt none v) fs t.l t.u).length ≤ lim) : Calls PP 3 #[.int .u8 (n : Int), tv] w fun e w' => e = .returned (.bool true) ∧ Below w.heap.size w w' :=
  lawAgain_ok (G := G0) hX hm (m := 1) (Gl := GlE a) (by decide) fs (-1) none (fun v => by simp [flexAt]) ok7 cFit ok8 cMax ok10 cSp ok11 cVer ok9 (cWr fs (by decide +kernel) (by decide +kernel)) (cAg a) ok13 cSame Go.Proofs.Tryd.func3 b3 (by kernel_rfl) (by kernel_rfl) w n hn t tv ht hgb hgl (fun v hv => okv v hv) (fun v _ => kAll_fs v fs t.l hk.l) hk.u hlim
def flex : Option Int := none
def mx : Nat := 1
end Go.Proofs.YtgaplicnofhliaaDoor.K.AgainSASLHandshakeRequest

