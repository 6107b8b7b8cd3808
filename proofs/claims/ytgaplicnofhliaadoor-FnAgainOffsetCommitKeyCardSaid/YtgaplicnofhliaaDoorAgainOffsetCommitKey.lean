/- AgainOffsetCommitKey: what the law on it computes. No condition. -/
import Derived.Test.YtgaplicnofhliaaDoorB1
import Derived.Test.YtgaplicnofhliaaDoorQA
import Derived.Test.YtgaplicnofhliaaDoorQR
import Derived.Test.YtgaplicnofhliaaDoorQS
namespace Go.Proofs.YtgaplicnofhliaaDoor.K.AgainOffsetCommitKey
open Go Go.RowKit Go.Proofs Go.Proofs.YtgaplicnofhliaaDoor.T Go.Proofs.YtgaplicnofhliaaDoor.K
set_option linter.unusedVariables false
set_option linter.unusedSimpArgs false
def fs : Fs := (.cons ⟨0, -1, -1, 0, 1, 1, 9, false⟩ (.prim .str) (.cons ⟨0, -1, -1, 0, 2, 2, 9, false⟩ (.prim .str) (.cons ⟨0, -1, -1, 0, 3, 3, 21, false⟩ (.prim .i32) .nil)))
abbrev fsP : Fs := fs
abbrev cv (l : List Tree) : List Tree := l
theorem hcv (v : Nat) (l : List Tree) : wFs v false fs l = wFs v false fsP (cv l) := rfl
theorem hkf (v : Nat) (t : Tree) (hk : KAll t) : KFs v fsP (cv t.l) := kAll_fs v fsP t.l hk.l
theorem b25 : (Go.Proofs.Tryd.f25).body.map strip = some (sc_bTop X.F X.Fs X.M fs (-1) []) := by kernel_rfl
theorem ok25 : FnOK PP 25 := fnOK_of Go.Proofs.Tryd.func25 b25 (by kernel_rfl)
theorem sfTop : SubFns PP fs [] := by
  simp [SubFns, hasSub, fs]
theorem cSp (w : World) : Calls PP 25 #[] w fun e w' => ∃ v, e = .returned (msgV v (-1)) ∧ v.oneCell' = true ∧ FsV w' (fun k => w.heap.size ≤ k ∧ k < w'.heap.size) fs v ∧ Below w.heap.size w w' := bTop_ok hX fok uFs arrM mB fs (-1) [] (by kernel_rfl) sfTop (by decide +kernel) Go.Proofs.Tryd.func25 b25 (by kernel_rfl) (by kernel_rfl) w
def sc67 : SC := .skip
theorem b67 : (Go.Proofs.Tryd.f67).body.map strip = some (sc67) := by kernel_rfl
theorem d67 : DefAt PP 67 4 [] := defAt_ok (N := 2) Go.Proofs.Tryd.func67 b67 (by kernel_rfl) (by kernel_rfl) (by decide) (by kernel_rfl) (by kernel_rfl)
theorem dfs : DefFs PP fsP := ⟨trivial, ⟨trivial, ⟨trivial, trivial⟩⟩⟩
noncomputable abbrev zc : Array Value := zcOf PP 100
noncomputable def cs : Array Value := dSetAll 0 [] zc
theorem defFn : DefFn PP 67 100 zc cs := ⟨d67.1, fun w b hc => d67.2 w b 0 zc 100 hc (by decide +kernel)⟩
theorem hone : ∀ v ∈ cs.toList, v.oneCell' = true := fun v hv => List.all_eq_true.1 (show cs.toList.all (fun v => v.oneCell') = true by kernel_rfl) v hv
theorem b47 : (Go.Proofs.Tryd.f47).body.map strip = some (sc_NewV 100 67) := by kernel_rfl
theorem ok47 : FnOK PP 47 := fnOK_of Go.Proofs.Tryd.func47 b47 (by kernel_rfl)
theorem cNV (w : World) : Calls PP 47 #[] w fun e w' => e = .returned (.agg cs.toList.toArray) ∧ Below w.heap.size w w' := newV_ok (n := 4) (zc_of (by kernel_rfl)) (by kernel_rfl) (by kernel_rfl) (by kernel_rfl) hone defFn Go.Proofs.Tryd.func47 b47 (by kernel_rfl) (by kernel_rfl) w
theorem b49 : (Go.Proofs.Tryd.f49).body.map strip = some (aTop ids 100 10 none none (.cons (hdV 64) (.prim .i16) fsP)) := by kernel_rfl
theorem ok49 : FnOK PP 49 := fnOK_of Go.Proofs.Tryd.func49 b49 (by kernel_rfl)
def M : KTop := { S := 100, size := 4, d := 67, t := 13, N := 47, fs := fsP }
theorem b68 : (Go.Proofs.Tryd.f68).body.map strip = some (kTop rids 100 67 13 fsP) := by kernel_rfl
theorem b48 : (Go.Proofs.Tryd.f48).body.map strip = some (sc_ReadFromW 68) := by kernel_rfl
theorem ok48 : FnOK PP 48 := fnOK_of Go.Proofs.Tryd.func48 b48 (by kernel_rfl)
theorem ok68 : FnOK PP 68 := fnOK_of Go.Proofs.Tryd.func68 b68 (by kernel_rfl)
theorem cR (a : Addr) (B : Nat) (w0 : World) (h : 1 < B) (hg : ∀ w', Below B w0 w' → GlE a w') : ReadKC PP rids M B G0 (errV a) 68 w0 := readKept_ok (kr a) (fun _ => trivial) hg h rI16C (fun w S rb st h1 h2 => rNumZ_ok (nb := 2) (R := R) rfl rdO (by decide) Go.Proofs.Tryd.func85 b85 (by kernel_rfl) (by kernel_rfl) (by kernel_rfl) w S rb st h1 h2) (by kernel_rfl) dfs d67 (by kernel_rfl) (by kernel_rfl) Go.Proofs.Tryd.func68 b68 (by kernel_rfl) (by kernel_rfl)
theorem b26 : (Go.Proofs.Tryd.f26).body.map strip = some (sc_AgainK 100 22 73 47 48 49) := by kernel_rfl
theorem cAg (a : Addr) : AgKC PP X.U8 fsP 1 (GlE a) 26 :=
  againK_ok (I := rids) (M := M) (gb := 1) (n := 4) (T16 := 64) (G := G0) (Gl := GlE a) (err := errV a) (by kernel_rfl) (by kernel_rfl) (by kernel_rfl) (by kernel_rfl) hone (by kernel_rfl) (by kernel_rfl) ⟨_, _, rfl⟩ ok47 cNV ok48 (fun w x y Q h => readFromW_ok ok68 Go.Proofs.Tryd.func48 b48 (by kernel_rfl) (by kernel_rfl) w x y Q h) (fun B w0 h hg => cR a B w0 h hg) ok49 (fun w b ver ts u hb hc h0 hh ht hl => appendTo_calls ka Go.Proofs.Tryd.func49 b49 (by kernel_rfl) (by kernel_rfl) w b 0 ver ts u hb hc h0 hh ht hl) (by kernel_rfl) (by decide) (by kernel_rfl) (by kernel_rfl) Go.Proofs.Tryd.func26 b26 (by kernel_rfl) (by kernel_rfl) (by kernel_rfl)
theorem b24 : (Go.Proofs.Tryd.f24).body.map strip = some (sc_Kept X.M X.T X.Bs 35 9) := by kernel_rfl
theorem cK : KeptC G0 PP X fs 24 := kept_ok hX hm ok35 small.cF ok9 (cWr fs (by decide +kernel) (by decide +kernel)) Go.Proofs.Tryd.func24 b24 (by kernel_rfl) (by kernel_rfl) (by kernel_rfl)
theorem okv : ∀ v : Nat, v < 2 → okFsR v false fsP = true := by decide +kernel
theorem b6 : (Go.Proofs.Tryd.f6).body.map strip = some (sc_LawAgainK X.T 4 X.U8 X.I 7 25 24 26 13) := by kernel_rfl
theorem law (a : Addr) (w : World) (n : Nat) (hn : n < 256) (t : Tree) (tv : Value) (ht : TV G0 w (· < w.heap.size) t tv) (hgb : 1 < w.heap.size) (hgl : ∀ w', Below w.heap.size w w' → GlE a w') (hk : KAll t) (hlim : ∀ v : Nat, v ≤ 1 → (wMsg v (flexAt none v) fs t.l t.u).length + 2 ≤ lim) : Calls PP 6 #[.int .u8 (n : Int), tv] w fun e w' => e = .returned (.bool true) ∧ Below w.heap.size w w' :=
  lawAgainK_ok (G := G0) hX hm fs fsP ok7 cFit ok25 cSp cK (cAg a) ok13 cSame Go.Proofs.Tryd.func6 b6 (by kernel_rfl) (by kernel_rfl) w n hn t tv ht hgb hgl cv (fun v _ => hcv v t.l) okv (fun v _ => hkf v t hk) (fun v hv => by
    have h := hlim v (by omega)
    have e : wMsg v (flexAt none v) fs t.l t.u = wFs v false fs t.l := by simp [wMsg, flexAt, wTags]
    rw [e] at h
    rw [List.length_append, fixed_two]
    omega)
end Go.Proofs.YtgaplicnofhliaaDoor.K.AgainOffsetCommitKey

