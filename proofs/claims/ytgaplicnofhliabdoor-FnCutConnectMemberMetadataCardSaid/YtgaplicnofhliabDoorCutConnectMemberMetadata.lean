/- CutConnectMemberMetadata: what the law on it computes. No condition. -/
import Derived.Test.YtgaplicnofhliabDoorB1
import Derived.Test.YtgaplicnofhliabDoorQA
import Derived.Test.YtgaplicnofhliabDoorQR
import Derived.Test.YtgaplicnofhliabDoorQS
namespace Go.Proofs.YtgaplicnofhliabDoor.K.CutConnectMemberMetadata
open Go Go.RowKit Go.Proofs Go.Proofs.YtgaplicnofhliabDoor.T Go.Proofs.YtgaplicnofhliabDoor.K
set_option linter.unusedVariables false
set_option linter.unusedSimpArgs false
def fs : Fs := (.cons ⟨0, -1, -1, 0, 1, 1, 9, false⟩ (.prim .str) (.cons ⟨0, -1, -1, 0, 2, 2, 2, false⟩ (.prim .i64) (.cons ⟨1, -1, -1, 0, 3, 3, 22, false⟩ (.prim .bytes) .nil)))
def fsP : Fs := (.cons ⟨0, -1, -1, 0, 1, 1, 9, false⟩ (.prim .str) (.cons ⟨0, -1, -1, 0, 2, 2, 2, false⟩ (.prim .i64) (.cons ⟨1, -1, 0, 0, 3, 3, 22, false⟩ (.prim .bytes) .nil)))
def un (x : Tree) : Tree := .mk x.n x.s false x.l x.u
def cv (l : List Tree) : List Tree := [(l.headD Tree.zero), (l.tail.headD Tree.zero), un (l.tail.tail.headD Tree.zero)]
theorem hcv (v : Nat) (l : List Tree) : wFs v false fs l = wFs v false fsP (cv l) := by
  simp [wFs, fs, fsP, cv, un, wField, wTy, wPrim, Hd.isNull, Hd.has, Tree.n, Tree.s, Tree.null]
theorem hkf (v : Nat) (t : Tree) (hk : KAll t) : KFs v fsP (cv t.l) := by simp [KFs, KTy, fsP]
theorem b6 : (Go.Proofs.Tryd.f6).body.map strip = some (sc_bTop X.F X.Fs X.M fs (-1) []) := by kernel_rfl
theorem ok6 : FnOK PP 6 := fnOK_of Go.Proofs.Tryd.func6 b6 (by kernel_rfl)
theorem sfTop : SubFns PP fs [] := by
  simp [SubFns, hasSub, fs]
theorem cSp (w : World) : Calls PP 6 #[] w fun e w' => ∃ v, e = .returned (msgV v (-1)) ∧ v.oneCell' = true ∧ FsV w' (fun k => w.heap.size ≤ k ∧ k < w'.heap.size) fs v ∧ Below w.heap.size w w' := bTop_ok hX fok uFs arrM mB fs (-1) [] (by kernel_rfl) sfTop (by decide +kernel) Go.Proofs.Tryd.func6 b6 (by kernel_rfl) (by kernel_rfl) w
def sc16 : SC := .skip
theorem b16 : (Go.Proofs.Tryd.f16).body.map strip = some (sc16) := by kernel_rfl
theorem d16 : DefAt PP 16 4 [] := defAt_ok (N := 2) Go.Proofs.Tryd.func16 b16 (by kernel_rfl) (by kernel_rfl) (by decide) (by kernel_rfl) (by kernel_rfl)
theorem dfs : DefFs PP fsP := ⟨trivial, ⟨trivial, ⟨trivial, trivial⟩⟩⟩
noncomputable abbrev zc : Array Value := zcOf PP 43
noncomputable def cs : Array Value := dSetAll 0 [] zc
theorem defFn : DefFn PP 16 43 zc cs := ⟨d16.1, fun w b hc => d16.2 w b 0 zc 43 hc (by decide +kernel)⟩
theorem hone : ∀ v ∈ cs.toList, v.oneCell' = true := fun v hv => List.all_eq_true.1 (show cs.toList.all (fun v => v.oneCell') = true by kernel_rfl) v hv
theorem b11 : (Go.Proofs.Tryd.f11).body.map strip = some (sc_NewV 43 16) := by kernel_rfl
theorem ok11 : FnOK PP 11 := fnOK_of Go.Proofs.Tryd.func11 b11 (by kernel_rfl)
theorem cNV (w : World) : Calls PP 11 #[] w fun e w' => e = .returned (.agg cs.toList.toArray) ∧ Below w.heap.size w w' := newV_ok (n := 4) (zc_of (by kernel_rfl)) (by kernel_rfl) (by kernel_rfl) (by kernel_rfl) hone defFn Go.Proofs.Tryd.func11 b11 (by kernel_rfl) (by kernel_rfl) w
theorem b13 : (Go.Proofs.Tryd.f13).body.map strip = some (aTop ids 43 10 none none (.cons (hdV 41) (.prim .i16) fsP)) := by kernel_rfl
theorem ok13 : FnOK PP 13 := fnOK_of Go.Proofs.Tryd.func13 b13 (by kernel_rfl)
def M : KTop := { S := 43, size := 4, d := 16, t := 13, N := 47, fs := fsP }
theorem b17 : (Go.Proofs.Tryd.f17).body.map strip = some (kTop rids 43 16 13 fsP) := by kernel_rfl
theorem b12 : (Go.Proofs.Tryd.f12).body.map strip = some (sc_ReadFromW 17) := by kernel_rfl
theorem ok12 : FnOK PP 12 := fnOK_of Go.Proofs.Tryd.func12 b12 (by kernel_rfl)
theorem ok17 : FnOK PP 17 := fnOK_of Go.Proofs.Tryd.func17 b17 (by kernel_rfl)
theorem cR (a : Addr) (B : Nat) (w0 : World) (h : 0 < B) (hg : ∀ w', Below B w0 w' → GlE a w') : ReadKC PP rids M B G0 (errV a) 17 w0 := readKept_ok (kr a) (fun _ => trivial) hg h rI16C (fun w S rb st h1 h2 => rNumZ_ok (nb := 2) (R := R) rfl rdO (by decide) Go.Proofs.Tryd.func30 b30 (by kernel_rfl) (by kernel_rfl) (by kernel_rfl) w S rb st h1 h2) (by kernel_rfl) dfs d16 (by kernel_rfl) (by kernel_rfl) Go.Proofs.Tryd.func17 b17 (by kernel_rfl) (by kernel_rfl)
theorem b7 : (Go.Proofs.Tryd.f7).body.map strip = some (sc_AgainK 43 22 46 11 12 13) := by kernel_rfl
theorem cAg (a : Addr) : AgKC PP X.U8 fsP 0 (GlE a) 7 :=
  againK_ok (I := rids) (M := M) (gb := 0) (n := 4) (T16 := 41) (G := G0) (Gl := GlE a) (err := errV a) (by kernel_rfl) (by kernel_rfl) (by kernel_rfl) (by kernel_rfl) hone (by kernel_rfl) (by kernel_rfl) ⟨_, _, rfl⟩ ok11 cNV ok12 (fun w x y Q h => readFromW_ok ok17 Go.Proofs.Tryd.func12 b12 (by kernel_rfl) (by kernel_rfl) w x y Q h) (fun B w0 h hg => cR a B w0 h hg) ok13 (fun w b ver ts u hb hc h0 hh ht hl => appendTo_calls ka Go.Proofs.Tryd.func13 b13 (by kernel_rfl) (by kernel_rfl) w b 0 ver ts u hb hc h0 hh ht hl) (by kernel_rfl) (by decide) (by kernel_rfl) (by kernel_rfl) Go.Proofs.Tryd.func7 b7 (by kernel_rfl) (by kernel_rfl) (by kernel_rfl)
theorem b5 : (Go.Proofs.Tryd.f5).body.map strip = some (sc_Kept X.M X.T X.Bs 9 10) := by kernel_rfl
theorem cK : KeptC G0 PP X fs 5 := kept_ok hX hm ok9 small.cF ok10 (cWr fs (by decide +kernel) (by decide +kernel)) Go.Proofs.Tryd.func5 b5 (by kernel_rfl) (by kernel_rfl) (by kernel_rfl)
theorem okv : ∀ v : Nat, v < 2 → okFsR v false fsP = true := by decide +kernel
theorem b3 : (Go.Proofs.Tryd.f3).body.map strip = some (sc_LawCutK X.T 4 X.U8 X.I 27 X.Bs 4 6 5 7) := by kernel_rfl
theorem law (a : Addr) (w : World) (n at_ : Nat) (hn : n < 256) (hat : at_ < 65536) (t : Tree) (tv : Value) (ht : TV G0 w (· < w.heap.size) t tv) (hgb : 0 < w.heap.size) (hgl : ∀ w', Below w.heap.size w w' → GlE a w') (hk : KAll t) (hlim : ∀ v : Nat, v ≤ 1 → (wMsg v (flexAt none v) fs t.l t.u).length + 2 ≤ lim) : Calls PP 3 #[.int .u8 (n : Int), tv, .int .u16 (at_ : Int)] w fun e w' => e = .returned (.bool true) ∧ Below w.heap.size w w' :=
  lawCutK_ok (G := G0) hX hm (by kernel_rfl) fs fsP ok4 cFit ok6 cSp cK (cAg a) Go.Proofs.Tryd.func3 b3 (by kernel_rfl) (by kernel_rfl) w n at_ hn hat t tv ht hgb hgl cv (fun v _ => hcv v t.l) okv (fun v _ => hkf v t hk) (fun v hv => by
    have h := hlim v (by omega)
    have e : wMsg v (flexAt none v) fs t.l t.u = wFs v false fs t.l := by simp [wMsg, flexAt, wTags]
    rw [e] at h
    rw [List.length_append, fixed_two]
    omega)
end Go.Proofs.YtgaplicnofhliabDoor.K.CutConnectMemberMetadata

