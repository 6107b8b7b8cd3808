/- AgainConsumerGroupHeartbeatResponse: what the law on it computes. No condition. -/
import Derived.Test.YtjcndcolfllibaaGreatDoorB0
import Derived.Test.YtjcndcolfllibaaGreatDoorQA
import Derived.Test.YtjcndcolfllibaaGreatDoorQR
import Derived.Test.YtjcndcolfllibaaGreatDoorQS
namespace Go.Proofs.YtjcndcolfllibaaGreatDoor.K.AgainConsumerGroupHeartbeatResponse
open Go Go.RowKit Go.Proofs Go.Proofs.YtjcndcolfllibaaGreatDoor.T Go.Proofs.YtjcndcolfllibaaGreatDoor.K
set_option linter.unusedVariables false
set_option linter.unusedSimpArgs false
def fs122 : Fs := (.cons ⟨0, -1, -1, 0, 0, 0, 136, false⟩ (.prim .uuid) (.cons ⟨0, -1, -1, 0, 1, 16, 137, false⟩ (.list 137 21 1 (.prim .i32)) .nil))
theorem b122 : (Go.Proofs.Tryz.f122).body.map strip = some (sc_bSub X.F X.Fs fs122 []) := by kernel_rfl
theorem ok122 : FnOK PP 122 := fnOK_of Go.Proofs.Tryz.func122 b122 (by kernel_rfl)
theorem sf122 : SubFns PP fs122 [] := by
  simp [SubFns, hasSub, fs122]
theorem c122 (w : World) : Calls PP 122 #[] w fun e w' => ∃ v, e = .returned v ∧ v.oneCell' = true ∧ FsV w' (fun k => w.heap.size ≤ k ∧ k < w'.heap.size) fs122 v ∧ Below w.heap.size w w' := bSub_ok hX fok uFs fs122 [] (by kernel_rfl) sf122 (by decide +kernel) Go.Proofs.Tryz.func122 b122 (by kernel_rfl) (by kernel_rfl) w
def fs66 : Fs := (.cons ⟨0, -1, -1, 0, 0, 0, 132, false⟩ (.list 132 139 18 (.struct 139 18 168 (some (2, 17)) (.cons ⟨0, -1, -1, 0, 0, 0, 136, false⟩ (.prim .uuid) (.cons ⟨0, -1, -1, 0, 1, 16, 137, false⟩ (.list 137 21 1 (.prim .i32)) .nil)))) .nil)
theorem b66 : (Go.Proofs.Tryz.f66).body.map strip = some (sc_bSub X.F X.Fs fs66 [122]) := by kernel_rfl
theorem ok66 : FnOK PP 66 := fnOK_of Go.Proofs.Tryz.func66 b66 (by kernel_rfl)
theorem sf66 : SubFns PP fs66 [122] := by
  simp only [SubFns, hasSub, Bool.false_eq_true, if_false, if_true, List.headD_cons, List.tail_cons, fs66]
  exact ⟨⟨ok122, fun w => (c122 w).mono fun e w' ⟨v, q1, q2, q3, q4⟩ => ⟨v, q1, q2, by simp only [SubV]; exact q3, q4⟩⟩, trivial⟩
theorem c66 (w : World) : Calls PP 66 #[] w fun e w' => ∃ v, e = .returned v ∧ v.oneCell' = true ∧ FsV w' (fun k => w.heap.size ≤ k ∧ k < w'.heap.size) fs66 v ∧ Below w.heap.size w w' := bSub_ok hX fok uFs fs66 [122] (by kernel_rfl) sf66 (by decide +kernel) Go.Proofs.Tryz.func66 b66 (by kernel_rfl) (by kernel_rfl) w
def fs : Fs := (.cons ⟨0, -1, -1, 0, 1, 1, 21, false⟩ (.prim .i32) (.cons ⟨0, -1, -1, 0, 2, 2, 42, false⟩ (.prim .i16) (.cons ⟨0, -1, 0, 0, 3, 3, 75, false⟩ (.prim .str) (.cons ⟨0, -1, 0, 0, 4, 4, 75, false⟩ (.prim .str) (.cons ⟨0, -1, -1, 0, 5, 5, 21, false⟩ (.prim .i32) (.cons ⟨0, -1, -1, 0, 6, 6, 21, false⟩ (.prim .i32) (.cons ⟨0, -1, 0, 0, 7, 7, 129, false⟩ (.struct 134 2 167 (some (1, 1)) (.cons ⟨0, -1, -1, 0, 0, 0, 132, false⟩ (.list 132 139 18 (.struct 139 18 168 (some (2, 17)) (.cons ⟨0, -1, -1, 0, 0, 0, 136, false⟩ (.prim .uuid) (.cons ⟨0, -1, -1, 0, 1, 16, 137, false⟩ (.list 137 21 1 (.prim .i32)) .nil)))) .nil)) .nil)))))))
theorem b28 : (Go.Proofs.Tryz.f28).body.map strip = some (sc_bTop X.F X.Fs X.M fs (0) [66]) := by kernel_rfl
theorem ok28 : FnOK PP 28 := fnOK_of Go.Proofs.Tryz.func28 b28 (by kernel_rfl)
theorem sfTop : SubFns PP fs [66] := by
  simp only [SubFns, hasSub, Bool.false_eq_true, if_false, if_true, List.headD_cons, List.tail_cons, fs]
  exact ⟨⟨ok66, fun w => (c66 w).mono fun e w' ⟨v, q1, q2, q3, q4⟩ => ⟨v, q1, q2, by simp only [SubV]; exact q3, q4⟩⟩, trivial⟩
theorem cSp (w : World) : Calls PP 28 #[] w fun e w' => ∃ v, e = .returned (msgV v (0)) ∧ v.oneCell' = true ∧ FsV w' (fun k => w.heap.size ≤ k ∧ k < w'.heap.size) fs v ∧ Below w.heap.size w w' := bTop_ok hX fok uFs arrM mB fs (0) [66] (by kernel_rfl) sfTop (by decide +kernel) Go.Proofs.Tryz.func28 b28 (by kernel_rfl) (by kernel_rfl) w
def sc167 : SC := .skip
theorem b167 : (Go.Proofs.Tryz.f167).body.map strip = some (sc167) := by kernel_rfl
theorem d167 : DefAt PP 167 2 [] := defAt_ok (N := 2) Go.Proofs.Tryz.func167 b167 (by kernel_rfl) (by kernel_rfl) (by decide) (by kernel_rfl) (by kernel_rfl)
def sc168 : SC := .skip
theorem b168 : (Go.Proofs.Tryz.f168).body.map strip = some (sc168) := by kernel_rfl
theorem d168 : DefAt PP 168 18 [] := defAt_ok (N := 2) Go.Proofs.Tryz.func168 b168 (by kernel_rfl) (by kernel_rfl) (by decide) (by kernel_rfl) (by kernel_rfl)
def sc121 : SC := .seq (.reg [mv 3 0, nilc 4 3, fa 5 131 4 7, asg 2 5]) (.reg [mv 6 2])
theorem b121 : (Go.Proofs.Tryz.f121).body.map strip = some (sc121) := by kernel_rfl
theorem d121 : DefAt PP 121 9 [] := defAt_ok (N := 7) Go.Proofs.Tryz.func121 b121 (by kernel_rfl) (by kernel_rfl) (by decide) (by kernel_rfl) (by kernel_rfl)
theorem dfs : DefFs PP fs := ⟨trivial, ⟨trivial, ⟨trivial, ⟨trivial, ⟨trivial, ⟨trivial, ⟨⟨⟨_, d167, (by kernel_rfl), (by kernel_rfl)⟩, ⟨⟨⟨_, d168, (by kernel_rfl), (by kernel_rfl)⟩, ⟨trivial, ⟨trivial, trivial⟩⟩⟩, trivial⟩⟩, trivial⟩⟩⟩⟩⟩⟩⟩
noncomputable abbrev zc : Array Value := zcOf PP 131
noncomputable def cs : Array Value := dSetAll 0 [] zc
theorem defFn : DefFn PP 121 131 zc cs := ⟨d121.1, fun w b hc => d121.2 w b 0 zc 131 hc (by decide +kernel)⟩
theorem b64 : (Go.Proofs.Tryz.f64).body.map strip = some (sc_NewPtr 131 121) := by kernel_rfl
theorem ok64 : FnOK PP 64 := fnOK_of Go.Proofs.Tryz.func64 b64 (by kernel_rfl)
theorem cNP (w : World) : Calls PP 64 #[] w fun e w' => ∃ b, e = .returned (.pointer (some ⟨b, 0, none⟩)) ∧ w.heap.size ≤ b ∧ w'.heap[b]? = some (.cells cs 131 (0, 0)) ∧ Below w.heap.size w w' := newPtr_ok (zc_of (by kernel_rfl)) defFn Go.Proofs.Tryz.func64 b64 (by kernel_rfl) (by kernel_rfl) w
theorem b65 : (Go.Proofs.Tryz.f65).body.map strip = some (sc_MaxV 1) := by kernel_rfl
theorem ok65 : FnOK PP 65 := fnOK_of Go.Proofs.Tryz.func65 b65 (by kernel_rfl)
theorem b27 : (Go.Proofs.Tryz.f27).body.map strip = some (sc_Max 64 65 42 3) := by kernel_rfl
theorem ok27 : FnOK PP 27 := fnOK_of Go.Proofs.Tryz.func27 b27 (by kernel_rfl)
theorem cMax (w : World) : Calls PP 27 #[] w fun e w' => e = .returned (.int .i64 ((1 : Nat) : Int)) ∧ Below w.heap.size w w' := max_ok (by kernel_rfl) (by kernel_rfl) (by decide) ok64 cNP ok65 (fun w v => maxV_ok Go.Proofs.Tryz.func65 b65 (by kernel_rfl) (by kernel_rfl) w v) Go.Proofs.Tryz.func27 b27 (by kernel_rfl) (by kernel_rfl) w
theorem b67 : (Go.Proofs.Tryz.f67).body.map strip = some (sc_SetV 131 42) := by kernel_rfl
theorem ok67 : FnOK PP 67 := fnOK_of Go.Proofs.Tryz.func67 b67 (by kernel_rfl)
theorem b69 : (Go.Proofs.Tryz.f69).body.map strip = some (aTop ids 131 21 (some 0) (some (8, 8)) fs) := by kernel_rfl
theorem ok69 : FnOK PP 69 := fnOK_of Go.Proofs.Tryz.func69 b69 (by kernel_rfl)
def M : RTop := { S := 131, size := 9, d := 121, t := 32, N := 192, flex := (some 0), tags := (some (8, 8)), fs := fs }
theorem b123 : (Go.Proofs.Tryz.f123).body.map strip = some (rTop rids 131 121 32 (some 0) (some (8, 8)) fs) := by kernel_rfl
theorem b68 : (Go.Proofs.Tryz.f68).body.map strip = some (sc_ReadFromW 123) := by kernel_rfl
theorem ok68 : FnOK PP 68 := fnOK_of Go.Proofs.Tryz.func68 b68 (by kernel_rfl)
theorem ok123 : FnOK PP 123 := fnOK_of Go.Proofs.Tryz.func123 b123 (by kernel_rfl)
theorem cR (a : Addr) (B : Nat) (w0 : World) (h : 1 < B) (hg : ∀ w', Below B w0 w' → GlE a w') : ReadC PP rids M B G0 (errV a) 123 w0 := readFrom_ok (kr a) (fun _ => trivial) hg h (by kernel_rfl) dfs d121 (by kernel_rfl) (by kernel_rfl) Go.Proofs.Tryz.func123 b123 (by kernel_rfl) (by kernel_rfl)
theorem b29 : (Go.Proofs.Tryz.f29).body.map strip = some (sc_Again 3 42 22 51 64 67 68 69) := by kernel_rfl
theorem cAg (a : Addr) : AgC PP X.U8 (some 0) fs 1 1 (GlE a) 29 :=
  again_ok (I := rids) (M := M) (gb := 1) (m := 1) (G := G0) (Gl := GlE a) (err := errV a) (by kernel_rfl) (by kernel_rfl) (by kernel_rfl) (by kernel_rfl) (by decide) ⟨_, _, rfl⟩ ok64 cNP ok67 (fun w b cs E hc hs n => setV_ok (by kernel_rfl) (by kernel_rfl) Go.Proofs.Tryz.func67 b67 (by kernel_rfl) (by kernel_rfl) w b cs E hc hs n) ok68 (fun w x y Q h => readFromW_ok ok123 Go.Proofs.Tryz.func68 b68 (by kernel_rfl) (by kernel_rfl) w x y Q h) (fun B w0 h hg => cR a B w0 h hg) ok69 (fun w b ver ts u hb hc h0 hh ht hl => appendTo_calls ka Go.Proofs.Tryz.func69 b69 (by kernel_rfl) (by kernel_rfl) w b 0 ver ts u hb hc h0 hh ht hl) (by decide +kernel) (by decide) (by kernel_rfl) (by kernel_rfl) Go.Proofs.Tryz.func29 b29 (by kernel_rfl) (by kernel_rfl) (by kernel_rfl)
theorem okv : ∀ v : Nat, v ≤ 1 → okFsR v (flexAt (some 0) v) fs = true := by decide +kernel
theorem b7 : (Go.Proofs.Tryz.f7).body.map strip = some (sc_LawAgain X.T 4 X.I 11 27 28 15 13 29 17) := by kernel_rfl
theorem law (a : Addr) (w : World) (n : Nat) (hn : n < 256) (t : Tree) (tv : Value) (ht : TV G0 w (· < w.heap.size) t tv) (hgb : 1 < w.heap.size) (hgl : ∀ w', Below w.heap.size w w' → GlE a w') (hk : KAll t) (hlim : ∀ v : Nat, v ≤ 1 → (wMsg v (flexAt (some 0) v) fs t.l t.u).length ≤ lim) : Calls PP 7 #[.int .u8 (n : Int), tv] w fun e w' => e = .returned (.bool true) ∧ Below w.heap.size w w' :=
  lawAgain_ok (G := G0) hX hm (m := 1) (Gl := GlE a) (by decide) fs (0) (some 0) (fun v => by simp [flexAt]) ok11 cFit ok27 cMax ok28 cSp ok15 cVer ok13 (cWr fs (by decide +kernel) (by decide +kernel)) (cAg a) ok17 cSame Go.Proofs.Tryz.func7 b7 (by kernel_rfl) (by kernel_rfl) w n hn t tv ht hgb hgl (fun v hv => okv v hv) (fun v _ => kAll_fs v fs t.l hk.l) hk.u hlim
def flex : Option Int := (some 0)
def mx : Nat := 1
end Go.Proofs.YtjcndcolfllibaaGreatDoor.K.AgainConsumerGroupHeartbeatResponse

