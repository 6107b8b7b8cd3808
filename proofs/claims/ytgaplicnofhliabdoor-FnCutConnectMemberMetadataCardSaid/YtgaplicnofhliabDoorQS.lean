/- What this seat's program is: the reference's functions. No condition. -/
import Derived.Test.YtgaplicnofhliabDoorQX
import Derived.Test.YtgaplicnofhliabDoorB1
namespace Go.Proofs.YtgaplicnofhliabDoor.K
open Go Go.RowKit Go.Proofs Go.Proofs.YtgaplicnofhliabDoor.T
set_option linter.unusedVariables false
theorem arrF : arrB PP X.F 8 = true := by kernel_rfl
theorem arrT : arrB PP X.T 5 = true := by kernel_rfl
theorem arrM : arrB PP X.M 2 = true := by kernel_rfl
theorem arrTg : arrB PP X.Tg 2 = true := by kernel_rfl
theorem fok : fOK PP X.F = true := by kernel_rfl
theorem uFs : PP.underlying X.Fs = some (.slice X.F) := by kernel_rfl
theorem zT : PP.built X.T [] = some #[.int .i64 0, .slice none 0 0, .bool false, .slice none 0 0, .slice none 0 0] := by kernel_rfl
theorem mB : ∀ (n : Int) (b : Option Addr) (l c : Nat), PP.built X.M [(1, .int .i64 n), (0, .slice b l c)] = some #[.slice b l c, .int .i64 n] := fun _ _ _ _ => by kernel_rfl
theorem sTs : sliceN PP X.Ts = some 5 := by kernel_rfl
theorem otOK : otB PP X.T X.Tg = true := by kernel_rfl
theorem b22 : (Go.Proofs.Tryd.f22).body.map strip = some (sc_has X.F X.I) := by kernel_rfl
theorem ok22 : FnOK PP 22 := fnOK_of Go.Proofs.Tryd.func22 b22 (by kernel_rfl)
theorem b40 : (Go.Proofs.Tryd.f40).body.map strip = some (sc_isnull X.F X.T X.B X.I) := by kernel_rfl
theorem ok40 : FnOK PP 40 := fnOK_of Go.Proofs.Tryd.func40 b40 (by kernel_rfl)
theorem b29 : (Go.Proofs.Tryd.f29).body.map strip = some (sc_whole X.Bs X.I) := by kernel_rfl
theorem ok29 : FnOK PP 29 := fnOK_of Go.Proofs.Tryd.func29 b29 (by kernel_rfl)
theorem b41 : (Go.Proofs.Tryd.f41).body.map strip = some (sc_things X.Ts X.I) := by kernel_rfl
theorem ok41 : FnOK PP 41 := fnOK_of Go.Proofs.Tryd.func41 b41 (by kernel_rfl)
theorem b24 : (Go.Proofs.Tryd.f24).body.map strip = some (sc_at X.T X.Ts X.I) := by kernel_rfl
theorem ok24 : FnOK PP 24 := fnOK_of Go.Proofs.Tryd.func24 b24 (by kernel_rfl)
theorem b27 : (Go.Proofs.Tryd.f27).body.map strip = some (sc_Uvarint X.U64 X.U8 X.Bs X.U) := by kernel_rfl
theorem ok27 : FnOK PP 27 := fnOK_of Go.Proofs.Tryd.func27 b27 (by kernel_rfl)
theorem b9 : (Go.Proofs.Tryd.f9).body.map strip = some (sc_Fixed X.I X.I64 X.U8 X.Bs) := by kernel_rfl
theorem ok9 : FnOK PP 9 := fnOK_of Go.Proofs.Tryd.func9 b9 (by kernel_rfl)
theorem b45 : (Go.Proofs.Tryd.f45).body.map strip = some (sc_width X.I) := by kernel_rfl
theorem ok45 : FnOK PP 45 := fnOK_of Go.Proofs.Tryd.func45 b45 (by kernel_rfl)
theorem b42 : (Go.Proofs.Tryd.f42).body.map strip = some (sc_counted X.Bs X.I X.U64 27 9) := by kernel_rfl
theorem ok42 : FnOK PP 42 := fnOK_of Go.Proofs.Tryd.func42 b42 (by kernel_rfl)
theorem b43 : (Go.Proofs.Tryd.f43).body.map strip = some (sc_value X.T X.I X.I64 X.U8 X.Bs 29 42 15 45 9) := by kernel_rfl
theorem ok43 : FnOK PP 43 := fnOK_of Go.Proofs.Tryd.func43 b43 (by kernel_rfl)
theorem b23 : (Go.Proofs.Tryd.f23).body.map strip = some (sc_sfield X.F X.T X.I X.Ts X.Fs X.Bs 40 41 42 43 9 15) := by kernel_rfl
theorem ok23 : FnOK PP 23 := fnOK_of Go.Proofs.Tryd.func23 b23 (by kernel_rfl)
theorem b25 : (Go.Proofs.Tryd.f25).body.map strip = some (sc_known X.Fs X.I X.F X.U32) := by kernel_rfl
theorem ok25 : FnOK PP 25 := fnOK_of Go.Proofs.Tryd.func25 b25 (by kernel_rfl)
theorem b15 : (Go.Proofs.Tryd.f15).body.map strip = some (sc_part X.T X.Fs X.I X.F X.Bs X.B X.U32 X.U64 X.Tgs X.Tg 22 24 23 25 26 27 28 29) := by kernel_rfl
theorem ok15 : FnOK PP 15 := fnOK_of Go.Proofs.Tryd.func15 b15 (by kernel_rfl)
theorem b28 : (Go.Proofs.Tryd.f28).body.map strip = some (sc_unknown X.Tgs X.I X.Tg X.U32 25) := by kernel_rfl
theorem ok28 : FnOK PP 28 := fnOK_of Go.Proofs.Tryd.func28 b28 (by kernel_rfl)
theorem b10 : (Go.Proofs.Tryd.f10).body.map strip = some (sc_Write X.M X.T X.Fs X.I 15) := by kernel_rfl
theorem ok10 : FnOK PP 10 := fnOK_of Go.Proofs.Tryd.func10 b10 (by kernel_rfl)
theorem small : SmallC PP X 29 41 42 45 9 27 22 40 24 G0 where
  oW := ok29
  cW := fun w b l c h => whole_ok iI sT Go.Proofs.Tryd.func29 b29 (by kernel_rfl) (by kernel_rfl) w b l c h
  oTh := ok41
  cTh := fun w b l c h => whole_ok iI sTs Go.Proofs.Tryd.func41 b41 (by kernel_rfl) (by kernel_rfl) w b l c h
  oC := ok42
  cC := fun w fl nu n s h1 h2 => counted_ok hX Go.Proofs.Tryd.func42 b42 (by kernel_rfl) (by kernel_rfl) ok27 (fun w n h => sUvarint_ok hX Go.Proofs.Tryd.func27 b27 (by kernel_rfl) (by kernel_rfl) w n h) ok9 (fun w n s h => sFixed_ok hX Go.Proofs.Tryd.func9 b9 (by kernel_rfl) (by kernel_rfl) w n s h) w fl nu n s h1 h2
  oWi := ok45
  cWi := fun w k => width_ok Go.Proofs.Tryd.func45 b45 (by kernel_rfl) (by kernel_rfl) w k
  oF := ok9
  cF := fun w n s h => sFixed_ok hX Go.Proofs.Tryd.func9 b9 (by kernel_rfl) (by kernel_rfl) w n s h
  oU := ok27
  cU := fun w n h => sUvarint_ok hX Go.Proofs.Tryd.func27 b27 (by kernel_rfl) (by kernel_rfl) w n h
  oH := ok22
  cH := fun w k fr to nu tg df o_ sub ver => has_ok hX Go.Proofs.Tryd.func22 b22 (by kernel_rfl) (by kernel_rfl) w k fr to nu tg df o_ sub ver
  oN := ok40
  cN := fun w k fr to nu tg df o_ sub ver n s l u null => isnull_ok hX Go.Proofs.Tryd.func40 b40 (by kernel_rfl) (by kernel_rfl) w k fr to nu tg df o_ sub ver n s l u null
  oA := ok24
  cA := fun w t tv i h => at_ok (G := G0) hX zT arrT Go.Proofs.Tryd.func24 b24 (by kernel_rfl) (by kernel_rfl) trivial w t tv i h
theorem known : KnownC PP 25 := known_ok hX arrF Go.Proofs.Tryd.func25 b25 (by kernel_rfl) (by kernel_rfl)
theorem tagT : TagT PP X := tagT_of (by kernel_rfl) (by kernel_rfl) (by kernel_rfl) (by kernel_rfl) (by kernel_rfl)
theorem unk : UnkC G0 PP 28 := unk_ok hX hm tagT ok25 known Go.Proofs.Tryd.func28 b28 (by kernel_rfl) (by kernel_rfl)
theorem fieldC : FieldC G0 PP X 23 15 := fun w h ty of_ sub ver flex t tv a1 a2 a3 a4 a5 a6 => field_ok hX small hm ok15 ok43 (fun ty h1 h2 w sub null ver flex t tv b1 b2 b3 => value_ok hX small hm ok15 Go.Proofs.Tryd.func43 b43 (by kernel_rfl) (by kernel_rfl) w ty h1 sub null ver flex t tv b1 h2 b2 b3) Go.Proofs.Tryd.func23 b23 (by kernel_rfl) (by kernel_rfl) w h ty of_ sub ver flex t tv a1 a2 a3 a4 a5 a6
theorem partOf (fs : Fs) (h1 : Fs.len fs < 4294967296) (h2 : SubsC (PartC G0 PP X 15) fs) : PartC G0 PP X 15 fs := part_ok hX arrF arrTg small hm ok23 fieldC ok25 known ok28 unk Go.Proofs.Tryd.func15 b15 (by kernel_rfl) (by kernel_rfl) fs h1 h2
theorem partC (fs : Fs) (h1 : Fs.len fs < 4294967296) (h2 : smallFs fs = true) : PartC G0 PP X 15 fs := partOf fs h1 (subsC_all partOf fs h2)
theorem cWr (fs : Fs) (h1 : Fs.len fs < 4294967296) (h2 : smallFs fs = true) (w : World) (fv : Value) (mflex ver : Int) (t : Tree) (tv : Value) (hf : FsV w (· < w.heap.size) fs fv) (ht : TV G0 w (· < w.heap.size) t tv) (hl : (wFs ver (decide (0 ≤ mflex) && decide (mflex ≤ ver)) fs t.l ++ wTags (decide (0 ≤ mflex) && decide (mflex ≤ ver)) t.u).length ≤ lim) : Calls PP 10 #[msgV fv mflex, .int .i64 ver, tv] w (RetOwn X.U8 w (wFs ver (decide (0 ≤ mflex) && decide (mflex ≤ ver)) fs t.l ++ wTags (decide (0 ≤ mflex) && decide (mflex ≤ ver)) t.u)) := write_ok hX ok15 Go.Proofs.Tryd.func10 b10 (by kernel_rfl) (by kernel_rfl) fs (partC fs h1 h2) w fv mflex ver t tv hf ht hl
theorem b14 : (Go.Proofs.Tryd.f14).body.map strip = some (sc_zzFits4 X.Tg X.Bs X.I) := by kernel_rfl
theorem ok14 : FnOK PP 14 := fnOK_of Go.Proofs.Tryd.func14 b14 (by kernel_rfl)
theorem b8 : (Go.Proofs.Tryd.f8).body.map strip = some (sc_zzFits3 X.Tgs X.I X.Tg 4 14) := by kernel_rfl
theorem ok8 : FnOK PP 8 := fnOK_of Go.Proofs.Tryd.func8 b8 (by kernel_rfl)
theorem b4 : (Go.Proofs.Tryd.f4).body.map strip = some (sc_zzFits2 X.T X.Bs X.I X.Ts X.Tgs 4 8) := by kernel_rfl
theorem ok4 : FnOK PP 4 := fnOK_of Go.Proofs.Tryd.func4 b4 (by kernel_rfl)
theorem cFit (w : World) (t : Tree) (tv : Value) (h : TV G0 w (· < w.heap.size) t tv) : Calls PP 4 #[tv] w (Asks w) := fits2_ok hX ok8 (fun w u ub uc hu => fits3_ok hX tagT ok14 (fun w k vb n vc hk => fits4_ok hX Go.Proofs.Tryd.func14 b14 (by kernel_rfl) (by kernel_rfl) w k vb n vc hk) Go.Proofs.Tryd.func8 b8 (by kernel_rfl) (by kernel_rfl) w u ub uc hu) Go.Proofs.Tryd.func4 b4 (by kernel_rfl) (by kernel_rfl) w t tv h
end Go.Proofs.YtgaplicnofhliabDoor.K
