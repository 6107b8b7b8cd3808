/- What this seat's program is: the reference's functions. No condition. -/
import Derived.Test.YtgcocbggoielkaaGreatDoorRQX
import Derived.Test.YtgcocbggoielkaaGreatDoorRB1
namespace Go.Proofs.YtgcocbggoielkaaGreatDoorR.K
open Go Go.RowKit Go.Proofs Go.Proofs.YtgcocbggoielkaaGreatDoorR.T
set_option linter.unusedVariables false
theorem arrF : arrB PP X.F 8 = true := by kernel_rfl
theorem arrT : arrB PP X.T 5 = true := by kernel_rfl
theorem arrM : arrB PP X.M 2 = true := by kernel_rfl
theorem arrTg : arrB PP X.Tg 2 = true := by kernel_rfl
theorem fok : fOK PP X.F = true := by kernel_rfl
theorem uFs : PP.underlying X.Fs = some (.slice X.F) := by kernel_rfl
theorem zT : PP.built X.T [] = some #[.int .i64 0, .slice none 0 0, .bool false, .slice none 0 0, .slice none 0 0] := by kernel_rfl
theorem mB : ∀ (n : Int) (b : Option Addr) (l c : Nat), PP.built X.M [(1, .int .i64 n), (0, .slice b l c)] = some #[.slice b l c, .int .i64 n] := fun _ _ _ _ => by kernel_rfl
theorem sTs : sliceN PP X.Ts = some 5 := by kernel_rfl
theorem otOK : otB PP X.T X.Tg = true := by kernel_rfl
theorem b51 : (Go.Proofs.Tryz.f51).body.map strip = some (sc_has X.F X.I) := by kernel_rfl
theorem ok51 : FnOK PP 51 := fnOK_of Go.Proofs.Tryz.func51 b51 (by kernel_rfl)
theorem b86 : (Go.Proofs.Tryz.f86).body.map strip = some (sc_isnull X.F X.T X.B X.I) := by kernel_rfl
theorem ok86 : FnOK PP 86 := fnOK_of Go.Proofs.Tryz.func86 b86 (by kernel_rfl)
theorem b58 : (Go.Proofs.Tryz.f58).body.map strip = some (sc_whole X.Bs X.I) := by kernel_rfl
theorem ok58 : FnOK PP 58 := fnOK_of Go.Proofs.Tryz.func58 b58 (by kernel_rfl)
theorem b87 : (Go.Proofs.Tryz.f87).body.map strip = some (sc_things X.Ts X.I) := by kernel_rfl
theorem ok87 : FnOK PP 87 := fnOK_of Go.Proofs.Tryz.func87 b87 (by kernel_rfl)
theorem b53 : (Go.Proofs.Tryz.f53).body.map strip = some (sc_at X.T X.Ts X.I) := by kernel_rfl
theorem ok53 : FnOK PP 53 := fnOK_of Go.Proofs.Tryz.func53 b53 (by kernel_rfl)
theorem b56 : (Go.Proofs.Tryz.f56).body.map strip = some (sc_Uvarint X.U64 X.U8 X.Bs X.U) := by kernel_rfl
theorem ok56 : FnOK PP 56 := fnOK_of Go.Proofs.Tryz.func56 b56 (by kernel_rfl)
theorem b90 : (Go.Proofs.Tryz.f90).body.map strip = some (sc_Fixed X.I X.I64 X.U8 X.Bs) := by kernel_rfl
theorem ok90 : FnOK PP 90 := fnOK_of Go.Proofs.Tryz.func90 b90 (by kernel_rfl)
theorem b91 : (Go.Proofs.Tryz.f91).body.map strip = some (sc_width X.I) := by kernel_rfl
theorem ok91 : FnOK PP 91 := fnOK_of Go.Proofs.Tryz.func91 b91 (by kernel_rfl)
theorem b88 : (Go.Proofs.Tryz.f88).body.map strip = some (sc_counted X.Bs X.I X.U64 56 90) := by kernel_rfl
theorem ok88 : FnOK PP 88 := fnOK_of Go.Proofs.Tryz.func88 b88 (by kernel_rfl)
theorem b89 : (Go.Proofs.Tryz.f89).body.map strip = some (sc_value X.T X.I X.I64 X.U8 X.Bs 58 88 26 91 90) := by kernel_rfl
theorem ok89 : FnOK PP 89 := fnOK_of Go.Proofs.Tryz.func89 b89 (by kernel_rfl)
theorem b52 : (Go.Proofs.Tryz.f52).body.map strip = some (sc_sfield X.F X.T X.I X.Ts X.Fs X.Bs 86 87 88 89 90 26) := by kernel_rfl
theorem ok52 : FnOK PP 52 := fnOK_of Go.Proofs.Tryz.func52 b52 (by kernel_rfl)
theorem b54 : (Go.Proofs.Tryz.f54).body.map strip = some (sc_known X.Fs X.I X.F X.U32) := by kernel_rfl
theorem ok54 : FnOK PP 54 := fnOK_of Go.Proofs.Tryz.func54 b54 (by kernel_rfl)
theorem b26 : (Go.Proofs.Tryz.f26).body.map strip = some (sc_part X.T X.Fs X.I X.F X.Bs X.B X.U32 X.U64 X.Tgs X.Tg 51 53 52 54 55 56 57 58) := by kernel_rfl
theorem ok26 : FnOK PP 26 := fnOK_of Go.Proofs.Tryz.func26 b26 (by kernel_rfl)
theorem b57 : (Go.Proofs.Tryz.f57).body.map strip = some (sc_unknown X.Tgs X.I X.Tg X.U32 54) := by kernel_rfl
theorem ok57 : FnOK PP 57 := fnOK_of Go.Proofs.Tryz.func57 b57 (by kernel_rfl)
theorem b9 : (Go.Proofs.Tryz.f9).body.map strip = some (sc_Write X.M X.T X.Fs X.I 26) := by kernel_rfl
theorem ok9 : FnOK PP 9 := fnOK_of Go.Proofs.Tryz.func9 b9 (by kernel_rfl)
theorem small : SmallC PP X 58 87 88 91 90 56 51 86 53 G0 where
  oW := ok58
  cW := fun w b l c h => whole_ok iI sT Go.Proofs.Tryz.func58 b58 (by kernel_rfl) (by kernel_rfl) w b l c h
  oTh := ok87
  cTh := fun w b l c h => whole_ok iI sTs Go.Proofs.Tryz.func87 b87 (by kernel_rfl) (by kernel_rfl) w b l c h
  oC := ok88
  cC := fun w fl nu n s h1 h2 => counted_ok hX Go.Proofs.Tryz.func88 b88 (by kernel_rfl) (by kernel_rfl) ok56 (fun w n h => sUvarint_ok hX Go.Proofs.Tryz.func56 b56 (by kernel_rfl) (by kernel_rfl) w n h) ok90 (fun w n s h => sFixed_ok hX Go.Proofs.Tryz.func90 b90 (by kernel_rfl) (by kernel_rfl) w n s h) w fl nu n s h1 h2
  oWi := ok91
  cWi := fun w k => width_ok Go.Proofs.Tryz.func91 b91 (by kernel_rfl) (by kernel_rfl) w k
  oF := ok90
  cF := fun w n s h => sFixed_ok hX Go.Proofs.Tryz.func90 b90 (by kernel_rfl) (by kernel_rfl) w n s h
  oU := ok56
  cU := fun w n h => sUvarint_ok hX Go.Proofs.Tryz.func56 b56 (by kernel_rfl) (by kernel_rfl) w n h
  oH := ok51
  cH := fun w k fr to nu tg df o_ sub ver => has_ok hX Go.Proofs.Tryz.func51 b51 (by kernel_rfl) (by kernel_rfl) w k fr to nu tg df o_ sub ver
  oN := ok86
  cN := fun w k fr to nu tg df o_ sub ver n s l u null => isnull_ok hX Go.Proofs.Tryz.func86 b86 (by kernel_rfl) (by kernel_rfl) w k fr to nu tg df o_ sub ver n s l u null
  oA := ok53
  cA := fun w t tv i h => at_ok (G := G0) hX zT arrT Go.Proofs.Tryz.func53 b53 (by kernel_rfl) (by kernel_rfl) trivial w t tv i h
theorem known : KnownC PP 54 := known_ok hX arrF Go.Proofs.Tryz.func54 b54 (by kernel_rfl) (by kernel_rfl)
theorem tagT : TagT PP X := tagT_of (by kernel_rfl) (by kernel_rfl) (by kernel_rfl) (by kernel_rfl) (by kernel_rfl)
theorem unk : UnkC G0 PP 57 := unk_ok hX hm tagT ok54 known Go.Proofs.Tryz.func57 b57 (by kernel_rfl) (by kernel_rfl)
theorem fieldC : FieldC G0 PP X 52 26 := fun w h ty of_ sub ver flex t tv a1 a2 a3 a4 a5 a6 => field_ok hX small hm ok26 ok89 (fun ty h1 h2 w sub null ver flex t tv b1 b2 b3 => value_ok hX small hm ok26 Go.Proofs.Tryz.func89 b89 (by kernel_rfl) (by kernel_rfl) w ty h1 sub null ver flex t tv b1 h2 b2 b3) Go.Proofs.Tryz.func52 b52 (by kernel_rfl) (by kernel_rfl) w h ty of_ sub ver flex t tv a1 a2 a3 a4 a5 a6
theorem partOf (fs : Fs) (h1 : Fs.len fs < 4294967296) (h2 : SubsC (PartC G0 PP X 26) fs) : PartC G0 PP X 26 fs := part_ok hX arrF arrTg small hm ok52 fieldC ok54 known ok57 unk Go.Proofs.Tryz.func26 b26 (by kernel_rfl) (by kernel_rfl) fs h1 h2
theorem partC (fs : Fs) (h1 : Fs.len fs < 4294967296) (h2 : smallFs fs = true) : PartC G0 PP X 26 fs := partOf fs h1 (subsC_all partOf fs h2)
theorem cWr (fs : Fs) (h1 : Fs.len fs < 4294967296) (h2 : smallFs fs = true) (w : World) (fv : Value) (mflex ver : Int) (t : Tree) (tv : Value) (hf : FsV w (· < w.heap.size) fs fv) (ht : TV G0 w (· < w.heap.size) t tv) (hl : (wFs ver (decide (0 ≤ mflex) && decide (mflex ≤ ver)) fs t.l ++ wTags (decide (0 ≤ mflex) && decide (mflex ≤ ver)) t.u).length ≤ lim) : Calls PP 9 #[msgV fv mflex, .int .i64 ver, tv] w (RetOwn X.U8 w (wFs ver (decide (0 ≤ mflex) && decide (mflex ≤ ver)) fs t.l ++ wTags (decide (0 ≤ mflex) && decide (mflex ≤ ver)) t.u)) := write_ok hX ok26 Go.Proofs.Tryz.func9 b9 (by kernel_rfl) (by kernel_rfl) fs (partC fs h1 h2) w fv mflex ver t tv hf ht hl
theorem b49 : (Go.Proofs.Tryz.f49).body.map strip = some (sc_zzFits4 X.Tg X.Bs X.I) := by kernel_rfl
theorem ok49 : FnOK PP 49 := fnOK_of Go.Proofs.Tryz.func49 b49 (by kernel_rfl)
theorem b23 : (Go.Proofs.Tryz.f23).body.map strip = some (sc_zzFits3 X.Tgs X.I X.Tg 4 49) := by kernel_rfl
theorem ok23 : FnOK PP 23 := fnOK_of Go.Proofs.Tryz.func23 b23 (by kernel_rfl)
theorem b7 : (Go.Proofs.Tryz.f7).body.map strip = some (sc_zzFits2 X.T X.Bs X.I X.Ts X.Tgs 4 23) := by kernel_rfl
theorem ok7 : FnOK PP 7 := fnOK_of Go.Proofs.Tryz.func7 b7 (by kernel_rfl)
theorem cFit (w : World) (t : Tree) (tv : Value) (h : TV G0 w (· < w.heap.size) t tv) : Calls PP 7 #[tv] w (Asks w) := fits2_ok hX ok23 (fun w u ub uc hu => fits3_ok hX tagT ok49 (fun w k vb n vc hk => fits4_ok hX Go.Proofs.Tryz.func49 b49 (by kernel_rfl) (by kernel_rfl) w k vb n vc hk) Go.Proofs.Tryz.func23 b23 (by kernel_rfl) (by kernel_rfl) w u ub uc hu) Go.Proofs.Tryz.func7 b7 (by kernel_rfl) (by kernel_rfl) w t tv h
end Go.Proofs.YtgcocbggoielkaaGreatDoorR.K
