/- What this seat's program is: the reference's functions. No condition. -/
import Derived.Test.YtgcocbggoielkaaDoorQX
import Derived.Test.YtgcocbggoielkaaDoorB1
namespace Go.Proofs.YtgcocbggoielkaaDoor.K
open Go Go.RowKit Go.Proofs Go.Proofs.YtgcocbggoielkaaDoor.T
set_option linter.unusedVariables false
theorem arrF : arrB PP X.F 8 = true := by kernel_rfl
theorem arrT : arrB PP X.T 5 = true := by kernel_rfl
theorem arrM : arrB PP X.M 2 = true := by kernel_rfl
theorem arrTg : arrB PP X.Tg 2 = true := by kernel_rfl
theorem fok : fOK PP X.F = true := by kernel_rfl
theorem uFs : PP.underlying X.Fs = some (.slice X.F) := by kernel_rfl
theorem zT : PP.built X.T [] = some #[.int .i64 0, .slice none 0 0, .bool false, .slice none 0 0, .slice none 0 0] := by kernel_rfl
theorem mB : ∀ (n : Int) (b : Option Addr) (l c : Nat), PP.built X.M [(1, .int .i64 n), (0, .slice b l c)] = some #[.slice b l c, .int .i64 n] := fun _ _ _ _ => by kernel_rfl
theorem sTs : sliceN PP X.Ts = some 5 := by kernel_rfl
theorem otOK : otB PP X.T X.Tg = true := by kernel_rfl
theorem b77 : (Go.Proofs.Tryd.f77).body.map strip = some (sc_has X.F X.I) := by kernel_rfl
theorem ok77 : FnOK PP 77 := fnOK_of Go.Proofs.Tryd.func77 b77 (by kernel_rfl)
theorem b114 : (Go.Proofs.Tryd.f114).body.map strip = some (sc_isnull X.F X.T X.B X.I) := by kernel_rfl
theorem ok114 : FnOK PP 114 := fnOK_of Go.Proofs.Tryd.func114 b114 (by kernel_rfl)
theorem b84 : (Go.Proofs.Tryd.f84).body.map strip = some (sc_whole X.Bs X.I) := by kernel_rfl
theorem ok84 : FnOK PP 84 := fnOK_of Go.Proofs.Tryd.func84 b84 (by kernel_rfl)
theorem b115 : (Go.Proofs.Tryd.f115).body.map strip = some (sc_things X.Ts X.I) := by kernel_rfl
theorem ok115 : FnOK PP 115 := fnOK_of Go.Proofs.Tryd.func115 b115 (by kernel_rfl)
theorem b79 : (Go.Proofs.Tryd.f79).body.map strip = some (sc_at X.T X.Ts X.I) := by kernel_rfl
theorem ok79 : FnOK PP 79 := fnOK_of Go.Proofs.Tryd.func79 b79 (by kernel_rfl)
theorem b82 : (Go.Proofs.Tryd.f82).body.map strip = some (sc_Uvarint X.U64 X.U8 X.Bs X.U) := by kernel_rfl
theorem ok82 : FnOK PP 82 := fnOK_of Go.Proofs.Tryd.func82 b82 (by kernel_rfl)
theorem b46 : (Go.Proofs.Tryd.f46).body.map strip = some (sc_Fixed X.I X.I64 X.U8 X.Bs) := by kernel_rfl
theorem ok46 : FnOK PP 46 := fnOK_of Go.Proofs.Tryd.func46 b46 (by kernel_rfl)
theorem b118 : (Go.Proofs.Tryd.f118).body.map strip = some (sc_width X.I) := by kernel_rfl
theorem ok118 : FnOK PP 118 := fnOK_of Go.Proofs.Tryd.func118 b118 (by kernel_rfl)
theorem b116 : (Go.Proofs.Tryd.f116).body.map strip = some (sc_counted X.Bs X.I X.U64 82 46) := by kernel_rfl
theorem ok116 : FnOK PP 116 := fnOK_of Go.Proofs.Tryd.func116 b116 (by kernel_rfl)
theorem b117 : (Go.Proofs.Tryd.f117).body.map strip = some (sc_value X.T X.I X.I64 X.U8 X.Bs 84 116 39 118 46) := by kernel_rfl
theorem ok117 : FnOK PP 117 := fnOK_of Go.Proofs.Tryd.func117 b117 (by kernel_rfl)
theorem b78 : (Go.Proofs.Tryd.f78).body.map strip = some (sc_sfield X.F X.T X.I X.Ts X.Fs X.Bs 114 115 116 117 46 39) := by kernel_rfl
theorem ok78 : FnOK PP 78 := fnOK_of Go.Proofs.Tryd.func78 b78 (by kernel_rfl)
theorem b80 : (Go.Proofs.Tryd.f80).body.map strip = some (sc_known X.Fs X.I X.F X.U32) := by kernel_rfl
theorem ok80 : FnOK PP 80 := fnOK_of Go.Proofs.Tryd.func80 b80 (by kernel_rfl)
theorem b39 : (Go.Proofs.Tryd.f39).body.map strip = some (sc_part X.T X.Fs X.I X.F X.Bs X.B X.U32 X.U64 X.Tgs X.Tg 77 79 78 80 81 82 83 84) := by kernel_rfl
theorem ok39 : FnOK PP 39 := fnOK_of Go.Proofs.Tryd.func39 b39 (by kernel_rfl)
theorem b83 : (Go.Proofs.Tryd.f83).body.map strip = some (sc_unknown X.Tgs X.I X.Tg X.U32 80) := by kernel_rfl
theorem ok83 : FnOK PP 83 := fnOK_of Go.Proofs.Tryd.func83 b83 (by kernel_rfl)
theorem b16 : (Go.Proofs.Tryd.f16).body.map strip = some (sc_Write X.M X.T X.Fs X.I 39) := by kernel_rfl
theorem ok16 : FnOK PP 16 := fnOK_of Go.Proofs.Tryd.func16 b16 (by kernel_rfl)
theorem small : SmallC PP X 84 115 116 118 46 82 77 114 79 G0 where
  oW := ok84
  cW := fun w b l c h => whole_ok iI sT Go.Proofs.Tryd.func84 b84 (by kernel_rfl) (by kernel_rfl) w b l c h
  oTh := ok115
  cTh := fun w b l c h => whole_ok iI sTs Go.Proofs.Tryd.func115 b115 (by kernel_rfl) (by kernel_rfl) w b l c h
  oC := ok116
  cC := fun w fl nu n s h1 h2 => counted_ok hX Go.Proofs.Tryd.func116 b116 (by kernel_rfl) (by kernel_rfl) ok82 (fun w n h => sUvarint_ok hX Go.Proofs.Tryd.func82 b82 (by kernel_rfl) (by kernel_rfl) w n h) ok46 (fun w n s h => sFixed_ok hX Go.Proofs.Tryd.func46 b46 (by kernel_rfl) (by kernel_rfl) w n s h) w fl nu n s h1 h2
  oWi := ok118
  cWi := fun w k => width_ok Go.Proofs.Tryd.func118 b118 (by kernel_rfl) (by kernel_rfl) w k
  oF := ok46
  cF := fun w n s h => sFixed_ok hX Go.Proofs.Tryd.func46 b46 (by kernel_rfl) (by kernel_rfl) w n s h
  oU := ok82
  cU := fun w n h => sUvarint_ok hX Go.Proofs.Tryd.func82 b82 (by kernel_rfl) (by kernel_rfl) w n h
  oH := ok77
  cH := fun w k fr to nu tg df o_ sub ver => has_ok hX Go.Proofs.Tryd.func77 b77 (by kernel_rfl) (by kernel_rfl) w k fr to nu tg df o_ sub ver
  oN := ok114
  cN := fun w k fr to nu tg df o_ sub ver n s l u null => isnull_ok hX Go.Proofs.Tryd.func114 b114 (by kernel_rfl) (by kernel_rfl) w k fr to nu tg df o_ sub ver n s l u null
  oA := ok79
  cA := fun w t tv i h => at_ok (G := G0) hX zT arrT Go.Proofs.Tryd.func79 b79 (by kernel_rfl) (by kernel_rfl) trivial w t tv i h
theorem known : KnownC PP 80 := known_ok hX arrF Go.Proofs.Tryd.func80 b80 (by kernel_rfl) (by kernel_rfl)
theorem tagT : TagT PP X := tagT_of (by kernel_rfl) (by kernel_rfl) (by kernel_rfl) (by kernel_rfl) (by kernel_rfl)
theorem unk : UnkC G0 PP 83 := unk_ok hX hm tagT ok80 known Go.Proofs.Tryd.func83 b83 (by kernel_rfl) (by kernel_rfl)
theorem fieldC : FieldC G0 PP X 78 39 := fun w h ty of_ sub ver flex t tv a1 a2 a3 a4 a5 a6 => field_ok hX small hm ok39 ok117 (fun ty h1 h2 w sub null ver flex t tv b1 b2 b3 => value_ok hX small hm ok39 Go.Proofs.Tryd.func117 b117 (by kernel_rfl) (by kernel_rfl) w ty h1 sub null ver flex t tv b1 h2 b2 b3) Go.Proofs.Tryd.func78 b78 (by kernel_rfl) (by kernel_rfl) w h ty of_ sub ver flex t tv a1 a2 a3 a4 a5 a6
theorem partOf (fs : Fs) (h1 : Fs.len fs < 4294967296) (h2 : SubsC (PartC G0 PP X 39) fs) : PartC G0 PP X 39 fs := part_ok hX arrF arrTg small hm ok78 fieldC ok80 known ok83 unk Go.Proofs.Tryd.func39 b39 (by kernel_rfl) (by kernel_rfl) fs h1 h2
theorem partC (fs : Fs) (h1 : Fs.len fs < 4294967296) (h2 : smallFs fs = true) : PartC G0 PP X 39 fs := partOf fs h1 (subsC_all partOf fs h2)
theorem cWr (fs : Fs) (h1 : Fs.len fs < 4294967296) (h2 : smallFs fs = true) (w : World) (fv : Value) (mflex ver : Int) (t : Tree) (tv : Value) (hf : FsV w (· < w.heap.size) fs fv) (ht : TV G0 w (· < w.heap.size) t tv) (hl : (wFs ver (decide (0 ≤ mflex) && decide (mflex ≤ ver)) fs t.l ++ wTags (decide (0 ≤ mflex) && decide (mflex ≤ ver)) t.u).length ≤ lim) : Calls PP 16 #[msgV fv mflex, .int .i64 ver, tv] w (RetOwn X.U8 w (wFs ver (decide (0 ≤ mflex) && decide (mflex ≤ ver)) fs t.l ++ wTags (decide (0 ≤ mflex) && decide (mflex ≤ ver)) t.u)) := write_ok hX ok39 Go.Proofs.Tryd.func16 b16 (by kernel_rfl) (by kernel_rfl) fs (partC fs h1 h2) w fv mflex ver t tv hf ht hl
theorem b75 : (Go.Proofs.Tryd.f75).body.map strip = some (sc_zzFits4 X.Tg X.Bs X.I) := by kernel_rfl
theorem ok75 : FnOK PP 75 := fnOK_of Go.Proofs.Tryd.func75 b75 (by kernel_rfl)
theorem b36 : (Go.Proofs.Tryd.f36).body.map strip = some (sc_zzFits3 X.Tgs X.I X.Tg 4 75) := by kernel_rfl
theorem ok36 : FnOK PP 36 := fnOK_of Go.Proofs.Tryd.func36 b36 (by kernel_rfl)
theorem b14 : (Go.Proofs.Tryd.f14).body.map strip = some (sc_zzFits2 X.T X.Bs X.I X.Ts X.Tgs 4 36) := by kernel_rfl
theorem ok14 : FnOK PP 14 := fnOK_of Go.Proofs.Tryd.func14 b14 (by kernel_rfl)
theorem cFit (w : World) (t : Tree) (tv : Value) (h : TV G0 w (· < w.heap.size) t tv) : Calls PP 14 #[tv] w (Asks w) := fits2_ok hX ok36 (fun w u ub uc hu => fits3_ok hX tagT ok75 (fun w k vb n vc hk => fits4_ok hX Go.Proofs.Tryd.func75 b75 (by kernel_rfl) (by kernel_rfl) w k vb n vc hk) Go.Proofs.Tryd.func36 b36 (by kernel_rfl) (by kernel_rfl) w u ub uc hu) Go.Proofs.Tryd.func14 b14 (by kernel_rfl) (by kernel_rfl) w t tv h
end Go.Proofs.YtgcocbggoielkaaDoor.K
