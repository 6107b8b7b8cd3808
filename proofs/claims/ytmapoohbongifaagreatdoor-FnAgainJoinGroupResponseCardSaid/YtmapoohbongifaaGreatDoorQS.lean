/- What this seat's program is: the reference's functions. No condition. -/
import Derived.Test.YtmapoohbongifaaGreatDoorQX
import Derived.Test.YtmapoohbongifaaGreatDoorB1
namespace Go.Proofs.YtmapoohbongifaaGreatDoor.K
open Go Go.RowKit Go.Proofs Go.Proofs.YtmapoohbongifaaGreatDoor.T
set_option linter.unusedVariables false
theorem arrF : arrB PP X.F 8 = true := by kernel_rfl
theorem arrT : arrB PP X.T 5 = true := by kernel_rfl
theorem arrM : arrB PP X.M 2 = true := by kernel_rfl
theorem arrTg : arrB PP X.Tg 2 = true := by kernel_rfl
theorem fok : fOK PP X.F = true := by kernel_rfl
theorem uFs : PP.underlying X.Fs = some (.slice X.F) := by kernel_rfl
theorem zT : PP.built X.T [] = some #[.int .i64 0, .slice none 0 0, .bool false, .slice none 0 0, .slice none 0 0] := by kernel_rfl
theorem mB : ∀ (n : Int) (b : Option Addr) (l c : Nat), PP.built X.M [(1, .int .i64 n), (0, .slice b l c)] = some #[.slice b l c, .int .i64 n] := fun _ _ _ _ => by kernel_rfl
theorem sTs : sliceN PP X.Ts = some 5 := by kernel_rfl
theorem otOK : otB PP X.T X.Tg = true := by kernel_rfl
theorem b62 : (Go.Proofs.Tryz.f62).body.map strip = some (sc_has X.F X.I) := by kernel_rfl
theorem ok62 : FnOK PP 62 := fnOK_of Go.Proofs.Tryz.func62 b62 (by kernel_rfl)
theorem b101 : (Go.Proofs.Tryz.f101).body.map strip = some (sc_isnull X.F X.T X.B X.I) := by kernel_rfl
theorem ok101 : FnOK PP 101 := fnOK_of Go.Proofs.Tryz.func101 b101 (by kernel_rfl)
theorem b69 : (Go.Proofs.Tryz.f69).body.map strip = some (sc_whole X.Bs X.I) := by kernel_rfl
theorem ok69 : FnOK PP 69 := fnOK_of Go.Proofs.Tryz.func69 b69 (by kernel_rfl)
theorem b102 : (Go.Proofs.Tryz.f102).body.map strip = some (sc_things X.Ts X.I) := by kernel_rfl
theorem ok102 : FnOK PP 102 := fnOK_of Go.Proofs.Tryz.func102 b102 (by kernel_rfl)
theorem b64 : (Go.Proofs.Tryz.f64).body.map strip = some (sc_at X.T X.Ts X.I) := by kernel_rfl
theorem ok64 : FnOK PP 64 := fnOK_of Go.Proofs.Tryz.func64 b64 (by kernel_rfl)
theorem b67 : (Go.Proofs.Tryz.f67).body.map strip = some (sc_Uvarint X.U64 X.U8 X.Bs X.U) := by kernel_rfl
theorem ok67 : FnOK PP 67 := fnOK_of Go.Proofs.Tryz.func67 b67 (by kernel_rfl)
theorem b105 : (Go.Proofs.Tryz.f105).body.map strip = some (sc_Fixed X.I X.I64 X.U8 X.Bs) := by kernel_rfl
theorem ok105 : FnOK PP 105 := fnOK_of Go.Proofs.Tryz.func105 b105 (by kernel_rfl)
theorem b106 : (Go.Proofs.Tryz.f106).body.map strip = some (sc_width X.I) := by kernel_rfl
theorem ok106 : FnOK PP 106 := fnOK_of Go.Proofs.Tryz.func106 b106 (by kernel_rfl)
theorem b103 : (Go.Proofs.Tryz.f103).body.map strip = some (sc_counted X.Bs X.I X.U64 67 105) := by kernel_rfl
theorem ok103 : FnOK PP 103 := fnOK_of Go.Proofs.Tryz.func103 b103 (by kernel_rfl)
theorem b104 : (Go.Proofs.Tryz.f104).body.map strip = some (sc_value X.T X.I X.I64 X.U8 X.Bs 69 103 30 106 105) := by kernel_rfl
theorem ok104 : FnOK PP 104 := fnOK_of Go.Proofs.Tryz.func104 b104 (by kernel_rfl)
theorem b63 : (Go.Proofs.Tryz.f63).body.map strip = some (sc_sfield X.F X.T X.I X.Ts X.Fs X.Bs 101 102 103 104 105 30) := by kernel_rfl
theorem ok63 : FnOK PP 63 := fnOK_of Go.Proofs.Tryz.func63 b63 (by kernel_rfl)
theorem b65 : (Go.Proofs.Tryz.f65).body.map strip = some (sc_known X.Fs X.I X.F X.U32) := by kernel_rfl
theorem ok65 : FnOK PP 65 := fnOK_of Go.Proofs.Tryz.func65 b65 (by kernel_rfl)
theorem b30 : (Go.Proofs.Tryz.f30).body.map strip = some (sc_part X.T X.Fs X.I X.F X.Bs X.B X.U32 X.U64 X.Tgs X.Tg 62 64 63 65 66 67 68 69) := by kernel_rfl
theorem ok30 : FnOK PP 30 := fnOK_of Go.Proofs.Tryz.func30 b30 (by kernel_rfl)
theorem b68 : (Go.Proofs.Tryz.f68).body.map strip = some (sc_unknown X.Tgs X.I X.Tg X.U32 65) := by kernel_rfl
theorem ok68 : FnOK PP 68 := fnOK_of Go.Proofs.Tryz.func68 b68 (by kernel_rfl)
theorem b10 : (Go.Proofs.Tryz.f10).body.map strip = some (sc_Write X.M X.T X.Fs X.I 30) := by kernel_rfl
theorem ok10 : FnOK PP 10 := fnOK_of Go.Proofs.Tryz.func10 b10 (by kernel_rfl)
theorem small : SmallC PP X 69 102 103 106 105 67 62 101 64 G0 where
  oW := ok69
  cW := fun w b l c h => whole_ok iI sT Go.Proofs.Tryz.func69 b69 (by kernel_rfl) (by kernel_rfl) w b l c h
  oTh := ok102
  cTh := fun w b l c h => whole_ok iI sTs Go.Proofs.Tryz.func102 b102 (by kernel_rfl) (by kernel_rfl) w b l c h
  oC := ok103
  cC := fun w fl nu n s h1 h2 => counted_ok hX Go.Proofs.Tryz.func103 b103 (by kernel_rfl) (by kernel_rfl) ok67 (fun w n h => sUvarint_ok hX Go.Proofs.Tryz.func67 b67 (by kernel_rfl) (by kernel_rfl) w n h) ok105 (fun w n s h => sFixed_ok hX Go.Proofs.Tryz.func105 b105 (by kernel_rfl) (by kernel_rfl) w n s h) w fl nu n s h1 h2
  oWi := ok106
  cWi := fun w k => width_ok Go.Proofs.Tryz.func106 b106 (by kernel_rfl) (by kernel_rfl) w k
  oF := ok105
  cF := fun w n s h => sFixed_ok hX Go.Proofs.Tryz.func105 b105 (by kernel_rfl) (by kernel_rfl) w n s h
  oU := ok67
  cU := fun w n h => sUvarint_ok hX Go.Proofs.Tryz.func67 b67 (by kernel_rfl) (by kernel_rfl) w n h
  oH := ok62
  cH := fun w k fr to nu tg df o_ sub ver => has_ok hX Go.Proofs.Tryz.func62 b62 (by kernel_rfl) (by kernel_rfl) w k fr to nu tg df o_ sub ver
  oN := ok101
  cN := fun w k fr to nu tg df o_ sub ver n s l u null => isnull_ok hX Go.Proofs.Tryz.func101 b101 (by kernel_rfl) (by kernel_rfl) w k fr to nu tg df o_ sub ver n s l u null
  oA := ok64
  cA := fun w t tv i h => at_ok (G := G0) hX zT arrT Go.Proofs.Tryz.func64 b64 (by kernel_rfl) (by kernel_rfl) trivial w t tv i h
theorem known : KnownC PP 65 := known_ok hX arrF Go.Proofs.Tryz.func65 b65 (by kernel_rfl) (by kernel_rfl)
theorem tagT : TagT PP X := tagT_of (by kernel_rfl) (by kernel_rfl) (by kernel_rfl) (by kernel_rfl) (by kernel_rfl)
theorem unk : UnkC G0 PP 68 := unk_ok hX hm tagT ok65 known Go.Proofs.Tryz.func68 b68 (by kernel_rfl) (by kernel_rfl)
theorem fieldC : FieldC G0 PP X 63 30 := fun w h ty of_ sub ver flex t tv a1 a2 a3 a4 a5 a6 => field_ok hX small hm ok30 ok104 (fun ty h1 h2 w sub null ver flex t tv b1 b2 b3 => value_ok hX small hm ok30 Go.Proofs.Tryz.func104 b104 (by kernel_rfl) (by kernel_rfl) w ty h1 sub null ver flex t tv b1 h2 b2 b3) Go.Proofs.Tryz.func63 b63 (by kernel_rfl) (by kernel_rfl) w h ty of_ sub ver flex t tv a1 a2 a3 a4 a5 a6
theorem partOf (fs : Fs) (h1 : Fs.len fs < 4294967296) (h2 : SubsC (PartC G0 PP X 30) fs) : PartC G0 PP X 30 fs := part_ok hX arrF arrTg small hm ok63 fieldC ok65 known ok68 unk Go.Proofs.Tryz.func30 b30 (by kernel_rfl) (by kernel_rfl) fs h1 h2
theorem partC (fs : Fs) (h1 : Fs.len fs < 4294967296) (h2 : smallFs fs = true) : PartC G0 PP X 30 fs := partOf fs h1 (subsC_all partOf fs h2)
theorem cWr (fs : Fs) (h1 : Fs.len fs < 4294967296) (h2 : smallFs fs = true) (w : World) (fv : Value) (mflex ver : Int) (t : Tree) (tv : Value) (hf : FsV w (· < w.heap.size) fs fv) (ht : TV G0 w (· < w.heap.size) t tv) (hl : (wFs ver (decide (0 ≤ mflex) && decide (mflex ≤ ver)) fs t.l ++ wTags (decide (0 ≤ mflex) && decide (mflex ≤ ver)) t.u).length ≤ lim) : Calls PP 10 #[msgV fv mflex, .int .i64 ver, tv] w (RetOwn X.U8 w (wFs ver (decide (0 ≤ mflex) && decide (mflex ≤ ver)) fs t.l ++ wTags (decide (0 ≤ mflex) && decide (mflex ≤ ver)) t.u)) := write_ok hX ok30 Go.Proofs.Tryz.func10 b10 (by kernel_rfl) (by kernel_rfl) fs (partC fs h1 h2) w fv mflex ver t tv hf ht hl
theorem b60 : (Go.Proofs.Tryz.f60).body.map strip = some (sc_zzFits4 X.Tg X.Bs X.I) := by kernel_rfl
theorem ok60 : FnOK PP 60 := fnOK_of Go.Proofs.Tryz.func60 b60 (by kernel_rfl)
theorem b27 : (Go.Proofs.Tryz.f27).body.map strip = some (sc_zzFits3 X.Tgs X.I X.Tg 4 60) := by kernel_rfl
theorem ok27 : FnOK PP 27 := fnOK_of Go.Proofs.Tryz.func27 b27 (by kernel_rfl)
theorem b8 : (Go.Proofs.Tryz.f8).body.map strip = some (sc_zzFits2 X.T X.Bs X.I X.Ts X.Tgs 4 27) := by kernel_rfl
theorem ok8 : FnOK PP 8 := fnOK_of Go.Proofs.Tryz.func8 b8 (by kernel_rfl)
theorem cFit (w : World) (t : Tree) (tv : Value) (h : TV G0 w (· < w.heap.size) t tv) : Calls PP 8 #[tv] w (Asks w) := fits2_ok hX ok27 (fun w u ub uc hu => fits3_ok hX tagT ok60 (fun w k vb n vc hk => fits4_ok hX Go.Proofs.Tryz.func60 b60 (by kernel_rfl) (by kernel_rfl) w k vb n vc hk) Go.Proofs.Tryz.func27 b27 (by kernel_rfl) (by kernel_rfl) w u ub uc hu) Go.Proofs.Tryz.func8 b8 (by kernel_rfl) (by kernel_rfl) w t tv h
end Go.Proofs.YtmapoohbongifaaGreatDoor.K
