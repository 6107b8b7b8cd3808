/- What this seat's program is: the reference's functions. No condition. -/
import Derived.Test.YtgaplicnofhliaaDoorQX
import Derived.Test.YtgaplicnofhliaaDoorB1
namespace Go.Proofs.YtgaplicnofhliaaDoor.K
open Go Go.RowKit Go.Proofs Go.Proofs.YtgaplicnofhliaaDoor.T
set_option linter.unusedVariables false
theorem arrF : arrB PP X.F 8 = true := by kernel_rfl
theorem arrT : arrB PP X.T 5 = true := by kernel_rfl
theorem arrM : arrB PP X.M 2 = true := by kernel_rfl
theorem arrTg : arrB PP X.Tg 2 = true := by kernel_rfl
theorem fok : fOK PP X.F = true := by kernel_rfl
theorem uFs : PP.underlying X.Fs = some (.slice X.F) := by kernel_rfl
theorem zT : PP.built X.T [] = some #[.int .i64 0, .slice none 0 0, .bool false, .slice none 0 0, .slice none 0 0] := by kernel_rfl
theorem mB : ∀ (n : Int) (b : Option Addr) (l c : Nat), PP.built X.M [(1, .int .i64 n), (0, .slice b l c)] = some #[.slice b l c, .int .i64 n] := fun _ _ _ _ => by kernel_rfl
theorem sTs : sliceN PP X.Ts = some 5 := by kernel_rfl
theorem otOK : otB PP X.T X.Tg = true := by kernel_rfl
theorem b52 : (Go.Proofs.Tryd.f52).body.map strip = some (sc_has X.F X.I) := by kernel_rfl
theorem ok52 : FnOK PP 52 := fnOK_of Go.Proofs.Tryd.func52 b52 (by kernel_rfl)
theorem b71 : (Go.Proofs.Tryd.f71).body.map strip = some (sc_isnull X.F X.T X.B X.I) := by kernel_rfl
theorem ok71 : FnOK PP 71 := fnOK_of Go.Proofs.Tryd.func71 b71 (by kernel_rfl)
theorem b59 : (Go.Proofs.Tryd.f59).body.map strip = some (sc_whole X.Bs X.I) := by kernel_rfl
theorem ok59 : FnOK PP 59 := fnOK_of Go.Proofs.Tryd.func59 b59 (by kernel_rfl)
theorem b72 : (Go.Proofs.Tryd.f72).body.map strip = some (sc_things X.Ts X.I) := by kernel_rfl
theorem ok72 : FnOK PP 72 := fnOK_of Go.Proofs.Tryd.func72 b72 (by kernel_rfl)
theorem b54 : (Go.Proofs.Tryd.f54).body.map strip = some (sc_at X.T X.Ts X.I) := by kernel_rfl
theorem ok54 : FnOK PP 54 := fnOK_of Go.Proofs.Tryd.func54 b54 (by kernel_rfl)
theorem b57 : (Go.Proofs.Tryd.f57).body.map strip = some (sc_Uvarint X.U64 X.U8 X.Bs X.U) := by kernel_rfl
theorem ok57 : FnOK PP 57 := fnOK_of Go.Proofs.Tryd.func57 b57 (by kernel_rfl)
theorem b35 : (Go.Proofs.Tryd.f35).body.map strip = some (sc_Fixed X.I X.I64 X.U8 X.Bs) := by kernel_rfl
theorem ok35 : FnOK PP 35 := fnOK_of Go.Proofs.Tryd.func35 b35 (by kernel_rfl)
theorem b75 : (Go.Proofs.Tryd.f75).body.map strip = some (sc_width X.I) := by kernel_rfl
theorem ok75 : FnOK PP 75 := fnOK_of Go.Proofs.Tryd.func75 b75 (by kernel_rfl)
theorem b73 : (Go.Proofs.Tryd.f73).body.map strip = some (sc_counted X.Bs X.I X.U64 57 35) := by kernel_rfl
theorem ok73 : FnOK PP 73 := fnOK_of Go.Proofs.Tryd.func73 b73 (by kernel_rfl)
theorem b74 : (Go.Proofs.Tryd.f74).body.map strip = some (sc_value X.T X.I X.I64 X.U8 X.Bs 59 73 30 75 35) := by kernel_rfl
theorem ok74 : FnOK PP 74 := fnOK_of Go.Proofs.Tryd.func74 b74 (by kernel_rfl)
theorem b53 : (Go.Proofs.Tryd.f53).body.map strip = some (sc_sfield X.F X.T X.I X.Ts X.Fs X.Bs 71 72 73 74 35 30) := by kernel_rfl
theorem ok53 : FnOK PP 53 := fnOK_of Go.Proofs.Tryd.func53 b53 (by kernel_rfl)
theorem b55 : (Go.Proofs.Tryd.f55).body.map strip = some (sc_known X.Fs X.I X.F X.U32) := by kernel_rfl
theorem ok55 : FnOK PP 55 := fnOK_of Go.Proofs.Tryd.func55 b55 (by kernel_rfl)
theorem b30 : (Go.Proofs.Tryd.f30).body.map strip = some (sc_part X.T X.Fs X.I X.F X.Bs X.B X.U32 X.U64 X.Tgs X.Tg 52 54 53 55 56 57 58 59) := by kernel_rfl
theorem ok30 : FnOK PP 30 := fnOK_of Go.Proofs.Tryd.func30 b30 (by kernel_rfl)
theorem b58 : (Go.Proofs.Tryd.f58).body.map strip = some (sc_unknown X.Tgs X.I X.Tg X.U32 55) := by kernel_rfl
theorem ok58 : FnOK PP 58 := fnOK_of Go.Proofs.Tryd.func58 b58 (by kernel_rfl)
theorem b9 : (Go.Proofs.Tryd.f9).body.map strip = some (sc_Write X.M X.T X.Fs X.I 30) := by kernel_rfl
theorem ok9 : FnOK PP 9 := fnOK_of Go.Proofs.Tryd.func9 b9 (by kernel_rfl)
theorem small : SmallC PP X 59 72 73 75 35 57 52 71 54 G0 where
  oW := ok59
  cW := fun w b l c h => whole_ok iI sT Go.Proofs.Tryd.func59 b59 (by kernel_rfl) (by kernel_rfl) w b l c h
  oTh := ok72
  cTh := fun w b l c h => whole_ok iI sTs Go.Proofs.Tryd.func72 b72 (by kernel_rfl) (by kernel_rfl) w b l c h
  oC := ok73
  cC := fun w fl nu n s h1 h2 => counted_ok hX Go.Proofs.Tryd.func73 b73 (by kernel_rfl) (by kernel_rfl) ok57 (fun w n h => sUvarint_ok hX Go.Proofs.Tryd.func57 b57 (by kernel_rfl) (by kernel_rfl) w n h) ok35 (fun w n s h => sFixed_ok hX Go.Proofs.Tryd.func35 b35 (by kernel_rfl) (by kernel_rfl) w n s h) w fl nu n s h1 h2
  oWi := ok75
  cWi := fun w k => width_ok Go.Proofs.Tryd.func75 b75 (by kernel_rfl) (by kernel_rfl) w k
  oF := ok35
  cF := fun w n s h => sFixed_ok hX Go.Proofs.Tryd.func35 b35 (by kernel_rfl) (by kernel_rfl) w n s h
  oU := ok57
  cU := fun w n h => sUvarint_ok hX Go.Proofs.Tryd.func57 b57 (by kernel_rfl) (by kernel_rfl) w n h
  oH := ok52
  cH := fun w k fr to nu tg df o_ sub ver => has_ok hX Go.Proofs.Tryd.func52 b52 (by kernel_rfl) (by kernel_rfl) w k fr to nu tg df o_ sub ver
  oN := ok71
  cN := fun w k fr to nu tg df o_ sub ver n s l u null => isnull_ok hX Go.Proofs.Tryd.func71 b71 (by kernel_rfl) (by kernel_rfl) w k fr to nu tg df o_ sub ver n s l u null
  oA := ok54
  cA := fun w t tv i h => at_ok (G := G0) hX zT arrT Go.Proofs.Tryd.func54 b54 (by kernel_rfl) (by kernel_rfl) trivial w t tv i h
theorem known : KnownC PP 55 := known_ok hX arrF Go.Proofs.Tryd.func55 b55 (by kernel_rfl) (by kernel_rfl)
theorem tagT : TagT PP X := tagT_of (by kernel_rfl) (by kernel_rfl) (by kernel_rfl) (by kernel_rfl) (by kernel_rfl)
theorem unk : UnkC G0 PP 58 := unk_ok hX hm tagT ok55 known Go.Proofs.Tryd.func58 b58 (by kernel_rfl) (by kernel_rfl)
theorem fieldC : FieldC G0 PP X 53 30 := fun w h ty of_ sub ver flex t tv a1 a2 a3 a4 a5 a6 => field_ok hX small hm ok30 ok74 (fun ty h1 h2 w sub null ver flex t tv b1 b2 b3 => value_ok hX small hm ok30 Go.Proofs.Tryd.func74 b74 (by kernel_rfl) (by kernel_rfl) w ty h1 sub null ver flex t tv b1 h2 b2 b3) Go.Proofs.Tryd.func53 b53 (by kernel_rfl) (by kernel_rfl) w h ty of_ sub ver flex t tv a1 a2 a3 a4 a5 a6
theorem partOf (fs : Fs) (h1 : Fs.len fs < 4294967296) (h2 : SubsC (PartC G0 PP X 30) fs) : PartC G0 PP X 30 fs := part_ok hX arrF arrTg small hm ok53 fieldC ok55 known ok58 unk Go.Proofs.Tryd.func30 b30 (by kernel_rfl) (by kernel_rfl) fs h1 h2
theorem partC (fs : Fs) (h1 : Fs.len fs < 4294967296) (h2 : smallFs fs = true) : PartC G0 PP X 30 fs := partOf fs h1 (subsC_all partOf fs h2)
theorem cWr (fs : Fs) (h1 : Fs.len fs < 4294967296) (h2 : smallFs fs = true) (w : World) (fv : Value) (mflex ver : Int) (t : Tree) (tv : Value) (hf : FsV w (· < w.heap.size) fs fv) (ht : TV G0 w (· < w.heap.size) t tv) (hl : (wFs ver (decide (0 ≤ mflex) && decide (mflex ≤ ver)) fs t.l ++ wTags (decide (0 ≤ mflex) && decide (mflex ≤ ver)) t.u).length ≤ lim) : Calls PP 9 #[msgV fv mflex, .int .i64 ver, tv] w (RetOwn X.U8 w (wFs ver (decide (0 ≤ mflex) && decide (mflex ≤ ver)) fs t.l ++ wTags (decide (0 ≤ mflex) && decide (mflex ≤ ver)) t.u)) := write_ok hX ok30 Go.Proofs.Tryd.func9 b9 (by kernel_rfl) (by kernel_rfl) fs (partC fs h1 h2) w fv mflex ver t tv hf ht hl
theorem b50 : (Go.Proofs.Tryd.f50).body.map strip = some (sc_zzFits4 X.Tg X.Bs X.I) := by kernel_rfl
theorem ok50 : FnOK PP 50 := fnOK_of Go.Proofs.Tryd.func50 b50 (by kernel_rfl)
theorem b27 : (Go.Proofs.Tryd.f27).body.map strip = some (sc_zzFits3 X.Tgs X.I X.Tg 4 50) := by kernel_rfl
theorem ok27 : FnOK PP 27 := fnOK_of Go.Proofs.Tryd.func27 b27 (by kernel_rfl)
theorem b7 : (Go.Proofs.Tryd.f7).body.map strip = some (sc_zzFits2 X.T X.Bs X.I X.Ts X.Tgs 4 27) := by kernel_rfl
theorem ok7 : FnOK PP 7 := fnOK_of Go.Proofs.Tryd.func7 b7 (by kernel_rfl)
theorem cFit (w : World) (t : Tree) (tv : Value) (h : TV G0 w (· < w.heap.size) t tv) : Calls PP 7 #[tv] w (Asks w) := fits2_ok hX ok27 (fun w u ub uc hu => fits3_ok hX tagT ok50 (fun w k vb n vc hk => fits4_ok hX Go.Proofs.Tryd.func50 b50 (by kernel_rfl) (by kernel_rfl) w k vb n vc hk) Go.Proofs.Tryd.func27 b27 (by kernel_rfl) (by kernel_rfl) w u ub uc hu) Go.Proofs.Tryd.func7 b7 (by kernel_rfl) (by kernel_rfl) w t tv h
end Go.Proofs.YtgaplicnofhliaaDoor.K
