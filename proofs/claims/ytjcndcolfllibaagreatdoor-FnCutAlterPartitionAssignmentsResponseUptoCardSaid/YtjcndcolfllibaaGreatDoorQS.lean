/- What this seat's program is: the reference's functions. No condition. -/
import Derived.Test.YtjcndcolfllibaaGreatDoorQX
import Derived.Test.YtjcndcolfllibaaGreatDoorB1
namespace Go.Proofs.YtjcndcolfllibaaGreatDoor.K
open Go Go.RowKit Go.Proofs Go.Proofs.YtjcndcolfllibaaGreatDoor.T
set_option linter.unusedVariables false
theorem arrF : arrB PP X.F 8 = true := by kernel_rfl
theorem arrT : arrB PP X.T 5 = true := by kernel_rfl
theorem arrM : arrB PP X.M 2 = true := by kernel_rfl
theorem arrTg : arrB PP X.Tg 2 = true := by kernel_rfl
theorem fok : fOK PP X.F = true := by kernel_rfl
theorem uFs : PP.underlying X.Fs = some (.slice X.F) := by kernel_rfl
theorem zT : PP.built X.T [] = some #[.int .i64 0, .slice none 0 0, .bool false, .slice none 0 0, .slice none 0 0] := by kernel_rfl
theorem mB : ∀ (n : Int) (b : Option Addr) (l c : Nat), PP.built X.M [(1, .int .i64 n), (0, .slice b l c)] = some #[.slice b l c, .int .i64 n] := fun _ _ _ _ => by kernel_rfl
theorem sTs : sliceN PP X.Ts = some 5 := by kernel_rfl
theorem otOK : otB PP X.T X.Tg = true := by kernel_rfl
theorem b91 : (Go.Proofs.Tryz.f91).body.map strip = some (sc_has X.F X.I) := by kernel_rfl
theorem ok91 : FnOK PP 91 := fnOK_of Go.Proofs.Tryz.func91 b91 (by kernel_rfl)
theorem b134 : (Go.Proofs.Tryz.f134).body.map strip = some (sc_isnull X.F X.T X.B X.I) := by kernel_rfl
theorem ok134 : FnOK PP 134 := fnOK_of Go.Proofs.Tryz.func134 b134 (by kernel_rfl)
theorem b98 : (Go.Proofs.Tryz.f98).body.map strip = some (sc_whole X.Bs X.I) := by kernel_rfl
theorem ok98 : FnOK PP 98 := fnOK_of Go.Proofs.Tryz.func98 b98 (by kernel_rfl)
theorem b135 : (Go.Proofs.Tryz.f135).body.map strip = some (sc_things X.Ts X.I) := by kernel_rfl
theorem ok135 : FnOK PP 135 := fnOK_of Go.Proofs.Tryz.func135 b135 (by kernel_rfl)
theorem b93 : (Go.Proofs.Tryz.f93).body.map strip = some (sc_at X.T X.Ts X.I) := by kernel_rfl
theorem ok93 : FnOK PP 93 := fnOK_of Go.Proofs.Tryz.func93 b93 (by kernel_rfl)
theorem b96 : (Go.Proofs.Tryz.f96).body.map strip = some (sc_Uvarint X.U64 X.U8 X.Bs X.U) := by kernel_rfl
theorem ok96 : FnOK PP 96 := fnOK_of Go.Proofs.Tryz.func96 b96 (by kernel_rfl)
theorem b138 : (Go.Proofs.Tryz.f138).body.map strip = some (sc_Fixed X.I X.I64 X.U8 X.Bs) := by kernel_rfl
theorem ok138 : FnOK PP 138 := fnOK_of Go.Proofs.Tryz.func138 b138 (by kernel_rfl)
theorem b139 : (Go.Proofs.Tryz.f139).body.map strip = some (sc_width X.I) := by kernel_rfl
theorem ok139 : FnOK PP 139 := fnOK_of Go.Proofs.Tryz.func139 b139 (by kernel_rfl)
theorem b136 : (Go.Proofs.Tryz.f136).body.map strip = some (sc_counted X.Bs X.I X.U64 96 138) := by kernel_rfl
theorem ok136 : FnOK PP 136 := fnOK_of Go.Proofs.Tryz.func136 b136 (by kernel_rfl)
theorem b137 : (Go.Proofs.Tryz.f137).body.map strip = some (sc_value X.T X.I X.I64 X.U8 X.Bs 98 136 42 139 138) := by kernel_rfl
theorem ok137 : FnOK PP 137 := fnOK_of Go.Proofs.Tryz.func137 b137 (by kernel_rfl)
theorem b92 : (Go.Proofs.Tryz.f92).body.map strip = some (sc_sfield X.F X.T X.I X.Ts X.Fs X.Bs 134 135 136 137 138 42) := by kernel_rfl
theorem ok92 : FnOK PP 92 := fnOK_of Go.Proofs.Tryz.func92 b92 (by kernel_rfl)
theorem b94 : (Go.Proofs.Tryz.f94).body.map strip = some (sc_known X.Fs X.I X.F X.U32) := by kernel_rfl
theorem ok94 : FnOK PP 94 := fnOK_of Go.Proofs.Tryz.func94 b94 (by kernel_rfl)
theorem b42 : (Go.Proofs.Tryz.f42).body.map strip = some (sc_part X.T X.Fs X.I X.F X.Bs X.B X.U32 X.U64 X.Tgs X.Tg 91 93 92 94 95 96 97 98) := by kernel_rfl
theorem ok42 : FnOK PP 42 := fnOK_of Go.Proofs.Tryz.func42 b42 (by kernel_rfl)
theorem b97 : (Go.Proofs.Tryz.f97).body.map strip = some (sc_unknown X.Tgs X.I X.Tg X.U32 94) := by kernel_rfl
theorem ok97 : FnOK PP 97 := fnOK_of Go.Proofs.Tryz.func97 b97 (by kernel_rfl)
theorem b13 : (Go.Proofs.Tryz.f13).body.map strip = some (sc_Write X.M X.T X.Fs X.I 42) := by kernel_rfl
theorem ok13 : FnOK PP 13 := fnOK_of Go.Proofs.Tryz.func13 b13 (by kernel_rfl)
theorem small : SmallC PP X 98 135 136 139 138 96 91 134 93 G0 where
  oW := ok98
  cW := fun w b l c h => whole_ok iI sT Go.Proofs.Tryz.func98 b98 (by kernel_rfl) (by kernel_rfl) w b l c h
  oTh := ok135
  cTh := fun w b l c h => whole_ok iI sTs Go.Proofs.Tryz.func135 b135 (by kernel_rfl) (by kernel_rfl) w b l c h
  oC := ok136
  cC := fun w fl nu n s h1 h2 => counted_ok hX Go.Proofs.Tryz.func136 b136 (by kernel_rfl) (by kernel_rfl) ok96 (fun w n h => sUvarint_ok hX Go.Proofs.Tryz.func96 b96 (by kernel_rfl) (by kernel_rfl) w n h) ok138 (fun w n s h => sFixed_ok hX Go.Proofs.Tryz.func138 b138 (by kernel_rfl) (by kernel_rfl) w n s h) w fl nu n s h1 h2
  oWi := ok139
  cWi := fun w k => width_ok Go.Proofs.Tryz.func139 b139 (by kernel_rfl) (by kernel_rfl) w k
  oF := ok138
  cF := fun w n s h => sFixed_ok hX Go.Proofs.Tryz.func138 b138 (by kernel_rfl) (by kernel_rfl) w n s h
  oU := ok96
  cU := fun w n h => sUvarint_ok hX Go.Proofs.Tryz.func96 b96 (by kernel_rfl) (by kernel_rfl) w n h
  oH := ok91
  cH := fun w k fr to nu tg df o_ sub ver => has_ok hX Go.Proofs.Tryz.func91 b91 (by kernel_rfl) (by kernel_rfl) w k fr to nu tg df o_ sub ver
  oN := ok134
  cN := fun w k fr to nu tg df o_ sub ver n s l u null => isnull_ok hX Go.Proofs.Tryz.func134 b134 (by kernel_rfl) (by kernel_rfl) w k fr to nu tg df o_ sub ver n s l u null
  oA := ok93
  cA := fun w t tv i h => at_ok (G := G0) hX zT arrT Go.Proofs.Tryz.func93 b93 (by kernel_rfl) (by kernel_rfl) trivial w t tv i h
theorem known : KnownC PP 94 := known_ok hX arrF Go.Proofs.Tryz.func94 b94 (by kernel_rfl) (by kernel_rfl)
theorem tagT : TagT PP X := tagT_of (by kernel_rfl) (by kernel_rfl) (by kernel_rfl) (by kernel_rfl) (by kernel_rfl)
theorem unk : UnkC G0 PP 97 := unk_ok hX hm tagT ok94 known Go.Proofs.Tryz.func97 b97 (by kernel_rfl) (by kernel_rfl)
theorem fieldC : FieldC G0 PP X 92 42 := fun w h ty of_ sub ver flex t tv a1 a2 a3 a4 a5 a6 => field_ok hX small hm ok42 ok137 (fun ty h1 h2 w sub null ver flex t tv b1 b2 b3 => value_ok hX small hm ok42 Go.Proofs.Tryz.func137 b137 (by kernel_rfl) (by kernel_rfl) w ty h1 sub null ver flex t tv b1 h2 b2 b3) Go.Proofs.Tryz.func92 b92 (by kernel_rfl) (by kernel_rfl) w h ty of_ sub ver flex t tv a1 a2 a3 a4 a5 a6
theorem partOf (fs : Fs) (h1 : Fs.len fs < 4294967296) (h2 : SubsC (PartC G0 PP X 42) fs) : PartC G0 PP X 42 fs := part_ok hX arrF arrTg small hm ok92 fieldC ok94 known ok97 unk Go.Proofs.Tryz.func42 b42 (by kernel_rfl) (by kernel_rfl) fs h1 h2
theorem partC (fs : Fs) (h1 : Fs.len fs < 4294967296) (h2 : smallFs fs = true) : PartC G0 PP X 42 fs := partOf fs h1 (subsC_all partOf fs h2)
theorem cWr (fs : Fs) (h1 : Fs.len fs < 4294967296) (h2 : smallFs fs = true) (w : World) (fv : Value) (mflex ver : Int) (t : Tree) (tv : Value) (hf : FsV w (· < w.heap.size) fs fv) (ht : TV G0 w (· < w.heap.size) t tv) (hl : (wFs ver (decide (0 ≤ mflex) && decide (mflex ≤ ver)) fs t.l ++ wTags (decide (0 ≤ mflex) && decide (mflex ≤ ver)) t.u).length ≤ lim) : Calls PP 13 #[msgV fv mflex, .int .i64 ver, tv] w (RetOwn X.U8 w (wFs ver (decide (0 ≤ mflex) && decide (mflex ≤ ver)) fs t.l ++ wTags (decide (0 ≤ mflex) && decide (mflex ≤ ver)) t.u)) := write_ok hX ok42 Go.Proofs.Tryz.func13 b13 (by kernel_rfl) (by kernel_rfl) fs (partC fs h1 h2) w fv mflex ver t tv hf ht hl
theorem b89 : (Go.Proofs.Tryz.f89).body.map strip = some (sc_zzFits4 X.Tg X.Bs X.I) := by kernel_rfl
theorem ok89 : FnOK PP 89 := fnOK_of Go.Proofs.Tryz.func89 b89 (by kernel_rfl)
theorem b39 : (Go.Proofs.Tryz.f39).body.map strip = some (sc_zzFits3 X.Tgs X.I X.Tg 4 89) := by kernel_rfl
theorem ok39 : FnOK PP 39 := fnOK_of Go.Proofs.Tryz.func39 b39 (by kernel_rfl)
theorem b11 : (Go.Proofs.Tryz.f11).body.map strip = some (sc_zzFits2 X.T X.Bs X.I X.Ts X.Tgs 4 39) := by kernel_rfl
theorem ok11 : FnOK PP 11 := fnOK_of Go.Proofs.Tryz.func11 b11 (by kernel_rfl)
theorem cFit (w : World) (t : Tree) (tv : Value) (h : TV G0 w (· < w.heap.size) t tv) : Calls PP 11 #[tv] w (Asks w) := fits2_ok hX ok39 (fun w u ub uc hu => fits3_ok hX tagT ok89 (fun w k vb n vc hk => fits4_ok hX Go.Proofs.Tryz.func89 b89 (by kernel_rfl) (by kernel_rfl) w k vb n vc hk) Go.Proofs.Tryz.func39 b39 (by kernel_rfl) (by kernel_rfl) w u ub uc hu) Go.Proofs.Tryz.func11 b11 (by kernel_rfl) (by kernel_rfl) w t tv h
end Go.Proofs.YtjcndcolfllibaaGreatDoor.K
