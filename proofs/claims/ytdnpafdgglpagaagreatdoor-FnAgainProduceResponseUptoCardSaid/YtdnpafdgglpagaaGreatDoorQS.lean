/- What this seat's program is: the reference's functions. No condition. -/
import Derived.Test.YtdnpafdgglpagaaGreatDoorQX
import Derived.Test.YtdnpafdgglpagaaGreatDoorN13
namespace Go.Proofs.YtdnpafdgglpagaaGreatDoor.K
open Go Go.RowKit Go.Proofs Go.Proofs.YtdnpafdgglpagaaGreatDoor.T
set_option linter.unusedVariables false
theorem arrF : arrB PP X.F 8 = true := by kernel_rfl
theorem arrT : arrB PP X.T 5 = true := by kernel_rfl
theorem arrM : arrB PP X.M 2 = true := by kernel_rfl
theorem arrTg : arrB PP X.Tg 2 = true := by kernel_rfl
theorem fok : fOK PP X.F = true := by kernel_rfl
theorem uFs : PP.underlying X.Fs = some (.slice X.F) := by kernel_rfl
theorem zT : PP.built X.T [] = some #[.int .i64 0, .slice none 0 0, .bool false, .slice none 0 0, .slice none 0 0] := by kernel_rfl
theorem mB : ∀ (n : Int) (b : Option Addr) (l c : Nat), PP.built X.M [(1, .int .i64 n), (0, .slice b l c)] = some #[.slice b l c, .int .i64 n] := fun _ _ _ _ => by kernel_rfl
theorem sTs : sliceN PP X.Ts = some 5 := by kernel_rfl
theorem otOK : otB PP X.T X.Tg = true := by kernel_rfl
theorem b22 : (Go.Proofs.Tryz.f22).body.map strip = some (sc_has X.F X.I) := by kernel_rfl
theorem ok22 : FnOK PP 22 := fnOK_of Go.Proofs.Tryz.func22 b22 (by kernel_rfl)
theorem b48 : (Go.Proofs.Tryz.f48).body.map strip = some (sc_isnull X.F X.T X.B X.I) := by kernel_rfl
theorem ok48 : FnOK PP 48 := fnOK_of Go.Proofs.Tryz.func48 b48 (by kernel_rfl)
theorem b29 : (Go.Proofs.Tryz.f29).body.map strip = some (sc_whole X.Bs X.I) := by kernel_rfl
theorem ok29 : FnOK PP 29 := fnOK_of Go.Proofs.Tryz.func29 b29 (by kernel_rfl)
theorem b49 : (Go.Proofs.Tryz.f49).body.map strip = some (sc_things X.Ts X.I) := by kernel_rfl
theorem ok49 : FnOK PP 49 := fnOK_of Go.Proofs.Tryz.func49 b49 (by kernel_rfl)
theorem b24 : (Go.Proofs.Tryz.f24).body.map strip = some (sc_at X.T X.Ts X.I) := by kernel_rfl
theorem ok24 : FnOK PP 24 := fnOK_of Go.Proofs.Tryz.func24 b24 (by kernel_rfl)
theorem b27 : (Go.Proofs.Tryz.f27).body.map strip = some (sc_Uvarint X.U64 X.U8 X.Bs X.U) := by kernel_rfl
theorem ok27 : FnOK PP 27 := fnOK_of Go.Proofs.Tryz.func27 b27 (by kernel_rfl)
theorem b52 : (Go.Proofs.Tryz.f52).body.map strip = some (sc_Fixed X.I X.I64 X.U8 X.Bs) := by kernel_rfl
theorem ok52 : FnOK PP 52 := fnOK_of Go.Proofs.Tryz.func52 b52 (by kernel_rfl)
theorem b53 : (Go.Proofs.Tryz.f53).body.map strip = some (sc_width X.I) := by kernel_rfl
theorem ok53 : FnOK PP 53 := fnOK_of Go.Proofs.Tryz.func53 b53 (by kernel_rfl)
theorem b50 : (Go.Proofs.Tryz.f50).body.map strip = some (sc_counted X.Bs X.I X.U64 27 52) := by kernel_rfl
theorem ok50 : FnOK PP 50 := fnOK_of Go.Proofs.Tryz.func50 b50 (by kernel_rfl)
theorem b51 : (Go.Proofs.Tryz.f51).body.map strip = some (sc_value X.T X.I X.I64 X.U8 X.Bs 29 50 14 53 52) := by kernel_rfl
theorem ok51 : FnOK PP 51 := fnOK_of Go.Proofs.Tryz.func51 b51 (by kernel_rfl)
theorem b23 : (Go.Proofs.Tryz.f23).body.map strip = some (sc_sfield X.F X.T X.I X.Ts X.Fs X.Bs 48 49 50 51 52 14) := by kernel_rfl
theorem ok23 : FnOK PP 23 := fnOK_of Go.Proofs.Tryz.func23 b23 (by kernel_rfl)
theorem b25 : (Go.Proofs.Tryz.f25).body.map strip = some (sc_known X.Fs X.I X.F X.U32) := by kernel_rfl
theorem ok25 : FnOK PP 25 := fnOK_of Go.Proofs.Tryz.func25 b25 (by kernel_rfl)
theorem b14 : (Go.Proofs.Tryz.f14).body.map strip = some (sc_part X.T X.Fs X.I X.F X.Bs X.B X.U32 X.U64 X.Tgs X.Tg 22 24 23 25 26 27 28 29) := by kernel_rfl
theorem ok14 : FnOK PP 14 := fnOK_of Go.Proofs.Tryz.func14 b14 (by kernel_rfl)
theorem b28 : (Go.Proofs.Tryz.f28).body.map strip = some (sc_unknown X.Tgs X.I X.Tg X.U32 25) := by kernel_rfl
theorem ok28 : FnOK PP 28 := fnOK_of Go.Proofs.Tryz.func28 b28 (by kernel_rfl)
theorem b6 : (Go.Proofs.Tryz.f6).body.map strip = some (sc_Write X.M X.T X.Fs X.I 14) := by kernel_rfl
theorem ok6 : FnOK PP 6 := fnOK_of Go.Proofs.Tryz.func6 b6 (by kernel_rfl)
theorem small : SmallC PP X 29 49 50 53 52 27 22 48 24 G0 where
  oW := ok29
  cW := fun w b l c h => whole_ok iI sT Go.Proofs.Tryz.func29 b29 (by kernel_rfl) (by kernel_rfl) w b l c h
  oTh := ok49
  cTh := fun w b l c h => whole_ok iI sTs Go.Proofs.Tryz.func49 b49 (by kernel_rfl) (by kernel_rfl) w b l c h
  oC := ok50
  cC := fun w fl nu n s h1 h2 => counted_ok hX Go.Proofs.Tryz.func50 b50 (by kernel_rfl) (by kernel_rfl) ok27 (fun w n h => sUvarint_ok hX Go.Proofs.Tryz.func27 b27 (by kernel_rfl) (by kernel_rfl) w n h) ok52 (fun w n s h => sFixed_ok hX Go.Proofs.Tryz.func52 b52 (by kernel_rfl) (by kernel_rfl) w n s h) w fl nu n s h1 h2
  oWi := ok53
  cWi := fun w k => width_ok Go.Proofs.Tryz.func53 b53 (by kernel_rfl) (by kernel_rfl) w k
  oF := ok52
  cF := fun w n s h => sFixed_ok hX Go.Proofs.Tryz.func52 b52 (by kernel_rfl) (by kernel_rfl) w n s h
  oU := ok27
  cU := fun w n h => sUvarint_ok hX Go.Proofs.Tryz.func27 b27 (by kernel_rfl) (by kernel_rfl) w n h
  oH := ok22
  cH := fun w k fr to nu tg df o_ sub ver => has_ok hX Go.Proofs.Tryz.func22 b22 (by kernel_rfl) (by kernel_rfl) w k fr to nu tg df o_ sub ver
  oN := ok48
  cN := fun w k fr to nu tg df o_ sub ver n s l u null => isnull_ok hX Go.Proofs.Tryz.func48 b48 (by kernel_rfl) (by kernel_rfl) w k fr to nu tg df o_ sub ver n s l u null
  oA := ok24
  cA := fun w t tv i h => at_ok (G := G0) hX zT arrT Go.Proofs.Tryz.func24 b24 (by kernel_rfl) (by kernel_rfl) trivial w t tv i h
theorem known : KnownC PP 25 := known_ok hX arrF Go.Proofs.Tryz.func25 b25 (by kernel_rfl) (by kernel_rfl)
theorem tagT : TagT PP X := tagT_of (by kernel_rfl) (by kernel_rfl) (by kernel_rfl) (by kernel_rfl) (by kernel_rfl)
theorem unk : UnkC G0 PP 28 := unk_ok hX hm tagT ok25 known Go.Proofs.Tryz.func28 b28 (by kernel_rfl) (by kernel_rfl)
theorem cSm : SameC PP 10 := sameD_ok hX0 hm Go.Proofs.Tryz.func10 b10 (by kernel_rfl) (by kernel_rfl)
theorem b26 : (Go.Proofs.Tryz.f26).body.map strip = some (sc_usual X.F X.T X.I X.I64 X.Bs X.U8 X.B X.Ts X.Fs X.Tgs 24 26 28 53 52 10) := by kernel_rfl
theorem ok26 : FnOK PP 26 := fnOK_of Go.Proofs.Tryz.func26 b26 (by kernel_rfl)
theorem us : UsualC G0 PP 26 := usual_ok hX hX0 arrF small hm Go.Proofs.Tryz.func26 b26 (by kernel_rfl) (by kernel_rfl) (by kernel_rfl) ok10 cSm ok28 unk
theorem fieldC : FieldC G0 PP X 23 14 := fun w h tg ty of_ sub ver flex t tv a0 a1 a2 a3 a4 a5 a6 => field_ok hX small hm ok14 ok51 (fun ty h1 h2 w sub null ver flex t tv b0 b1 b2 b3 => value_ok hX small hm ok14 Go.Proofs.Tryz.func51 b51 (by kernel_rfl) (by kernel_rfl) w ty h1 sub null ver b0 flex t tv b1 h2 b2 b3) Go.Proofs.Tryz.func23 b23 (by kernel_rfl) (by kernel_rfl) w h tg ty of_ sub ver a0 flex t tv a1 a2 a3 a4 a5 a6
theorem partOf (fs kn : Fs) (h1 : Fs.len fs + Fs.len kn < 4294967296) (hk : knB kn = true) (h2 : SubsC (PartC G0 PP X 14) fs) (h3 : SubsC (PartC G0 PP X 14) kn) : PartC G0 PP X 14 fs kn := part_ok hX arrF arrTg small hm ok23 fieldC ok25 known ok28 unk ok26 us Go.Proofs.Tryz.func14 b14 (by kernel_rfl) (by kernel_rfl) fs kn h1 hk h2 h3
theorem partC (fs kn : Fs) (h1 : Fs.len fs + Fs.len kn < 4294967296) (hk : knB kn = true) (h2 : smallFs fs = true) (h3 : smallFs kn = true) : PartC G0 PP X 14 fs kn := partOf fs kn h1 hk (subsC_all partOf fs h2) (subsC_all partOf kn h3)
theorem cWr (fs kn : Fs) (h1 : Fs.len fs + Fs.len kn < 4294967296) (hk : knB kn = true) (h2 : smallFs fs = true) (h3 : smallFs kn = true) (w : World) (fv : Value) (mflex ver : Int) (t : Tree) (tv : Value) (hv : 0 ≤ ver) (hf : FsV w (· < w.heap.size) fs kn fv) (ht : TV G0 w (· < w.heap.size) t tv) (hl : (wFs ver (decide (0 ≤ mflex) && decide (mflex ≤ ver)) fs t.l ++ wTagsB (decide (0 ≤ mflex) && decide (mflex ≤ ver)) (wKn ver (decide (0 ≤ mflex) && decide (mflex ≤ ver)) kn (t.l.drop (Fs.len fs))) t.u).length ≤ lim) : Calls PP 6 #[msgV fv mflex, .int .i64 ver, tv] w (RetOwn X.U8 w (wFs ver (decide (0 ≤ mflex) && decide (mflex ≤ ver)) fs t.l ++ wTagsB (decide (0 ≤ mflex) && decide (mflex ≤ ver)) (wKn ver (decide (0 ≤ mflex) && decide (mflex ≤ ver)) kn (t.l.drop (Fs.len fs))) t.u)) := write_ok hX ok14 Go.Proofs.Tryz.func6 b6 (by kernel_rfl) (by kernel_rfl) fs kn (partC fs kn h1 hk h2 h3) w fv mflex ver hv t tv hf ht hl
theorem b20 : (Go.Proofs.Tryz.f20).body.map strip = some (sc_zzFits4 X.Tg X.Bs X.I) := by kernel_rfl
theorem ok20 : FnOK PP 20 := fnOK_of Go.Proofs.Tryz.func20 b20 (by kernel_rfl)
theorem b11 : (Go.Proofs.Tryz.f11).body.map strip = some (sc_zzFits3 X.Tgs X.I X.Tg 4 20) := by kernel_rfl
theorem ok11 : FnOK PP 11 := fnOK_of Go.Proofs.Tryz.func11 b11 (by kernel_rfl)
theorem b4 : (Go.Proofs.Tryz.f4).body.map strip = some (sc_zzFits2 X.T X.Bs X.I X.Ts X.Tgs 4 11) := by kernel_rfl
theorem ok4 : FnOK PP 4 := fnOK_of Go.Proofs.Tryz.func4 b4 (by kernel_rfl)
theorem cFit (w : World) (t : Tree) (tv : Value) (h : TV G0 w (· < w.heap.size) t tv) : Calls PP 4 #[tv] w (Asks w) := fits2_ok hX ok11 (fun w u ub uc hu => fits3_ok hX tagT ok20 (fun w k vb n vc hk => fits4_ok hX Go.Proofs.Tryz.func20 b20 (by kernel_rfl) (by kernel_rfl) w k vb n vc hk) Go.Proofs.Tryz.func11 b11 (by kernel_rfl) (by kernel_rfl) w u ub uc hu) Go.Proofs.Tryz.func4 b4 (by kernel_rfl) (by kernel_rfl) w t tv h
end Go.Proofs.YtdnpafdgglpagaaGreatDoor.K
