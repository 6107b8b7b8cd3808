/- What this seat's program is: the reference's functions. No condition. -/
import Derived.Test.YtgaplicnofhliaaQX
import Derived.Test.YtgaplicnofhliaaM7
namespace Go.Proofs.Ytgaplicnofhliaa.K
open Go Go.RowKit Go.Proofs Go.Proofs.Ytgaplicnofhliaa.T
set_option linter.unusedVariables false
theorem arrF : arrB PP X.F 8 = true := by kernel_rfl
theorem arrT : arrB PP X.T 5 = true := by kernel_rfl
theorem arrM : arrB PP X.M 2 = true := by kernel_rfl
theorem arrTg : arrB PP X.Tg 2 = true := by kernel_rfl
theorem fok : fOK PP X.F = true := by kernel_rfl
theorem uFs : PP.underlying X.Fs = some (.slice X.F) := by kernel_rfl
theorem zT : PP.built X.T [] = some #[.int .i64 0, .slice none 0 0, .bool false, .slice none 0 0, .slice none 0 0] := by kernel_rfl
theorem mB : ∀ (n : Int) (b : Option Addr) (l c : Nat), PP.built X.M [(1, .int .i64 n), (0, .slice b l c)] = some #[.slice b l c, .int .i64 n] := fun _ _ _ _ => by kernel_rfl
theorem sTs : sliceN PP X.Ts = some 5 := by kernel_rfl
theorem otOK : otB PP X.T X.Tg = true := by kernel_rfl
theorem b29 : (Go.Proofs.Try.f29).body.map strip = some (sc_has X.F X.I) := by kernel_rfl
theorem ok29 : FnOK PP 29 := fnOK_of Go.Proofs.Try.func29 b29 (by kernel_rfl)
theorem b39 : (Go.Proofs.Try.f39).body.map strip = some (sc_isnull X.F X.T X.B X.I) := by kernel_rfl
theorem ok39 : FnOK PP 39 := fnOK_of Go.Proofs.Try.func39 b39 (by kernel_rfl)
theorem b36 : (Go.Proofs.Try.f36).body.map strip = some (sc_whole X.Bs X.I) := by kernel_rfl
theorem ok36 : FnOK PP 36 := fnOK_of Go.Proofs.Try.func36 b36 (by kernel_rfl)
theorem b40 : (Go.Proofs.Try.f40).body.map strip = some (sc_things X.Ts X.I) := by kernel_rfl
theorem ok40 : FnOK PP 40 := fnOK_of Go.Proofs.Try.func40 b40 (by kernel_rfl)
theorem b31 : (Go.Proofs.Try.f31).body.map strip = some (sc_at X.T X.Ts X.I) := by kernel_rfl
theorem ok31 : FnOK PP 31 := fnOK_of Go.Proofs.Try.func31 b31 (by kernel_rfl)
theorem b34 : (Go.Proofs.Try.f34).body.map strip = some (sc_Uvarint X.U64 X.U8 X.Bs X.U) := by kernel_rfl
theorem ok34 : FnOK PP 34 := fnOK_of Go.Proofs.Try.func34 b34 (by kernel_rfl)
theorem b43 : (Go.Proofs.Try.f43).body.map strip = some (sc_Fixed X.I X.I64 X.U8 X.Bs) := by kernel_rfl
theorem ok43 : FnOK PP 43 := fnOK_of Go.Proofs.Try.func43 b43 (by kernel_rfl)
theorem b44 : (Go.Proofs.Try.f44).body.map strip = some (sc_width X.I) := by kernel_rfl
theorem ok44 : FnOK PP 44 := fnOK_of Go.Proofs.Try.func44 b44 (by kernel_rfl)
theorem b41 : (Go.Proofs.Try.f41).body.map strip = some (sc_counted X.Bs X.I X.U64 34 43) := by kernel_rfl
theorem ok41 : FnOK PP 41 := fnOK_of Go.Proofs.Try.func41 b41 (by kernel_rfl)
theorem b42 : (Go.Proofs.Try.f42).body.map strip = some (sc_value X.T X.I X.I64 X.U8 X.Bs 36 41 22 44 43) := by kernel_rfl
theorem ok42 : FnOK PP 42 := fnOK_of Go.Proofs.Try.func42 b42 (by kernel_rfl)
theorem b30 : (Go.Proofs.Try.f30).body.map strip = some (sc_sfield X.F X.T X.I X.Ts X.Fs X.Bs 39 40 41 42 43 22) := by kernel_rfl
theorem ok30 : FnOK PP 30 := fnOK_of Go.Proofs.Try.func30 b30 (by kernel_rfl)
theorem b32 : (Go.Proofs.Try.f32).body.map strip = some (sc_known X.Fs X.I X.F X.U32) := by kernel_rfl
theorem ok32 : FnOK PP 32 := fnOK_of Go.Proofs.Try.func32 b32 (by kernel_rfl)
theorem b22 : (Go.Proofs.Try.f22).body.map strip = some (sc_part X.T X.Fs X.I X.F X.Bs X.B X.U32 X.U64 X.Tgs X.Tg 29 31 30 32 33 34 35 36) := by kernel_rfl
theorem ok22 : FnOK PP 22 := fnOK_of Go.Proofs.Try.func22 b22 (by kernel_rfl)
theorem b35 : (Go.Proofs.Try.f35).body.map strip = some (sc_unknown X.Tgs X.I X.Tg X.U32 32) := by kernel_rfl
theorem ok35 : FnOK PP 35 := fnOK_of Go.Proofs.Try.func35 b35 (by kernel_rfl)
theorem b14 : (Go.Proofs.Try.f14).body.map strip = some (sc_Write X.M X.T X.Fs X.I 22) := by kernel_rfl
theorem ok14 : FnOK PP 14 := fnOK_of Go.Proofs.Try.func14 b14 (by kernel_rfl)
theorem small : SmallC PP X 36 40 41 44 43 34 29 39 31 G0 where
  oW := ok36
  cW := fun w b l c h => whole_ok iI sT Go.Proofs.Try.func36 b36 (by kernel_rfl) (by kernel_rfl) w b l c h
  oTh := ok40
  cTh := fun w b l c h => whole_ok iI sTs Go.Proofs.Try.func40 b40 (by kernel_rfl) (by kernel_rfl) w b l c h
  oC := ok41
  cC := fun w fl nu n s h1 h2 => counted_ok hX Go.Proofs.Try.func41 b41 (by kernel_rfl) (by kernel_rfl) ok34 (fun w n h => sUvarint_ok hX Go.Proofs.Try.func34 b34 (by kernel_rfl) (by kernel_rfl) w n h) ok43 (fun w n s h => sFixed_ok hX Go.Proofs.Try.func43 b43 (by kernel_rfl) (by kernel_rfl) w n s h) w fl nu n s h1 h2
  oWi := ok44
  cWi := fun w k => width_ok Go.Proofs.Try.func44 b44 (by kernel_rfl) (by kernel_rfl) w k
  oF := ok43
  cF := fun w n s h => sFixed_ok hX Go.Proofs.Try.func43 b43 (by kernel_rfl) (by kernel_rfl) w n s h
  oU := ok34
  cU := fun w n h => sUvarint_ok hX Go.Proofs.Try.func34 b34 (by kernel_rfl) (by kernel_rfl) w n h
  oH := ok29
  cH := fun w k fr to nu tg df o_ sub ver => has_ok hX Go.Proofs.Try.func29 b29 (by kernel_rfl) (by kernel_rfl) w k fr to nu tg df o_ sub ver
  oN := ok39
  cN := fun w k fr to nu tg df o_ sub ver n s l u null => isnull_ok hX Go.Proofs.Try.func39 b39 (by kernel_rfl) (by kernel_rfl) w k fr to nu tg df o_ sub ver n s l u null
  oA := ok31
  cA := fun w t tv i h => at_ok (G := G0) hX zT arrT Go.Proofs.Try.func31 b31 (by kernel_rfl) (by kernel_rfl) trivial w t tv i h
theorem known : KnownC PP 32 := known_ok hX arrF Go.Proofs.Try.func32 b32 (by kernel_rfl) (by kernel_rfl)
theorem tagT : TagT PP X := tagT_of (by kernel_rfl) (by kernel_rfl) (by kernel_rfl) (by kernel_rfl) (by kernel_rfl)
theorem unk : UnkC G0 PP 35 := unk_ok hX hm tagT ok32 known Go.Proofs.Try.func35 b35 (by kernel_rfl) (by kernel_rfl)
theorem fieldC : FieldC G0 PP X 30 22 := fun w h ty of_ sub ver flex t tv a1 a2 a3 a4 a5 a6 => field_ok hX small hm ok22 ok42 (fun ty h1 h2 w sub null ver flex t tv b1 b2 b3 => value_ok hX small hm ok22 Go.Proofs.Try.func42 b42 (by kernel_rfl) (by kernel_rfl) w ty h1 sub null ver flex t tv b1 h2 b2 b3) Go.Proofs.Try.func30 b30 (by kernel_rfl) (by kernel_rfl) w h ty of_ sub ver flex t tv a1 a2 a3 a4 a5 a6
theorem partOf (fs : Fs) (h1 : Fs.len fs < 4294967296) (h2 : SubsC (PartC G0 PP X 22) fs) : PartC G0 PP X 22 fs := part_ok hX arrF arrTg small hm ok30 fieldC ok32 known ok35 unk Go.Proofs.Try.func22 b22 (by kernel_rfl) (by kernel_rfl) fs h1 h2
theorem partC (fs : Fs) (h1 : Fs.len fs < 4294967296) (h2 : smallFs fs = true) : PartC G0 PP X 22 fs := partOf fs h1 (subsC_all partOf fs h2)
theorem cWr (fs : Fs) (h1 : Fs.len fs < 4294967296) (h2 : smallFs fs = true) (w : World) (fv : Value) (mflex ver : Int) (t : Tree) (tv : Value) (hf : FsV w (· < w.heap.size) fs fv) (ht : TV G0 w (· < w.heap.size) t tv) (hl : (wFs ver (decide (0 ≤ mflex) && decide (mflex ≤ ver)) fs t.l ++ wTags (decide (0 ≤ mflex) && decide (mflex ≤ ver)) t.u).length ≤ lim) : Calls PP 14 #[msgV fv mflex, .int .i64 ver, tv] w (RetOwn X.U8 w (wFs ver (decide (0 ≤ mflex) && decide (mflex ≤ ver)) fs t.l ++ wTags (decide (0 ≤ mflex) && decide (mflex ≤ ver)) t.u)) := write_ok hX ok22 Go.Proofs.Try.func14 b14 (by kernel_rfl) (by kernel_rfl) fs (partC fs h1 h2) w fv mflex ver t tv hf ht hl
theorem b15 : (Go.Proofs.Try.f15).body.map strip = some (sc_SDefault X.T X.Fs X.I X.F X.I64 X.Ts 15) := by kernel_rfl
theorem ok15 : FnOK PP 15 := fnOK_of Go.Proofs.Try.func15 b15 (by kernel_rfl)
theorem tB : ∀ (n : Int) (b : Bool), PP.built X.T [(0, .int .i64 n), (2, .bool b)] = some #[.int .i64 n, .slice none 0 0, .bool b, .slice none 0 0, .slice none 0 0] := fun _ _ => by kernel_rfl
theorem treeT : TreeT PP X where
  info := info_of (by kernel_rfl)
  row := by kernel_rfl
  agg := by kernel_rfl
  built := tB
  fld := fld3_of (by kernel_rfl)
theorem defOf (fs : Fs) (h1 : Fs.len fs < 4294967296) (h2 : SubsD (DefC G0 PP 15) fs) : DefC G0 PP 15 fs := default_ok (G := G0) hX arrF treeT trivial ok15 Go.Proofs.Try.func15 b15 (by kernel_rfl) (by kernel_rfl) fs h1 h2
theorem defC (fs : Fs) (h1 : Fs.len fs < 4294967296) (h2 : smallFs fs = true) : DefC G0 PP 15 fs := defOf fs h1 (subsD_all defOf fs h2)
end Go.Proofs.Ytgaplicnofhliaa.K
