/- What this seat's program is: the numbers of its types and functions, and that they are as the generic texts ask. No condition. -/
import Derived.Test.YtioodpjcpadkoaaChecked
import Derived.Test.YtioodpjcpadkoaaS20
import Derived.Test.YtioodpjcpadkoaaK10
import Derived.KernelRfl
namespace Go.Proofs.Ytioodpjcpadkoaa.K
open Go Go.RowKit Go.Proofs.Ytioodpjcpadkoaa.T
set_option linter.unusedVariables false
def X : STy := { I := 3, B := 4, U8 := 5, U32 := 78, U64 := 85, Bs := 28, F := 43, Fs := 23, T := 35, Ts := 32, Tg := 88, Tgs := 33, I64 := 2, M := 25, U := 193 }
noncomputable abbrev PP : Program := Go.Proofs.Try.prog
abbrev G0 : List (Nat × Bytes) → Prop := fun u => u = []
theorem hX : stOK PP X = true := by kernel_rfl
theorem hm : PP.follows .mixedOrders = true := by kernel_rfl
theorem arrF : arrB PP X.F 8 = true := by kernel_rfl
theorem arrT : arrB PP X.T 5 = true := by kernel_rfl
theorem arrM : arrB PP X.M 2 = true := by kernel_rfl
theorem arrTg : arrB PP X.Tg 2 = true := by kernel_rfl
theorem fok : fOK PP X.F = true := by kernel_rfl
theorem uFs : PP.underlying X.Fs = some (.slice X.F) := by kernel_rfl
theorem zT : PP.built X.T [] = some #[.int .i64 0, .slice none 0 0, .bool false, .slice none 0 0, .slice none 0 0] := by kernel_rfl
theorem mB : ∀ (n : Int) (b : Option Addr) (l c : Nat), PP.built X.M [(1, .int .i64 n), (0, .slice b l c)] = some #[.slice b l c, .int .i64 n] := fun _ _ _ _ => by kernel_rfl
theorem tB : ∀ (n : Int) (b : Bool), PP.built X.T [(0, .int .i64 n), (2, .bool b)] = some #[.int .i64 n, .slice none 0 0, .bool b, .slice none 0 0, .slice none 0 0] := fun _ _ => by kernel_rfl
theorem b121 : (Go.Proofs.Try.f121).body.map strip = some (sc_has X.F X.I) := by kernel_rfl
theorem ok121 : FnOK PP 121 := fnOK_of Go.Proofs.Try.func121 b121 (by kernel_rfl)
theorem b163 : (Go.Proofs.Try.f163).body.map strip = some (sc_isnull X.F X.T X.B X.I) := by kernel_rfl
theorem ok163 : FnOK PP 163 := fnOK_of Go.Proofs.Try.func163 b163 (by kernel_rfl)
theorem b128 : (Go.Proofs.Try.f128).body.map strip = some (sc_whole X.Bs X.I) := by kernel_rfl
theorem ok128 : FnOK PP 128 := fnOK_of Go.Proofs.Try.func128 b128 (by kernel_rfl)
theorem b164 : (Go.Proofs.Try.f164).body.map strip = some (sc_things X.Ts X.I) := by kernel_rfl
theorem ok164 : FnOK PP 164 := fnOK_of Go.Proofs.Try.func164 b164 (by kernel_rfl)
theorem b123 : (Go.Proofs.Try.f123).body.map strip = some (sc_at X.T X.Ts X.I) := by kernel_rfl
theorem ok123 : FnOK PP 123 := fnOK_of Go.Proofs.Try.func123 b123 (by kernel_rfl)
theorem b126 : (Go.Proofs.Try.f126).body.map strip = some (sc_Uvarint X.U64 X.U8 X.Bs X.U) := by kernel_rfl
theorem ok126 : FnOK PP 126 := fnOK_of Go.Proofs.Try.func126 b126 (by kernel_rfl)
theorem b167 : (Go.Proofs.Try.f167).body.map strip = some (sc_Fixed X.I X.I64 X.U8 X.Bs) := by kernel_rfl
theorem ok167 : FnOK PP 167 := fnOK_of Go.Proofs.Try.func167 b167 (by kernel_rfl)
theorem b168 : (Go.Proofs.Try.f168).body.map strip = some (sc_width X.I) := by kernel_rfl
theorem ok168 : FnOK PP 168 := fnOK_of Go.Proofs.Try.func168 b168 (by kernel_rfl)
theorem b165 : (Go.Proofs.Try.f165).body.map strip = some (sc_counted X.Bs X.I X.U64 126 167) := by kernel_rfl
theorem ok165 : FnOK PP 165 := fnOK_of Go.Proofs.Try.func165 b165 (by kernel_rfl)
theorem b166 : (Go.Proofs.Try.f166).body.map strip = some (sc_value X.T X.I X.I64 X.U8 X.Bs 128 165 59 168 167) := by kernel_rfl
theorem ok166 : FnOK PP 166 := fnOK_of Go.Proofs.Try.func166 b166 (by kernel_rfl)
theorem b122 : (Go.Proofs.Try.f122).body.map strip = some (sc_sfield X.F X.T X.I X.Ts X.Fs X.Bs 163 164 165 166 167 59) := by kernel_rfl
theorem ok122 : FnOK PP 122 := fnOK_of Go.Proofs.Try.func122 b122 (by kernel_rfl)
theorem b124 : (Go.Proofs.Try.f124).body.map strip = some (sc_known X.Fs X.I X.F X.U32) := by kernel_rfl
theorem ok124 : FnOK PP 124 := fnOK_of Go.Proofs.Try.func124 b124 (by kernel_rfl)
theorem b59 : (Go.Proofs.Try.f59).body.map strip = some (sc_part X.T X.Fs X.I X.F X.Bs X.B X.U32 X.U64 X.Tgs X.Tg 121 123 122 124 125 126 127 128) := by kernel_rfl
theorem ok59 : FnOK PP 59 := fnOK_of Go.Proofs.Try.func59 b59 (by kernel_rfl)
theorem b127 : (Go.Proofs.Try.f127).body.map strip = some (sc_unknown X.Tgs X.I X.Tg X.U32 124) := by kernel_rfl
theorem ok127 : FnOK PP 127 := fnOK_of Go.Proofs.Try.func127 b127 (by kernel_rfl)
theorem b20 : (Go.Proofs.Try.f20).body.map strip = some (sc_Write X.M X.T X.Fs X.I 59) := by kernel_rfl
theorem ok20 : FnOK PP 20 := fnOK_of Go.Proofs.Try.func20 b20 (by kernel_rfl)
theorem b17 : (Go.Proofs.Try.f17).body.map strip = some (sc_Same X.Bs X.I X.U8) := by kernel_rfl
theorem ok17 : FnOK PP 17 := fnOK_of Go.Proofs.Try.func17 b17 (by kernel_rfl)
theorem b21 : (Go.Proofs.Try.f21).body.map strip = some (sc_SDefault X.T X.Fs X.I X.F X.I64 X.Ts 21) := by kernel_rfl
theorem ok21 : FnOK PP 21 := fnOK_of Go.Proofs.Try.func21 b21 (by kernel_rfl)
theorem b19 : (Go.Proofs.Try.f19).body.map strip = some (sc_version X.U8 X.I) := by kernel_rfl
theorem ok19 : FnOK PP 19 := fnOK_of Go.Proofs.Try.func19 b19 (by kernel_rfl)
theorem sT : sliceN PP X.Bs = some 1 := by kernel_rfl
theorem sTs : sliceN PP X.Ts = some 5 := by kernel_rfl
theorem iI : intK PP X.I = some .i64 := by kernel_rfl
theorem small : SmallC PP X 128 164 165 168 167 126 121 163 123 G0 where
  oW := ok128
  cW := fun w b l c h => whole_ok iI sT Go.Proofs.Try.func128 b128 (by kernel_rfl) (by kernel_rfl) w b l c h
  oTh := ok164
  cTh := fun w b l c h => whole_ok iI sTs Go.Proofs.Try.func164 b164 (by kernel_rfl) (by kernel_rfl) w b l c h
  oC := ok165
  cC := fun w fl nu n s h1 h2 => counted_ok hX Go.Proofs.Try.func165 b165 (by kernel_rfl) (by kernel_rfl) ok126 (fun w n h => sUvarint_ok hX Go.Proofs.Try.func126 b126 (by kernel_rfl) (by kernel_rfl) w n h) ok167 (fun w n s h => sFixed_ok hX Go.Proofs.Try.func167 b167 (by kernel_rfl) (by kernel_rfl) w n s h) w fl nu n s h1 h2
  oWi := ok168
  cWi := fun w k => width_ok Go.Proofs.Try.func168 b168 (by kernel_rfl) (by kernel_rfl) w k
  oF := ok167
  cF := fun w n s h => sFixed_ok hX Go.Proofs.Try.func167 b167 (by kernel_rfl) (by kernel_rfl) w n s h
  oU := ok126
  cU := fun w n h => sUvarint_ok hX Go.Proofs.Try.func126 b126 (by kernel_rfl) (by kernel_rfl) w n h
  oH := ok121
  cH := fun w k fr to nu tg df o_ sub ver => has_ok hX Go.Proofs.Try.func121 b121 (by kernel_rfl) (by kernel_rfl) w k fr to nu tg df o_ sub ver
  oN := ok163
  cN := fun w k fr to nu tg df o_ sub ver n s l u null => isnull_ok hX Go.Proofs.Try.func163 b163 (by kernel_rfl) (by kernel_rfl) w k fr to nu tg df o_ sub ver n s l u null
  oA := ok123
  cA := fun w t tv i h => at_ok (G := G0) hX zT arrT Go.Proofs.Try.func123 b123 (by kernel_rfl) (by kernel_rfl) rfl w t tv i h
theorem known : KnownC PP 124 := known_ok hX arrF Go.Proofs.Try.func124 b124 (by kernel_rfl) (by kernel_rfl)
theorem unk : UnkC G0 PP 127 := unkNil_ok hX ok124 known Go.Proofs.Try.func127 b127 (by kernel_rfl) (by kernel_rfl)
theorem fieldC : FieldC G0 PP X 122 59 := fun w h ty of_ sub ver flex t tv a1 a2 a3 a4 a5 a6 => field_ok hX small hm ok59 ok166 (fun ty h1 h2 w sub null ver flex t tv b1 b2 b3 => value_ok hX small hm ok59 Go.Proofs.Try.func166 b166 (by kernel_rfl) (by kernel_rfl) w ty h1 sub null ver flex t tv b1 h2 b2 b3) Go.Proofs.Try.func122 b122 (by kernel_rfl) (by kernel_rfl) w h ty of_ sub ver flex t tv a1 a2 a3 a4 a5 a6
theorem partOf (fs : Fs) (h1 : Fs.len fs < 4294967296) (h2 : SubsC (PartC G0 PP X 59) fs) : PartC G0 PP X 59 fs := part_ok hX arrF arrTg small hm ok122 fieldC ok124 known ok127 unk Go.Proofs.Try.func59 b59 (by kernel_rfl) (by kernel_rfl) fs h1 h2
theorem partC (fs : Fs) (h1 : Fs.len fs < 4294967296) (h2 : smallFs fs = true) : PartC G0 PP X 59 fs := partOf fs h1 (subsC_all partOf fs h2)
theorem treeT : TreeT PP X where
  info := info_of (by kernel_rfl)
  row := by kernel_rfl
  agg := by kernel_rfl
  built := tB
  fld := fld3_of (by kernel_rfl)
theorem defOf (fs : Fs) (h1 : Fs.len fs < 4294967296) (h2 : SubsD (DefC G0 PP 21) fs) : DefC G0 PP 21 fs := default_ok (G := G0) hX arrF treeT rfl ok21 Go.Proofs.Try.func21 b21 (by kernel_rfl) (by kernel_rfl) fs h1 h2
theorem defC (fs : Fs) (h1 : Fs.len fs < 4294967296) (h2 : smallFs fs = true) : DefC G0 PP 21 fs := defOf fs h1 (subsD_all defOf fs h2)
def ids : Ids := { tI16 := 38, tInt := 3, tU32 := 78, tI8 := 127, tU8s := 28, tI32 := 21, tBool := 4, aBool := 132, aI8 := 148, aI16 := 131, aI32 := 130, aI64 := 117, aU16 := 153, aUuid := 136, aStr := 141, aCStr := 140, aNStr := 135, aCNStr := 134, aBytes := 116, aCBytes := 115, aNBytes := 0, aCNBytes := 0, aArr := 139, aCArr := 138, aNArr := 144, aCNArr := 143, aUvar := 118, tagsLen := 119, tagsEach := 120 }
theorem b132 : (Go.Proofs.Try.f132).body.map strip = some (sc_AppendBool 28) := by kernel_rfl
theorem apBool (x : Bool) : AP PP X.U8 132 #[.bool x] (fun _ _ => True) [if x then 1 else 0] := appendBool_ok Go.Proofs.Try.func132 b132 (by kernel_rfl) (by kernel_rfl) (by kernel_rfl) (by kernel_rfl) x
theorem b148 : (Go.Proofs.Try.f148).body.map strip = some (sc_AppendInt8 127 5 28) := by kernel_rfl
theorem apI8 (n : Int) : AP PP X.U8 148 #[.int .i8 n] (fun _ _ => True) (fixed n 1) := appendI8_ok Go.Proofs.Try.func148 b148 (by kernel_rfl) (by kernel_rfl) (by kernel_rfl) (by kernel_rfl) (by kernel_rfl) (by kernel_rfl) n
theorem b153 : (Go.Proofs.Try.f153).body.map strip = some (sc_AppendUint16 156 193 5 28) := by kernel_rfl
theorem apU16 (n : Int) : AP PP X.U8 153 #[.int .u16 n] (fun _ _ => True) (fixed n 2) := appendU16_ok Go.Proofs.Try.func153 b153 (by kernel_rfl) (by kernel_rfl) (by kernel_rfl) (by kernel_rfl) (by kernel_rfl) (by kernel_rfl) n
theorem b169 : (Go.Proofs.Try.f169).body.map strip = some (sc_AppendUint32 78 193 5 28) := by kernel_rfl
theorem apU32 (n : Int) : AP PP X.U8 169 #[.int .u32 n] (fun _ _ => True) (fixed n 4) := appendU32_ok Go.Proofs.Try.func169 b169 (by kernel_rfl) (by kernel_rfl) (by kernel_rfl) (by kernel_rfl) (by kernel_rfl) (by kernel_rfl) n
theorem b159 : (Go.Proofs.Try.f159).body.map strip = some (sc_appendUint64 85 193 5 28) := by kernel_rfl
theorem apU64 (n : Int) : AP PP X.U8 159 #[.int .u64 n] (fun _ _ => True) (fixed n 8) := appendU64_ok Go.Proofs.Try.func159 b159 (by kernel_rfl) (by kernel_rfl) (by kernel_rfl) (by kernel_rfl) (by kernel_rfl) (by kernel_rfl) n
theorem b131 : (Go.Proofs.Try.f131).body.map strip = some (sc_AppendInt16 38 156 153) := by kernel_rfl
theorem apI16 (n : Int) : AP PP X.U8 131 #[.int .i16 n] (fun _ _ => True) (fixed n 2) := appendI16_ok Go.Proofs.Try.func131 b131 (by kernel_rfl) (by kernel_rfl) (by kernel_rfl) (by kernel_rfl) (by kernel_rfl) apU16 n
theorem b130 : (Go.Proofs.Try.f130).body.map strip = some (sc_AppendInt32 21 78 169) := by kernel_rfl
theorem apI32 (n : Int) : AP PP X.U8 130 #[.int .i32 n] (fun _ _ => True) (fixed n 4) := appendI32_ok Go.Proofs.Try.func130 b130 (by kernel_rfl) (by kernel_rfl) (by kernel_rfl) (by kernel_rfl) (by kernel_rfl) apU32 n
theorem b117 : (Go.Proofs.Try.f117).body.map strip = some (sc_AppendInt64 2 85 159) := by kernel_rfl
theorem apI64 (n : Int) : AP PP X.U8 117 #[.int .i64 n] (fun _ _ => True) (fixed n 8) := appendI64_ok Go.Proofs.Try.func117 b117 (by kernel_rfl) (by kernel_rfl) (by kernel_rfl) (by kernel_rfl) (by kernel_rfl) apU64 n
theorem b171 : (Go.Proofs.Try.f171).body.map strip = some (sc_Len32 78 193 3 5 9) := by kernel_rfl
theorem ok171 : FnOK PP 171 := fnOK_of Go.Proofs.Try.func171 b171 (by kernel_rfl)
theorem b160 : (Go.Proofs.Try.f160).body.map strip = some (sc_UvarintLen 3 5 9 171) := by kernel_rfl
theorem ok160 : FnOK PP 160 := fnOK_of Go.Proofs.Try.func160 b160 (by kernel_rfl)
theorem b118 : (Go.Proofs.Try.f118).body.map strip = some (sc_AppendUvarint 3 78 5 193 28 160) := by kernel_rfl
theorem apUvar (n : Nat) (h : n < 4294967296) : AP PP X.U8 118 #[.int .u32 (n : Int)] (fun _ _ => True) (uvarint n) := appendUvarint_ok Go.Proofs.Try.func118 b118 (by kernel_rfl) (by kernel_rfl) (by kernel_rfl) (by kernel_rfl) (by kernel_rfl) (by kernel_rfl) ok160 (fun n w h => uvarintLen_ok Go.Proofs.Try.func160 b160 (by kernel_rfl) (by kernel_rfl) (by kernel_rfl) (by kernel_rfl) (by kernel_rfl) ok171 (fun n w h => len32_ok Go.Proofs.Try.func171 b171 (by kernel_rfl) (by kernel_rfl) (by kernel_rfl) (by kernel_rfl) (by kernel_rfl) (by kernel_rfl) n h w) n h w) n h
theorem b136 : (Go.Proofs.Try.f136).body.map strip = some (sc_AppendUuid 95 28) := by kernel_rfl
theorem apUuid (bs : Bytes) (h : bs.length = 16) : AP PP X.U8 136 #[.agg (cellsOf bs).toArray] (fun _ _ => True) (bs) := appendUuid_ok Go.Proofs.Try.func136 b136 (by kernel_rfl) (by kernel_rfl) (by kernel_rfl) (by kernel_rfl) (by kernel_rfl) bs h
theorem b141 : (Go.Proofs.Try.f141).body.map strip = some (sc_AppendString 9 3 38 28 131) := by kernel_rfl
theorem apStr (s : ByteArray) (h : s.data.toList.length ≤ most) : AP PP X.U8 141 #[.string s] (fun _ _ => True) (counted false false s.data.toList.length 2 ++ s.data.toList) := appendString_ok Go.Proofs.Try.func141 b141 (by kernel_rfl) (by kernel_rfl) (by kernel_rfl) (by kernel_rfl) (by kernel_rfl) (by kernel_rfl) (by kernel_rfl) apI16 s h
theorem b140 : (Go.Proofs.Try.f140).body.map strip = some (sc_AppendCompactString 9 3 78 28 118) := by kernel_rfl
theorem apCStr (s : ByteArray) (h : s.data.toList.length ≤ most) : AP PP X.U8 140 #[.string s] (fun _ _ => True) (counted true false s.data.toList.length 2 ++ s.data.toList) := appendCompactString_ok Go.Proofs.Try.func140 b140 (by kernel_rfl) (by kernel_rfl) (by kernel_rfl) (by kernel_rfl) (by kernel_rfl) (by kernel_rfl) (by kernel_rfl) apUvar s h
theorem b135 : (Go.Proofs.Try.f135).body.map strip = some (sc_AppendNullableString 94 9 131 141) := by kernel_rfl
theorem apNStr0 : AP PP X.U8 135 #[.pointer none] (fun _ _ => True) (counted false true 0 2) := appendNullStr0_ok (compact := false) Go.Proofs.Try.func135 b135 (by kernel_rfl) (by kernel_rfl) (by kernel_rfl) (by kernel_rfl) (by have h := apI16 (-1); simpa [counted, uvarint_lt] using h)
theorem apNStr (b o : Nat) (s : ByteArray) (h : s.data.toList.length ≤ most) : AP PP X.U8 135 #[.pointer (some ⟨b, o, none⟩)] (fun w B => b < B ∧ w.cell? ⟨b, o, none⟩ = some (.string s)) (counted false false s.data.toList.length 2 ++ s.data.toList) := appendNullStr_ok (compact := false) Go.Proofs.Try.func135 b135 (by kernel_rfl) (by kernel_rfl) (by kernel_rfl) (by kernel_rfl) (by kernel_rfl) s (apStr s h) b o
theorem b134 : (Go.Proofs.Try.f134).body.map strip = some (sc_AppendCompactNullableString 94 9 118 140) := by kernel_rfl
theorem apCNStr0 : AP PP X.U8 134 #[.pointer none] (fun _ _ => True) (counted true true 0 2) := appendNullStr0_ok (compact := true) Go.Proofs.Try.func134 b134 (by kernel_rfl) (by kernel_rfl) (by kernel_rfl) (by kernel_rfl) (by have h := apUvar 0 (by decide); simpa [counted, uvarint_lt] using h)
theorem apCNStr (b o : Nat) (s : ByteArray) (h : s.data.toList.length ≤ most) : AP PP X.U8 134 #[.pointer (some ⟨b, o, none⟩)] (fun w B => b < B ∧ w.cell? ⟨b, o, none⟩ = some (.string s)) (counted true false s.data.toList.length 2 ++ s.data.toList) := appendNullStr_ok (compact := true) Go.Proofs.Try.func134 b134 (by kernel_rfl) (by kernel_rfl) (by kernel_rfl) (by kernel_rfl) (by kernel_rfl) s (apCStr s h) b o
theorem b116 : (Go.Proofs.Try.f116).body.map strip = some (sc_AppendBytes 28 3 21 130) := by kernel_rfl
theorem apBytes (base : Option Addr) (cap : Nat) (bs : Bytes) (h : bs.length ≤ most) : AP PP X.U8 116 #[.slice base bs.length cap] (fun w B => BytesAt w (· < B) base bs) (counted false false bs.length 4 ++ bs) := appendBytes_ok Go.Proofs.Try.func116 b116 (by kernel_rfl) (by kernel_rfl) (by kernel_rfl) (by kernel_rfl) (by kernel_rfl) (by kernel_rfl) (by kernel_rfl) apI32 base cap bs h
theorem b115 : (Go.Proofs.Try.f115).body.map strip = some (sc_AppendCompactBytes 28 3 78 118) := by kernel_rfl
theorem apCBytes (base : Option Addr) (cap : Nat) (bs : Bytes) (h : bs.length ≤ most) : AP PP X.U8 115 #[.slice base bs.length cap] (fun w B => BytesAt w (· < B) base bs) (counted true false bs.length 4 ++ bs) := appendCompactBytes_ok Go.Proofs.Try.func115 b115 (by kernel_rfl) (by kernel_rfl) (by kernel_rfl) (by kernel_rfl) (by kernel_rfl) (by kernel_rfl) (by kernel_rfl) apUvar base cap bs h
theorem b139 : (Go.Proofs.Try.f139).body.map strip = some (sc_AppendArrayLen 3 21 130) := by kernel_rfl
theorem apArr (n : Nat) (h : n ≤ most) : AP PP X.U8 139 #[.int .i64 n] (fun _ _ => True) (counted false false n 4) := appendArrayLen_ok Go.Proofs.Try.func139 b139 (by kernel_rfl) (by kernel_rfl) (by kernel_rfl) (by kernel_rfl) (by kernel_rfl) apI32 n h
theorem b138 : (Go.Proofs.Try.f138).body.map strip = some (sc_AppendCompactArrayLen 3 78 118) := by kernel_rfl
theorem apCArr (n : Nat) (h : n ≤ most) : AP PP X.U8 138 #[.int .i64 n] (fun _ _ => True) (counted true false n 4) := appendCompactArrayLen_ok Go.Proofs.Try.func138 b138 (by kernel_rfl) (by kernel_rfl) (by kernel_rfl) (by kernel_rfl) (by kernel_rfl) apUvar n h
theorem b144 : (Go.Proofs.Try.f144).body.map strip = some (sc_AppendNullableArrayLen 3 21 130) := by kernel_rfl
theorem apNArr (n : Nat) (x : Bool) (h : n ≤ most) : AP PP X.U8 144 #[.int .i64 n, .bool x] (fun _ _ => True) (counted false x n 4) := appendNullArr_ok Go.Proofs.Try.func144 b144 (by kernel_rfl) (by kernel_rfl) (by kernel_rfl) (by kernel_rfl) (by kernel_rfl) apI32 n x h
theorem b143 : (Go.Proofs.Try.f143).body.map strip = some (sc_AppendCompactNullableArrayLen 3 78 118) := by kernel_rfl
theorem apCNArr (n : Nat) (x : Bool) (h : n ≤ most) : AP PP X.U8 143 #[.int .i64 n, .bool x] (fun _ _ => True) (counted true x n 4) := appendCompactNullArr_ok Go.Proofs.Try.func143 b143 (by kernel_rfl) (by kernel_rfl) (by kernel_rfl) (by kernel_rfl) (by kernel_rfl) apUvar n x h
theorem b119 : (Go.Proofs.Try.f119).body.map strip = some (sc_TLen 72 70) := by kernel_rfl
theorem ok119 : FnOK PP 119 := fnOK_of Go.Proofs.Try.func119 b119 (by kernel_rfl)
noncomputable def eachRest : SC := match (Go.Proofs.Try.f161).body.map strip with | some (.seq _ r) => r | _ => .skip
theorem b161 : (Go.Proofs.Try.f161).body.map strip = some (.seq (sc_TEach1 72 70 3) eachRest) := by kernel_rfl
theorem ok161 : FnOK PP 161 := fnOK_of Go.Proofs.Try.func161 b161 (by kernel_rfl)
theorem b120 : (Go.Proofs.Try.f120).body.map strip = some (sc_TAppendEach 28 161 (.func 162)) := by kernel_rfl
theorem ok120 : FnOK PP 120 := fnOK_of Go.Proofs.Try.func120 b120 (by kernel_rfl)
theorem ka : KA G0 PP ids X.U8 where
  bool := fun _ => apBool
  i8 := fun _ => apI8
  i16 := fun _ => apI16
  i32 := fun _ => apI32
  i64 := fun _ => apI64
  u16 := fun _ => apU16
  uuid := fun _ => apUuid
  str := fun _ => apStr
  cstr := fun _ => apCStr
  nstr0 := fun _ => apNStr0
  nstr := fun _ b o s h => apNStr b o s h
  cnstr0 := fun _ => apCNStr0
  cnstr := fun _ b o s h => apCNStr b o s h
  bytes := fun _ => apBytes
  cbytes := fun _ => apCBytes
  nbytes := fun h => absurd rfl h
  nbytes0 := fun h => absurd rfl h
  cnbytes := fun h => absurd rfl h
  cnbytes0 := fun h => absurd rfl h
  arr := fun _ => apArr
  carr := fun _ => apCArr
  narr := fun _ => apNArr
  cnarr := fun _ => apCNArr
  uvar := fun _ => apUvar
  tagsLen := fun _ => ⟨ok119, fun w F b o u h => tagsLen0_ok (by kernel_rfl) (by kernel_rfl) (by kernel_rfl) Go.Proofs.Try.func119 b119 (by kernel_rfl) (by kernel_rfl) w F b o u h⟩
  tagsEach := fun _ => ⟨ok120, fun w B b o u dv xs hu hb ho hB hl => appendEach0_ok (by kernel_rfl) ok161 (fun w F b o h cl => each0_ok (by kernel_rfl) (by kernel_rfl) (by kernel_rfl) Go.Proofs.Try.func161 b161 (by kernel_rfl) (by kernel_rfl) w F b o h cl) Go.Proofs.Try.func120 b120 (by kernel_rfl) (by kernel_rfl) w B b o u dv xs hu hb ho hB hl⟩
end Go.Proofs.Ytioodpjcpadkoaa.K
