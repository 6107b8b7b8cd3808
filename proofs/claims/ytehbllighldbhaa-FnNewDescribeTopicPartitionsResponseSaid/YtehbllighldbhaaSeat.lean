/- What this seat's program is: the numbers of its types and functions, and that they are as the generic texts ask. No condition. -/
import Derived.Test.YtehbllighldbhaaChecked
import Derived.Test.YtehbllighldbhaaS20
import Derived.Test.YtehbllighldbhaaK10
import Derived.KernelRfl
namespace Go.Proofs.Ytehbllighldbhaa.K
open Go Go.RowKit Go.Proofs.Ytehbllighldbhaa.T
set_option linter.unusedVariables false
def X : STy := { I := 3, B := 4, U8 := 5, U32 := 81, U64 := 88, Bs := 28, F := 43, Fs := 23, T := 35, Ts := 32, Tg := 91, Tgs := 33, I64 := 2, M := 25, U := 110 }
noncomputable abbrev PP : Program := Go.Proofs.Try.prog
abbrev G0 : List (Nat × Bytes) → Prop := fun u => u = []
theorem hX : stOK PP X = true := by kernel_rfl
theorem hm : PP.follows .mixedOrders = true := by kernel_rfl
theorem arrF : arrB PP X.F 8 = true := by kernel_rfl
theorem arrT : arrB PP X.T 5 = true := by kernel_rfl
theorem arrM : arrB PP X.M 2 = true := by kernel_rfl
theorem arrTg : arrB PP X.Tg 2 = true := by kernel_rfl
theorem fok : fOK PP X.F = true := by kernel_rfl
theorem uFs : PP.underlying X.Fs = some (.slice X.F) := by kernel_rfl
theorem zT : PP.built X.T [] = some #[.int .i64 0, .slice none 0 0, .bool false, .slice none 0 0, .slice none 0 0] := by kernel_rfl
theorem mB : ∀ (n : Int) (b : Option Addr) (l c : Nat), PP.built X.M [(1, .int .i64 n), (0, .slice b l c)] = some #[.slice b l c, .int .i64 n] := fun _ _ _ _ => by kernel_rfl
theorem tB : ∀ (n : Int) (b : Bool), PP.built X.T [(0, .int .i64 n), (2, .bool b)] = some #[.int .i64 n, .slice none 0 0, .bool b, .slice none 0 0, .slice none 0 0] := fun _ _ => by kernel_rfl
theorem b41 : (Go.Proofs.Try.f41).body.map strip = some (sc_has X.F X.I) := by kernel_rfl
theorem ok41 : FnOK PP 41 := fnOK_of Go.Proofs.Try.func41 b41 (by kernel_rfl)
theorem b60 : (Go.Proofs.Try.f60).body.map strip = some (sc_isnull X.F X.T X.B X.I) := by kernel_rfl
theorem ok60 : FnOK PP 60 := fnOK_of Go.Proofs.Try.func60 b60 (by kernel_rfl)
theorem b48 : (Go.Proofs.Try.f48).body.map strip = some (sc_whole X.Bs X.I) := by kernel_rfl
theorem ok48 : FnOK PP 48 := fnOK_of Go.Proofs.Try.func48 b48 (by kernel_rfl)
theorem b61 : (Go.Proofs.Try.f61).body.map strip = some (sc_things X.Ts X.I) := by kernel_rfl
theorem ok61 : FnOK PP 61 := fnOK_of Go.Proofs.Try.func61 b61 (by kernel_rfl)
theorem b43 : (Go.Proofs.Try.f43).body.map strip = some (sc_at X.T X.Ts X.I) := by kernel_rfl
theorem ok43 : FnOK PP 43 := fnOK_of Go.Proofs.Try.func43 b43 (by kernel_rfl)
theorem b46 : (Go.Proofs.Try.f46).body.map strip = some (sc_Uvarint X.U64 X.U8 X.Bs X.U) := by kernel_rfl
theorem ok46 : FnOK PP 46 := fnOK_of Go.Proofs.Try.func46 b46 (by kernel_rfl)
theorem b64 : (Go.Proofs.Try.f64).body.map strip = some (sc_Fixed X.I X.I64 X.U8 X.Bs) := by kernel_rfl
theorem ok64 : FnOK PP 64 := fnOK_of Go.Proofs.Try.func64 b64 (by kernel_rfl)
theorem b65 : (Go.Proofs.Try.f65).body.map strip = some (sc_width X.I) := by kernel_rfl
theorem ok65 : FnOK PP 65 := fnOK_of Go.Proofs.Try.func65 b65 (by kernel_rfl)
theorem b62 : (Go.Proofs.Try.f62).body.map strip = some (sc_counted X.Bs X.I X.U64 46 64) := by kernel_rfl
theorem ok62 : FnOK PP 62 := fnOK_of Go.Proofs.Try.func62 b62 (by kernel_rfl)
theorem b63 : (Go.Proofs.Try.f63).body.map strip = some (sc_value X.T X.I X.I64 X.U8 X.Bs 48 62 20 65 64) := by kernel_rfl
theorem ok63 : FnOK PP 63 := fnOK_of Go.Proofs.Try.func63 b63 (by kernel_rfl)
theorem b42 : (Go.Proofs.Try.f42).body.map strip = some (sc_sfield X.F X.T X.I X.Ts X.Fs X.Bs 60 61 62 63 64 20) := by kernel_rfl
theorem ok42 : FnOK PP 42 := fnOK_of Go.Proofs.Try.func42 b42 (by kernel_rfl)
theorem b44 : (Go.Proofs.Try.f44).body.map strip = some (sc_known X.Fs X.I X.F X.U32) := by kernel_rfl
theorem ok44 : FnOK PP 44 := fnOK_of Go.Proofs.Try.func44 b44 (by kernel_rfl)
theorem b20 : (Go.Proofs.Try.f20).body.map strip = some (sc_part X.T X.Fs X.I X.F X.Bs X.B X.U32 X.U64 X.Tgs X.Tg 41 43 42 44 45 46 47 48) := by kernel_rfl
theorem ok20 : FnOK PP 20 := fnOK_of Go.Proofs.Try.func20 b20 (by kernel_rfl)
theorem b47 : (Go.Proofs.Try.f47).body.map strip = some (sc_unknown X.Tgs X.I X.Tg X.U32 44) := by kernel_rfl
theorem ok47 : FnOK PP 47 := fnOK_of Go.Proofs.Try.func47 b47 (by kernel_rfl)
theorem b10 : (Go.Proofs.Try.f10).body.map strip = some (sc_Write X.M X.T X.Fs X.I 20) := by kernel_rfl
theorem ok10 : FnOK PP 10 := fnOK_of Go.Proofs.Try.func10 b10 (by kernel_rfl)
theorem b7 : (Go.Proofs.Try.f7).body.map strip = some (sc_Same X.Bs X.I X.U8) := by kernel_rfl
theorem ok7 : FnOK PP 7 := fnOK_of Go.Proofs.Try.func7 b7 (by kernel_rfl)
theorem b11 : (Go.Proofs.Try.f11).body.map strip = some (sc_SDefault X.T X.Fs X.I X.F X.I64 X.Ts 11) := by kernel_rfl
theorem ok11 : FnOK PP 11 := fnOK_of Go.Proofs.Try.func11 b11 (by kernel_rfl)
theorem b9 : (Go.Proofs.Try.f9).body.map strip = some (sc_version X.U8 X.I) := by kernel_rfl
theorem ok9 : FnOK PP 9 := fnOK_of Go.Proofs.Try.func9 b9 (by kernel_rfl)
theorem sT : sliceN PP X.Bs = some 1 := by kernel_rfl
theorem sTs : sliceN PP X.Ts = some 5 := by kernel_rfl
theorem iI : intK PP X.I = some .i64 := by kernel_rfl
theorem small : SmallC PP X 48 61 62 65 64 46 41 60 43 G0 where
  oW := ok48
  cW := fun w b l c h => whole_ok iI sT Go.Proofs.Try.func48 b48 (by kernel_rfl) (by kernel_rfl) w b l c h
  oTh := ok61
  cTh := fun w b l c h => whole_ok iI sTs Go.Proofs.Try.func61 b61 (by kernel_rfl) (by kernel_rfl) w b l c h
  oC := ok62
  cC := fun w fl nu n s h1 h2 => counted_ok hX Go.Proofs.Try.func62 b62 (by kernel_rfl) (by kernel_rfl) ok46 (fun w n h => sUvarint_ok hX Go.Proofs.Try.func46 b46 (by kernel_rfl) (by kernel_rfl) w n h) ok64 (fun w n s h => sFixed_ok hX Go.Proofs.Try.func64 b64 (by kernel_rfl) (by kernel_rfl) w n s h) w fl nu n s h1 h2
  oWi := ok65
  cWi := fun w k => width_ok Go.Proofs.Try.func65 b65 (by kernel_rfl) (by kernel_rfl) w k
  oF := ok64
  cF := fun w n s h => sFixed_ok hX Go.Proofs.Try.func64 b64 (by kernel_rfl) (by kernel_rfl) w n s h
  oU := ok46
  cU := fun w n h => sUvarint_ok hX Go.Proofs.Try.func46 b46 (by kernel_rfl) (by kernel_rfl) w n h
  oH := ok41
  cH := fun w k fr to nu tg df o_ sub ver => has_ok hX Go.Proofs.Try.func41 b41 (by kernel_rfl) (by kernel_rfl) w k fr to nu tg df o_ sub ver
  oN := ok60
  cN := fun w k fr to nu tg df o_ sub ver n s l u null => isnull_ok hX Go.Proofs.Try.func60 b60 (by kernel_rfl) (by kernel_rfl) w k fr to nu tg df o_ sub ver n s l u null
  oA := ok43
  cA := fun w t tv i h => at_ok (G := G0) hX zT arrT Go.Proofs.Try.func43 b43 (by kernel_rfl) (by kernel_rfl) rfl w t tv i h
theorem known : KnownC PP 44 := known_ok hX arrF Go.Proofs.Try.func44 b44 (by kernel_rfl) (by kernel_rfl)
theorem unk : UnkC G0 PP 47 := unkNil_ok hX ok44 known Go.Proofs.Try.func47 b47 (by kernel_rfl) (by kernel_rfl)
theorem fieldC : FieldC G0 PP X 42 20 := fun w h ty of_ sub ver flex t tv a1 a2 a3 a4 a5 a6 => field_ok hX small hm ok20 ok63 (fun ty h1 h2 w sub null ver flex t tv b1 b2 b3 => value_ok hX small hm ok20 Go.Proofs.Try.func63 b63 (by kernel_rfl) (by kernel_rfl) w ty h1 sub null ver flex t tv b1 h2 b2 b3) Go.Proofs.Try.func42 b42 (by kernel_rfl) (by kernel_rfl) w h ty of_ sub ver flex t tv a1 a2 a3 a4 a5 a6
theorem partOf (fs : Fs) (h1 : Fs.len fs < 4294967296) (h2 : SubsC (PartC G0 PP X 20) fs) : PartC G0 PP X 20 fs := part_ok hX arrF arrTg small hm ok42 fieldC ok44 known ok47 unk Go.Proofs.Try.func20 b20 (by kernel_rfl) (by kernel_rfl) fs h1 h2
theorem partC (fs : Fs) (h1 : Fs.len fs < 4294967296) (h2 : smallFs fs = true) : PartC G0 PP X 20 fs := partOf fs h1 (subsC_all partOf fs h2)
theorem treeT : TreeT PP X where
  info := info_of (by kernel_rfl)
  row := by kernel_rfl
  agg := by kernel_rfl
  built := tB
  fld := fld3_of (by kernel_rfl)
theorem defOf (fs : Fs) (h1 : Fs.len fs < 4294967296) (h2 : SubsD (DefC G0 PP 11) fs) : DefC G0 PP 11 fs := default_ok (G := G0) hX arrF treeT rfl ok11 Go.Proofs.Try.func11 b11 (by kernel_rfl) (by kernel_rfl) fs h1 h2
theorem defC (fs : Fs) (h1 : Fs.len fs < 4294967296) (h2 : smallFs fs = true) : DefC G0 PP 11 fs := defOf fs h1 (subsD_all defOf fs h2)
def ids : Ids := { tI16 := 38, tInt := 3, tU32 := 81, tI8 := 0, tU8s := 28, tI32 := 21, tBool := 4, aBool := 51, aI8 := 0, aI16 := 32, aI32 := 29, aI64 := 0, aU16 := 56, aUuid := 37, aStr := 36, aCStr := 35, aNStr := 34, aCNStr := 33, aBytes := 0, aCBytes := 0, aNBytes := 0, aCNBytes := 0, aArr := 31, aCArr := 30, aNArr := 53, aCNArr := 52, aUvar := 38, tagsLen := 39, tagsEach := 40 }
theorem b51 : (Go.Proofs.Try.f51).body.map strip = some (sc_AppendBool 28) := by kernel_rfl
theorem apBool (x : Bool) : AP PP X.U8 51 #[.bool x] (fun _ _ => True) [if x then 1 else 0] := appendBool_ok Go.Proofs.Try.func51 b51 (by kernel_rfl) (by kernel_rfl) (by kernel_rfl) (by kernel_rfl) x
theorem b56 : (Go.Proofs.Try.f56).body.map strip = some (sc_AppendUint16 108 110 5 28) := by kernel_rfl
theorem apU16 (n : Int) : AP PP X.U8 56 #[.int .u16 n] (fun _ _ => True) (fixed n 2) := appendU16_ok Go.Proofs.Try.func56 b56 (by kernel_rfl) (by kernel_rfl) (by kernel_rfl) (by kernel_rfl) (by kernel_rfl) (by kernel_rfl) n
theorem b55 : (Go.Proofs.Try.f55).body.map strip = some (sc_AppendUint32 81 110 5 28) := by kernel_rfl
theorem apU32 (n : Int) : AP PP X.U8 55 #[.int .u32 n] (fun _ _ => True) (fixed n 4) := appendU32_ok Go.Proofs.Try.func55 b55 (by kernel_rfl) (by kernel_rfl) (by kernel_rfl) (by kernel_rfl) (by kernel_rfl) (by kernel_rfl) n
theorem b32 : (Go.Proofs.Try.f32).body.map strip = some (sc_AppendInt16 38 108 56) := by kernel_rfl
theorem apI16 (n : Int) : AP PP X.U8 32 #[.int .i16 n] (fun _ _ => True) (fixed n 2) := appendI16_ok Go.Proofs.Try.func32 b32 (by kernel_rfl) (by kernel_rfl) (by kernel_rfl) (by kernel_rfl) (by kernel_rfl) apU16 n
theorem b29 : (Go.Proofs.Try.f29).body.map strip = some (sc_AppendInt32 21 81 55) := by kernel_rfl
theorem apI32 (n : Int) : AP PP X.U8 29 #[.int .i32 n] (fun _ _ => True) (fixed n 4) := appendI32_ok Go.Proofs.Try.func29 b29 (by kernel_rfl) (by kernel_rfl) (by kernel_rfl) (by kernel_rfl) (by kernel_rfl) apU32 n
theorem b67 : (Go.Proofs.Try.f67).body.map strip = some (sc_Len32 81 110 3 5 9) := by kernel_rfl
theorem ok67 : FnOK PP 67 := fnOK_of Go.Proofs.Try.func67 b67 (by kernel_rfl)
theorem b57 : (Go.Proofs.Try.f57).body.map strip = some (sc_UvarintLen 3 5 9 67) := by kernel_rfl
theorem ok57 : FnOK PP 57 := fnOK_of Go.Proofs.Try.func57 b57 (by kernel_rfl)
theorem b38 : (Go.Proofs.Try.f38).body.map strip = some (sc_AppendUvarint 3 81 5 110 28 57) := by kernel_rfl
theorem apUvar (n : Nat) (h : n < 4294967296) : AP PP X.U8 38 #[.int .u32 (n : Int)] (fun _ _ => True) (uvarint n) := appendUvarint_ok Go.Proofs.Try.func38 b38 (by kernel_rfl) (by kernel_rfl) (by kernel_rfl) (by kernel_rfl) (by kernel_rfl) (by kernel_rfl) ok57 (fun n w h => uvarintLen_ok Go.Proofs.Try.func57 b57 (by kernel_rfl) (by kernel_rfl) (by kernel_rfl) (by kernel_rfl) (by kernel_rfl) ok67 (fun n w h => len32_ok Go.Proofs.Try.func67 b67 (by kernel_rfl) (by kernel_rfl) (by kernel_rfl) (by kernel_rfl) (by kernel_rfl) (by kernel_rfl) n h w) n h w) n h
theorem b37 : (Go.Proofs.Try.f37).body.map strip = some (sc_AppendUuid 75 28) := by kernel_rfl
theorem apUuid (bs : Bytes) (h : bs.length = 16) : AP PP X.U8 37 #[.agg (cellsOf bs).toArray] (fun _ _ => True) (bs) := appendUuid_ok Go.Proofs.Try.func37 b37 (by kernel_rfl) (by kernel_rfl) (by kernel_rfl) (by kernel_rfl) (by kernel_rfl) bs h
theorem b36 : (Go.Proofs.Try.f36).body.map strip = some (sc_AppendString 9 3 38 28 32) := by kernel_rfl
theorem apStr (s : ByteArray) (h : s.data.toList.length ≤ most) : AP PP X.U8 36 #[.string s] (fun _ _ => True) (counted false false s.data.toList.length 2 ++ s.data.toList) := appendString_ok Go.Proofs.Try.func36 b36 (by kernel_rfl) (by kernel_rfl) (by kernel_rfl) (by kernel_rfl) (by kernel_rfl) (by kernel_rfl) (by kernel_rfl) apI16 s h
theorem b35 : (Go.Proofs.Try.f35).body.map strip = some (sc_AppendCompactString 9 3 81 28 38) := by kernel_rfl
theorem apCStr (s : ByteArray) (h : s.data.toList.length ≤ most) : AP PP X.U8 35 #[.string s] (fun _ _ => True) (counted true false s.data.toList.length 2 ++ s.data.toList) := appendCompactString_ok Go.Proofs.Try.func35 b35 (by kernel_rfl) (by kernel_rfl) (by kernel_rfl) (by kernel_rfl) (by kernel_rfl) (by kernel_rfl) (by kernel_rfl) apUvar s h
theorem b34 : (Go.Proofs.Try.f34).body.map strip = some (sc_AppendNullableString 59 9 32 36) := by kernel_rfl
theorem apNStr0 : AP PP X.U8 34 #[.pointer none] (fun _ _ => True) (counted false true 0 2) := appendNullStr0_ok (compact := false) Go.Proofs.Try.func34 b34 (by kernel_rfl) (by kernel_rfl) (by kernel_rfl) (by kernel_rfl) (by have h := apI16 (-1); simpa [counted, uvarint_lt] using h)
theorem apNStr (b o : Nat) (s : ByteArray) (h : s.data.toList.length ≤ most) : AP PP X.U8 34 #[.pointer (some ⟨b, o, none⟩)] (fun w B => b < B ∧ w.cell? ⟨b, o, none⟩ = some (.string s)) (counted false false s.data.toList.length 2 ++ s.data.toList) := appendNullStr_ok (compact := false) Go.Proofs.Try.func34 b34 (by kernel_rfl) (by kernel_rfl) (by kernel_rfl) (by kernel_rfl) (by kernel_rfl) s (apStr s h) b o
theorem b33 : (Go.Proofs.Try.f33).body.map strip = some (sc_AppendCompactNullableString 59 9 38 35) := by kernel_rfl
theorem apCNStr0 : AP PP X.U8 33 #[.pointer none] (fun _ _ => True) (counted true true 0 2) := appendNullStr0_ok (compact := true) Go.Proofs.Try.func33 b33 (by kernel_rfl) (by kernel_rfl) (by kernel_rfl) (by kernel_rfl) (by have h := apUvar 0 (by decide); simpa [counted, uvarint_lt] using h)
theorem apCNStr (b o : Nat) (s : ByteArray) (h : s.data.toList.length ≤ most) : AP PP X.U8 33 #[.pointer (some ⟨b, o, none⟩)] (fun w B => b < B ∧ w.cell? ⟨b, o, none⟩ = some (.string s)) (counted true false s.data.toList.length 2 ++ s.data.toList) := appendNullStr_ok (compact := true) Go.Proofs.Try.func33 b33 (by kernel_rfl) (by kernel_rfl) (by kernel_rfl) (by kernel_rfl) (by kernel_rfl) s (apCStr s h) b o
theorem b31 : (Go.Proofs.Try.f31).body.map strip = some (sc_AppendArrayLen 3 21 29) := by kernel_rfl
theorem apArr (n : Nat) (h : n ≤ most) : AP PP X.U8 31 #[.int .i64 n] (fun _ _ => True) (counted false false n 4) := appendArrayLen_ok Go.Proofs.Try.func31 b31 (by kernel_rfl) (by kernel_rfl) (by kernel_rfl) (by kernel_rfl) (by kernel_rfl) apI32 n h
theorem b30 : (Go.Proofs.Try.f30).body.map strip = some (sc_AppendCompactArrayLen 3 81 38) := by kernel_rfl
theorem apCArr (n : Nat) (h : n ≤ most) : AP PP X.U8 30 #[.int .i64 n] (fun _ _ => True) (counted true false n 4) := appendCompactArrayLen_ok Go.Proofs.Try.func30 b30 (by kernel_rfl) (by kernel_rfl) (by kernel_rfl) (by kernel_rfl) (by kernel_rfl) apUvar n h
theorem b53 : (Go.Proofs.Try.f53).body.map strip = some (sc_AppendNullableArrayLen 3 21 29) := by kernel_rfl
theorem apNArr (n : Nat) (x : Bool) (h : n ≤ most) : AP PP X.U8 53 #[.int .i64 n, .bool x] (fun _ _ => True) (counted false x n 4) := appendNullArr_ok Go.Proofs.Try.func53 b53 (by kernel_rfl) (by kernel_rfl) (by kernel_rfl) (by kernel_rfl) (by kernel_rfl) apI32 n x h
theorem b52 : (Go.Proofs.Try.f52).body.map strip = some (sc_AppendCompactNullableArrayLen 3 81 38) := by kernel_rfl
theorem apCNArr (n : Nat) (x : Bool) (h : n ≤ most) : AP PP X.U8 52 #[.int .i64 n, .bool x] (fun _ _ => True) (counted true x n 4) := appendCompactNullArr_ok Go.Proofs.Try.func52 b52 (by kernel_rfl) (by kernel_rfl) (by kernel_rfl) (by kernel_rfl) (by kernel_rfl) apUvar n x h
theorem b39 : (Go.Proofs.Try.f39).body.map strip = some (sc_TLen 53 51) := by kernel_rfl
theorem ok39 : FnOK PP 39 := fnOK_of Go.Proofs.Try.func39 b39 (by kernel_rfl)
noncomputable def eachRest : SC := match (Go.Proofs.Try.f58).body.map strip with | some (.seq _ r) => r | _ => .skip
theorem b58 : (Go.Proofs.Try.f58).body.map strip = some (.seq (sc_TEach1 53 51 3) eachRest) := by kernel_rfl
theorem ok58 : FnOK PP 58 := fnOK_of Go.Proofs.Try.func58 b58 (by kernel_rfl)
theorem b40 : (Go.Proofs.Try.f40).body.map strip = some (sc_TAppendEach 28 58 (.func 59)) := by kernel_rfl
theorem ok40 : FnOK PP 40 := fnOK_of Go.Proofs.Try.func40 b40 (by kernel_rfl)
theorem ka : KA G0 PP ids X.U8 where
  bool := fun _ => apBool
  i8 := fun h => absurd rfl h
  i16 := fun _ => apI16
  i32 := fun _ => apI32
  i64 := fun h => absurd rfl h
  u16 := fun _ => apU16
  uuid := fun _ => apUuid
  str := fun _ => apStr
  cstr := fun _ => apCStr
  nstr0 := fun _ => apNStr0
  nstr := fun _ b o s h => apNStr b o s h
  cnstr0 := fun _ => apCNStr0
  cnstr := fun _ b o s h => apCNStr b o s h
  bytes := fun h => absurd rfl h
  cbytes := fun h => absurd rfl h
  nbytes := fun h => absurd rfl h
  nbytes0 := fun h => absurd rfl h
  cnbytes := fun h => absurd rfl h
  cnbytes0 := fun h => absurd rfl h
  arr := fun _ => apArr
  carr := fun _ => apCArr
  narr := fun _ => apNArr
  cnarr := fun _ => apCNArr
  uvar := fun _ => apUvar
  tagsLen := fun _ => ⟨ok39, fun w F b o u h => tagsLen0_ok (by kernel_rfl) (by kernel_rfl) (by kernel_rfl) Go.Proofs.Try.func39 b39 (by kernel_rfl) (by kernel_rfl) w F b o u h⟩
  tagsEach := fun _ => ⟨ok40, fun w B b o u dv xs hu hb ho hB hl => appendEach0_ok (by kernel_rfl) ok58 (fun w F b o h cl => each0_ok (by kernel_rfl) (by kernel_rfl) (by kernel_rfl) Go.Proofs.Try.func58 b58 (by kernel_rfl) (by kernel_rfl) w F b o h cl) Go.Proofs.Try.func40 b40 (by kernel_rfl) (by kernel_rfl) w B b o u dv xs hu hb ho hB hl⟩
end Go.Proofs.Ytehbllighldbhaa.K
