/- What this seat's program is: the functions that write. No condition. -/
import Derived.Test.YtjcndcolfllibaaGreatDoorQX
import Derived.Test.YtjcndcolfllibaaGreatDoorM10
namespace Go.Proofs.YtjcndcolfllibaaGreatDoor.K
open Go Go.RowKit Go.Proofs Go.Proofs.YtjcndcolfllibaaGreatDoor.T
set_option linter.unusedVariables false
def ids : Ids := { tI16 := 42, tInt := 3, tU32 := 69, tI8 := 121, tU8s := 22, tI32 := 21, tBool := 4, aBool := 131, aI8 := 120, aI16 := 114, aI32 := 113, aI64 := 104, aU16 := 127, aUuid := 124, aStr := 103, aCStr := 102, aNStr := 106, aCNStr := 105, aBytes := 0, aCBytes := 0, aNBytes := 0, aCNBytes := 0, aArr := 101, aCArr := 100, aNArr := 0, aCNArr := 0, aUvar := 107, tagsLen := 108, tagsEach := 109 }
theorem b131 : (Go.Proofs.Tryz.f131).body.map strip = some (sc_AppendBool 22) := by kernel_rfl
theorem apBool (x : Bool) : AP PP X.U8 131 #[.bool x] (fun _ _ => True) [if x then 1 else 0] := appendBool_ok Go.Proofs.Tryz.func131 b131 (by kernel_rfl) (by kernel_rfl) (by kernel_rfl) (by kernel_rfl) x
theorem b120 : (Go.Proofs.Tryz.f120).body.map strip = some (sc_AppendInt8 121 5 22) := by kernel_rfl
theorem apI8 (n : Int) : AP PP X.U8 120 #[.int .i8 n] (fun _ _ => True) (fixed n 1) := appendI8_ok Go.Proofs.Tryz.func120 b120 (by kernel_rfl) (by kernel_rfl) (by kernel_rfl) (by kernel_rfl) (by kernel_rfl) (by kernel_rfl) n
theorem b127 : (Go.Proofs.Tryz.f127).body.map strip = some (sc_AppendUint16 39 173 5 22) := by kernel_rfl
theorem apU16 (n : Int) : AP PP X.U8 127 #[.int .u16 n] (fun _ _ => True) (fixed n 2) := appendU16_ok Go.Proofs.Tryz.func127 b127 (by kernel_rfl) (by kernel_rfl) (by kernel_rfl) (by kernel_rfl) (by kernel_rfl) (by kernel_rfl) n
theorem b162 : (Go.Proofs.Tryz.f162).body.map strip = some (sc_AppendUint32 69 173 5 22) := by kernel_rfl
theorem apU32 (n : Int) : AP PP X.U8 162 #[.int .u32 n] (fun _ _ => True) (fixed n 4) := appendU32_ok Go.Proofs.Tryz.func162 b162 (by kernel_rfl) (by kernel_rfl) (by kernel_rfl) (by kernel_rfl) (by kernel_rfl) (by kernel_rfl) n
theorem b154 : (Go.Proofs.Tryz.f154).body.map strip = some (sc_appendUint64 87 173 5 22) := by kernel_rfl
theorem apU64 (n : Int) : AP PP X.U8 154 #[.int .u64 n] (fun _ _ => True) (fixed n 8) := appendU64_ok Go.Proofs.Tryz.func154 b154 (by kernel_rfl) (by kernel_rfl) (by kernel_rfl) (by kernel_rfl) (by kernel_rfl) (by kernel_rfl) n
theorem b114 : (Go.Proofs.Tryz.f114).body.map strip = some (sc_AppendInt16 42 39 127) := by kernel_rfl
theorem apI16 (n : Int) : AP PP X.U8 114 #[.int .i16 n] (fun _ _ => True) (fixed n 2) := appendI16_ok Go.Proofs.Tryz.func114 b114 (by kernel_rfl) (by kernel_rfl) (by kernel_rfl) (by kernel_rfl) (by kernel_rfl) apU16 n
theorem b113 : (Go.Proofs.Tryz.f113).body.map strip = some (sc_AppendInt32 21 69 162) := by kernel_rfl
theorem apI32 (n : Int) : AP PP X.U8 113 #[.int .i32 n] (fun _ _ => True) (fixed n 4) := appendI32_ok Go.Proofs.Tryz.func113 b113 (by kernel_rfl) (by kernel_rfl) (by kernel_rfl) (by kernel_rfl) (by kernel_rfl) apU32 n
theorem b104 : (Go.Proofs.Tryz.f104).body.map strip = some (sc_AppendInt64 2 87 154) := by kernel_rfl
theorem apI64 (n : Int) : AP PP X.U8 104 #[.int .i64 n] (fun _ _ => True) (fixed n 8) := appendI64_ok Go.Proofs.Tryz.func104 b104 (by kernel_rfl) (by kernel_rfl) (by kernel_rfl) (by kernel_rfl) (by kernel_rfl) apU64 n
theorem b182 : (Go.Proofs.Tryz.f182).body.map strip = some (sc_Len32 69 173 3 5 9) := by kernel_rfl
theorem ok182 : FnOK PP 182 := fnOK_of Go.Proofs.Tryz.func182 b182 (by kernel_rfl)
theorem b155 : (Go.Proofs.Tryz.f155).body.map strip = some (sc_UvarintLen 3 5 9 182) := by kernel_rfl
theorem ok155 : FnOK PP 155 := fnOK_of Go.Proofs.Tryz.func155 b155 (by kernel_rfl)
theorem b107 : (Go.Proofs.Tryz.f107).body.map strip = some (sc_AppendUvarint 3 69 5 173 22 155) := by kernel_rfl
theorem apUvar2 (n : Nat) (h : n < 4294967296) : AP2 PP X.U8 107 #[.int .u32 (n : Int)] (uvarint n) := appendUvarint2_ok Go.Proofs.Tryz.func107 b107 (by kernel_rfl) (by kernel_rfl) (by kernel_rfl) (by kernel_rfl) (by kernel_rfl) (by kernel_rfl) ok155 (fun n w h => uvarintLen_ok Go.Proofs.Tryz.func155 b155 (by kernel_rfl) (by kernel_rfl) (by kernel_rfl) (by kernel_rfl) (by kernel_rfl) ok182 (fun n w h => len32_ok Go.Proofs.Tryz.func182 b182 (by kernel_rfl) (by kernel_rfl) (by kernel_rfl) (by kernel_rfl) (by kernel_rfl) (by kernel_rfl) n h w) n h w) n h
theorem apUvar (n : Nat) (h : n < 4294967296) : AP PP X.U8 107 #[.int .u32 (n : Int)] (fun _ _ => True) (uvarint n) := appendUvarint_ok Go.Proofs.Tryz.func107 b107 (by kernel_rfl) (by kernel_rfl) (by kernel_rfl) (by kernel_rfl) (by kernel_rfl) (by kernel_rfl) ok155 (fun n w h => uvarintLen_ok Go.Proofs.Tryz.func155 b155 (by kernel_rfl) (by kernel_rfl) (by kernel_rfl) (by kernel_rfl) (by kernel_rfl) ok182 (fun n w h => len32_ok Go.Proofs.Tryz.func182 b182 (by kernel_rfl) (by kernel_rfl) (by kernel_rfl) (by kernel_rfl) (by kernel_rfl) (by kernel_rfl) n h w) n h w) n h
theorem b124 : (Go.Proofs.Tryz.f124).body.map strip = some (sc_AppendUuid 136 22) := by kernel_rfl
theorem apUuid (bs : Bytes) (h : bs.length = 16) : AP PP X.U8 124 #[.agg (cellsOf bs).toArray] (fun _ _ => True) (bs) := appendUuid_ok Go.Proofs.Tryz.func124 b124 (by kernel_rfl) (by kernel_rfl) (by kernel_rfl) (by kernel_rfl) (by kernel_rfl) bs h
theorem b103 : (Go.Proofs.Tryz.f103).body.map strip = some (sc_AppendString 9 3 42 22 114) := by kernel_rfl
theorem apStr (s : ByteArray) (h : s.data.toList.length ≤ most) : AP PP X.U8 103 #[.string s] (fun _ _ => True) (counted false false s.data.toList.length 2 ++ s.data.toList) := appendString_ok Go.Proofs.Tryz.func103 b103 (by kernel_rfl) (by kernel_rfl) (by kernel_rfl) (by kernel_rfl) (by kernel_rfl) (by kernel_rfl) (by kernel_rfl) apI16 s h
theorem b102 : (Go.Proofs.Tryz.f102).body.map strip = some (sc_AppendCompactString 9 3 69 22 107) := by kernel_rfl
theorem apCStr (s : ByteArray) (h : s.data.toList.length ≤ most) : AP PP X.U8 102 #[.string s] (fun _ _ => True) (counted true false s.data.toList.length 2 ++ s.data.toList) := appendCompactString_ok Go.Proofs.Tryz.func102 b102 (by kernel_rfl) (by kernel_rfl) (by kernel_rfl) (by kernel_rfl) (by kernel_rfl) (by kernel_rfl) (by kernel_rfl) apUvar s h
theorem b106 : (Go.Proofs.Tryz.f106).body.map strip = some (sc_AppendNullableString 75 9 114 103) := by kernel_rfl
theorem apNStr0 : AP PP X.U8 106 #[.pointer none] (fun _ _ => True) (counted false true 0 2) := appendNullStr0_ok (compact := false) Go.Proofs.Tryz.func106 b106 (by kernel_rfl) (by kernel_rfl) (by kernel_rfl) (by kernel_rfl) (by have h := apI16 (-1); simpa [counted, uvarint_lt] using h)
theorem apNStr (b o : Nat) (s : ByteArray) (h : s.data.toList.length ≤ most) : AP PP X.U8 106 #[.pointer (some ⟨b, o, none⟩)] (fun w B => b < B ∧ w.cell? ⟨b, o, none⟩ = some (.string s)) (counted false false s.data.toList.length 2 ++ s.data.toList) := appendNullStr_ok (compact := false) Go.Proofs.Tryz.func106 b106 (by kernel_rfl) (by kernel_rfl) (by kernel_rfl) (by kernel_rfl) (by kernel_rfl) s (apStr s h) b o
theorem b105 : (Go.Proofs.Tryz.f105).body.map strip = some (sc_AppendCompactNullableString 75 9 107 102) := by kernel_rfl
theorem apCNStr0 : AP PP X.U8 105 #[.pointer none] (fun _ _ => True) (counted true true 0 2) := appendNullStr0_ok (compact := true) Go.Proofs.Tryz.func105 b105 (by kernel_rfl) (by kernel_rfl) (by kernel_rfl) (by kernel_rfl) (by have h := apUvar 0 (by decide); simpa [counted, uvarint_lt] using h)
theorem apCNStr (b o : Nat) (s : ByteArray) (h : s.data.toList.length ≤ most) : AP PP X.U8 105 #[.pointer (some ⟨b, o, none⟩)] (fun w B => b < B ∧ w.cell? ⟨b, o, none⟩ = some (.string s)) (counted true false s.data.toList.length 2 ++ s.data.toList) := appendNullStr_ok (compact := true) Go.Proofs.Tryz.func105 b105 (by kernel_rfl) (by kernel_rfl) (by kernel_rfl) (by kernel_rfl) (by kernel_rfl) s (apCStr s h) b o
theorem b101 : (Go.Proofs.Tryz.f101).body.map strip = some (sc_AppendArrayLen 3 21 113) := by kernel_rfl
theorem apArr (n : Nat) (h : n ≤ most) : AP PP X.U8 101 #[.int .i64 n] (fun _ _ => True) (counted false false n 4) := appendArrayLen_ok Go.Proofs.Tryz.func101 b101 (by kernel_rfl) (by kernel_rfl) (by kernel_rfl) (by kernel_rfl) (by kernel_rfl) apI32 n h
theorem b100 : (Go.Proofs.Tryz.f100).body.map strip = some (sc_AppendCompactArrayLen 3 69 107) := by kernel_rfl
theorem apCArr (n : Nat) (h : n ≤ most) : AP PP X.U8 100 #[.int .i64 n] (fun _ _ => True) (counted true false n 4) := appendCompactArrayLen_ok Go.Proofs.Tryz.func100 b100 (by kernel_rfl) (by kernel_rfl) (by kernel_rfl) (by kernel_rfl) (by kernel_rfl) apUvar n h
theorem b108 : (Go.Proofs.Tryz.f108).body.map strip = some (sc_TLen 78 76) := by kernel_rfl
theorem ok108 : FnOK PP 108 := fnOK_of Go.Proofs.Tryz.func108 b108 (by kernel_rfl)
theorem tLenC : FnOK PP 108 ∧ ∀ (w : World) (F : Nat → Prop) (b o : Nat) (u : List (Nat × Bytes)), HTags G0 w F b o u → Calls PP 108 #[.pointer (some ⟨b, o, none⟩)] w fun e w' => e = .returned (.int .i64 u.length) ∧ w = w' := ⟨ok108, fun w F b o u h => tagsLenN_ok (by kernel_rfl) (by kernel_rfl) (by kernel_rfl) Go.Proofs.Tryz.func108 b108 (by kernel_rfl) (by kernel_rfl) w F b o u h⟩
def rho : Shelf.Ren := ⟨fun n => match n with | 0 => 0 | 1 => 1 | 2 => 2 | 6 => 183 | 10 => 189 | 11 => 190 | 12 => 191 | 13 => 192 | 14 => 193 | 15 => 194 | 16 => 195 | 17 => 196 | 18 => 197 | 19 => 198 | 20 => 199 | 21 => 200 | 22 => 201 | 23 => 202 | 24 => 182 | 25 => 203 | 26 => 204 | 27 => 205 | 28 => 206 | 29 => 207 | 30 => 208 | 31 => 209 | 32 => 210 | 33 => 211 | 34 => 212 | 35 => 213 | 36 => 214 | 37 => 215 | 38 => 216 | 39 => 217 | 40 => 218 | 41 => 219 | 42 => 220 | 43 => 221 | 44 => 222 | 45 => 223 | 46 => 224 | 47 => 225 | 48 => 226 | 49 => 227 | 50 => 228 | 51 => 229 | 52 => 230 | 53 => 231 | 54 => 232 | 55 => 240 | 56 => 241 | 57 => 242 | 58 => 244 | _ => 0, fun n => match n with | 0 => 0 | 1 => 1 | 2 => 2 | 3 => 3 | 4 => 4 | 5 => 5 | 6 => 6 | 7 => 7 | 8 => 8 | 9 => 9 | 10 => 10 | 11 => 11 | 12 => 12 | 13 => 13 | 14 => 14 | 15 => 15 | 16 => 16 | 17 => 17 | 18 => 18 | 19 => 19 | 20 => 20 | 21 => 21 | 23 => 198 | 26 => 199 | 30 => 73 | 32 => 207 | 33 => 208 | 34 => 209 | 35 => 210 | 36 => 211 | 37 => 212 | 38 => 213 | 39 => 28 | 40 => 214 | 41 => 173 | 42 => 215 | 43 => 216 | 44 => 217 | 45 => 218 | 46 => 219 | 47 => 220 | 48 => 185 | 49 => 69 | 50 => 221 | 51 => 87 | 52 => 222 | 53 => 223 | 54 => 224 | 55 => 225 | 56 => 226 | 57 => 227 | 58 => 228 | 59 => 229 | 60 => 230 | 61 => 231 | 62 => 196 | 63 => 232 | 64 => 233 | 65 => 234 | 66 => 235 | 67 => 236 | 68 => 237 | 69 => 179 | 70 => 239 | 71 => 240 | 72 => 241 | 73 => 242 | 74 => 243 | 75 => 244 | 76 => 245 | 77 => 246 | 78 => 247 | 79 => 248 | 80 => 249 | 81 => 250 | 82 => 251 | 83 => 253 | 84 => 254 | _ => 0, fun n => n⟩
theorem laysGg : LaysGg.n6 PP rho where
  mixed := by kernel_rfl
  f6 := by kernel_rfl
  f10 := by kernel_rfl
  f11 := by kernel_rfl
  f12 := by kernel_rfl
  f13 := by kernel_rfl
  f14 := by kernel_rfl
  f24 := by kernel_rfl
  f25 := by kernel_rfl
  f26 := by kernel_rfl
  f27 := by kernel_rfl
  f28 := by kernel_rfl
  f29 := by kernel_rfl
  f30 := by kernel_rfl
  f31 := by kernel_rfl
  f32 := by kernel_rfl
  f33 := by kernel_rfl
  f34 := by kernel_rfl
  f35 := by kernel_rfl
  f36 := by kernel_rfl
  f37 := by kernel_rfl
  f38 := by kernel_rfl
  f39 := by kernel_rfl
  t0 := by kernel_rfl
  a0 := fun _ => by kernel_rfl
  z0 := fun _ => by kernel_rfl
  v0 := fun _ => by kernel_rfl
  i0 := by kernel_rfl
  t3 := by kernel_rfl
  a3 := fun _ => by kernel_rfl
  z3 := fun _ => by kernel_rfl
  v3 := fun _ => by kernel_rfl
  i3 := by kernel_rfl
  t4 := by kernel_rfl
  a4 := fun _ => by kernel_rfl
  z4 := fun _ => by kernel_rfl
  v4 := fun _ => by kernel_rfl
  i4 := by kernel_rfl
  t5 := by kernel_rfl
  a5 := fun _ => by kernel_rfl
  z5 := fun _ => by kernel_rfl
  v5 := fun _ => by kernel_rfl
  i5 := by kernel_rfl
  t9 := by kernel_rfl
  a9 := fun _ => by kernel_rfl
  z9 := fun _ => by kernel_rfl
  v9 := fun _ => by kernel_rfl
  i9 := by kernel_rfl
  t12 := by kernel_rfl
  a12 := fun _ => by kernel_rfl
  z12 := fun _ => by kernel_rfl
  v12 := fun _ => by kernel_rfl
  i12 := by kernel_rfl
  t17 := by kernel_rfl
  a17 := fun _ => by kernel_rfl
  z17 := fun _ => by kernel_rfl
  v17 := fun _ => by kernel_rfl
  i17 := by kernel_rfl
  t20 := by kernel_rfl
  a20 := fun _ => by kernel_rfl
  z20 := fun _ => by kernel_rfl
  v20 := fun _ => by kernel_rfl
  i20 := by kernel_rfl
  t26 := by kernel_rfl
  a26 := fun _ => by kernel_rfl
  z26 := fun _ => by kernel_rfl
  v26 := fun _ => by kernel_rfl
  i26 := by kernel_rfl
  t32 := by kernel_rfl
  a32 := fun _ => by kernel_rfl
  z32 := fun _ => by kernel_rfl
  v32 := fun _ => by kernel_rfl
  i32 := by kernel_rfl
  t33 := by kernel_rfl
  a33 := fun _ => by kernel_rfl
  z33 := fun _ => by kernel_rfl
  v33 := fun _ => by kernel_rfl
  i33 := by kernel_rfl
  t35 := by kernel_rfl
  a35 := fun _ => by kernel_rfl
  z35 := fun _ => by kernel_rfl
  v35 := fun _ => by kernel_rfl
  i35 := by kernel_rfl
  t37 := by kernel_rfl
  a37 := fun _ => by kernel_rfl
  z37 := fun _ => by kernel_rfl
  v37 := fun _ => by kernel_rfl
  i37 := by kernel_rfl
  t41 := by kernel_rfl
  a41 := fun _ => by kernel_rfl
  z41 := fun _ => by kernel_rfl
  v41 := fun _ => by kernel_rfl
  i41 := by kernel_rfl
  t44 := by kernel_rfl
  a44 := fun _ => by kernel_rfl
  z44 := fun _ => by kernel_rfl
  v44 := fun _ => by kernel_rfl
  i44 := by kernel_rfl
  t49 := by kernel_rfl
  a49 := fun _ => by kernel_rfl
  z49 := fun _ => by kernel_rfl
  v49 := fun _ => by kernel_rfl
  i49 := by kernel_rfl
  t51 := by kernel_rfl
  a51 := fun _ => by kernel_rfl
  z51 := fun _ => by kernel_rfl
  v51 := fun _ => by kernel_rfl
  i51 := by kernel_rfl
  t53 := by kernel_rfl
  a53 := fun _ => by kernel_rfl
  z53 := fun _ => by kernel_rfl
  v53 := fun _ => by kernel_rfl
  i53 := by kernel_rfl
  t54 := by kernel_rfl
  a54 := fun _ => by kernel_rfl
  z54 := fun _ => by kernel_rfl
  v54 := fun _ => by kernel_rfl
  i54 := by kernel_rfl
  t58 := by kernel_rfl
  a58 := fun _ => by kernel_rfl
  z58 := fun _ => by kernel_rfl
  v58 := fun _ => by kernel_rfl
  i58 := by kernel_rfl
  t60 := by kernel_rfl
  a60 := fun _ => by kernel_rfl
  z60 := fun _ => by kernel_rfl
  v60 := fun _ => by kernel_rfl
  i60 := by kernel_rfl
  t64 := by kernel_rfl
  a64 := fun _ => by kernel_rfl
  z64 := fun _ => by kernel_rfl
  v64 := fun _ => by kernel_rfl
  i64 := by kernel_rfl
  t66 := by kernel_rfl
  a66 := fun _ => by kernel_rfl
  z66 := fun _ => by kernel_rfl
  v66 := fun _ => by kernel_rfl
  i66 := by kernel_rfl
  t67 := by kernel_rfl
  a67 := fun _ => by kernel_rfl
  z67 := fun _ => by kernel_rfl
  v67 := fun _ => by kernel_rfl
  i67 := by kernel_rfl
  t75 := by kernel_rfl
  a75 := fun _ => by kernel_rfl
  z75 := fun _ => by kernel_rfl
  v75 := fun _ => by kernel_rfl
  i75 := by kernel_rfl
  t76 := by kernel_rfl
  a76 := fun _ => by kernel_rfl
  z76 := fun _ => by kernel_rfl
  v76 := fun _ => by kernel_rfl
  i76 := by kernel_rfl
  t77 := by kernel_rfl
  a77 := fun _ => by kernel_rfl
  z77 := fun _ => by kernel_rfl
  v77 := fun _ => by kernel_rfl
  i77 := by kernel_rfl
  t78 := by kernel_rfl
  a78 := fun _ => by kernel_rfl
  z78 := fun _ => by kernel_rfl
  v78 := fun _ => by kernel_rfl
  i78 := by kernel_rfl
  t79 := by kernel_rfl
  a79 := fun _ => by kernel_rfl
  z79 := fun _ => by kernel_rfl
  v79 := fun _ => by kernel_rfl
  i79 := by kernel_rfl
  t80 := by kernel_rfl
  a80 := fun _ => by kernel_rfl
  z80 := fun _ => by kernel_rfl
  v80 := fun _ => by kernel_rfl
  i80 := by kernel_rfl
  t82 := by kernel_rfl
  a82 := fun _ => by kernel_rfl
  z82 := fun _ => by kernel_rfl
  v82 := fun _ => by kernel_rfl
  i82 := by kernel_rfl
theorem b184 : (Go.Proofs.Tryz.f184).body.map strip = some (sc_Each1 197 69) := by kernel_rfl
theorem ok184 : FnOK PP 184 := fnOK_of Go.Proofs.Tryz.func184 b184 (by kernel_rfl)
theorem b157 : (Go.Proofs.Tryz.f157).body.map strip = some (sc_AppendEach1 22 3 69 107) := by kernel_rfl
theorem ok157 : FnOK PP 157 := fnOK_of Go.Proofs.Tryz.func157 b157 (by kernel_rfl)
theorem b156 : (Go.Proofs.Tryz.f156).body.map strip = some (sc_TEach 78 76 3 197 69 183 184) := by kernel_rfl
theorem ok156 : FnOK PP 156 := fnOK_of Go.Proofs.Tryz.func156 b156 (by kernel_rfl)
theorem b109 : (Go.Proofs.Tryz.f109).body.map strip = some (sc_TAppendEach 22 156 (.func 157)) := by kernel_rfl
theorem ok109 : FnOK PP 109 := fnOK_of Go.Proofs.Tryz.func109 b109 (by kernel_rfl)
theorem okS : FnOK PP 183 := ⟨_, Go.Proofs.Tryz.func183, (by kernel_rfl), (by kernel_rfl)⟩
noncomputable def siT : TypeInfo := (PP.info? 197).get (by kernel_rfl)
noncomputable def siE : TypeInfo := (PP.info? 69).get (by kernel_rfl)
noncomputable def siTz : Value := siT.zero.get (by kernel_rfl)
noncomputable def siEz : Value := siE.zero.get (by kernel_rfl)
theorem siK (n : Nat) : Lib.swapperK n siE 10 = if n = 0 then 1 else if n = 1 then 2 else 6 := by
  have a : siE.hasPointers = false := by kernel_rfl
  have b : siE.bytes = 4 := by kernel_rfl
  unfold Lib.swapperK
  rw [a, b]
  by_cases h0 : n = 0
  · simp [h0]
  · by_cases h1 : n = 1
    · simp [h1]
    · simp [h0, h1]
def swF (n : Nat) : Nat := if n = 0 then 194 else if n = 1 then 195 else 199
theorem swOK (n : Nat) : PP.funcs.findIdx? (·.name == "internal/reflectlite" ++ ".Swapper$" ++ toString (Lib.swapperK n siE 10)) = some (swF n) := by
  rw [siK]
  unfold swF
  by_cases h0 : n = 0
  · simp only [h0, if_true]; kernel_rfl
  · by_cases h1 : n = 1
    · subst h1; kernel_rfl
    · simp only [h0, h1, if_false]; kernel_rfl
theorem sortOK : SortC PP 183 184 197 69 := sortC laysGg hm (by kernel_rfl) (by kernel_rfl) (by kernel_rfl) (i := siT) (ie := siE) (by kernel_rfl) (by kernel_rfl) (by kernel_rfl) (by kernel_rfl) 10 (fun _ => by kernel_rfl) (by kernel_rfl) Go.Proofs.Tryz.func184 b184 (by kernel_rfl) (by kernel_rfl) okS ok184 swF swOK true (fun n args W h => by
  have e : swF n = 199 := by unfold swF; rw [if_neg (by omega), if_neg (by omega)]
  rw [e]
  exact run_callFunc_extern Go.Proofs.Tryz.func199 (by kernel_rfl) (by kernel_rfl) (by kernel_rfl) (e := Extern.ReflectliteSwapper.swap true) (by kernel_rfl) args W)
theorem eachC : EachC PP X.U8 22 157 G0 156 := each_ok (TU := 197) (T32 := 69) (i32 := siE) (iU := siT) (z32 := siEz) (zU := siTz) (by kernel_rfl) (by kernel_rfl) (by kernel_rfl) (by kernel_rfl) (by kernel_rfl) (by kernel_rfl) (by kernel_rfl) (by kernel_rfl) (by kernel_rfl) (by kernel_rfl) (by decide +kernel) (by kernel_rfl) (by kernel_rfl) (by kernel_rfl) sortOK ok157 (fun w B c k cap dv xs bs base h1 h2 h3 h4 h5 h6 h7 h8 => cl_ok (by kernel_rfl) (by kernel_rfl) (by kernel_rfl) (by kernel_rfl) (by kernel_rfl) apUvar2 Go.Proofs.Tryz.func157 b157 (by kernel_rfl) (by kernel_rfl) w B c k cap dv xs bs base h1 h2 h3 h4 h5 h6 h7 h8) Go.Proofs.Tryz.func156 b156 (by kernel_rfl) (by kernel_rfl)
theorem tEachC : FnOK PP 109 ∧ ∀ (w : World) (B b o : Nat) (u : List (Nat × Bytes)) (dv : Value) (xs : Bytes), HTags G0 w (· < B) b o u → b < B → Own X.U8 w B dv xs → B ≤ w.heap.size → xs.length + (u.flatMap wTag).length ≤ lim →
    Calls PP 109 #[.pointer (some ⟨b, o, none⟩), dv] w fun e w' => ∃ dv', e = .returned dv' ∧ Own X.U8 w' B dv' (xs ++ u.flatMap wTag) ∧ Below B w w' ∧ B ≤ w'.heap.size := ⟨ok109, fun w B b o u dv xs h1 h2 h3 h4 h5 => appendEachN_ok (by kernel_rfl) ok156 eachC Go.Proofs.Tryz.func109 b109 (by kernel_rfl) (by kernel_rfl) w B b o u dv xs h1 h2 h3 h4 h5⟩
theorem ka : KA G0 PP ids X.U8 where
  bool := fun _ => apBool
  i8 := fun _ => apI8
  i16 := fun _ => apI16
  i32 := fun _ => apI32
  i64 := fun _ => apI64
  u16 := fun _ => apU16
  uuid := fun _ => apUuid
  str := fun _ => apStr
  cstr := fun _ => apCStr
  nstr0 := fun _ => apNStr0
  nstr := fun _ b o s h => apNStr b o s h
  cnstr0 := fun _ => apCNStr0
  cnstr := fun _ b o s h => apCNStr b o s h
  bytes := fun h => absurd rfl h
  cbytes := fun h => absurd rfl h
  nbytes := fun h => absurd rfl h
  nbytes0 := fun h => absurd rfl h
  cnbytes := fun h => absurd rfl h
  cnbytes0 := fun h => absurd rfl h
  arr := fun _ => apArr
  carr := fun _ => apCArr
  narr := fun h => absurd rfl h
  cnarr := fun h => absurd rfl h
  uvar := fun _ => apUvar
  tagsLen := fun _ => tLenC
  tagsEach := fun _ => tEachC
end Go.Proofs.YtjcndcolfllibaaGreatDoor.K
