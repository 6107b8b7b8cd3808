/- What this seat's program is: the functions that write. No condition. -/
import Derived.Test.YtdmdmnfdfkejbaaGreatDoorQX
import Derived.Test.YtdmdmnfdfkejbaaGreatDoorM10
namespace Go.Proofs.YtdmdmnfdfkejbaaGreatDoor.K
open Go Go.RowKit Go.Proofs Go.Proofs.YtdmdmnfdfkejbaaGreatDoor.T
set_option linter.unusedVariables false
def ids : Ids := { tI16 := 42, tInt := 3, tU32 := 69, tI8 := 94, tU8s := 22, tI32 := 21, tBool := 4, aBool := 117, aI8 := 109, aI16 := 116, aI32 := 99, aI64 := 123, aU16 := 158, aUuid := 0, aStr := 98, aCStr := 97, aNStr := 101, aCNStr := 100, aBytes := 0, aCBytes := 0, aNBytes := 0, aCNBytes := 0, aArr := 111, aCArr := 110, aNArr := 128, aCNArr := 127, aUvar := 102, tagsLen := 103, tagsEach := 104 }
theorem b117 : (Go.Proofs.Tryz.f117).body.map strip = some (sc_AppendBool 22) := by kernel_rfl
theorem apBool (x : Bool) : AP PP X.U8 117 #[.bool x] (fun _ _ => True) [if x then 1 else 0] := appendBool_ok Go.Proofs.Tryz.func117 b117 (by kernel_rfl) (by kernel_rfl) (by kernel_rfl) (by kernel_rfl) x
theorem b109 : (Go.Proofs.Tryz.f109).body.map strip = some (sc_AppendInt8 94 5 22) := by kernel_rfl
theorem apI8 (n : Int) : AP PP X.U8 109 #[.int .i8 n] (fun _ _ => True) (fixed n 1) := appendI8_ok Go.Proofs.Tryz.func109 b109 (by kernel_rfl) (by kernel_rfl) (by kernel_rfl) (by kernel_rfl) (by kernel_rfl) (by kernel_rfl) n
theorem b158 : (Go.Proofs.Tryz.f158).body.map strip = some (sc_AppendUint16 27 148 5 22) := by kernel_rfl
theorem apU16 (n : Int) : AP PP X.U8 158 #[.int .u16 n] (fun _ _ => True) (fixed n 2) := appendU16_ok Go.Proofs.Tryz.func158 b158 (by kernel_rfl) (by kernel_rfl) (by kernel_rfl) (by kernel_rfl) (by kernel_rfl) (by kernel_rfl) n
theorem b146 : (Go.Proofs.Tryz.f146).body.map strip = some (sc_AppendUint32 69 148 5 22) := by kernel_rfl
theorem apU32 (n : Int) : AP PP X.U8 146 #[.int .u32 n] (fun _ _ => True) (fixed n 4) := appendU32_ok Go.Proofs.Tryz.func146 b146 (by kernel_rfl) (by kernel_rfl) (by kernel_rfl) (by kernel_rfl) (by kernel_rfl) (by kernel_rfl) n
theorem b163 : (Go.Proofs.Tryz.f163).body.map strip = some (sc_appendUint64 85 148 5 22) := by kernel_rfl
theorem apU64 (n : Int) : AP PP X.U8 163 #[.int .u64 n] (fun _ _ => True) (fixed n 8) := appendU64_ok Go.Proofs.Tryz.func163 b163 (by kernel_rfl) (by kernel_rfl) (by kernel_rfl) (by kernel_rfl) (by kernel_rfl) (by kernel_rfl) n
theorem b116 : (Go.Proofs.Tryz.f116).body.map strip = some (sc_AppendInt16 42 27 158) := by kernel_rfl
theorem apI16 (n : Int) : AP PP X.U8 116 #[.int .i16 n] (fun _ _ => True) (fixed n 2) := appendI16_ok Go.Proofs.Tryz.func116 b116 (by kernel_rfl) (by kernel_rfl) (by kernel_rfl) (by kernel_rfl) (by kernel_rfl) apU16 n
theorem b99 : (Go.Proofs.Tryz.f99).body.map strip = some (sc_AppendInt32 21 69 146) := by kernel_rfl
theorem apI32 (n : Int) : AP PP X.U8 99 #[.int .i32 n] (fun _ _ => True) (fixed n 4) := appendI32_ok Go.Proofs.Tryz.func99 b99 (by kernel_rfl) (by kernel_rfl) (by kernel_rfl) (by kernel_rfl) (by kernel_rfl) apU32 n
theorem b123 : (Go.Proofs.Tryz.f123).body.map strip = some (sc_AppendInt64 2 85 163) := by kernel_rfl
theorem apI64 (n : Int) : AP PP X.U8 123 #[.int .i64 n] (fun _ _ => True) (fixed n 8) := appendI64_ok Go.Proofs.Tryz.func123 b123 (by kernel_rfl) (by kernel_rfl) (by kernel_rfl) (by kernel_rfl) (by kernel_rfl) apU64 n
theorem b171 : (Go.Proofs.Tryz.f171).body.map strip = some (sc_Len32 69 148 3 5 9) := by kernel_rfl
theorem ok171 : FnOK PP 171 := fnOK_of Go.Proofs.Tryz.func171 b171 (by kernel_rfl)
theorem b147 : (Go.Proofs.Tryz.f147).body.map strip = some (sc_UvarintLen 3 5 9 171) := by kernel_rfl
theorem ok147 : FnOK PP 147 := fnOK_of Go.Proofs.Tryz.func147 b147 (by kernel_rfl)
theorem b102 : (Go.Proofs.Tryz.f102).body.map strip = some (sc_AppendUvarint 3 69 5 148 22 147) := by kernel_rfl
theorem apUvar2 (n : Nat) (h : n < 4294967296) : AP2 PP X.U8 102 #[.int .u32 (n : Int)] (uvarint n) := appendUvarint2_ok Go.Proofs.Tryz.func102 b102 (by kernel_rfl) (by kernel_rfl) (by kernel_rfl) (by kernel_rfl) (by kernel_rfl) (by kernel_rfl) ok147 (fun n w h => uvarintLen_ok Go.Proofs.Tryz.func147 b147 (by kernel_rfl) (by kernel_rfl) (by kernel_rfl) (by kernel_rfl) (by kernel_rfl) ok171 (fun n w h => len32_ok Go.Proofs.Tryz.func171 b171 (by kernel_rfl) (by kernel_rfl) (by kernel_rfl) (by kernel_rfl) (by kernel_rfl) (by kernel_rfl) n h w) n h w) n h
theorem apUvar (n : Nat) (h : n < 4294967296) : AP PP X.U8 102 #[.int .u32 (n : Int)] (fun _ _ => True) (uvarint n) := appendUvarint_ok Go.Proofs.Tryz.func102 b102 (by kernel_rfl) (by kernel_rfl) (by kernel_rfl) (by kernel_rfl) (by kernel_rfl) (by kernel_rfl) ok147 (fun n w h => uvarintLen_ok Go.Proofs.Tryz.func147 b147 (by kernel_rfl) (by kernel_rfl) (by kernel_rfl) (by kernel_rfl) (by kernel_rfl) ok171 (fun n w h => len32_ok Go.Proofs.Tryz.func171 b171 (by kernel_rfl) (by kernel_rfl) (by kernel_rfl) (by kernel_rfl) (by kernel_rfl) (by kernel_rfl) n h w) n h w) n h
theorem b98 : (Go.Proofs.Tryz.f98).body.map strip = some (sc_AppendString 9 3 42 22 116) := by kernel_rfl
theorem apStr (s : ByteArray) (h : s.data.toList.length ≤ most) : AP PP X.U8 98 #[.string s] (fun _ _ => True) (counted false false s.data.toList.length 2 ++ s.data.toList) := appendString_ok Go.Proofs.Tryz.func98 b98 (by kernel_rfl) (by kernel_rfl) (by kernel_rfl) (by kernel_rfl) (by kernel_rfl) (by kernel_rfl) (by kernel_rfl) apI16 s h
theorem b97 : (Go.Proofs.Tryz.f97).body.map strip = some (sc_AppendCompactString 9 3 69 22 102) := by kernel_rfl
theorem apCStr (s : ByteArray) (h : s.data.toList.length ≤ most) : AP PP X.U8 97 #[.string s] (fun _ _ => True) (counted true false s.data.toList.length 2 ++ s.data.toList) := appendCompactString_ok Go.Proofs.Tryz.func97 b97 (by kernel_rfl) (by kernel_rfl) (by kernel_rfl) (by kernel_rfl) (by kernel_rfl) (by kernel_rfl) (by kernel_rfl) apUvar s h
theorem b101 : (Go.Proofs.Tryz.f101).body.map strip = some (sc_AppendNullableString 73 9 116 98) := by kernel_rfl
theorem apNStr0 : AP PP X.U8 101 #[.pointer none] (fun _ _ => True) (counted false true 0 2) := appendNullStr0_ok (compact := false) Go.Proofs.Tryz.func101 b101 (by kernel_rfl) (by kernel_rfl) (by kernel_rfl) (by kernel_rfl) (by have h := apI16 (-1); simpa [counted, uvarint_lt] using h)
theorem apNStr (b o : Nat) (s : ByteArray) (h : s.data.toList.length ≤ most) : AP PP X.U8 101 #[.pointer (some ⟨b, o, none⟩)] (fun w B => b < B ∧ w.cell? ⟨b, o, none⟩ = some (.string s)) (counted false false s.data.toList.length 2 ++ s.data.toList) := appendNullStr_ok (compact := false) Go.Proofs.Tryz.func101 b101 (by kernel_rfl) (by kernel_rfl) (by kernel_rfl) (by kernel_rfl) (by kernel_rfl) s (apStr s h) b o
theorem b100 : (Go.Proofs.Tryz.f100).body.map strip = some (sc_AppendCompactNullableString 73 9 102 97) := by kernel_rfl
theorem apCNStr0 : AP PP X.U8 100 #[.pointer none] (fun _ _ => True) (counted true true 0 2) := appendNullStr0_ok (compact := true) Go.Proofs.Tryz.func100 b100 (by kernel_rfl) (by kernel_rfl) (by kernel_rfl) (by kernel_rfl) (by have h := apUvar 0 (by decide); simpa [counted, uvarint_lt] using h)
theorem apCNStr (b o : Nat) (s : ByteArray) (h : s.data.toList.length ≤ most) : AP PP X.U8 100 #[.pointer (some ⟨b, o, none⟩)] (fun w B => b < B ∧ w.cell? ⟨b, o, none⟩ = some (.string s)) (counted true false s.data.toList.length 2 ++ s.data.toList) := appendNullStr_ok (compact := true) Go.Proofs.Tryz.func100 b100 (by kernel_rfl) (by kernel_rfl) (by kernel_rfl) (by kernel_rfl) (by kernel_rfl) s (apCStr s h) b o
theorem b111 : (Go.Proofs.Tryz.f111).body.map strip = some (sc_AppendArrayLen 3 21 99) := by kernel_rfl
theorem apArr (n : Nat) (h : n ≤ most) : AP PP X.U8 111 #[.int .i64 n] (fun _ _ => True) (counted false false n 4) := appendArrayLen_ok Go.Proofs.Tryz.func111 b111 (by kernel_rfl) (by kernel_rfl) (by kernel_rfl) (by kernel_rfl) (by kernel_rfl) apI32 n h
theorem b110 : (Go.Proofs.Tryz.f110).body.map strip = some (sc_AppendCompactArrayLen 3 69 102) := by kernel_rfl
theorem apCArr (n : Nat) (h : n ≤ most) : AP PP X.U8 110 #[.int .i64 n] (fun _ _ => True) (counted true false n 4) := appendCompactArrayLen_ok Go.Proofs.Tryz.func110 b110 (by kernel_rfl) (by kernel_rfl) (by kernel_rfl) (by kernel_rfl) (by kernel_rfl) apUvar n h
theorem b128 : (Go.Proofs.Tryz.f128).body.map strip = some (sc_AppendNullableArrayLen 3 21 99) := by kernel_rfl
theorem apNArr (n : Nat) (x : Bool) (h : n ≤ most) : AP PP X.U8 128 #[.int .i64 n, .bool x] (fun _ _ => True) (counted false x n 4) := appendNullArr_ok Go.Proofs.Tryz.func128 b128 (by kernel_rfl) (by kernel_rfl) (by kernel_rfl) (by kernel_rfl) (by kernel_rfl) apI32 n x h
theorem b127 : (Go.Proofs.Tryz.f127).body.map strip = some (sc_AppendCompactNullableArrayLen 3 69 102) := by kernel_rfl
theorem apCNArr (n : Nat) (x : Bool) (h : n ≤ most) : AP PP X.U8 127 #[.int .i64 n, .bool x] (fun _ _ => True) (counted true x n 4) := appendCompactNullArr_ok Go.Proofs.Tryz.func127 b127 (by kernel_rfl) (by kernel_rfl) (by kernel_rfl) (by kernel_rfl) (by kernel_rfl) apUvar n x h
theorem b103 : (Go.Proofs.Tryz.f103).body.map strip = some (sc_TLen 76 74) := by kernel_rfl
theorem ok103 : FnOK PP 103 := fnOK_of Go.Proofs.Tryz.func103 b103 (by kernel_rfl)
theorem tLenC : FnOK PP 103 ∧ ∀ (w : World) (F : Nat → Prop) (b o : Nat) (u : List (Nat × Bytes)), HTags G0 w F b o u → Calls PP 103 #[.pointer (some ⟨b, o, none⟩)] w fun e w' => e = .returned (.int .i64 u.length) ∧ w = w' := ⟨ok103, fun w F b o u h => tagsLenN_ok (by kernel_rfl) (by kernel_rfl) (by kernel_rfl) Go.Proofs.Tryz.func103 b103 (by kernel_rfl) (by kernel_rfl) w F b o u h⟩
def rho : Shelf.Ren := ⟨fun n => match n with | 0 => 0 | 1 => 1 | 2 => 2 | 6 => 172 | 10 => 177 | 11 => 178 | 12 => 179 | 13 => 180 | 14 => 181 | 15 => 183 | 16 => 184 | 17 => 185 | 18 => 186 | 19 => 187 | 20 => 188 | 21 => 189 | 22 => 190 | 23 => 191 | 24 => 171 | 25 => 192 | 26 => 193 | 27 => 194 | 28 => 195 | 29 => 196 | 30 => 197 | 31 => 198 | 32 => 199 | 33 => 200 | 34 => 201 | 35 => 202 | 36 => 203 | 37 => 204 | 38 => 205 | 39 => 206 | 40 => 207 | 41 => 208 | 42 => 209 | 43 => 210 | 44 => 211 | 45 => 212 | 46 => 213 | 47 => 214 | 48 => 215 | 49 => 216 | 50 => 217 | 51 => 218 | 52 => 219 | 53 => 220 | 54 => 221 | 55 => 225 | 56 => 226 | 57 => 227 | 58 => 229 | _ => 0, fun n => match n with | 0 => 0 | 1 => 1 | 2 => 2 | 3 => 3 | 4 => 4 | 5 => 5 | 6 => 6 | 7 => 7 | 8 => 8 | 9 => 9 | 10 => 10 | 11 => 11 | 12 => 12 | 13 => 13 | 14 => 14 | 15 => 15 | 16 => 16 | 17 => 17 | 18 => 18 | 19 => 19 | 20 => 20 | 21 => 21 | 23 => 173 | 26 => 174 | 30 => 95 | 32 => 179 | 33 => 180 | 34 => 181 | 35 => 182 | 36 => 183 | 37 => 184 | 38 => 185 | 39 => 29 | 40 => 186 | 41 => 148 | 42 => 187 | 43 => 188 | 44 => 189 | 45 => 191 | 46 => 192 | 47 => 193 | 48 => 157 | 49 => 69 | 50 => 194 | 51 => 85 | 52 => 195 | 53 => 196 | 54 => 197 | 55 => 198 | 56 => 199 | 57 => 200 | 58 => 201 | 59 => 202 | 60 => 203 | 61 => 204 | 62 => 176 | 63 => 205 | 64 => 206 | 65 => 207 | 66 => 208 | 67 => 209 | 68 => 210 | 69 => 151 | 70 => 212 | 71 => 213 | 72 => 214 | 73 => 215 | 74 => 216 | 75 => 217 | 76 => 218 | 77 => 219 | 78 => 220 | 79 => 221 | 80 => 222 | 81 => 223 | 82 => 224 | 83 => 226 | 84 => 227 | _ => 0, fun n => n⟩
theorem laysGg : LaysGg.n6 PP rho where
  mixed := by kernel_rfl
  f6 := by kernel_rfl
  f10 := by kernel_rfl
  f11 := by kernel_rfl
  f12 := by kernel_rfl
  f13 := by kernel_rfl
  f14 := by kernel_rfl
  f24 := by kernel_rfl
  f25 := by kernel_rfl
  f26 := by kernel_rfl
  f27 := by kernel_rfl
  f28 := by kernel_rfl
  f29 := by kernel_rfl
  f30 := by kernel_rfl
  f31 := by kernel_rfl
  f32 := by kernel_rfl
  f33 := by kernel_rfl
  f34 := by kernel_rfl
  f35 := by kernel_rfl
  f36 := by kernel_rfl
  f37 := by kernel_rfl
  f38 := by kernel_rfl
  f39 := by kernel_rfl
  t0 := by kernel_rfl
  a0 := fun _ => by kernel_rfl
  z0 := fun _ => by kernel_rfl
  v0 := fun _ => by kernel_rfl
  i0 := by kernel_rfl
  t3 := by kernel_rfl
  a3 := fun _ => by kernel_rfl
  z3 := fun _ => by kernel_rfl
  v3 := fun _ => by kernel_rfl
  i3 := by kernel_rfl
  t4 := by kernel_rfl
  a4 := fun _ => by kernel_rfl
  z4 := fun _ => by kernel_rfl
  v4 := fun _ => by kernel_rfl
  i4 := by kernel_rfl
  t5 := by kernel_rfl
  a5 := fun _ => by kernel_rfl
  z5 := fun _ => by kernel_rfl
  v5 := fun _ => by kernel_rfl
  i5 := by kernel_rfl
  t9 := by kernel_rfl
  a9 := fun _ => by kernel_rfl
  z9 := fun _ => by kernel_rfl
  v9 := fun _ => by kernel_rfl
  i9 := by kernel_rfl
  t12 := by kernel_rfl
  a12 := fun _ => by kernel_rfl
  z12 := fun _ => by kernel_rfl
  v12 := fun _ => by kernel_rfl
  i12 := by kernel_rfl
  t17 := by kernel_rfl
  a17 := fun _ => by kernel_rfl
  z17 := fun _ => by kernel_rfl
  v17 := fun _ => by kernel_rfl
  i17 := by kernel_rfl
  t20 := by kernel_rfl
  a20 := fun _ => by kernel_rfl
  z20 := fun _ => by kernel_rfl
  v20 := fun _ => by kernel_rfl
  i20 := by kernel_rfl
  t26 := by kernel_rfl
  a26 := fun _ => by kernel_rfl
  z26 := fun _ => by kernel_rfl
  v26 := fun _ => by kernel_rfl
  i26 := by kernel_rfl
  t32 := by kernel_rfl
  a32 := fun _ => by kernel_rfl
  z32 := fun _ => by kernel_rfl
  v32 := fun _ => by kernel_rfl
  i32 := by kernel_rfl
  t33 := by kernel_rfl
  a33 := fun _ => by kernel_rfl
  z33 := fun _ => by kernel_rfl
  v33 := fun _ => by kernel_rfl
  i33 := by kernel_rfl
  t35 := by kernel_rfl
  a35 := fun _ => by kernel_rfl
  z35 := fun _ => by kernel_rfl
  v35 := fun _ => by kernel_rfl
  i35 := by kernel_rfl
  t37 := by kernel_rfl
  a37 := fun _ => by kernel_rfl
  z37 := fun _ => by kernel_rfl
  v37 := fun _ => by kernel_rfl
  i37 := by kernel_rfl
  t41 := by kernel_rfl
  a41 := fun _ => by kernel_rfl
  z41 := fun _ => by kernel_rfl
  v41 := fun _ => by kernel_rfl
  i41 := by kernel_rfl
  t44 := by kernel_rfl
  a44 := fun _ => by kernel_rfl
  z44 := fun _ => by kernel_rfl
  v44 := fun _ => by kernel_rfl
  i44 := by kernel_rfl
  t49 := by kernel_rfl
  a49 := fun _ => by kernel_rfl
  z49 := fun _ => by kernel_rfl
  v49 := fun _ => by kernel_rfl
  i49 := by kernel_rfl
  t51 := by kernel_rfl
  a51 := fun _ => by kernel_rfl
  z51 := fun _ => by kernel_rfl
  v51 := fun _ => by kernel_rfl
  i51 := by kernel_rfl
  t53 := by kernel_rfl
  a53 := fun _ => by kernel_rfl
  z53 := fun _ => by kernel_rfl
  v53 := fun _ => by kernel_rfl
  i53 := by kernel_rfl
  t54 := by kernel_rfl
  a54 := fun _ => by kernel_rfl
  z54 := fun _ => by kernel_rfl
  v54 := fun _ => by kernel_rfl
  i54 := by kernel_rfl
  t58 := by kernel_rfl
  a58 := fun _ => by kernel_rfl
  z58 := fun _ => by kernel_rfl
  v58 := fun _ => by kernel_rfl
  i58 := by kernel_rfl
  t60 := by kernel_rfl
  a60 := fun _ => by kernel_rfl
  z60 := fun _ => by kernel_rfl
  v60 := fun _ => by kernel_rfl
  i60 := by kernel_rfl
  t64 := by kernel_rfl
  a64 := fun _ => by kernel_rfl
  z64 := fun _ => by kernel_rfl
  v64 := fun _ => by kernel_rfl
  i64 := by kernel_rfl
  t66 := by kernel_rfl
  a66 := fun _ => by kernel_rfl
  z66 := fun _ => by kernel_rfl
  v66 := fun _ => by kernel_rfl
  i66 := by kernel_rfl
  t67 := by kernel_rfl
  a67 := fun _ => by kernel_rfl
  z67 := fun _ => by kernel_rfl
  v67 := fun _ => by kernel_rfl
  i67 := by kernel_rfl
  t75 := by kernel_rfl
  a75 := fun _ => by kernel_rfl
  z75 := fun _ => by kernel_rfl
  v75 := fun _ => by kernel_rfl
  i75 := by kernel_rfl
  t76 := by kernel_rfl
  a76 := fun _ => by kernel_rfl
  z76 := fun _ => by kernel_rfl
  v76 := fun _ => by kernel_rfl
  i76 := by kernel_rfl
  t77 := by kernel_rfl
  a77 := fun _ => by kernel_rfl
  z77 := fun _ => by kernel_rfl
  v77 := fun _ => by kernel_rfl
  i77 := by kernel_rfl
  t78 := by kernel_rfl
  a78 := fun _ => by kernel_rfl
  z78 := fun _ => by kernel_rfl
  v78 := fun _ => by kernel_rfl
  i78 := by kernel_rfl
  t79 := by kernel_rfl
  a79 := fun _ => by kernel_rfl
  z79 := fun _ => by kernel_rfl
  v79 := fun _ => by kernel_rfl
  i79 := by kernel_rfl
  t80 := by kernel_rfl
  a80 := fun _ => by kernel_rfl
  z80 := fun _ => by kernel_rfl
  v80 := fun _ => by kernel_rfl
  i80 := by kernel_rfl
  t82 := by kernel_rfl
  a82 := fun _ => by kernel_rfl
  z82 := fun _ => by kernel_rfl
  v82 := fun _ => by kernel_rfl
  i82 := by kernel_rfl
theorem b173 : (Go.Proofs.Tryz.f173).body.map strip = some (sc_Each1 172 69) := by kernel_rfl
theorem ok173 : FnOK PP 173 := fnOK_of Go.Proofs.Tryz.func173 b173 (by kernel_rfl)
theorem b149 : (Go.Proofs.Tryz.f149).body.map strip = some (sc_AppendEach1 22 3 69 102) := by kernel_rfl
theorem ok149 : FnOK PP 149 := fnOK_of Go.Proofs.Tryz.func149 b149 (by kernel_rfl)
theorem b148 : (Go.Proofs.Tryz.f148).body.map strip = some (sc_TEach 76 74 3 172 69 172 173) := by kernel_rfl
theorem ok148 : FnOK PP 148 := fnOK_of Go.Proofs.Tryz.func148 b148 (by kernel_rfl)
theorem b104 : (Go.Proofs.Tryz.f104).body.map strip = some (sc_TAppendEach 22 148 (.func 149)) := by kernel_rfl
theorem ok104 : FnOK PP 104 := fnOK_of Go.Proofs.Tryz.func104 b104 (by kernel_rfl)
theorem okS : FnOK PP 172 := ⟨_, Go.Proofs.Tryz.func172, (by kernel_rfl), (by kernel_rfl)⟩
noncomputable def siT : TypeInfo := (PP.info? 172).get (by kernel_rfl)
noncomputable def siE : TypeInfo := (PP.info? 69).get (by kernel_rfl)
noncomputable def siTz : Value := siT.zero.get (by kernel_rfl)
noncomputable def siEz : Value := siE.zero.get (by kernel_rfl)
theorem siK (n : Nat) : Lib.swapperK n siE 10 = if n = 0 then 1 else if n = 1 then 2 else 6 := by
  have a : siE.hasPointers = false := by kernel_rfl
  have b : siE.bytes = 4 := by kernel_rfl
  unfold Lib.swapperK
  rw [a, b]
  by_cases h0 : n = 0
  · simp [h0]
  · by_cases h1 : n = 1
    · simp [h1]
    · simp [h0, h1]
def swF (n : Nat) : Nat := if n = 0 then 183 else if n = 1 then 184 else 188
theorem swOK (n : Nat) : PP.funcs.findIdx? (·.name == "internal/reflectlite" ++ ".Swapper$" ++ toString (Lib.swapperK n siE 10)) = some (swF n) := by
  rw [siK]
  unfold swF
  by_cases h0 : n = 0
  · simp only [h0, if_true]; kernel_rfl
  · by_cases h1 : n = 1
    · subst h1; kernel_rfl
    · simp only [h0, h1, if_false]; kernel_rfl
theorem sortOK : SortC PP 172 173 172 69 := sortC laysGg hm (by kernel_rfl) (by kernel_rfl) (by kernel_rfl) (i := siT) (ie := siE) (by kernel_rfl) (by kernel_rfl) (by kernel_rfl) (by kernel_rfl) 10 (fun _ => by kernel_rfl) (by kernel_rfl) Go.Proofs.Tryz.func173 b173 (by kernel_rfl) (by kernel_rfl) okS ok173 swF swOK true (fun n args W h => by
  have e : swF n = 188 := by unfold swF; rw [if_neg (by omega), if_neg (by omega)]
  rw [e]
  exact run_callFunc_extern Go.Proofs.Tryz.func188 (by kernel_rfl) (by kernel_rfl) (by kernel_rfl) (e := Extern.ReflectliteSwapper.swap true) (by kernel_rfl) args W)
theorem eachC : EachC PP X.U8 22 149 G0 148 := each_ok (TU := 172) (T32 := 69) (i32 := siE) (iU := siT) (z32 := siEz) (zU := siTz) (by kernel_rfl) (by kernel_rfl) (by kernel_rfl) (by kernel_rfl) (by kernel_rfl) (by kernel_rfl) (by kernel_rfl) (by kernel_rfl) (by kernel_rfl) (by kernel_rfl) (by decide +kernel) (by kernel_rfl) (by kernel_rfl) (by kernel_rfl) sortOK ok149 (fun w B c k cap dv xs bs base h1 h2 h3 h4 h5 h6 h7 h8 => cl_ok (by kernel_rfl) (by kernel_rfl) (by kernel_rfl) (by kernel_rfl) (by kernel_rfl) apUvar2 Go.Proofs.Tryz.func149 b149 (by kernel_rfl) (by kernel_rfl) w B c k cap dv xs bs base h1 h2 h3 h4 h5 h6 h7 h8) Go.Proofs.Tryz.func148 b148 (by kernel_rfl) (by kernel_rfl)
theorem tEachC : FnOK PP 104 ∧ ∀ (w : World) (B b o : Nat) (u : List (Nat × Bytes)) (dv : Value) (xs : Bytes), HTags G0 w (· < B) b o u → b < B → Own X.U8 w B dv xs → B ≤ w.heap.size → xs.length + (u.flatMap wTag).length ≤ lim →
    Calls PP 104 #[.pointer (some ⟨b, o, none⟩), dv] w fun e w' => ∃ dv', e = .returned dv' ∧ Own X.U8 w' B dv' (xs ++ u.flatMap wTag) ∧ Below B w w' ∧ B ≤ w'.heap.size := ⟨ok104, fun w B b o u dv xs h1 h2 h3 h4 h5 => appendEachN_ok (by kernel_rfl) ok148 eachC Go.Proofs.Tryz.func104 b104 (by kernel_rfl) (by kernel_rfl) w B b o u dv xs h1 h2 h3 h4 h5⟩
theorem ka : KA G0 PP ids X.U8 where
  bool := fun _ => apBool
  i8 := fun _ => apI8
  i16 := fun _ => apI16
  i32 := fun _ => apI32
  i64 := fun _ => apI64
  u16 := fun _ => apU16
  uuid := fun h => absurd rfl h
  str := fun _ => apStr
  cstr := fun _ => apCStr
  nstr0 := fun _ => apNStr0
  nstr := fun _ b o s h => apNStr b o s h
  cnstr0 := fun _ => apCNStr0
  cnstr := fun _ b o s h => apCNStr b o s h
  bytes := fun h => absurd rfl h
  cbytes := fun h => absurd rfl h
  nbytes := fun h => absurd rfl h
  nbytes0 := fun h => absurd rfl h
  cnbytes := fun h => absurd rfl h
  cnbytes0 := fun h => absurd rfl h
  arr := fun _ => apArr
  carr := fun _ => apCArr
  narr := fun _ => apNArr
  cnarr := fun _ => apCNArr
  uvar := fun _ => apUvar
  tagsLen := fun _ => tLenC
  tagsEach := fun _ => tEachC
end Go.Proofs.YtdmdmnfdfkejbaaGreatDoor.K
