/- What this seat's program is: the functions that write. No condition. -/
import Derived.Test.YtmapoohbongifaaGreatDoorQX
import Derived.Test.YtmapoohbongifaaGreatDoorM10
namespace Go.Proofs.YtmapoohbongifaaGreatDoor.K
open Go Go.RowKit Go.Proofs Go.Proofs.YtmapoohbongifaaGreatDoor.T
set_option linter.unusedVariables false
def ids : Ids := { tI16 := 42, tInt := 3, tU32 := 63, tI8 := 99, tU8s := 22, tI32 := 21, tBool := 4, aBool := 98, aI8 := 80, aI16 := 76, aI32 := 75, aI64 := 79, aU16 := 92, aUuid := 74, aStr := 88, aCStr := 87, aNStr := 78, aCNStr := 77, aBytes := 100, aCBytes := 99, aNBytes := 0, aCNBytes := 0, aArr := 73, aCArr := 72, aNArr := 0, aCNArr := 0, aUvar := 81, tagsLen := 82, tagsEach := 83 }
theorem b98 : (Go.Proofs.Tryz.f98).body.map strip = some (sc_AppendBool 22) := by kernel_rfl
theorem apBool (x : Bool) : AP PP X.U8 98 #[.bool x] (fun _ _ => True) [if x then 1 else 0] := appendBool_ok Go.Proofs.Tryz.func98 b98 (by kernel_rfl) (by kernel_rfl) (by kernel_rfl) (by kernel_rfl) x
theorem b80 : (Go.Proofs.Tryz.f80).body.map strip = some (sc_AppendInt8 99 5 22) := by kernel_rfl
theorem apI8 (n : Int) : AP PP X.U8 80 #[.int .i8 n] (fun _ _ => True) (fixed n 1) := appendI8_ok Go.Proofs.Tryz.func80 b80 (by kernel_rfl) (by kernel_rfl) (by kernel_rfl) (by kernel_rfl) (by kernel_rfl) (by kernel_rfl) n
theorem b92 : (Go.Proofs.Tryz.f92).body.map strip = some (sc_AppendUint16 27 158 5 22) := by kernel_rfl
theorem apU16 (n : Int) : AP PP X.U8 92 #[.int .u16 n] (fun _ _ => True) (fixed n 2) := appendU16_ok Go.Proofs.Tryz.func92 b92 (by kernel_rfl) (by kernel_rfl) (by kernel_rfl) (by kernel_rfl) (by kernel_rfl) (by kernel_rfl) n
theorem b125 : (Go.Proofs.Tryz.f125).body.map strip = some (sc_AppendUint32 63 158 5 22) := by kernel_rfl
theorem apU32 (n : Int) : AP PP X.U8 125 #[.int .u32 n] (fun _ _ => True) (fixed n 4) := appendU32_ok Go.Proofs.Tryz.func125 b125 (by kernel_rfl) (by kernel_rfl) (by kernel_rfl) (by kernel_rfl) (by kernel_rfl) (by kernel_rfl) n
theorem b126 : (Go.Proofs.Tryz.f126).body.map strip = some (sc_appendUint64 79 158 5 22) := by kernel_rfl
theorem apU64 (n : Int) : AP PP X.U8 126 #[.int .u64 n] (fun _ _ => True) (fixed n 8) := appendU64_ok Go.Proofs.Tryz.func126 b126 (by kernel_rfl) (by kernel_rfl) (by kernel_rfl) (by kernel_rfl) (by kernel_rfl) (by kernel_rfl) n
theorem b76 : (Go.Proofs.Tryz.f76).body.map strip = some (sc_AppendInt16 42 27 92) := by kernel_rfl
theorem apI16 (n : Int) : AP PP X.U8 76 #[.int .i16 n] (fun _ _ => True) (fixed n 2) := appendI16_ok Go.Proofs.Tryz.func76 b76 (by kernel_rfl) (by kernel_rfl) (by kernel_rfl) (by kernel_rfl) (by kernel_rfl) apU16 n
theorem b75 : (Go.Proofs.Tryz.f75).body.map strip = some (sc_AppendInt32 21 63 125) := by kernel_rfl
theorem apI32 (n : Int) : AP PP X.U8 75 #[.int .i32 n] (fun _ _ => True) (fixed n 4) := appendI32_ok Go.Proofs.Tryz.func75 b75 (by kernel_rfl) (by kernel_rfl) (by kernel_rfl) (by kernel_rfl) (by kernel_rfl) apU32 n
theorem b79 : (Go.Proofs.Tryz.f79).body.map strip = some (sc_AppendInt64 2 79 126) := by kernel_rfl
theorem apI64 (n : Int) : AP PP X.U8 79 #[.int .i64 n] (fun _ _ => True) (fixed n 8) := appendI64_ok Go.Proofs.Tryz.func79 b79 (by kernel_rfl) (by kernel_rfl) (by kernel_rfl) (by kernel_rfl) (by kernel_rfl) apU64 n
theorem b153 : (Go.Proofs.Tryz.f153).body.map strip = some (sc_Len32 63 158 3 5 9) := by kernel_rfl
theorem ok153 : FnOK PP 153 := fnOK_of Go.Proofs.Tryz.func153 b153 (by kernel_rfl)
theorem b127 : (Go.Proofs.Tryz.f127).body.map strip = some (sc_UvarintLen 3 5 9 153) := by kernel_rfl
theorem ok127 : FnOK PP 127 := fnOK_of Go.Proofs.Tryz.func127 b127 (by kernel_rfl)
theorem b81 : (Go.Proofs.Tryz.f81).body.map strip = some (sc_AppendUvarint 3 63 5 158 22 127) := by kernel_rfl
theorem apUvar2 (n : Nat) (h : n < 4294967296) : AP2 PP X.U8 81 #[.int .u32 (n : Int)] (uvarint n) := appendUvarint2_ok Go.Proofs.Tryz.func81 b81 (by kernel_rfl) (by kernel_rfl) (by kernel_rfl) (by kernel_rfl) (by kernel_rfl) (by kernel_rfl) ok127 (fun n w h => uvarintLen_ok Go.Proofs.Tryz.func127 b127 (by kernel_rfl) (by kernel_rfl) (by kernel_rfl) (by kernel_rfl) (by kernel_rfl) ok153 (fun n w h => len32_ok Go.Proofs.Tryz.func153 b153 (by kernel_rfl) (by kernel_rfl) (by kernel_rfl) (by kernel_rfl) (by kernel_rfl) (by kernel_rfl) n h w) n h w) n h
theorem apUvar (n : Nat) (h : n < 4294967296) : AP PP X.U8 81 #[.int .u32 (n : Int)] (fun _ _ => True) (uvarint n) := appendUvarint_ok Go.Proofs.Tryz.func81 b81 (by kernel_rfl) (by kernel_rfl) (by kernel_rfl) (by kernel_rfl) (by kernel_rfl) (by kernel_rfl) ok127 (fun n w h => uvarintLen_ok Go.Proofs.Tryz.func127 b127 (by kernel_rfl) (by kernel_rfl) (by kernel_rfl) (by kernel_rfl) (by kernel_rfl) ok153 (fun n w h => len32_ok Go.Proofs.Tryz.func153 b153 (by kernel_rfl) (by kernel_rfl) (by kernel_rfl) (by kernel_rfl) (by kernel_rfl) (by kernel_rfl) n h w) n h w) n h
theorem b74 : (Go.Proofs.Tryz.f74).body.map strip = some (sc_AppendUuid 84 22) := by kernel_rfl
theorem apUuid (bs : Bytes) (h : bs.length = 16) : AP PP X.U8 74 #[.agg (cellsOf bs).toArray] (fun _ _ => True) (bs) := appendUuid_ok Go.Proofs.Tryz.func74 b74 (by kernel_rfl) (by kernel_rfl) (by kernel_rfl) (by kernel_rfl) (by kernel_rfl) bs h
theorem b88 : (Go.Proofs.Tryz.f88).body.map strip = some (sc_AppendString 9 3 42 22 76) := by kernel_rfl
theorem apStr (s : ByteArray) (h : s.data.toList.length ≤ most) : AP PP X.U8 88 #[.string s] (fun _ _ => True) (counted false false s.data.toList.length 2 ++ s.data.toList) := appendString_ok Go.Proofs.Tryz.func88 b88 (by kernel_rfl) (by kernel_rfl) (by kernel_rfl) (by kernel_rfl) (by kernel_rfl) (by kernel_rfl) (by kernel_rfl) apI16 s h
theorem b87 : (Go.Proofs.Tryz.f87).body.map strip = some (sc_AppendCompactString 9 3 63 22 81) := by kernel_rfl
theorem apCStr (s : ByteArray) (h : s.data.toList.length ≤ most) : AP PP X.U8 87 #[.string s] (fun _ _ => True) (counted true false s.data.toList.length 2 ++ s.data.toList) := appendCompactString_ok Go.Proofs.Tryz.func87 b87 (by kernel_rfl) (by kernel_rfl) (by kernel_rfl) (by kernel_rfl) (by kernel_rfl) (by kernel_rfl) (by kernel_rfl) apUvar s h
theorem b78 : (Go.Proofs.Tryz.f78).body.map strip = some (sc_AppendNullableString 90 9 76 88) := by kernel_rfl
theorem apNStr0 : AP PP X.U8 78 #[.pointer none] (fun _ _ => True) (counted false true 0 2) := appendNullStr0_ok (compact := false) Go.Proofs.Tryz.func78 b78 (by kernel_rfl) (by kernel_rfl) (by kernel_rfl) (by kernel_rfl) (by have h := apI16 (-1); simpa [counted, uvarint_lt] using h)
theorem apNStr (b o : Nat) (s : ByteArray) (h : s.data.toList.length ≤ most) : AP PP X.U8 78 #[.pointer (some ⟨b, o, none⟩)] (fun w B => b < B ∧ w.cell? ⟨b, o, none⟩ = some (.string s)) (counted false false s.data.toList.length 2 ++ s.data.toList) := appendNullStr_ok (compact := false) Go.Proofs.Tryz.func78 b78 (by kernel_rfl) (by kernel_rfl) (by kernel_rfl) (by kernel_rfl) (by kernel_rfl) s (apStr s h) b o
theorem b77 : (Go.Proofs.Tryz.f77).body.map strip = some (sc_AppendCompactNullableString 90 9 81 87) := by kernel_rfl
theorem apCNStr0 : AP PP X.U8 77 #[.pointer none] (fun _ _ => True) (counted true true 0 2) := appendNullStr0_ok (compact := true) Go.Proofs.Tryz.func77 b77 (by kernel_rfl) (by kernel_rfl) (by kernel_rfl) (by kernel_rfl) (by have h := apUvar 0 (by decide); simpa [counted, uvarint_lt] using h)
theorem apCNStr (b o : Nat) (s : ByteArray) (h : s.data.toList.length ≤ most) : AP PP X.U8 77 #[.pointer (some ⟨b, o, none⟩)] (fun w B => b < B ∧ w.cell? ⟨b, o, none⟩ = some (.string s)) (counted true false s.data.toList.length 2 ++ s.data.toList) := appendNullStr_ok (compact := true) Go.Proofs.Tryz.func77 b77 (by kernel_rfl) (by kernel_rfl) (by kernel_rfl) (by kernel_rfl) (by kernel_rfl) s (apCStr s h) b o
theorem b100 : (Go.Proofs.Tryz.f100).body.map strip = some (sc_AppendBytes 22 3 21 75) := by kernel_rfl
theorem apBytes (base : Option Addr) (cap : Nat) (bs : Bytes) (h : bs.length ≤ most) : AP PP X.U8 100 #[.slice base bs.length cap] (fun w B => BytesAt w (· < B) base bs) (counted false false bs.length 4 ++ bs) := appendBytes_ok Go.Proofs.Tryz.func100 b100 (by kernel_rfl) (by kernel_rfl) (by kernel_rfl) (by kernel_rfl) (by kernel_rfl) (by kernel_rfl) (by kernel_rfl) apI32 base cap bs h
theorem b99 : (Go.Proofs.Tryz.f99).body.map strip = some (sc_AppendCompactBytes 22 3 63 81) := by kernel_rfl
theorem apCBytes (base : Option Addr) (cap : Nat) (bs : Bytes) (h : bs.length ≤ most) : AP PP X.U8 99 #[.slice base bs.length cap] (fun w B => BytesAt w (· < B) base bs) (counted true false bs.length 4 ++ bs) := appendCompactBytes_ok Go.Proofs.Tryz.func99 b99 (by kernel_rfl) (by kernel_rfl) (by kernel_rfl) (by kernel_rfl) (by kernel_rfl) (by kernel_rfl) (by kernel_rfl) apUvar base cap bs h
theorem b73 : (Go.Proofs.Tryz.f73).body.map strip = some (sc_AppendArrayLen 3 21 75) := by kernel_rfl
theorem apArr (n : Nat) (h : n ≤ most) : AP PP X.U8 73 #[.int .i64 n] (fun _ _ => True) (counted false false n 4) := appendArrayLen_ok Go.Proofs.Tryz.func73 b73 (by kernel_rfl) (by kernel_rfl) (by kernel_rfl) (by kernel_rfl) (by kernel_rfl) apI32 n h
theorem b72 : (Go.Proofs.Tryz.f72).body.map strip = some (sc_AppendCompactArrayLen 3 63 81) := by kernel_rfl
theorem apCArr (n : Nat) (h : n ≤ most) : AP PP X.U8 72 #[.int .i64 n] (fun _ _ => True) (counted true false n 4) := appendCompactArrayLen_ok Go.Proofs.Tryz.func72 b72 (by kernel_rfl) (by kernel_rfl) (by kernel_rfl) (by kernel_rfl) (by kernel_rfl) apUvar n h
theorem b82 : (Go.Proofs.Tryz.f82).body.map strip = some (sc_TLen 70 68) := by kernel_rfl
theorem ok82 : FnOK PP 82 := fnOK_of Go.Proofs.Tryz.func82 b82 (by kernel_rfl)
theorem tLenC : FnOK PP 82 ∧ ∀ (w : World) (F : Nat → Prop) (b o : Nat) (u : List (Nat × Bytes)), HTags G0 w F b o u → Calls PP 82 #[.pointer (some ⟨b, o, none⟩)] w fun e w' => e = .returned (.int .i64 u.length) ∧ w = w' := ⟨ok82, fun w F b o u h => tagsLenN_ok (by kernel_rfl) (by kernel_rfl) (by kernel_rfl) Go.Proofs.Tryz.func82 b82 (by kernel_rfl) (by kernel_rfl) w F b o u h⟩
def rho : Shelf.Ren := ⟨fun n => match n with | 0 => 0 | 1 => 1 | 2 => 2 | 6 => 154 | 10 => 158 | 11 => 159 | 12 => 160 | 13 => 161 | 14 => 162 | 15 => 163 | 16 => 164 | 17 => 165 | 18 => 166 | 19 => 167 | 20 => 168 | 21 => 169 | 22 => 170 | 23 => 171 | 24 => 153 | 25 => 172 | 26 => 173 | 27 => 174 | 28 => 175 | 29 => 176 | 30 => 177 | 31 => 178 | 32 => 179 | 33 => 180 | 34 => 181 | 35 => 182 | 36 => 183 | 37 => 184 | 38 => 185 | 39 => 186 | 40 => 187 | 41 => 188 | 42 => 189 | 43 => 190 | 44 => 191 | 45 => 192 | 46 => 193 | 47 => 194 | 48 => 195 | 49 => 196 | 50 => 197 | 51 => 198 | 52 => 199 | 53 => 200 | 54 => 201 | 55 => 209 | 56 => 210 | 57 => 211 | 58 => 213 | _ => 0, fun n => match n with | 0 => 0 | 1 => 1 | 2 => 2 | 3 => 3 | 4 => 4 | 5 => 5 | 6 => 6 | 7 => 7 | 8 => 8 | 9 => 9 | 10 => 10 | 11 => 11 | 12 => 12 | 13 => 13 | 14 => 14 | 15 => 15 | 16 => 16 | 17 => 17 | 18 => 18 | 19 => 19 | 20 => 20 | 21 => 21 | 23 => 187 | 26 => 188 | 32 => 192 | 33 => 193 | 34 => 194 | 35 => 195 | 36 => 196 | 37 => 197 | 38 => 198 | 39 => 29 | 40 => 199 | 41 => 158 | 42 => 200 | 43 => 201 | 44 => 202 | 45 => 203 | 46 => 204 | 47 => 205 | 48 => 171 | 49 => 63 | 50 => 206 | 51 => 79 | 52 => 207 | 53 => 208 | 54 => 209 | 55 => 210 | 56 => 211 | 57 => 212 | 58 => 213 | 59 => 214 | 60 => 215 | 61 => 216 | 62 => 185 | 63 => 217 | 64 => 218 | 65 => 219 | 66 => 220 | 67 => 221 | 68 => 222 | 69 => 175 | 70 => 224 | 71 => 225 | 72 => 226 | 73 => 227 | 74 => 228 | 75 => 229 | 76 => 230 | 77 => 231 | 78 => 232 | 79 => 233 | 80 => 234 | 81 => 235 | 82 => 236 | 83 => 238 | 84 => 239 | _ => 0, fun n => n⟩
theorem laysGg : LaysGg.n6 PP rho where
  mixed := by kernel_rfl
  f6 := by kernel_rfl
  f10 := by kernel_rfl
  f11 := by kernel_rfl
  f12 := by kernel_rfl
  f13 := by kernel_rfl
  f14 := by kernel_rfl
  f24 := by kernel_rfl
  f25 := by kernel_rfl
  f26 := by kernel_rfl
  f27 := by kernel_rfl
  f28 := by kernel_rfl
  f29 := by kernel_rfl
  f30 := by kernel_rfl
  f31 := by kernel_rfl
  f32 := by kernel_rfl
  f33 := by kernel_rfl
  f34 := by kernel_rfl
  f35 := by kernel_rfl
  f36 := by kernel_rfl
  f37 := by kernel_rfl
  f38 := by kernel_rfl
  f39 := by kernel_rfl
  t0 := by kernel_rfl
  a0 := fun _ => by kernel_rfl
  z0 := fun _ => by kernel_rfl
  v0 := fun _ => by kernel_rfl
  i0 := by kernel_rfl
  t3 := by kernel_rfl
  a3 := fun _ => by kernel_rfl
  z3 := fun _ => by kernel_rfl
  v3 := fun _ => by kernel_rfl
  i3 := by kernel_rfl
  t4 := by kernel_rfl
  a4 := fun _ => by kernel_rfl
  z4 := fun _ => by kernel_rfl
  v4 := fun _ => by kernel_rfl
  i4 := by kernel_rfl
  t5 := by kernel_rfl
  a5 := fun _ => by kernel_rfl
  z5 := fun _ => by kernel_rfl
  v5 := fun _ => by kernel_rfl
  i5 := by kernel_rfl
  t9 := by kernel_rfl
  a9 := fun _ => by kernel_rfl
  z9 := fun _ => by kernel_rfl
  v9 := fun _ => by kernel_rfl
  i9 := by kernel_rfl
  t12 := by kernel_rfl
  a12 := fun _ => by kernel_rfl
  z12 := fun _ => by kernel_rfl
  v12 := fun _ => by kernel_rfl
  i12 := by kernel_rfl
  t17 := by kernel_rfl
  a17 := fun _ => by kernel_rfl
  z17 := fun _ => by kernel_rfl
  v17 := fun _ => by kernel_rfl
  i17 := by kernel_rfl
  t20 := by kernel_rfl
  a20 := fun _ => by kernel_rfl
  z20 := fun _ => by kernel_rfl
  v20 := fun _ => by kernel_rfl
  i20 := by kernel_rfl
  t26 := by kernel_rfl
  a26 := fun _ => by kernel_rfl
  z26 := fun _ => by kernel_rfl
  v26 := fun _ => by kernel_rfl
  i26 := by kernel_rfl
  t32 := by kernel_rfl
  a32 := fun _ => by kernel_rfl
  z32 := fun _ => by kernel_rfl
  v32 := fun _ => by kernel_rfl
  i32 := by kernel_rfl
  t33 := by kernel_rfl
  a33 := fun _ => by kernel_rfl
  z33 := fun _ => by kernel_rfl
  v33 := fun _ => by kernel_rfl
  i33 := by kernel_rfl
  t35 := by kernel_rfl
  a35 := fun _ => by kernel_rfl
  z35 := fun _ => by kernel_rfl
  v35 := fun _ => by kernel_rfl
  i35 := by kernel_rfl
  t37 := by kernel_rfl
  a37 := fun _ => by kernel_rfl
  z37 := fun _ => by kernel_rfl
  v37 := fun _ => by kernel_rfl
  i37 := by kernel_rfl
  t41 := by kernel_rfl
  a41 := fun _ => by kernel_rfl
  z41 := fun _ => by kernel_rfl
  v41 := fun _ => by kernel_rfl
  i41 := by kernel_rfl
  t44 := by kernel_rfl
  a44 := fun _ => by kernel_rfl
  z44 := fun _ => by kernel_rfl
  v44 := fun _ => by kernel_rfl
  i44 := by kernel_rfl
  t49 := by kernel_rfl
  a49 := fun _ => by kernel_rfl
  z49 := fun _ => by kernel_rfl
  v49 := fun _ => by kernel_rfl
  i49 := by kernel_rfl
  t51 := by kernel_rfl
  a51 := fun _ => by kernel_rfl
  z51 := fun _ => by kernel_rfl
  v51 := fun _ => by kernel_rfl
  i51 := by kernel_rfl
  t53 := by kernel_rfl
  a53 := fun _ => by kernel_rfl
  z53 := fun _ => by kernel_rfl
  v53 := fun _ => by kernel_rfl
  i53 := by kernel_rfl
  t54 := by kernel_rfl
  a54 := fun _ => by kernel_rfl
  z54 := fun _ => by kernel_rfl
  v54 := fun _ => by kernel_rfl
  i54 := by kernel_rfl
  t58 := by kernel_rfl
  a58 := fun _ => by kernel_rfl
  z58 := fun _ => by kernel_rfl
  v58 := fun _ => by kernel_rfl
  i58 := by kernel_rfl
  t60 := by kernel_rfl
  a60 := fun _ => by kernel_rfl
  z60 := fun _ => by kernel_rfl
  v60 := fun _ => by kernel_rfl
  i60 := by kernel_rfl
  t64 := by kernel_rfl
  a64 := fun _ => by kernel_rfl
  z64 := fun _ => by kernel_rfl
  v64 := fun _ => by kernel_rfl
  i64 := by kernel_rfl
  t66 := by kernel_rfl
  a66 := fun _ => by kernel_rfl
  z66 := fun _ => by kernel_rfl
  v66 := fun _ => by kernel_rfl
  i66 := by kernel_rfl
  t67 := by kernel_rfl
  a67 := fun _ => by kernel_rfl
  z67 := fun _ => by kernel_rfl
  v67 := fun _ => by kernel_rfl
  i67 := by kernel_rfl
  t75 := by kernel_rfl
  a75 := fun _ => by kernel_rfl
  z75 := fun _ => by kernel_rfl
  v75 := fun _ => by kernel_rfl
  i75 := by kernel_rfl
  t76 := by kernel_rfl
  a76 := fun _ => by kernel_rfl
  z76 := fun _ => by kernel_rfl
  v76 := fun _ => by kernel_rfl
  i76 := by kernel_rfl
  t77 := by kernel_rfl
  a77 := fun _ => by kernel_rfl
  z77 := fun _ => by kernel_rfl
  v77 := fun _ => by kernel_rfl
  i77 := by kernel_rfl
  t78 := by kernel_rfl
  a78 := fun _ => by kernel_rfl
  z78 := fun _ => by kernel_rfl
  v78 := fun _ => by kernel_rfl
  i78 := by kernel_rfl
  t79 := by kernel_rfl
  a79 := fun _ => by kernel_rfl
  z79 := fun _ => by kernel_rfl
  v79 := fun _ => by kernel_rfl
  i79 := by kernel_rfl
  t80 := by kernel_rfl
  a80 := fun _ => by kernel_rfl
  z80 := fun _ => by kernel_rfl
  v80 := fun _ => by kernel_rfl
  i80 := by kernel_rfl
  t82 := by kernel_rfl
  a82 := fun _ => by kernel_rfl
  z82 := fun _ => by kernel_rfl
  v82 := fun _ => by kernel_rfl
  i82 := by kernel_rfl
theorem b155 : (Go.Proofs.Tryz.f155).body.map strip = some (sc_Each1 186 63) := by kernel_rfl
theorem ok155 : FnOK PP 155 := fnOK_of Go.Proofs.Tryz.func155 b155 (by kernel_rfl)
theorem b129 : (Go.Proofs.Tryz.f129).body.map strip = some (sc_AppendEach1 22 3 63 81) := by kernel_rfl
theorem ok129 : FnOK PP 129 := fnOK_of Go.Proofs.Tryz.func129 b129 (by kernel_rfl)
theorem b128 : (Go.Proofs.Tryz.f128).body.map strip = some (sc_TEach 70 68 3 186 63 154 155) := by kernel_rfl
theorem ok128 : FnOK PP 128 := fnOK_of Go.Proofs.Tryz.func128 b128 (by kernel_rfl)
theorem b83 : (Go.Proofs.Tryz.f83).body.map strip = some (sc_TAppendEach 22 128 (.func 129)) := by kernel_rfl
theorem ok83 : FnOK PP 83 := fnOK_of Go.Proofs.Tryz.func83 b83 (by kernel_rfl)
theorem okS : FnOK PP 154 := ⟨_, Go.Proofs.Tryz.func154, (by kernel_rfl), (by kernel_rfl)⟩
noncomputable def siT : TypeInfo := (PP.info? 186).get (by kernel_rfl)
noncomputable def siE : TypeInfo := (PP.info? 63).get (by kernel_rfl)
noncomputable def siTz : Value := siT.zero.get (by kernel_rfl)
noncomputable def siEz : Value := siE.zero.get (by kernel_rfl)
theorem siK (n : Nat) : Lib.swapperK n siE 10 = if n = 0 then 1 else if n = 1 then 2 else 6 := by
  have a : siE.hasPointers = false := by kernel_rfl
  have b : siE.bytes = 4 := by kernel_rfl
  unfold Lib.swapperK
  rw [a, b]
  by_cases h0 : n = 0
  · simp [h0]
  · by_cases h1 : n = 1
    · simp [h1]
    · simp [h0, h1]
def swF (n : Nat) : Nat := if n = 0 then 163 else if n = 1 then 164 else 168
theorem swOK (n : Nat) : PP.funcs.findIdx? (·.name == "internal/reflectlite" ++ ".Swapper$" ++ toString (Lib.swapperK n siE 10)) = some (swF n) := by
  rw [siK]
  unfold swF
  by_cases h0 : n = 0
  · simp only [h0, if_true]; kernel_rfl
  · by_cases h1 : n = 1
    · subst h1; kernel_rfl
    · simp only [h0, h1, if_false]; kernel_rfl
theorem sortOK : SortC PP 154 155 186 63 := sortC laysGg hm (by kernel_rfl) (by kernel_rfl) (by kernel_rfl) (i := siT) (ie := siE) (by kernel_rfl) (by kernel_rfl) (by kernel_rfl) (by kernel_rfl) 10 (fun _ => by kernel_rfl) (by kernel_rfl) Go.Proofs.Tryz.func155 b155 (by kernel_rfl) (by kernel_rfl) okS ok155 swF swOK true (fun n args W h => by
  have e : swF n = 168 := by unfold swF; rw [if_neg (by omega), if_neg (by omega)]
  rw [e]
  exact run_callFunc_extern Go.Proofs.Tryz.func168 (by kernel_rfl) (by kernel_rfl) (by kernel_rfl) (e := Extern.ReflectliteSwapper.swap true) (by kernel_rfl) args W)
theorem eachC : EachC PP X.U8 22 129 G0 128 := each_ok (TU := 186) (T32 := 63) (i32 := siE) (iU := siT) (z32 := siEz) (zU := siTz) (by kernel_rfl) (by kernel_rfl) (by kernel_rfl) (by kernel_rfl) (by kernel_rfl) (by kernel_rfl) (by kernel_rfl) (by kernel_rfl) (by kernel_rfl) (by kernel_rfl) (by decide +kernel) (by kernel_rfl) (by kernel_rfl) (by kernel_rfl) sortOK ok129 (fun w B c k cap dv xs bs base h1 h2 h3 h4 h5 h6 h7 h8 => cl_ok (by kernel_rfl) (by kernel_rfl) (by kernel_rfl) (by kernel_rfl) (by kernel_rfl) apUvar2 Go.Proofs.Tryz.func129 b129 (by kernel_rfl) (by kernel_rfl) w B c k cap dv xs bs base h1 h2 h3 h4 h5 h6 h7 h8) Go.Proofs.Tryz.func128 b128 (by kernel_rfl) (by kernel_rfl)
theorem tEachC : FnOK PP 83 ∧ ∀ (w : World) (B b o : Nat) (u : List (Nat × Bytes)) (dv : Value) (xs : Bytes), HTags G0 w (· < B) b o u → b < B → Own X.U8 w B dv xs → B ≤ w.heap.size → xs.length + (u.flatMap wTag).length ≤ lim →
    Calls PP 83 #[.pointer (some ⟨b, o, none⟩), dv] w fun e w' => ∃ dv', e = .returned dv' ∧ Own X.U8 w' B dv' (xs ++ u.flatMap wTag) ∧ Below B w w' ∧ B ≤ w'.heap.size := ⟨ok83, fun w B b o u dv xs h1 h2 h3 h4 h5 => appendEachN_ok (by kernel_rfl) ok128 eachC Go.Proofs.Tryz.func83 b83 (by kernel_rfl) (by kernel_rfl) w B b o u dv xs h1 h2 h3 h4 h5⟩
theorem ka : KA G0 PP ids X.U8 where
  bool := fun _ => apBool
  i8 := fun _ => apI8
  i16 := fun _ => apI16
  i32 := fun _ => apI32
  i64 := fun _ => apI64
  u16 := fun _ => apU16
  uuid := fun _ => apUuid
  str := fun _ => apStr
  cstr := fun _ => apCStr
  nstr0 := fun _ => apNStr0
  nstr := fun _ b o s h => apNStr b o s h
  cnstr0 := fun _ => apCNStr0
  cnstr := fun _ b o s h => apCNStr b o s h
  bytes := fun _ => apBytes
  cbytes := fun _ => apCBytes
  nbytes := fun h => absurd rfl h
  nbytes0 := fun h => absurd rfl h
  cnbytes := fun h => absurd rfl h
  cnbytes0 := fun h => absurd rfl h
  arr := fun _ => apArr
  carr := fun _ => apCArr
  narr := fun h => absurd rfl h
  cnarr := fun h => absurd rfl h
  uvar := fun _ => apUvar
  tagsLen := fun _ => tLenC
  tagsEach := fun _ => tEachC
end Go.Proofs.YtmapoohbongifaaGreatDoor.K
