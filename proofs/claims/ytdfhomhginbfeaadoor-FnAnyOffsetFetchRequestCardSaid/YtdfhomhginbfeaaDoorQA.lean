/- What this seat's program is: the functions that write. No condition. -/
import Derived.Test.YtdfhomhginbfeaaDoorQX
import Derived.Test.YtdfhomhginbfeaaDoorM10
namespace Go.Proofs.YtdfhomhginbfeaaDoor.K
open Go Go.RowKit Go.Proofs Go.Proofs.YtdfhomhginbfeaaDoor.T
set_option linter.unusedVariables false
def ids : Ids := { tI16 := 29, tInt := 3, tU32 := 62, tI8 := 0, tU8s := 22, tI32 := 21, tBool := 4, aBool := 49, aI8 := 0, aI16 := 31, aI32 := 42, aI64 := 36, aU16 := 46, aUuid := 45, aStr := 35, aCStr := 34, aNStr := 48, aCNStr := 47, aBytes := 38, aCBytes := 37, aNBytes := 0, aCNBytes := 0, aArr := 33, aCArr := 32, aNArr := 53, aCNArr := 52, aUvar := 39, tagsLen := 40, tagsEach := 41 }
theorem b49 : (Go.Proofs.Tryd.f49).body.map strip = some (sc_AppendBool 22) := by kernel_rfl
theorem apBool (x : Bool) : AP PP X.U8 49 #[.bool x] (fun _ _ => True) [if x then 1 else 0] := appendBool_ok Go.Proofs.Tryd.func49 b49 (by kernel_rfl) (by kernel_rfl) (by kernel_rfl) (by kernel_rfl) x
theorem b46 : (Go.Proofs.Tryd.f46).body.map strip = some (sc_AppendUint16 73 111 5 22) := by kernel_rfl
theorem apU16 (n : Int) : AP PP X.U8 46 #[.int .u16 n] (fun _ _ => True) (fixed n 2) := appendU16_ok Go.Proofs.Tryd.func46 b46 (by kernel_rfl) (by kernel_rfl) (by kernel_rfl) (by kernel_rfl) (by kernel_rfl) (by kernel_rfl) n
theorem b74 : (Go.Proofs.Tryd.f74).body.map strip = some (sc_AppendUint32 62 111 5 22) := by kernel_rfl
theorem apU32 (n : Int) : AP PP X.U8 74 #[.int .u32 n] (fun _ _ => True) (fixed n 4) := appendU32_ok Go.Proofs.Tryd.func74 b74 (by kernel_rfl) (by kernel_rfl) (by kernel_rfl) (by kernel_rfl) (by kernel_rfl) (by kernel_rfl) n
theorem b70 : (Go.Proofs.Tryd.f70).body.map strip = some (sc_appendUint64 109 111 5 22) := by kernel_rfl
theorem apU64 (n : Int) : AP PP X.U8 70 #[.int .u64 n] (fun _ _ => True) (fixed n 8) := appendU64_ok Go.Proofs.Tryd.func70 b70 (by kernel_rfl) (by kernel_rfl) (by kernel_rfl) (by kernel_rfl) (by kernel_rfl) (by kernel_rfl) n
theorem b31 : (Go.Proofs.Tryd.f31).body.map strip = some (sc_AppendInt16 29 73 46) := by kernel_rfl
theorem apI16 (n : Int) : AP PP X.U8 31 #[.int .i16 n] (fun _ _ => True) (fixed n 2) := appendI16_ok Go.Proofs.Tryd.func31 b31 (by kernel_rfl) (by kernel_rfl) (by kernel_rfl) (by kernel_rfl) (by kernel_rfl) apU16 n
theorem b42 : (Go.Proofs.Tryd.f42).body.map strip = some (sc_AppendInt32 21 62 74) := by kernel_rfl
theorem apI32 (n : Int) : AP PP X.U8 42 #[.int .i32 n] (fun _ _ => True) (fixed n 4) := appendI32_ok Go.Proofs.Tryd.func42 b42 (by kernel_rfl) (by kernel_rfl) (by kernel_rfl) (by kernel_rfl) (by kernel_rfl) apU32 n
theorem b36 : (Go.Proofs.Tryd.f36).body.map strip = some (sc_AppendInt64 2 109 70) := by kernel_rfl
theorem apI64 (n : Int) : AP PP X.U8 36 #[.int .i64 n] (fun _ _ => True) (fixed n 8) := appendI64_ok Go.Proofs.Tryd.func36 b36 (by kernel_rfl) (by kernel_rfl) (by kernel_rfl) (by kernel_rfl) (by kernel_rfl) apU64 n
theorem b94 : (Go.Proofs.Tryd.f94).body.map strip = some (sc_Len32 62 111 3 5 9) := by kernel_rfl
theorem ok94 : FnOK PP 94 := fnOK_of Go.Proofs.Tryd.func94 b94 (by kernel_rfl)
theorem b71 : (Go.Proofs.Tryd.f71).body.map strip = some (sc_UvarintLen 3 5 9 94) := by kernel_rfl
theorem ok71 : FnOK PP 71 := fnOK_of Go.Proofs.Tryd.func71 b71 (by kernel_rfl)
theorem b39 : (Go.Proofs.Tryd.f39).body.map strip = some (sc_AppendUvarint 3 62 5 111 22 71) := by kernel_rfl
theorem apUvar2 (n : Nat) (h : n < 4294967296) : AP2 PP X.U8 39 #[.int .u32 (n : Int)] (uvarint n) := appendUvarint2_ok Go.Proofs.Tryd.func39 b39 (by kernel_rfl) (by kernel_rfl) (by kernel_rfl) (by kernel_rfl) (by kernel_rfl) (by kernel_rfl) ok71 (fun n w h => uvarintLen_ok Go.Proofs.Tryd.func71 b71 (by kernel_rfl) (by kernel_rfl) (by kernel_rfl) (by kernel_rfl) (by kernel_rfl) ok94 (fun n w h => len32_ok Go.Proofs.Tryd.func94 b94 (by kernel_rfl) (by kernel_rfl) (by kernel_rfl) (by kernel_rfl) (by kernel_rfl) (by kernel_rfl) n h w) n h w) n h
theorem apUvar (n : Nat) (h : n < 4294967296) : AP PP X.U8 39 #[.int .u32 (n : Int)] (fun _ _ => True) (uvarint n) := appendUvarint_ok Go.Proofs.Tryd.func39 b39 (by kernel_rfl) (by kernel_rfl) (by kernel_rfl) (by kernel_rfl) (by kernel_rfl) (by kernel_rfl) ok71 (fun n w h => uvarintLen_ok Go.Proofs.Tryd.func71 b71 (by kernel_rfl) (by kernel_rfl) (by kernel_rfl) (by kernel_rfl) (by kernel_rfl) ok94 (fun n w h => len32_ok Go.Proofs.Tryd.func94 b94 (by kernel_rfl) (by kernel_rfl) (by kernel_rfl) (by kernel_rfl) (by kernel_rfl) (by kernel_rfl) n h w) n h w) n h
theorem b45 : (Go.Proofs.Tryd.f45).body.map strip = some (sc_AppendUuid 64 22) := by kernel_rfl
theorem apUuid (bs : Bytes) (h : bs.length = 16) : AP PP X.U8 45 #[.agg (cellsOf bs).toArray] (fun _ _ => True) (bs) := appendUuid_ok Go.Proofs.Tryd.func45 b45 (by kernel_rfl) (by kernel_rfl) (by kernel_rfl) (by kernel_rfl) (by kernel_rfl) bs h
theorem b35 : (Go.Proofs.Tryd.f35).body.map strip = some (sc_AppendString 9 3 29 22 31) := by kernel_rfl
theorem apStr (s : ByteArray) (h : s.data.toList.length ≤ most) : AP PP X.U8 35 #[.string s] (fun _ _ => True) (counted false false s.data.toList.length 2 ++ s.data.toList) := appendString_ok Go.Proofs.Tryd.func35 b35 (by kernel_rfl) (by kernel_rfl) (by kernel_rfl) (by kernel_rfl) (by kernel_rfl) (by kernel_rfl) (by kernel_rfl) apI16 s h
theorem b34 : (Go.Proofs.Tryd.f34).body.map strip = some (sc_AppendCompactString 9 3 62 22 39) := by kernel_rfl
theorem apCStr (s : ByteArray) (h : s.data.toList.length ≤ most) : AP PP X.U8 34 #[.string s] (fun _ _ => True) (counted true false s.data.toList.length 2 ++ s.data.toList) := appendCompactString_ok Go.Proofs.Tryd.func34 b34 (by kernel_rfl) (by kernel_rfl) (by kernel_rfl) (by kernel_rfl) (by kernel_rfl) (by kernel_rfl) (by kernel_rfl) apUvar s h
theorem b48 : (Go.Proofs.Tryd.f48).body.map strip = some (sc_AppendNullableString 67 9 31 35) := by kernel_rfl
theorem apNStr0 : AP PP X.U8 48 #[.pointer none] (fun _ _ => True) (counted false true 0 2) := appendNullStr0_ok (compact := false) Go.Proofs.Tryd.func48 b48 (by kernel_rfl) (by kernel_rfl) (by kernel_rfl) (by kernel_rfl) (by have h := apI16 (-1); simpa [counted, uvarint_lt] using h)
theorem apNStr (b o : Nat) (s : ByteArray) (h : s.data.toList.length ≤ most) : AP PP X.U8 48 #[.pointer (some ⟨b, o, none⟩)] (fun w B => b < B ∧ w.cell? ⟨b, o, none⟩ = some (.string s)) (counted false false s.data.toList.length 2 ++ s.data.toList) := appendNullStr_ok (compact := false) Go.Proofs.Tryd.func48 b48 (by kernel_rfl) (by kernel_rfl) (by kernel_rfl) (by kernel_rfl) (by kernel_rfl) s (apStr s h) b o
theorem b47 : (Go.Proofs.Tryd.f47).body.map strip = some (sc_AppendCompactNullableString 67 9 39 34) := by kernel_rfl
theorem apCNStr0 : AP PP X.U8 47 #[.pointer none] (fun _ _ => True) (counted true true 0 2) := appendNullStr0_ok (compact := true) Go.Proofs.Tryd.func47 b47 (by kernel_rfl) (by kernel_rfl) (by kernel_rfl) (by kernel_rfl) (by have h := apUvar 0 (by decide); simpa [counted, uvarint_lt] using h)
theorem apCNStr (b o : Nat) (s : ByteArray) (h : s.data.toList.length ≤ most) : AP PP X.U8 47 #[.pointer (some ⟨b, o, none⟩)] (fun w B => b < B ∧ w.cell? ⟨b, o, none⟩ = some (.string s)) (counted true false s.data.toList.length 2 ++ s.data.toList) := appendNullStr_ok (compact := true) Go.Proofs.Tryd.func47 b47 (by kernel_rfl) (by kernel_rfl) (by kernel_rfl) (by kernel_rfl) (by kernel_rfl) s (apCStr s h) b o
theorem b38 : (Go.Proofs.Tryd.f38).body.map strip = some (sc_AppendBytes 22 3 21 42) := by kernel_rfl
theorem apBytes (base : Option Addr) (cap : Nat) (bs : Bytes) (h : bs.length ≤ most) : AP PP X.U8 38 #[.slice base bs.length cap] (fun w B => BytesAt w (· < B) base bs) (counted false false bs.length 4 ++ bs) := appendBytes_ok Go.Proofs.Tryd.func38 b38 (by kernel_rfl) (by kernel_rfl) (by kernel_rfl) (by kernel_rfl) (by kernel_rfl) (by kernel_rfl) (by kernel_rfl) apI32 base cap bs h
theorem b37 : (Go.Proofs.Tryd.f37).body.map strip = some (sc_AppendCompactBytes 22 3 62 39) := by kernel_rfl
theorem apCBytes (base : Option Addr) (cap : Nat) (bs : Bytes) (h : bs.length ≤ most) : AP PP X.U8 37 #[.slice base bs.length cap] (fun w B => BytesAt w (· < B) base bs) (counted true false bs.length 4 ++ bs) := appendCompactBytes_ok Go.Proofs.Tryd.func37 b37 (by kernel_rfl) (by kernel_rfl) (by kernel_rfl) (by kernel_rfl) (by kernel_rfl) (by kernel_rfl) (by kernel_rfl) apUvar base cap bs h
theorem b33 : (Go.Proofs.Tryd.f33).body.map strip = some (sc_AppendArrayLen 3 21 42) := by kernel_rfl
theorem apArr (n : Nat) (h : n ≤ most) : AP PP X.U8 33 #[.int .i64 n] (fun _ _ => True) (counted false false n 4) := appendArrayLen_ok Go.Proofs.Tryd.func33 b33 (by kernel_rfl) (by kernel_rfl) (by kernel_rfl) (by kernel_rfl) (by kernel_rfl) apI32 n h
theorem b32 : (Go.Proofs.Tryd.f32).body.map strip = some (sc_AppendCompactArrayLen 3 62 39) := by kernel_rfl
theorem apCArr (n : Nat) (h : n ≤ most) : AP PP X.U8 32 #[.int .i64 n] (fun _ _ => True) (counted true false n 4) := appendCompactArrayLen_ok Go.Proofs.Tryd.func32 b32 (by kernel_rfl) (by kernel_rfl) (by kernel_rfl) (by kernel_rfl) (by kernel_rfl) apUvar n h
theorem b53 : (Go.Proofs.Tryd.f53).body.map strip = some (sc_AppendNullableArrayLen 3 21 42) := by kernel_rfl
theorem apNArr (n : Nat) (x : Bool) (h : n ≤ most) : AP PP X.U8 53 #[.int .i64 n, .bool x] (fun _ _ => True) (counted false x n 4) := appendNullArr_ok Go.Proofs.Tryd.func53 b53 (by kernel_rfl) (by kernel_rfl) (by kernel_rfl) (by kernel_rfl) (by kernel_rfl) apI32 n x h
theorem b52 : (Go.Proofs.Tryd.f52).body.map strip = some (sc_AppendCompactNullableArrayLen 3 62 39) := by kernel_rfl
theorem apCNArr (n : Nat) (x : Bool) (h : n ≤ most) : AP PP X.U8 52 #[.int .i64 n, .bool x] (fun _ _ => True) (counted true x n 4) := appendCompactNullArr_ok Go.Proofs.Tryd.func52 b52 (by kernel_rfl) (by kernel_rfl) (by kernel_rfl) (by kernel_rfl) (by kernel_rfl) apUvar n x h
theorem b40 : (Go.Proofs.Tryd.f40).body.map strip = some (sc_TLen 45 43) := by kernel_rfl
theorem ok40 : FnOK PP 40 := fnOK_of Go.Proofs.Tryd.func40 b40 (by kernel_rfl)
theorem tLenC : FnOK PP 40 ∧ ∀ (w : World) (F : Nat → Prop) (b o : Nat) (u : List (Nat × Bytes)), HTags G0 w F b o u → Calls PP 40 #[.pointer (some ⟨b, o, none⟩)] w fun e w' => e = .returned (.int .i64 u.length) ∧ w = w' := ⟨ok40, fun w F b o u h => tagsLenN_ok (by kernel_rfl) (by kernel_rfl) (by kernel_rfl) Go.Proofs.Tryd.func40 b40 (by kernel_rfl) (by kernel_rfl) w F b o u h⟩
def rho : Shelf.Ren := ⟨fun n => match n with | 0 => 0 | 1 => 1 | 2 => 2 | 6 => 95 | 10 => 99 | 11 => 100 | 12 => 101 | 13 => 102 | 14 => 103 | 15 => 104 | 16 => 105 | 17 => 106 | 18 => 107 | 19 => 108 | 20 => 109 | 21 => 110 | 22 => 111 | 23 => 112 | 24 => 94 | 25 => 113 | 26 => 114 | 27 => 115 | 28 => 116 | 29 => 117 | 30 => 118 | 31 => 119 | 32 => 120 | 33 => 121 | 34 => 122 | 35 => 123 | 36 => 124 | 37 => 125 | 38 => 126 | 39 => 127 | 40 => 128 | 41 => 129 | 42 => 130 | 43 => 131 | 44 => 132 | 45 => 133 | 46 => 134 | 47 => 135 | 48 => 136 | 49 => 137 | 50 => 138 | 51 => 139 | 52 => 140 | 53 => 141 | 54 => 142 | 55 => 146 | 56 => 147 | 57 => 148 | 58 => 150 | _ => 0, fun n => match n with | 0 => 0 | 1 => 1 | 2 => 2 | 3 => 3 | 4 => 4 | 5 => 5 | 6 => 6 | 7 => 7 | 8 => 8 | 9 => 9 | 10 => 10 | 11 => 11 | 12 => 12 | 13 => 13 | 14 => 14 | 15 => 15 | 16 => 16 | 17 => 17 | 18 => 18 | 19 => 19 | 20 => 20 | 21 => 21 | 23 => 127 | 26 => 128 | 32 => 132 | 33 => 133 | 34 => 134 | 35 => 135 | 36 => 136 | 37 => 137 | 38 => 138 | 39 => 23 | 40 => 139 | 41 => 111 | 42 => 140 | 43 => 141 | 44 => 142 | 45 => 143 | 46 => 144 | 47 => 145 | 48 => 110 | 49 => 62 | 50 => 146 | 51 => 109 | 52 => 147 | 53 => 148 | 54 => 149 | 55 => 150 | 56 => 151 | 57 => 152 | 58 => 153 | 59 => 154 | 60 => 155 | 61 => 156 | 62 => 124 | 63 => 157 | 64 => 158 | 65 => 159 | 66 => 160 | 67 => 161 | 68 => 162 | 69 => 103 | 70 => 164 | 71 => 165 | 72 => 166 | 73 => 167 | 74 => 168 | 75 => 169 | 76 => 170 | 77 => 171 | 78 => 172 | 79 => 173 | 80 => 174 | 81 => 175 | 82 => 176 | 83 => 178 | 84 => 179 | _ => 0, fun n => n⟩
theorem laysGg : LaysGg.n6 PP rho where
  mixed := by kernel_rfl
  f6 := by kernel_rfl
  f10 := by kernel_rfl
  f11 := by kernel_rfl
  f12 := by kernel_rfl
  f13 := by kernel_rfl
  f14 := by kernel_rfl
  f24 := by kernel_rfl
  f25 := by kernel_rfl
  f26 := by kernel_rfl
  f27 := by kernel_rfl
  f28 := by kernel_rfl
  f29 := by kernel_rfl
  f30 := by kernel_rfl
  f31 := by kernel_rfl
  f32 := by kernel_rfl
  f33 := by kernel_rfl
  f34 := by kernel_rfl
  f35 := by kernel_rfl
  f36 := by kernel_rfl
  f37 := by kernel_rfl
  f38 := by kernel_rfl
  f39 := by kernel_rfl
  t0 := by kernel_rfl
  a0 := fun _ => by kernel_rfl
  z0 := fun _ => by kernel_rfl
  v0 := fun _ => by kernel_rfl
  i0 := by kernel_rfl
  t3 := by kernel_rfl
  a3 := fun _ => by kernel_rfl
  z3 := fun _ => by kernel_rfl
  v3 := fun _ => by kernel_rfl
  i3 := by kernel_rfl
  t4 := by kernel_rfl
  a4 := fun _ => by kernel_rfl
  z4 := fun _ => by kernel_rfl
  v4 := fun _ => by kernel_rfl
  i4 := by kernel_rfl
  t5 := by kernel_rfl
  a5 := fun _ => by kernel_rfl
  z5 := fun _ => by kernel_rfl
  v5 := fun _ => by kernel_rfl
  i5 := by kernel_rfl
  t9 := by kernel_rfl
  a9 := fun _ => by kernel_rfl
  z9 := fun _ => by kernel_rfl
  v9 := fun _ => by kernel_rfl
  i9 := by kernel_rfl
  t12 := by kernel_rfl
  a12 := fun _ => by kernel_rfl
  z12 := fun _ => by kernel_rfl
  v12 := fun _ => by kernel_rfl
  i12 := by kernel_rfl
  t17 := by kernel_rfl
  a17 := fun _ => by kernel_rfl
  z17 := fun _ => by kernel_rfl
  v17 := fun _ => by kernel_rfl
  i17 := by kernel_rfl
  t20 := by kernel_rfl
  a20 := fun _ => by kernel_rfl
  z20 := fun _ => by kernel_rfl
  v20 := fun _ => by kernel_rfl
  i20 := by kernel_rfl
  t26 := by kernel_rfl
  a26 := fun _ => by kernel_rfl
  z26 := fun _ => by kernel_rfl
  v26 := fun _ => by kernel_rfl
  i26 := by kernel_rfl
  t32 := by kernel_rfl
  a32 := fun _ => by kernel_rfl
  z32 := fun _ => by kernel_rfl
  v32 := fun _ => by kernel_rfl
  i32 := by kernel_rfl
  t33 := by kernel_rfl
  a33 := fun _ => by kernel_rfl
  z33 := fun _ => by kernel_rfl
  v33 := fun _ => by kernel_rfl
  i33 := by kernel_rfl
  t35 := by kernel_rfl
  a35 := fun _ => by kernel_rfl
  z35 := fun _ => by kernel_rfl
  v35 := fun _ => by kernel_rfl
  i35 := by kernel_rfl
  t37 := by kernel_rfl
  a37 := fun _ => by kernel_rfl
  z37 := fun _ => by kernel_rfl
  v37 := fun _ => by kernel_rfl
  i37 := by kernel_rfl
  t41 := by kernel_rfl
  a41 := fun _ => by kernel_rfl
  z41 := fun _ => by kernel_rfl
  v41 := fun _ => by kernel_rfl
  i41 := by kernel_rfl
  t44 := by kernel_rfl
  a44 := fun _ => by kernel_rfl
  z44 := fun _ => by kernel_rfl
  v44 := fun _ => by kernel_rfl
  i44 := by kernel_rfl
  t49 := by kernel_rfl
  a49 := fun _ => by kernel_rfl
  z49 := fun _ => by kernel_rfl
  v49 := fun _ => by kernel_rfl
  i49 := by kernel_rfl
  t51 := by kernel_rfl
  a51 := fun _ => by kernel_rfl
  z51 := fun _ => by kernel_rfl
  v51 := fun _ => by kernel_rfl
  i51 := by kernel_rfl
  t53 := by kernel_rfl
  a53 := fun _ => by kernel_rfl
  z53 := fun _ => by kernel_rfl
  v53 := fun _ => by kernel_rfl
  i53 := by kernel_rfl
  t54 := by kernel_rfl
  a54 := fun _ => by kernel_rfl
  z54 := fun _ => by kernel_rfl
  v54 := fun _ => by kernel_rfl
  i54 := by kernel_rfl
  t58 := by kernel_rfl
  a58 := fun _ => by kernel_rfl
  z58 := fun _ => by kernel_rfl
  v58 := fun _ => by kernel_rfl
  i58 := by kernel_rfl
  t60 := by kernel_rfl
  a60 := fun _ => by kernel_rfl
  z60 := fun _ => by kernel_rfl
  v60 := fun _ => by kernel_rfl
  i60 := by kernel_rfl
  t64 := by kernel_rfl
  a64 := fun _ => by kernel_rfl
  z64 := fun _ => by kernel_rfl
  v64 := fun _ => by kernel_rfl
  i64 := by kernel_rfl
  t66 := by kernel_rfl
  a66 := fun _ => by kernel_rfl
  z66 := fun _ => by kernel_rfl
  v66 := fun _ => by kernel_rfl
  i66 := by kernel_rfl
  t67 := by kernel_rfl
  a67 := fun _ => by kernel_rfl
  z67 := fun _ => by kernel_rfl
  v67 := fun _ => by kernel_rfl
  i67 := by kernel_rfl
  t75 := by kernel_rfl
  a75 := fun _ => by kernel_rfl
  z75 := fun _ => by kernel_rfl
  v75 := fun _ => by kernel_rfl
  i75 := by kernel_rfl
  t76 := by kernel_rfl
  a76 := fun _ => by kernel_rfl
  z76 := fun _ => by kernel_rfl
  v76 := fun _ => by kernel_rfl
  i76 := by kernel_rfl
  t77 := by kernel_rfl
  a77 := fun _ => by kernel_rfl
  z77 := fun _ => by kernel_rfl
  v77 := fun _ => by kernel_rfl
  i77 := by kernel_rfl
  t78 := by kernel_rfl
  a78 := fun _ => by kernel_rfl
  z78 := fun _ => by kernel_rfl
  v78 := fun _ => by kernel_rfl
  i78 := by kernel_rfl
  t79 := by kernel_rfl
  a79 := fun _ => by kernel_rfl
  z79 := fun _ => by kernel_rfl
  v79 := fun _ => by kernel_rfl
  i79 := by kernel_rfl
  t80 := by kernel_rfl
  a80 := fun _ => by kernel_rfl
  z80 := fun _ => by kernel_rfl
  v80 := fun _ => by kernel_rfl
  i80 := by kernel_rfl
  t82 := by kernel_rfl
  a82 := fun _ => by kernel_rfl
  z82 := fun _ => by kernel_rfl
  v82 := fun _ => by kernel_rfl
  i82 := by kernel_rfl
theorem b96 : (Go.Proofs.Tryd.f96).body.map strip = some (sc_Each1 126 62) := by kernel_rfl
theorem ok96 : FnOK PP 96 := fnOK_of Go.Proofs.Tryd.func96 b96 (by kernel_rfl)
theorem b73 : (Go.Proofs.Tryd.f73).body.map strip = some (sc_AppendEach1 22 3 62 39) := by kernel_rfl
theorem ok73 : FnOK PP 73 := fnOK_of Go.Proofs.Tryd.func73 b73 (by kernel_rfl)
theorem b72 : (Go.Proofs.Tryd.f72).body.map strip = some (sc_TEach 45 43 3 126 62 95 96) := by kernel_rfl
theorem ok72 : FnOK PP 72 := fnOK_of Go.Proofs.Tryd.func72 b72 (by kernel_rfl)
theorem b41 : (Go.Proofs.Tryd.f41).body.map strip = some (sc_TAppendEach 22 72 (.func 73)) := by kernel_rfl
theorem ok41 : FnOK PP 41 := fnOK_of Go.Proofs.Tryd.func41 b41 (by kernel_rfl)
theorem okS : FnOK PP 95 := ⟨_, Go.Proofs.Tryd.func95, (by kernel_rfl), (by kernel_rfl)⟩
noncomputable def siT : TypeInfo := (PP.info? 126).get (by kernel_rfl)
noncomputable def siE : TypeInfo := (PP.info? 62).get (by kernel_rfl)
noncomputable def siTz : Value := siT.zero.get (by kernel_rfl)
noncomputable def siEz : Value := siE.zero.get (by kernel_rfl)
theorem siK (n : Nat) : Lib.swapperK n siE 10 = if n = 0 then 1 else if n = 1 then 2 else 6 := by
  have a : siE.hasPointers = false := by kernel_rfl
  have b : siE.bytes = 4 := by kernel_rfl
  unfold Lib.swapperK
  rw [a, b]
  by_cases h0 : n = 0
  · simp [h0]
  · by_cases h1 : n = 1
    · simp [h1]
    · simp [h0, h1]
def swF (n : Nat) : Nat := if n = 0 then 104 else if n = 1 then 105 else 109
theorem swOK (n : Nat) : PP.funcs.findIdx? (·.name == "internal/reflectlite" ++ ".Swapper$" ++ toString (Lib.swapperK n siE 10)) = some (swF n) := by
  rw [siK]
  unfold swF
  by_cases h0 : n = 0
  · simp only [h0, if_true]; kernel_rfl
  · by_cases h1 : n = 1
    · subst h1; kernel_rfl
    · simp only [h0, h1, if_false]; kernel_rfl
theorem sortOK : SortC PP 95 96 126 62 := sortC laysGg hm (by kernel_rfl) (by kernel_rfl) (by kernel_rfl) (i := siT) (ie := siE) (by kernel_rfl) (by kernel_rfl) (by kernel_rfl) (by kernel_rfl) 10 (fun _ => by kernel_rfl) (by kernel_rfl) Go.Proofs.Tryd.func96 b96 (by kernel_rfl) (by kernel_rfl) okS ok96 swF swOK true (fun n args W h => by
  have e : swF n = 109 := by unfold swF; rw [if_neg (by omega), if_neg (by omega)]
  rw [e]
  exact run_callFunc_extern Go.Proofs.Tryd.func109 (by kernel_rfl) (by kernel_rfl) (by kernel_rfl) (e := Extern.ReflectliteSwapper.swap true) (by kernel_rfl) args W)
theorem eachC : EachC PP X.U8 22 73 G0 72 := each_ok (TU := 126) (T32 := 62) (i32 := siE) (iU := siT) (z32 := siEz) (zU := siTz) (by kernel_rfl) (by kernel_rfl) (by kernel_rfl) (by kernel_rfl) (by kernel_rfl) (by kernel_rfl) (by kernel_rfl) (by kernel_rfl) (by kernel_rfl) (by kernel_rfl) (by decide +kernel) (by kernel_rfl) (by kernel_rfl) (by kernel_rfl) sortOK ok73 (fun w B c k cap dv xs bs base h1 h2 h3 h4 h5 h6 h7 h8 => cl_ok (by kernel_rfl) (by kernel_rfl) (by kernel_rfl) (by kernel_rfl) (by kernel_rfl) apUvar2 Go.Proofs.Tryd.func73 b73 (by kernel_rfl) (by kernel_rfl) w B c k cap dv xs bs base h1 h2 h3 h4 h5 h6 h7 h8) Go.Proofs.Tryd.func72 b72 (by kernel_rfl) (by kernel_rfl)
theorem tEachC : FnOK PP 41 ∧ ∀ (w : World) (B b o : Nat) (u : List (Nat × Bytes)) (dv : Value) (xs : Bytes), HTags G0 w (· < B) b o u → b < B → Own X.U8 w B dv xs → B ≤ w.heap.size → xs.length + (u.flatMap wTag).length ≤ lim →
    Calls PP 41 #[.pointer (some ⟨b, o, none⟩), dv] w fun e w' => ∃ dv', e = .returned dv' ∧ Own X.U8 w' B dv' (xs ++ u.flatMap wTag) ∧ Below B w w' ∧ B ≤ w'.heap.size := ⟨ok41, fun w B b o u dv xs h1 h2 h3 h4 h5 => appendEachN_ok (by kernel_rfl) ok72 eachC Go.Proofs.Tryd.func41 b41 (by kernel_rfl) (by kernel_rfl) w B b o u dv xs h1 h2 h3 h4 h5⟩
theorem ka : KA G0 PP ids X.U8 where
  bool := fun _ => apBool
  i8 := fun h => absurd rfl h
  i16 := fun _ => apI16
  i32 := fun _ => apI32
  i64 := fun _ => apI64
  u16 := fun _ => apU16
  uuid := fun _ => apUuid
  str := fun _ => apStr
  cstr := fun _ => apCStr
  nstr0 := fun _ => apNStr0
  nstr := fun _ b o s h => apNStr b o s h
  cnstr0 := fun _ => apCNStr0
  cnstr := fun _ b o s h => apCNStr b o s h
  bytes := fun _ => apBytes
  cbytes := fun _ => apCBytes
  nbytes := fun h => absurd rfl h
  nbytes0 := fun h => absurd rfl h
  cnbytes := fun h => absurd rfl h
  cnbytes0 := fun h => absurd rfl h
  arr := fun _ => apArr
  carr := fun _ => apCArr
  narr := fun _ => apNArr
  cnarr := fun _ => apCNArr
  uvar := fun _ => apUvar
  tagsLen := fun _ => tLenC
  tagsEach := fun _ => tEachC
end Go.Proofs.YtdfhomhginbfeaaDoor.K
