/- What this seat's program is: the functions that write. No condition. -/
import Derived.Test.YtjcndcolfllibaaDoorQX
import Derived.Test.YtjcndcolfllibaaDoorM10
namespace Go.Proofs.YtjcndcolfllibaaDoor.K
open Go Go.RowKit Go.Proofs Go.Proofs.YtjcndcolfllibaaDoor.T
set_option linter.unusedVariables false
def ids : Ids := { tI16 := 29, tInt := 3, tU32 := 57, tI8 := 87, tU8s := 22, tI32 := 21, tBool := 4, aBool := 61, aI8 := 64, aI16 := 51, aI32 := 41, aI64 := 52, aU16 := 60, aUuid := 57, aStr := 40, aCStr := 39, aNStr := 43, aCNStr := 42, aBytes := 54, aCBytes := 53, aNBytes := 0, aCNBytes := 0, aArr := 59, aCArr := 58, aNArr := 45, aCNArr := 44, aUvar := 46, tagsLen := 47, tagsEach := 48 }
theorem b61 : (Go.Proofs.Tryd.f61).body.map strip = some (sc_AppendBool 22) := by kernel_rfl
theorem apBool (x : Bool) : AP PP X.U8 61 #[.bool x] (fun _ _ => True) [if x then 1 else 0] := appendBool_ok Go.Proofs.Tryd.func61 b61 (by kernel_rfl) (by kernel_rfl) (by kernel_rfl) (by kernel_rfl) x
theorem b64 : (Go.Proofs.Tryd.f64).body.map strip = some (sc_AppendInt8 87 5 22) := by kernel_rfl
theorem apI8 (n : Int) : AP PP X.U8 64 #[.int .i8 n] (fun _ _ => True) (fixed n 1) := appendI8_ok Go.Proofs.Tryd.func64 b64 (by kernel_rfl) (by kernel_rfl) (by kernel_rfl) (by kernel_rfl) (by kernel_rfl) (by kernel_rfl) n
theorem b60 : (Go.Proofs.Tryd.f60).body.map strip = some (sc_AppendUint16 70 101 5 22) := by kernel_rfl
theorem apU16 (n : Int) : AP PP X.U8 60 #[.int .u16 n] (fun _ _ => True) (fixed n 2) := appendU16_ok Go.Proofs.Tryd.func60 b60 (by kernel_rfl) (by kernel_rfl) (by kernel_rfl) (by kernel_rfl) (by kernel_rfl) (by kernel_rfl) n
theorem b79 : (Go.Proofs.Tryd.f79).body.map strip = some (sc_AppendUint32 57 101 5 22) := by kernel_rfl
theorem apU32 (n : Int) : AP PP X.U8 79 #[.int .u32 n] (fun _ _ => True) (fixed n 4) := appendU32_ok Go.Proofs.Tryd.func79 b79 (by kernel_rfl) (by kernel_rfl) (by kernel_rfl) (by kernel_rfl) (by kernel_rfl) (by kernel_rfl) n
theorem b87 : (Go.Proofs.Tryd.f87).body.map strip = some (sc_appendUint64 108 101 5 22) := by kernel_rfl
theorem apU64 (n : Int) : AP PP X.U8 87 #[.int .u64 n] (fun _ _ => True) (fixed n 8) := appendU64_ok Go.Proofs.Tryd.func87 b87 (by kernel_rfl) (by kernel_rfl) (by kernel_rfl) (by kernel_rfl) (by kernel_rfl) (by kernel_rfl) n
theorem b51 : (Go.Proofs.Tryd.f51).body.map strip = some (sc_AppendInt16 29 70 60) := by kernel_rfl
theorem apI16 (n : Int) : AP PP X.U8 51 #[.int .i16 n] (fun _ _ => True) (fixed n 2) := appendI16_ok Go.Proofs.Tryd.func51 b51 (by kernel_rfl) (by kernel_rfl) (by kernel_rfl) (by kernel_rfl) (by kernel_rfl) apU16 n
theorem b41 : (Go.Proofs.Tryd.f41).body.map strip = some (sc_AppendInt32 21 57 79) := by kernel_rfl
theorem apI32 (n : Int) : AP PP X.U8 41 #[.int .i32 n] (fun _ _ => True) (fixed n 4) := appendI32_ok Go.Proofs.Tryd.func41 b41 (by kernel_rfl) (by kernel_rfl) (by kernel_rfl) (by kernel_rfl) (by kernel_rfl) apU32 n
theorem b52 : (Go.Proofs.Tryd.f52).body.map strip = some (sc_AppendInt64 2 108 87) := by kernel_rfl
theorem apI64 (n : Int) : AP PP X.U8 52 #[.int .i64 n] (fun _ _ => True) (fixed n 8) := appendI64_ok Go.Proofs.Tryd.func52 b52 (by kernel_rfl) (by kernel_rfl) (by kernel_rfl) (by kernel_rfl) (by kernel_rfl) apU64 n
theorem b101 : (Go.Proofs.Tryd.f101).body.map strip = some (sc_Len32 57 101 3 5 9) := by kernel_rfl
theorem ok101 : FnOK PP 101 := fnOK_of Go.Proofs.Tryd.func101 b101 (by kernel_rfl)
theorem b80 : (Go.Proofs.Tryd.f80).body.map strip = some (sc_UvarintLen 3 5 9 101) := by kernel_rfl
theorem ok80 : FnOK PP 80 := fnOK_of Go.Proofs.Tryd.func80 b80 (by kernel_rfl)
theorem b46 : (Go.Proofs.Tryd.f46).body.map strip = some (sc_AppendUvarint 3 57 5 101 22 80) := by kernel_rfl
theorem apUvar2 (n : Nat) (h : n < 4294967296) : AP2 PP X.U8 46 #[.int .u32 (n : Int)] (uvarint n) := appendUvarint2_ok Go.Proofs.Tryd.func46 b46 (by kernel_rfl) (by kernel_rfl) (by kernel_rfl) (by kernel_rfl) (by kernel_rfl) (by kernel_rfl) ok80 (fun n w h => uvarintLen_ok Go.Proofs.Tryd.func80 b80 (by kernel_rfl) (by kernel_rfl) (by kernel_rfl) (by kernel_rfl) (by kernel_rfl) ok101 (fun n w h => len32_ok Go.Proofs.Tryd.func101 b101 (by kernel_rfl) (by kernel_rfl) (by kernel_rfl) (by kernel_rfl) (by kernel_rfl) (by kernel_rfl) n h w) n h w) n h
theorem apUvar (n : Nat) (h : n < 4294967296) : AP PP X.U8 46 #[.int .u32 (n : Int)] (fun _ _ => True) (uvarint n) := appendUvarint_ok Go.Proofs.Tryd.func46 b46 (by kernel_rfl) (by kernel_rfl) (by kernel_rfl) (by kernel_rfl) (by kernel_rfl) (by kernel_rfl) ok80 (fun n w h => uvarintLen_ok Go.Proofs.Tryd.func80 b80 (by kernel_rfl) (by kernel_rfl) (by kernel_rfl) (by kernel_rfl) (by kernel_rfl) ok101 (fun n w h => len32_ok Go.Proofs.Tryd.func101 b101 (by kernel_rfl) (by kernel_rfl) (by kernel_rfl) (by kernel_rfl) (by kernel_rfl) (by kernel_rfl) n h w) n h w) n h
theorem b57 : (Go.Proofs.Tryd.f57).body.map strip = some (sc_AppendUuid 63 22) := by kernel_rfl
theorem apUuid (bs : Bytes) (h : bs.length = 16) : AP PP X.U8 57 #[.agg (cellsOf bs).toArray] (fun _ _ => True) (bs) := appendUuid_ok Go.Proofs.Tryd.func57 b57 (by kernel_rfl) (by kernel_rfl) (by kernel_rfl) (by kernel_rfl) (by kernel_rfl) bs h
theorem b40 : (Go.Proofs.Tryd.f40).body.map strip = some (sc_AppendString 9 3 29 22 51) := by kernel_rfl
theorem apStr (s : ByteArray) (h : s.data.toList.length ≤ most) : AP PP X.U8 40 #[.string s] (fun _ _ => True) (counted false false s.data.toList.length 2 ++ s.data.toList) := appendString_ok Go.Proofs.Tryd.func40 b40 (by kernel_rfl) (by kernel_rfl) (by kernel_rfl) (by kernel_rfl) (by kernel_rfl) (by kernel_rfl) (by kernel_rfl) apI16 s h
theorem b39 : (Go.Proofs.Tryd.f39).body.map strip = some (sc_AppendCompactString 9 3 57 22 46) := by kernel_rfl
theorem apCStr (s : ByteArray) (h : s.data.toList.length ≤ most) : AP PP X.U8 39 #[.string s] (fun _ _ => True) (counted true false s.data.toList.length 2 ++ s.data.toList) := appendCompactString_ok Go.Proofs.Tryd.func39 b39 (by kernel_rfl) (by kernel_rfl) (by kernel_rfl) (by kernel_rfl) (by kernel_rfl) (by kernel_rfl) (by kernel_rfl) apUvar s h
theorem b43 : (Go.Proofs.Tryd.f43).body.map strip = some (sc_AppendNullableString 44 9 51 40) := by kernel_rfl
theorem apNStr0 : AP PP X.U8 43 #[.pointer none] (fun _ _ => True) (counted false true 0 2) := appendNullStr0_ok (compact := false) Go.Proofs.Tryd.func43 b43 (by kernel_rfl) (by kernel_rfl) (by kernel_rfl) (by kernel_rfl) (by have h := apI16 (-1); simpa [counted, uvarint_lt] using h)
theorem apNStr (b o : Nat) (s : ByteArray) (h : s.data.toList.length ≤ most) : AP PP X.U8 43 #[.pointer (some ⟨b, o, none⟩)] (fun w B => b < B ∧ w.cell? ⟨b, o, none⟩ = some (.string s)) (counted false false s.data.toList.length 2 ++ s.data.toList) := appendNullStr_ok (compact := false) Go.Proofs.Tryd.func43 b43 (by kernel_rfl) (by kernel_rfl) (by kernel_rfl) (by kernel_rfl) (by kernel_rfl) s (apStr s h) b o
theorem b42 : (Go.Proofs.Tryd.f42).body.map strip = some (sc_AppendCompactNullableString 44 9 46 39) := by kernel_rfl
theorem apCNStr0 : AP PP X.U8 42 #[.pointer none] (fun _ _ => True) (counted true true 0 2) := appendNullStr0_ok (compact := true) Go.Proofs.Tryd.func42 b42 (by kernel_rfl) (by kernel_rfl) (by kernel_rfl) (by kernel_rfl) (by have h := apUvar 0 (by decide); simpa [counted, uvarint_lt] using h)
theorem apCNStr (b o : Nat) (s : ByteArray) (h : s.data.toList.length ≤ most) : AP PP X.U8 42 #[.pointer (some ⟨b, o, none⟩)] (fun w B => b < B ∧ w.cell? ⟨b, o, none⟩ = some (.string s)) (counted true false s.data.toList.length 2 ++ s.data.toList) := appendNullStr_ok (compact := true) Go.Proofs.Tryd.func42 b42 (by kernel_rfl) (by kernel_rfl) (by kernel_rfl) (by kernel_rfl) (by kernel_rfl) s (apCStr s h) b o
theorem b54 : (Go.Proofs.Tryd.f54).body.map strip = some (sc_AppendBytes 22 3 21 41) := by kernel_rfl
theorem apBytes (base : Option Addr) (cap : Nat) (bs : Bytes) (h : bs.length ≤ most) : AP PP X.U8 54 #[.slice base bs.length cap] (fun w B => BytesAt w (· < B) base bs) (counted false false bs.length 4 ++ bs) := appendBytes_ok Go.Proofs.Tryd.func54 b54 (by kernel_rfl) (by kernel_rfl) (by kernel_rfl) (by kernel_rfl) (by kernel_rfl) (by kernel_rfl) (by kernel_rfl) apI32 base cap bs h
theorem b53 : (Go.Proofs.Tryd.f53).body.map strip = some (sc_AppendCompactBytes 22 3 57 46) := by kernel_rfl
theorem apCBytes (base : Option Addr) (cap : Nat) (bs : Bytes) (h : bs.length ≤ most) : AP PP X.U8 53 #[.slice base bs.length cap] (fun w B => BytesAt w (· < B) base bs) (counted true false bs.length 4 ++ bs) := appendCompactBytes_ok Go.Proofs.Tryd.func53 b53 (by kernel_rfl) (by kernel_rfl) (by kernel_rfl) (by kernel_rfl) (by kernel_rfl) (by kernel_rfl) (by kernel_rfl) apUvar base cap bs h
theorem b59 : (Go.Proofs.Tryd.f59).body.map strip = some (sc_AppendArrayLen 3 21 41) := by kernel_rfl
theorem apArr (n : Nat) (h : n ≤ most) : AP PP X.U8 59 #[.int .i64 n] (fun _ _ => True) (counted false false n 4) := appendArrayLen_ok Go.Proofs.Tryd.func59 b59 (by kernel_rfl) (by kernel_rfl) (by kernel_rfl) (by kernel_rfl) (by kernel_rfl) apI32 n h
theorem b58 : (Go.Proofs.Tryd.f58).body.map strip = some (sc_AppendCompactArrayLen 3 57 46) := by kernel_rfl
theorem apCArr (n : Nat) (h : n ≤ most) : AP PP X.U8 58 #[.int .i64 n] (fun _ _ => True) (counted true false n 4) := appendCompactArrayLen_ok Go.Proofs.Tryd.func58 b58 (by kernel_rfl) (by kernel_rfl) (by kernel_rfl) (by kernel_rfl) (by kernel_rfl) apUvar n h
theorem b45 : (Go.Proofs.Tryd.f45).body.map strip = some (sc_AppendNullableArrayLen 3 21 41) := by kernel_rfl
theorem apNArr (n : Nat) (x : Bool) (h : n ≤ most) : AP PP X.U8 45 #[.int .i64 n, .bool x] (fun _ _ => True) (counted false x n 4) := appendNullArr_ok Go.Proofs.Tryd.func45 b45 (by kernel_rfl) (by kernel_rfl) (by kernel_rfl) (by kernel_rfl) (by kernel_rfl) apI32 n x h
theorem b44 : (Go.Proofs.Tryd.f44).body.map strip = some (sc_AppendCompactNullableArrayLen 3 57 46) := by kernel_rfl
theorem apCNArr (n : Nat) (x : Bool) (h : n ≤ most) : AP PP X.U8 44 #[.int .i64 n, .bool x] (fun _ _ => True) (counted true x n 4) := appendCompactNullArr_ok Go.Proofs.Tryd.func44 b44 (by kernel_rfl) (by kernel_rfl) (by kernel_rfl) (by kernel_rfl) (by kernel_rfl) apUvar n x h
theorem b47 : (Go.Proofs.Tryd.f47).body.map strip = some (sc_TLen 48 46) := by kernel_rfl
theorem ok47 : FnOK PP 47 := fnOK_of Go.Proofs.Tryd.func47 b47 (by kernel_rfl)
theorem tLenC : FnOK PP 47 ∧ ∀ (w : World) (F : Nat → Prop) (b o : Nat) (u : List (Nat × Bytes)), HTags G0 w F b o u → Calls PP 47 #[.pointer (some ⟨b, o, none⟩)] w fun e w' => e = .returned (.int .i64 u.length) ∧ w = w' := ⟨ok47, fun w F b o u h => tagsLenN_ok (by kernel_rfl) (by kernel_rfl) (by kernel_rfl) Go.Proofs.Tryd.func47 b47 (by kernel_rfl) (by kernel_rfl) w F b o u h⟩
def rho : Shelf.Ren := ⟨fun n => match n with | 0 => 0 | 1 => 1 | 2 => 2 | 6 => 102 | 10 => 107 | 11 => 108 | 12 => 109 | 13 => 110 | 14 => 111 | 15 => 113 | 16 => 114 | 17 => 115 | 18 => 116 | 19 => 117 | 20 => 118 | 21 => 119 | 22 => 120 | 23 => 121 | 24 => 101 | 25 => 122 | 26 => 123 | 27 => 124 | 28 => 125 | 29 => 126 | 30 => 127 | 31 => 128 | 32 => 129 | 33 => 130 | 34 => 131 | 35 => 132 | 36 => 133 | 37 => 134 | 38 => 135 | 39 => 136 | 40 => 137 | 41 => 138 | 42 => 139 | 43 => 140 | 44 => 141 | 45 => 142 | 46 => 143 | 47 => 144 | 48 => 145 | 49 => 146 | 50 => 147 | 51 => 148 | 52 => 149 | 53 => 150 | 54 => 151 | 55 => 155 | 56 => 156 | 57 => 157 | 58 => 159 | _ => 0, fun n => match n with | 0 => 0 | 1 => 1 | 2 => 2 | 3 => 3 | 4 => 4 | 5 => 5 | 6 => 6 | 7 => 7 | 8 => 8 | 9 => 9 | 10 => 10 | 11 => 11 | 12 => 12 | 13 => 13 | 14 => 14 | 15 => 15 | 16 => 16 | 17 => 17 | 18 => 18 | 19 => 19 | 20 => 20 | 21 => 21 | 23 => 119 | 26 => 120 | 30 => 45 | 32 => 125 | 33 => 126 | 34 => 127 | 35 => 128 | 36 => 129 | 37 => 130 | 38 => 131 | 39 => 23 | 40 => 132 | 41 => 101 | 42 => 133 | 43 => 134 | 44 => 135 | 45 => 137 | 46 => 138 | 47 => 139 | 48 => 100 | 49 => 57 | 50 => 140 | 51 => 108 | 52 => 141 | 53 => 142 | 54 => 143 | 55 => 144 | 56 => 145 | 57 => 146 | 58 => 147 | 59 => 148 | 60 => 149 | 61 => 150 | 62 => 122 | 63 => 151 | 64 => 152 | 65 => 153 | 66 => 154 | 67 => 155 | 68 => 156 | 69 => 93 | 70 => 158 | 71 => 159 | 72 => 160 | 73 => 161 | 74 => 162 | 75 => 163 | 76 => 164 | 77 => 165 | 78 => 166 | 79 => 167 | 80 => 168 | 81 => 169 | 82 => 170 | 83 => 172 | 84 => 173 | _ => 0, fun n => n⟩
theorem laysGg : LaysGg.n6 PP rho where
  mixed := by kernel_rfl
  f6 := by kernel_rfl
  f10 := by kernel_rfl
  f11 := by kernel_rfl
  f12 := by kernel_rfl
  f13 := by kernel_rfl
  f14 := by kernel_rfl
  f24 := by kernel_rfl
  f25 := by kernel_rfl
  f26 := by kernel_rfl
  f27 := by kernel_rfl
  f28 := by kernel_rfl
  f29 := by kernel_rfl
  f30 := by kernel_rfl
  f31 := by kernel_rfl
  f32 := by kernel_rfl
  f33 := by kernel_rfl
  f34 := by kernel_rfl
  f35 := by kernel_rfl
  f36 := by kernel_rfl
  f37 := by kernel_rfl
  f38 := by kernel_rfl
  f39 := by kernel_rfl
  t0 := by kernel_rfl
  a0 := fun _ => by kernel_rfl
  z0 := fun _ => by kernel_rfl
  v0 := fun _ => by kernel_rfl
  i0 := by kernel_rfl
  t3 := by kernel_rfl
  a3 := fun _ => by kernel_rfl
  z3 := fun _ => by kernel_rfl
  v3 := fun _ => by kernel_rfl
  i3 := by kernel_rfl
  t4 := by kernel_rfl
  a4 := fun _ => by kernel_rfl
  z4 := fun _ => by kernel_rfl
  v4 := fun _ => by kernel_rfl
  i4 := by kernel_rfl
  t5 := by kernel_rfl
  a5 := fun _ => by kernel_rfl
  z5 := fun _ => by kernel_rfl
  v5 := fun _ => by kernel_rfl
  i5 := by kernel_rfl
  t9 := by kernel_rfl
  a9 := fun _ => by kernel_rfl
  z9 := fun _ => by kernel_rfl
  v9 := fun _ => by kernel_rfl
  i9 := by kernel_rfl
  t12 := by kernel_rfl
  a12 := fun _ => by kernel_rfl
  z12 := fun _ => by kernel_rfl
  v12 := fun _ => by kernel_rfl
  i12 := by kernel_rfl
  t17 := by kernel_rfl
  a17 := fun _ => by kernel_rfl
  z17 := fun _ => by kernel_rfl
  v17 := fun _ => by kernel_rfl
  i17 := by kernel_rfl
  t20 := by kernel_rfl
  a20 := fun _ => by kernel_rfl
  z20 := fun _ => by kernel_rfl
  v20 := fun _ => by kernel_rfl
  i20 := by kernel_rfl
  t26 := by kernel_rfl
  a26 := fun _ => by kernel_rfl
  z26 := fun _ => by kernel_rfl
  v26 := fun _ => by kernel_rfl
  i26 := by kernel_rfl
  t32 := by kernel_rfl
  a32 := fun _ => by kernel_rfl
  z32 := fun _ => by kernel_rfl
  v32 := fun _ => by kernel_rfl
  i32 := by kernel_rfl
  t33 := by kernel_rfl
  a33 := fun _ => by kernel_rfl
  z33 := fun _ => by kernel_rfl
  v33 := fun _ => by kernel_rfl
  i33 := by kernel_rfl
  t35 := by kernel_rfl
  a35 := fun _ => by kernel_rfl
  z35 := fun _ => by kernel_rfl
  v35 := fun _ => by kernel_rfl
  i35 := by kernel_rfl
  t37 := by kernel_rfl
  a37 := fun _ => by kernel_rfl
  z37 := fun _ => by kernel_rfl
  v37 := fun _ => by kernel_rfl
  i37 := by kernel_rfl
  t41 := by kernel_rfl
  a41 := fun _ => by kernel_rfl
  z41 := fun _ => by kernel_rfl
  v41 := fun _ => by kernel_rfl
  i41 := by kernel_rfl
  t44 := by kernel_rfl
  a44 := fun _ => by kernel_rfl
  z44 := fun _ => by kernel_rfl
  v44 := fun _ => by kernel_rfl
  i44 := by kernel_rfl
  t49 := by kernel_rfl
  a49 := fun _ => by kernel_rfl
  z49 := fun _ => by kernel_rfl
  v49 := fun _ => by kernel_rfl
  i49 := by kernel_rfl
  t51 := by kernel_rfl
  a51 := fun _ => by kernel_rfl
  z51 := fun _ => by kernel_rfl
  v51 := fun _ => by kernel_rfl
  i51 := by kernel_rfl
  t53 := by kernel_rfl
  a53 := fun _ => by kernel_rfl
  z53 := fun _ => by kernel_rfl
  v53 := fun _ => by kernel_rfl
  i53 := by kernel_rfl
  t54 := by kernel_rfl
  a54 := fun _ => by kernel_rfl
  z54 := fun _ => by kernel_rfl
  v54 := fun _ => by kernel_rfl
  i54 := by kernel_rfl
  t58 := by kernel_rfl
  a58 := fun _ => by kernel_rfl
  z58 := fun _ => by kernel_rfl
  v58 := fun _ => by kernel_rfl
  i58 := by kernel_rfl
  t60 := by kernel_rfl
  a60 := fun _ => by kernel_rfl
  z60 := fun _ => by kernel_rfl
  v60 := fun _ => by kernel_rfl
  i60 := by kernel_rfl
  t64 := by kernel_rfl
  a64 := fun _ => by kernel_rfl
  z64 := fun _ => by kernel_rfl
  v64 := fun _ => by kernel_rfl
  i64 := by kernel_rfl
  t66 := by kernel_rfl
  a66 := fun _ => by kernel_rfl
  z66 := fun _ => by kernel_rfl
  v66 := fun _ => by kernel_rfl
  i66 := by kernel_rfl
  t67 := by kernel_rfl
  a67 := fun _ => by kernel_rfl
  z67 := fun _ => by kernel_rfl
  v67 := fun _ => by kernel_rfl
  i67 := by kernel_rfl
  t75 := by kernel_rfl
  a75 := fun _ => by kernel_rfl
  z75 := fun _ => by kernel_rfl
  v75 := fun _ => by kernel_rfl
  i75 := by kernel_rfl
  t76 := by kernel_rfl
  a76 := fun _ => by kernel_rfl
  z76 := fun _ => by kernel_rfl
  v76 := fun _ => by kernel_rfl
  i76 := by kernel_rfl
  t77 := by kernel_rfl
  a77 := fun _ => by kernel_rfl
  z77 := fun _ => by kernel_rfl
  v77 := fun _ => by kernel_rfl
  i77 := by kernel_rfl
  t78 := by kernel_rfl
  a78 := fun _ => by kernel_rfl
  z78 := fun _ => by kernel_rfl
  v78 := fun _ => by kernel_rfl
  i78 := by kernel_rfl
  t79 := by kernel_rfl
  a79 := fun _ => by kernel_rfl
  z79 := fun _ => by kernel_rfl
  v79 := fun _ => by kernel_rfl
  i79 := by kernel_rfl
  t80 := by kernel_rfl
  a80 := fun _ => by kernel_rfl
  z80 := fun _ => by kernel_rfl
  v80 := fun _ => by kernel_rfl
  i80 := by kernel_rfl
  t82 := by kernel_rfl
  a82 := fun _ => by kernel_rfl
  z82 := fun _ => by kernel_rfl
  v82 := fun _ => by kernel_rfl
  i82 := by kernel_rfl
theorem b103 : (Go.Proofs.Tryd.f103).body.map strip = some (sc_Each1 118 57) := by kernel_rfl
theorem ok103 : FnOK PP 103 := fnOK_of Go.Proofs.Tryd.func103 b103 (by kernel_rfl)
theorem b82 : (Go.Proofs.Tryd.f82).body.map strip = some (sc_AppendEach1 22 3 57 46) := by kernel_rfl
theorem ok82 : FnOK PP 82 := fnOK_of Go.Proofs.Tryd.func82 b82 (by kernel_rfl)
theorem b81 : (Go.Proofs.Tryd.f81).body.map strip = some (sc_TEach 48 46 3 118 57 102 103) := by kernel_rfl
theorem ok81 : FnOK PP 81 := fnOK_of Go.Proofs.Tryd.func81 b81 (by kernel_rfl)
theorem b48 : (Go.Proofs.Tryd.f48).body.map strip = some (sc_TAppendEach 22 81 (.func 82)) := by kernel_rfl
theorem ok48 : FnOK PP 48 := fnOK_of Go.Proofs.Tryd.func48 b48 (by kernel_rfl)
theorem okS : FnOK PP 102 := ⟨_, Go.Proofs.Tryd.func102, (by kernel_rfl), (by kernel_rfl)⟩
noncomputable def siT : TypeInfo := (PP.info? 118).get (by kernel_rfl)
noncomputable def siE : TypeInfo := (PP.info? 57).get (by kernel_rfl)
noncomputable def siTz : Value := siT.zero.get (by kernel_rfl)
noncomputable def siEz : Value := siE.zero.get (by kernel_rfl)
theorem siK (n : Nat) : Lib.swapperK n siE 10 = if n = 0 then 1 else if n = 1 then 2 else 6 := by
  have a : siE.hasPointers = false := by kernel_rfl
  have b : siE.bytes = 4 := by kernel_rfl
  unfold Lib.swapperK
  rw [a, b]
  by_cases h0 : n = 0
  · simp [h0]
  · by_cases h1 : n = 1
    · simp [h1]
    · simp [h0, h1]
def swF (n : Nat) : Nat := if n = 0 then 113 else if n = 1 then 114 else 118
theorem swOK (n : Nat) : PP.funcs.findIdx? (·.name == "internal/reflectlite" ++ ".Swapper$" ++ toString (Lib.swapperK n siE 10)) = some (swF n) := by
  rw [siK]
  unfold swF
  by_cases h0 : n = 0
  · simp only [h0, if_true]; kernel_rfl
  · by_cases h1 : n = 1
    · subst h1; kernel_rfl
    · simp only [h0, h1, if_false]; kernel_rfl
theorem sortOK : SortC PP 102 103 118 57 := sortC laysGg hm (by kernel_rfl) (by kernel_rfl) (by kernel_rfl) (i := siT) (ie := siE) (by kernel_rfl) (by kernel_rfl) (by kernel_rfl) (by kernel_rfl) 10 (fun _ => by kernel_rfl) (by kernel_rfl) Go.Proofs.Tryd.func103 b103 (by kernel_rfl) (by kernel_rfl) okS ok103 swF swOK true (fun n args W h => by
  have e : swF n = 118 := by unfold swF; rw [if_neg (by omega), if_neg (by omega)]
  rw [e]
  exact run_callFunc_extern Go.Proofs.Tryd.func118 (by kernel_rfl) (by kernel_rfl) (by kernel_rfl) (e := Extern.ReflectliteSwapper.swap true) (by kernel_rfl) args W)
theorem eachC : EachC PP X.U8 22 82 G0 81 := each_ok (TU := 118) (T32 := 57) (i32 := siE) (iU := siT) (z32 := siEz) (zU := siTz) (by kernel_rfl) (by kernel_rfl) (by kernel_rfl) (by kernel_rfl) (by kernel_rfl) (by kernel_rfl) (by kernel_rfl) (by kernel_rfl) (by kernel_rfl) (by kernel_rfl) (by decide +kernel) (by kernel_rfl) (by kernel_rfl) (by kernel_rfl) sortOK ok82 (fun w B c k cap dv xs bs base h1 h2 h3 h4 h5 h6 h7 h8 => cl_ok (by kernel_rfl) (by kernel_rfl) (by kernel_rfl) (by kernel_rfl) (by kernel_rfl) apUvar2 Go.Proofs.Tryd.func82 b82 (by kernel_rfl) (by kernel_rfl) w B c k cap dv xs bs base h1 h2 h3 h4 h5 h6 h7 h8) Go.Proofs.Tryd.func81 b81 (by kernel_rfl) (by kernel_rfl)
theorem tEachC : FnOK PP 48 ∧ ∀ (w : World) (B b o : Nat) (u : List (Nat × Bytes)) (dv : Value) (xs : Bytes), HTags G0 w (· < B) b o u → b < B → Own X.U8 w B dv xs → B ≤ w.heap.size → xs.length + (u.flatMap wTag).length ≤ lim →
    Calls PP 48 #[.pointer (some ⟨b, o, none⟩), dv] w fun e w' => ∃ dv', e = .returned dv' ∧ Own X.U8 w' B dv' (xs ++ u.flatMap wTag) ∧ Below B w w' ∧ B ≤ w'.heap.size := ⟨ok48, fun w B b o u dv xs h1 h2 h3 h4 h5 => appendEachN_ok (by kernel_rfl) ok81 eachC Go.Proofs.Tryd.func48 b48 (by kernel_rfl) (by kernel_rfl) w B b o u dv xs h1 h2 h3 h4 h5⟩
theorem ka : KA G0 PP ids X.U8 where
  bool := fun _ => apBool
  i8 := fun _ => apI8
  i16 := fun _ => apI16
  i32 := fun _ => apI32
  i64 := fun _ => apI64
  u16 := fun _ => apU16
  uuid := fun _ => apUuid
  str := fun _ => apStr
  cstr := fun _ => apCStr
  nstr0 := fun _ => apNStr0
  nstr := fun _ b o s h => apNStr b o s h
  cnstr0 := fun _ => apCNStr0
  cnstr := fun _ b o s h => apCNStr b o s h
  bytes := fun _ => apBytes
  cbytes := fun _ => apCBytes
  nbytes := fun h => absurd rfl h
  nbytes0 := fun h => absurd rfl h
  cnbytes := fun h => absurd rfl h
  cnbytes0 := fun h => absurd rfl h
  arr := fun _ => apArr
  carr := fun _ => apCArr
  narr := fun _ => apNArr
  cnarr := fun _ => apCNArr
  uvar := fun _ => apUvar
  tagsLen := fun _ => tLenC
  tagsEach := fun _ => tEachC
end Go.Proofs.YtjcndcolfllibaaDoor.K
