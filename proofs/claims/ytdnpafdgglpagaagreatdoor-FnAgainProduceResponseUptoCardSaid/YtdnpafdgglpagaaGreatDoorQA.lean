/- What this seat's program is: the functions that write. No condition. -/
import Derived.Test.YtdnpafdgglpagaaGreatDoorQX
import Derived.Test.YtdnpafdgglpagaaGreatDoorN13
namespace Go.Proofs.YtdnpafdgglpagaaGreatDoor.K
open Go Go.RowKit Go.Proofs Go.Proofs.YtdnpafdgglpagaaGreatDoor.T
set_option linter.unusedVariables false
def ids : Ids := { tI16 := 40, tInt := 3, tU32 := 53, tI8 := 0, tU8s := 22, tI32 := 21, tBool := 4, aBool := 0, aI8 := 0, aI16 := 38, aI32 := 37, aI64 := 39, aU16 := 81, aUuid := 36, aStr := 35, aCStr := 34, aNStr := 41, aCNStr := 40, aBytes := 0, aCBytes := 0, aNBytes := 0, aCNBytes := 0, aArr := 33, aCArr := 32, aNArr := 0, aCNArr := 0, aUvar := 42, tagsLen := 43, tagsEach := 44, tU32s := 96, kNew := 46, kSame := 45 }
theorem b81 : (Go.Proofs.Tryz.f81).body.map strip = some (sc_AppendUint16 125 108 5 22) := by kernel_rfl
theorem apU16 (n : Int) : AP PP X.U8 81 #[.int .u16 n] (fun _ _ => True) (fixed n 2) := appendU16_ok Go.Proofs.Tryz.func81 b81 (by kernel_rfl) (by kernel_rfl) (by kernel_rfl) (by kernel_rfl) (by kernel_rfl) (by kernel_rfl) n
theorem b80 : (Go.Proofs.Tryz.f80).body.map strip = some (sc_AppendUint32 53 108 5 22) := by kernel_rfl
theorem apU32 (n : Int) : AP PP X.U8 80 #[.int .u32 n] (fun _ _ => True) (fixed n 4) := appendU32_ok Go.Proofs.Tryz.func80 b80 (by kernel_rfl) (by kernel_rfl) (by kernel_rfl) (by kernel_rfl) (by kernel_rfl) (by kernel_rfl) n
theorem b82 : (Go.Proofs.Tryz.f82).body.map strip = some (sc_appendUint64 70 108 5 22) := by kernel_rfl
theorem apU64 (n : Int) : AP PP X.U8 82 #[.int .u64 n] (fun _ _ => True) (fixed n 8) := appendU64_ok Go.Proofs.Tryz.func82 b82 (by kernel_rfl) (by kernel_rfl) (by kernel_rfl) (by kernel_rfl) (by kernel_rfl) (by kernel_rfl) n
theorem b38 : (Go.Proofs.Tryz.f38).body.map strip = some (sc_AppendInt16 40 125 81) := by kernel_rfl
theorem apI16 (n : Int) : AP PP X.U8 38 #[.int .i16 n] (fun _ _ => True) (fixed n 2) := appendI16_ok Go.Proofs.Tryz.func38 b38 (by kernel_rfl) (by kernel_rfl) (by kernel_rfl) (by kernel_rfl) (by kernel_rfl) apU16 n
theorem b37 : (Go.Proofs.Tryz.f37).body.map strip = some (sc_AppendInt32 21 53 80) := by kernel_rfl
theorem apI32 (n : Int) : AP PP X.U8 37 #[.int .i32 n] (fun _ _ => True) (fixed n 4) := appendI32_ok Go.Proofs.Tryz.func37 b37 (by kernel_rfl) (by kernel_rfl) (by kernel_rfl) (by kernel_rfl) (by kernel_rfl) apU32 n
theorem b39 : (Go.Proofs.Tryz.f39).body.map strip = some (sc_AppendInt64 2 70 82) := by kernel_rfl
theorem apI64 (n : Int) : AP PP X.U8 39 #[.int .i64 n] (fun _ _ => True) (fixed n 8) := appendI64_ok Go.Proofs.Tryz.func39 b39 (by kernel_rfl) (by kernel_rfl) (by kernel_rfl) (by kernel_rfl) (by kernel_rfl) apU64 n
theorem b92 : (Go.Proofs.Tryz.f92).body.map strip = some (sc_Len32 53 108 3 5 9) := by kernel_rfl
theorem ok92 : FnOK PP 92 := fnOK_of Go.Proofs.Tryz.func92 b92 (by kernel_rfl)
theorem b83 : (Go.Proofs.Tryz.f83).body.map strip = some (sc_UvarintLen 3 5 9 92) := by kernel_rfl
theorem ok83 : FnOK PP 83 := fnOK_of Go.Proofs.Tryz.func83 b83 (by kernel_rfl)
theorem b42 : (Go.Proofs.Tryz.f42).body.map strip = some (sc_AppendUvarint 3 53 5 108 22 83) := by kernel_rfl
theorem apUvar2 (n : Nat) (h : n < 4294967296) : AP2 PP X.U8 42 #[.int .u32 (n : Int)] (uvarint n) := appendUvarint2_ok Go.Proofs.Tryz.func42 b42 (by kernel_rfl) (by kernel_rfl) (by kernel_rfl) (by kernel_rfl) (by kernel_rfl) (by kernel_rfl) ok83 (fun n w h => uvarintLen_ok Go.Proofs.Tryz.func83 b83 (by kernel_rfl) (by kernel_rfl) (by kernel_rfl) (by kernel_rfl) (by kernel_rfl) ok92 (fun n w h => len32_ok Go.Proofs.Tryz.func92 b92 (by kernel_rfl) (by kernel_rfl) (by kernel_rfl) (by kernel_rfl) (by kernel_rfl) (by kernel_rfl) n h w) n h w) n h
theorem apUvar (n : Nat) (h : n < 4294967296) : AP PP X.U8 42 #[.int .u32 (n : Int)] (fun _ _ => True) (uvarint n) := appendUvarint_ok Go.Proofs.Tryz.func42 b42 (by kernel_rfl) (by kernel_rfl) (by kernel_rfl) (by kernel_rfl) (by kernel_rfl) (by kernel_rfl) ok83 (fun n w h => uvarintLen_ok Go.Proofs.Tryz.func83 b83 (by kernel_rfl) (by kernel_rfl) (by kernel_rfl) (by kernel_rfl) (by kernel_rfl) ok92 (fun n w h => len32_ok Go.Proofs.Tryz.func92 b92 (by kernel_rfl) (by kernel_rfl) (by kernel_rfl) (by kernel_rfl) (by kernel_rfl) (by kernel_rfl) n h w) n h w) n h
theorem b36 : (Go.Proofs.Tryz.f36).body.map strip = some (sc_AppendUuid 75 22) := by kernel_rfl
theorem apUuid (bs : Bytes) (h : bs.length = 16) : AP PP X.U8 36 #[.agg (cellsOf bs).toArray] (fun _ _ => True) (bs) := appendUuid_ok Go.Proofs.Tryz.func36 b36 (by kernel_rfl) (by kernel_rfl) (by kernel_rfl) (by kernel_rfl) (by kernel_rfl) bs h
theorem b35 : (Go.Proofs.Tryz.f35).body.map strip = some (sc_AppendString 9 3 40 22 38) := by kernel_rfl
theorem apStr (s : ByteArray) (h : s.data.toList.length ≤ most) : AP PP X.U8 35 #[.string s] (fun _ _ => True) (counted false false s.data.toList.length 2 ++ s.data.toList) := appendString_ok Go.Proofs.Tryz.func35 b35 (by kernel_rfl) (by kernel_rfl) (by kernel_rfl) (by kernel_rfl) (by kernel_rfl) (by kernel_rfl) (by kernel_rfl) apI16 s h
theorem b34 : (Go.Proofs.Tryz.f34).body.map strip = some (sc_AppendCompactString 9 3 53 22 42) := by kernel_rfl
theorem apCStr (s : ByteArray) (h : s.data.toList.length ≤ most) : AP PP X.U8 34 #[.string s] (fun _ _ => True) (counted true false s.data.toList.length 2 ++ s.data.toList) := appendCompactString_ok Go.Proofs.Tryz.func34 b34 (by kernel_rfl) (by kernel_rfl) (by kernel_rfl) (by kernel_rfl) (by kernel_rfl) (by kernel_rfl) (by kernel_rfl) apUvar s h
theorem b41 : (Go.Proofs.Tryz.f41).body.map strip = some (sc_AppendNullableString 83 9 38 35) := by kernel_rfl
theorem apNStr0 : AP PP X.U8 41 #[.pointer none] (fun _ _ => True) (counted false true 0 2) := appendNullStr0_ok (compact := false) Go.Proofs.Tryz.func41 b41 (by kernel_rfl) (by kernel_rfl) (by kernel_rfl) (by kernel_rfl) (by have h := apI16 (-1); simpa [counted, uvarint_lt] using h)
theorem apNStr (b o : Nat) (s : ByteArray) (h : s.data.toList.length ≤ most) : AP PP X.U8 41 #[.pointer (some ⟨b, o, none⟩)] (fun w B => b < B ∧ w.cell? ⟨b, o, none⟩ = some (.string s)) (counted false false s.data.toList.length 2 ++ s.data.toList) := appendNullStr_ok (compact := false) Go.Proofs.Tryz.func41 b41 (by kernel_rfl) (by kernel_rfl) (by kernel_rfl) (by kernel_rfl) (by kernel_rfl) s (apStr s h) b o
theorem b40 : (Go.Proofs.Tryz.f40).body.map strip = some (sc_AppendCompactNullableString 83 9 42 34) := by kernel_rfl
theorem apCNStr0 : AP PP X.U8 40 #[.pointer none] (fun _ _ => True) (counted true true 0 2) := appendNullStr0_ok (compact := true) Go.Proofs.Tryz.func40 b40 (by kernel_rfl) (by kernel_rfl) (by kernel_rfl) (by kernel_rfl) (by have h := apUvar 0 (by decide); simpa [counted, uvarint_lt] using h)
theorem apCNStr (b o : Nat) (s : ByteArray) (h : s.data.toList.length ≤ most) : AP PP X.U8 40 #[.pointer (some ⟨b, o, none⟩)] (fun w B => b < B ∧ w.cell? ⟨b, o, none⟩ = some (.string s)) (counted true false s.data.toList.length 2 ++ s.data.toList) := appendNullStr_ok (compact := true) Go.Proofs.Tryz.func40 b40 (by kernel_rfl) (by kernel_rfl) (by kernel_rfl) (by kernel_rfl) (by kernel_rfl) s (apCStr s h) b o
theorem b33 : (Go.Proofs.Tryz.f33).body.map strip = some (sc_AppendArrayLen 3 21 37) := by kernel_rfl
theorem apArr (n : Nat) (h : n ≤ most) : AP PP X.U8 33 #[.int .i64 n] (fun _ _ => True) (counted false false n 4) := appendArrayLen_ok Go.Proofs.Tryz.func33 b33 (by kernel_rfl) (by kernel_rfl) (by kernel_rfl) (by kernel_rfl) (by kernel_rfl) apI32 n h
theorem b32 : (Go.Proofs.Tryz.f32).body.map strip = some (sc_AppendCompactArrayLen 3 53 42) := by kernel_rfl
theorem apCArr (n : Nat) (h : n ≤ most) : AP PP X.U8 32 #[.int .i64 n] (fun _ _ => True) (counted true false n 4) := appendCompactArrayLen_ok Go.Proofs.Tryz.func32 b32 (by kernel_rfl) (by kernel_rfl) (by kernel_rfl) (by kernel_rfl) (by kernel_rfl) apUvar n h
theorem b43 : (Go.Proofs.Tryz.f43).body.map strip = some (sc_TLen 61 59) := by kernel_rfl
theorem ok43 : FnOK PP 43 := fnOK_of Go.Proofs.Tryz.func43 b43 (by kernel_rfl)
theorem tLenC : FnOK PP 43 ∧ ∀ (w : World) (F : Nat → Prop) (b o : Nat) (u : List (Nat × Bytes)), HTags G0 w F b o u → Calls PP 43 #[.pointer (some ⟨b, o, none⟩)] w fun e w' => e = .returned (.int .i64 u.length) ∧ w = w' := ⟨ok43, fun w F b o u h => tagsLenN_ok (by kernel_rfl) (by kernel_rfl) (by kernel_rfl) Go.Proofs.Tryz.func43 b43 (by kernel_rfl) (by kernel_rfl) w F b o u h⟩
def rho : Shelf.Ren := ⟨fun n => match n with | 0 => 0 | 1 => 1 | 2 => 2 | 6 => 93 | 10 => 96 | 11 => 97 | 12 => 98 | 13 => 99 | 14 => 100 | 15 => 101 | 16 => 102 | 17 => 103 | 18 => 104 | 19 => 105 | 20 => 106 | 21 => 107 | 22 => 108 | 23 => 109 | 24 => 92 | 25 => 110 | 26 => 111 | 27 => 112 | 28 => 113 | 29 => 114 | 30 => 115 | 31 => 116 | 32 => 117 | 33 => 118 | 34 => 119 | 35 => 120 | 36 => 121 | 37 => 122 | 38 => 123 | 39 => 124 | 40 => 125 | 41 => 126 | 42 => 127 | 43 => 128 | 44 => 129 | 45 => 130 | 46 => 131 | 47 => 132 | 48 => 133 | 49 => 134 | 50 => 135 | 51 => 136 | 52 => 137 | 53 => 138 | 54 => 139 | 55 => 142 | 56 => 143 | 57 => 144 | 58 => 146 | _ => 0, fun n => match n with | 0 => 0 | 1 => 1 | 2 => 2 | 3 => 3 | 4 => 4 | 5 => 5 | 6 => 6 | 7 => 7 | 8 => 8 | 9 => 9 | 10 => 10 | 11 => 11 | 12 => 12 | 13 => 13 | 14 => 14 | 15 => 15 | 16 => 16 | 17 => 17 | 18 => 18 | 19 => 19 | 20 => 20 | 21 => 21 | 23 => 139 | 26 => 140 | 32 => 142 | 33 => 143 | 34 => 144 | 35 => 145 | 36 => 146 | 37 => 147 | 38 => 148 | 39 => 28 | 40 => 149 | 41 => 108 | 42 => 150 | 43 => 151 | 44 => 152 | 45 => 153 | 46 => 154 | 47 => 155 | 48 => 127 | 49 => 53 | 50 => 156 | 51 => 70 | 52 => 157 | 53 => 158 | 54 => 159 | 55 => 160 | 56 => 161 | 57 => 162 | 58 => 163 | 59 => 164 | 60 => 165 | 61 => 166 | 62 => 136 | 63 => 167 | 64 => 168 | 65 => 169 | 66 => 170 | 67 => 171 | 68 => 172 | 69 => 114 | 70 => 174 | 71 => 175 | 72 => 176 | 73 => 177 | 74 => 178 | 75 => 179 | 76 => 180 | 77 => 181 | 78 => 182 | 79 => 183 | 80 => 184 | 81 => 185 | 82 => 186 | 83 => 187 | 84 => 188 | _ => 0, fun n => n⟩
theorem laysGg : LaysGg.n6 PP rho where
  mixed := by kernel_rfl
  f6 := by kernel_rfl
  f10 := by kernel_rfl
  f11 := by kernel_rfl
  f12 := by kernel_rfl
  f13 := by kernel_rfl
  f14 := by kernel_rfl
  f24 := by kernel_rfl
  f25 := by kernel_rfl
  f26 := by kernel_rfl
  f27 := by kernel_rfl
  f28 := by kernel_rfl
  f29 := by kernel_rfl
  f30 := by kernel_rfl
  f31 := by kernel_rfl
  f32 := by kernel_rfl
  f33 := by kernel_rfl
  f34 := by kernel_rfl
  f35 := by kernel_rfl
  f36 := by kernel_rfl
  f37 := by kernel_rfl
  f38 := by kernel_rfl
  f39 := by kernel_rfl
  t0 := by kernel_rfl
  a0 := fun _ => by kernel_rfl
  z0 := fun _ => by kernel_rfl
  v0 := fun _ => by kernel_rfl
  i0 := by kernel_rfl
  t3 := by kernel_rfl
  a3 := fun _ => by kernel_rfl
  z3 := fun _ => by kernel_rfl
  v3 := fun _ => by kernel_rfl
  i3 := by kernel_rfl
  t4 := by kernel_rfl
  a4 := fun _ => by kernel_rfl
  z4 := fun _ => by kernel_rfl
  v4 := fun _ => by kernel_rfl
  i4 := by kernel_rfl
  t5 := by kernel_rfl
  a5 := fun _ => by kernel_rfl
  z5 := fun _ => by kernel_rfl
  v5 := fun _ => by kernel_rfl
  i5 := by kernel_rfl
  t9 := by kernel_rfl
  a9 := fun _ => by kernel_rfl
  z9 := fun _ => by kernel_rfl
  v9 := fun _ => by kernel_rfl
  i9 := by kernel_rfl
  t12 := by kernel_rfl
  a12 := fun _ => by kernel_rfl
  z12 := fun _ => by kernel_rfl
  v12 := fun _ => by kernel_rfl
  i12 := by kernel_rfl
  t17 := by kernel_rfl
  a17 := fun _ => by kernel_rfl
  z17 := fun _ => by kernel_rfl
  v17 := fun _ => by kernel_rfl
  i17 := by kernel_rfl
  t20 := by kernel_rfl
  a20 := fun _ => by kernel_rfl
  z20 := fun _ => by kernel_rfl
  v20 := fun _ => by kernel_rfl
  i20 := by kernel_rfl
  t26 := by kernel_rfl
  a26 := fun _ => by kernel_rfl
  z26 := fun _ => by kernel_rfl
  v26 := fun _ => by kernel_rfl
  i26 := by kernel_rfl
  t32 := by kernel_rfl
  a32 := fun _ => by kernel_rfl
  z32 := fun _ => by kernel_rfl
  v32 := fun _ => by kernel_rfl
  i32 := by kernel_rfl
  t33 := by kernel_rfl
  a33 := fun _ => by kernel_rfl
  z33 := fun _ => by kernel_rfl
  v33 := fun _ => by kernel_rfl
  i33 := by kernel_rfl
  t35 := by kernel_rfl
  a35 := fun _ => by kernel_rfl
  z35 := fun _ => by kernel_rfl
  v35 := fun _ => by kernel_rfl
  i35 := by kernel_rfl
  t37 := by kernel_rfl
  a37 := fun _ => by kernel_rfl
  z37 := fun _ => by kernel_rfl
  v37 := fun _ => by kernel_rfl
  i37 := by kernel_rfl
  t41 := by kernel_rfl
  a41 := fun _ => by kernel_rfl
  z41 := fun _ => by kernel_rfl
  v41 := fun _ => by kernel_rfl
  i41 := by kernel_rfl
  t44 := by kernel_rfl
  a44 := fun _ => by kernel_rfl
  z44 := fun _ => by kernel_rfl
  v44 := fun _ => by kernel_rfl
  i44 := by kernel_rfl
  t49 := by kernel_rfl
  a49 := fun _ => by kernel_rfl
  z49 := fun _ => by kernel_rfl
  v49 := fun _ => by kernel_rfl
  i49 := by kernel_rfl
  t51 := by kernel_rfl
  a51 := fun _ => by kernel_rfl
  z51 := fun _ => by kernel_rfl
  v51 := fun _ => by kernel_rfl
  i51 := by kernel_rfl
  t53 := by kernel_rfl
  a53 := fun _ => by kernel_rfl
  z53 := fun _ => by kernel_rfl
  v53 := fun _ => by kernel_rfl
  i53 := by kernel_rfl
  t54 := by kernel_rfl
  a54 := fun _ => by kernel_rfl
  z54 := fun _ => by kernel_rfl
  v54 := fun _ => by kernel_rfl
  i54 := by kernel_rfl
  t58 := by kernel_rfl
  a58 := fun _ => by kernel_rfl
  z58 := fun _ => by kernel_rfl
  v58 := fun _ => by kernel_rfl
  i58 := by kernel_rfl
  t60 := by kernel_rfl
  a60 := fun _ => by kernel_rfl
  z60 := fun _ => by kernel_rfl
  v60 := fun _ => by kernel_rfl
  i60 := by kernel_rfl
  t64 := by kernel_rfl
  a64 := fun _ => by kernel_rfl
  z64 := fun _ => by kernel_rfl
  v64 := fun _ => by kernel_rfl
  i64 := by kernel_rfl
  t66 := by kernel_rfl
  a66 := fun _ => by kernel_rfl
  z66 := fun _ => by kernel_rfl
  v66 := fun _ => by kernel_rfl
  i66 := by kernel_rfl
  t67 := by kernel_rfl
  a67 := fun _ => by kernel_rfl
  z67 := fun _ => by kernel_rfl
  v67 := fun _ => by kernel_rfl
  i67 := by kernel_rfl
  t75 := by kernel_rfl
  a75 := fun _ => by kernel_rfl
  z75 := fun _ => by kernel_rfl
  v75 := fun _ => by kernel_rfl
  i75 := by kernel_rfl
  t76 := by kernel_rfl
  a76 := fun _ => by kernel_rfl
  z76 := fun _ => by kernel_rfl
  v76 := fun _ => by kernel_rfl
  i76 := by kernel_rfl
  t77 := by kernel_rfl
  a77 := fun _ => by kernel_rfl
  z77 := fun _ => by kernel_rfl
  v77 := fun _ => by kernel_rfl
  i77 := by kernel_rfl
  t78 := by kernel_rfl
  a78 := fun _ => by kernel_rfl
  z78 := fun _ => by kernel_rfl
  v78 := fun _ => by kernel_rfl
  i78 := by kernel_rfl
  t79 := by kernel_rfl
  a79 := fun _ => by kernel_rfl
  z79 := fun _ => by kernel_rfl
  v79 := fun _ => by kernel_rfl
  i79 := by kernel_rfl
  t80 := by kernel_rfl
  a80 := fun _ => by kernel_rfl
  z80 := fun _ => by kernel_rfl
  v80 := fun _ => by kernel_rfl
  i80 := by kernel_rfl
  t82 := by kernel_rfl
  a82 := fun _ => by kernel_rfl
  z82 := fun _ => by kernel_rfl
  v82 := fun _ => by kernel_rfl
  i82 := by kernel_rfl
theorem b94 : (Go.Proofs.Tryz.f94).body.map strip = some (sc_Each1 96 53) := by kernel_rfl
theorem ok94 : FnOK PP 94 := fnOK_of Go.Proofs.Tryz.func94 b94 (by kernel_rfl)
theorem b85 : (Go.Proofs.Tryz.f85).body.map strip = some (sc_AppendEach1 22 3 53 42) := by kernel_rfl
theorem ok85 : FnOK PP 85 := fnOK_of Go.Proofs.Tryz.func85 b85 (by kernel_rfl)
theorem b84 : (Go.Proofs.Tryz.f84).body.map strip = some (sc_TEach 61 59 3 96 53 93 94) := by kernel_rfl
theorem ok84 : FnOK PP 84 := fnOK_of Go.Proofs.Tryz.func84 b84 (by kernel_rfl)
theorem b44 : (Go.Proofs.Tryz.f44).body.map strip = some (sc_TAppendEach 22 84 (.func 85)) := by kernel_rfl
theorem ok44 : FnOK PP 44 := fnOK_of Go.Proofs.Tryz.func44 b44 (by kernel_rfl)
theorem okS : FnOK PP 93 := ⟨_, Go.Proofs.Tryz.func93, (by kernel_rfl), (by kernel_rfl)⟩
noncomputable def siT : TypeInfo := (PP.info? 96).get (by kernel_rfl)
noncomputable def siE : TypeInfo := (PP.info? 53).get (by kernel_rfl)
noncomputable def siTz : Value := siT.zero.get (by kernel_rfl)
noncomputable def siEz : Value := siE.zero.get (by kernel_rfl)
theorem siK (n : Nat) : Lib.swapperK n siE 10 = if n = 0 then 1 else if n = 1 then 2 else 6 := by
  have a : siE.hasPointers = false := by kernel_rfl
  have b : siE.bytes = 4 := by kernel_rfl
  unfold Lib.swapperK
  rw [a, b]
  by_cases h0 : n = 0
  · simp [h0]
  · by_cases h1 : n = 1
    · simp [h1]
    · simp [h0, h1]
def swF (n : Nat) : Nat := if n = 0 then 101 else if n = 1 then 102 else 106
theorem swOK (n : Nat) : PP.funcs.findIdx? (·.name == "internal/reflectlite" ++ ".Swapper$" ++ toString (Lib.swapperK n siE 10)) = some (swF n) := by
  rw [siK]
  unfold swF
  by_cases h0 : n = 0
  · simp only [h0, if_true]; kernel_rfl
  · by_cases h1 : n = 1
    · subst h1; kernel_rfl
    · simp only [h0, h1, if_false]; kernel_rfl
theorem sortOK : SortC PP 93 94 96 53 := sortC laysGg hm (by kernel_rfl) (by kernel_rfl) (by kernel_rfl) (i := siT) (ie := siE) (by kernel_rfl) (by kernel_rfl) (by kernel_rfl) (by kernel_rfl) 10 (fun _ => by kernel_rfl) (by kernel_rfl) Go.Proofs.Tryz.func94 b94 (by kernel_rfl) (by kernel_rfl) okS ok94 swF swOK true (fun n args W h => by
  have e : swF n = 106 := by unfold swF; rw [if_neg (by omega), if_neg (by omega)]
  rw [e]
  exact run_callFunc_extern Go.Proofs.Tryz.func106 (by kernel_rfl) (by kernel_rfl) (by kernel_rfl) (e := Extern.ReflectliteSwapper.swap true) (by kernel_rfl) args W)
theorem eachC : EachC PP X.U8 22 85 G0 84 := each_ok (TU := 96) (T32 := 53) (i32 := siE) (iU := siT) (z32 := siEz) (zU := siTz) (by kernel_rfl) (by kernel_rfl) (by kernel_rfl) (by kernel_rfl) (by kernel_rfl) (by kernel_rfl) (by kernel_rfl) (by kernel_rfl) (by kernel_rfl) (by kernel_rfl) (by decide +kernel) (by kernel_rfl) (by kernel_rfl) (by kernel_rfl) sortOK ok85 (fun w B c k cap dv xs bs base h1 h2 h3 h4 h5 h6 h7 h8 => cl_ok (by kernel_rfl) (by kernel_rfl) (by kernel_rfl) (by kernel_rfl) (by kernel_rfl) apUvar2 Go.Proofs.Tryz.func85 b85 (by kernel_rfl) (by kernel_rfl) w B c k cap dv xs bs base h1 h2 h3 h4 h5 h6 h7 h8) Go.Proofs.Tryz.func84 b84 (by kernel_rfl) (by kernel_rfl)
theorem tEachC : FnOK PP 44 ∧ ∀ (w : World) (B b o : Nat) (u : List (Nat × Bytes)) (dv : Value) (xs : Bytes), HTags G0 w (· < B) b o u → b < w.heap.size → dv.ownBlock ≠ some b → Own X.U8 w B dv xs → B ≤ w.heap.size → xs.length + (u.flatMap wTag).length ≤ lim →
    Calls PP 44 #[.pointer (some ⟨b, o, none⟩), dv] w fun e w' => ∃ dv', e = .returned dv' ∧ Own X.U8 w' B dv' (xs ++ u.flatMap wTag) ∧ BelG B dv dv' w w' ∧ B ≤ w'.heap.size := ⟨ok44, fun w B b o u dv xs h1 h2 h3 h4 h5 h6 => appendEachN_ok (by kernel_rfl) ok84 eachC Go.Proofs.Tryz.func44 b44 (by kernel_rfl) (by kernel_rfl) w B b o u dv xs h1 h2 h3 h4 h5 h6⟩
theorem apU32b (n : Int) : AP2 PP X.U8 80 #[.int .u32 n] (fixed n 4) := appendU32b_ok Go.Proofs.Tryz.func80 b80 (by kernel_rfl) (by kernel_rfl) (by kernel_rfl) (by kernel_rfl) (by kernel_rfl) (by kernel_rfl) n
theorem apI32b (n : Int) : AP2 PP X.U8 37 #[.int .i32 n] (fixed n 4) := appendI32b_ok Go.Proofs.Tryz.func37 b37 (by kernel_rfl) (by kernel_rfl) (by kernel_rfl) (by kernel_rfl) (by kernel_rfl) apU32b n
def tsBody : SC := .block 1 (.seq (.reg [⟨some 30, .entry (.tmp 27), none⟩, ⟨some 31, .extract (.tmp 30) 0, none⟩, ⟨some 32, .extract (.tmp 30) 1, none⟩, asg 5 31, asg 6 32]) (.seq (.reg [fa 34 61 3 0, ld 35 59 34, mv 36 5, ⟨some 37, .lookup 59 (.tmp 35) (.tmp 36) true, none⟩, mv 33 37, ⟨some 38, .extract (.tmp 33) 0, none⟩, ⟨some 39, .extract (.tmp 33) 1, none⟩, asg 7 38, asg 8 39]) (.seq (.reg [mv 40 8, ⟨some 41, .unOp .not 4 (.tmp 40), none⟩, mv 42 41, ⟨some 43, .move (.tmp 6), some (2, false)⟩, ⟨some 44, .binOp .eql 22 (.tmp 43) (.const (.slice none 0 0)) 22, some (2, false)⟩, ⟨some 45, .move (.tmp 7), some (2, false)⟩, ⟨some 46, .binOp .eql 22 (.tmp 45) (.const (.slice none 0 0)) 22, some (2, false)⟩, ⟨some 47, .binOp .neq 4 (.tmp 44) (.tmp 46) 4, some (2, false)⟩, ⟨some 48, .pick (.tmp 42) (.const (.bool true)) (.tmp 47), none⟩, mv 49 48, ⟨some 50, .move (.tmp 6), some (9, false)⟩, ⟨some 51, .convert 22 9 (.tmp 50), some (9, false)⟩, ⟨some 52, .move (.tmp 7), some (9, false)⟩, ⟨some 53, .convert 22 9 (.tmp 52), some (9, false)⟩, ⟨some 54, .binOp .neq 9 (.tmp 51) (.tmp 53) 9, some (9, false)⟩, ⟨some 55, .pick (.tmp 49) (.const (.bool true)) (.tmp 54), none⟩]) (.cond (.tmp 55) (.seq (.reg [⟨some 4, .assign (.const (.bool false)), none⟩]) (.ret)) (.skip)))))
theorem b86 : (Go.Proofs.Tryz.f86).body.map strip = some (sc_TSame 61 59 4 3 tsBody) := by kernel_rfl
theorem ok86 : FnOK PP 86 := fnOK_of Go.Proofs.Tryz.func86 b86 (by kernel_rfl)
theorem cTS (w : World) (m : Option Nat) : Calls PP 86 #[.agg #[.map m], .agg #[.map none]] w fun e w' => e = .returned (.bool m.isNone) ∧ Below w.heap.size w w' := tSame_ok (by kernel_rfl) (by kernel_rfl) (by kernel_rfl) (by kernel_rfl) (by kernel_rfl) (by kernel_rfl) (by kernel_rfl) Go.Proofs.Tryz.func86 b86 (by kernel_rfl) (by kernel_rfl) w m
theorem b45 : (Go.Proofs.Tryz.f45).body.map strip = some (sc_CSame 85 21 61 86) := by kernel_rfl
theorem ok45 : FnOK PP 45 := fnOK_of Go.Proofs.Tryz.func45 b45 (by kernel_rfl)
theorem cKS (w : World) (x y : Int) (m : Option Nat) : Calls PP 45 #[.agg #[.int .i32 x, .int .i32 y, .map m], .agg #[.int .i32 (-1), .int .i32 (-1), .map none]] w fun e w' => e = .returned (.bool (decide (x = -1 ∧ y = -1 ∧ m = none))) ∧ Below w.heap.size w w' := cSame_ok (by kernel_rfl) (by kernel_rfl) (by kernel_rfl) (by kernel_rfl) (by kernel_rfl) (by kernel_rfl) (by kernel_rfl) (by kernel_rfl) (by kernel_rfl) ok86 cTS Go.Proofs.Tryz.func45 b45 (by kernel_rfl) (by kernel_rfl) w x y m
def sc47 : SC := .seq (.reg [mv 2 0, nilc 3 2, fa 4 85 3 0, ⟨none, .store 21 (.tmp 4) (.const (.int .i32 (-1))), none⟩]) (.reg [mv 5 0, nilc 6 5, fa 7 85 6 1, ⟨none, .store 21 (.tmp 7) (.const (.int .i32 (-1))), none⟩])
theorem b47 : (Go.Proofs.Tryz.f47).body.map strip = some (sc47) := by kernel_rfl
theorem d47 : DefAt PP 47 3 [(0, .int .i32 (-1)), (1, .int .i32 (-1))] := defAt_ok (N := 8) Go.Proofs.Tryz.func47 b47 (by kernel_rfl) (by kernel_rfl) (by decide) (by kernel_rfl) (by kernel_rfl)
noncomputable abbrev zcC : Array Value := zcOf PP 85
theorem zcCe : zcC = #[.int .i32 0, .int .i32 0, .map none] := by kernel_rfl
theorem defC3 : DefFn PP 47 85 zcC #[.int .i32 (-1), .int .i32 (-1), .map none] := ⟨d47.1, fun w b hc => by
  have h := d47.2 w b 0 zcC 85 hc (by rw [zcCe]; decide)
  have e : dSetAll 0 [(0, .int .i32 (-1)), (1, .int .i32 (-1))] zcC = #[.int .i32 (-1), .int .i32 (-1), .map none] := by rw [zcCe]; rfl
  rw [e] at h
  exact h⟩
theorem b46 : (Go.Proofs.Tryz.f46).body.map strip = some (sc_CNew 85 47) := by kernel_rfl
theorem ok46 : FnOK PP 46 := fnOK_of Go.Proofs.Tryz.func46 b46 (by kernel_rfl)
theorem cKN (w : World) : Calls PP 46 #[] w fun e w' => e = .returned (.agg #[.int .i32 (-1), .int .i32 (-1), .map none]) ∧ Below w.heap.size w w' := cNew_ok (zc_of (by kernel_rfl)) zcCe (by kernel_rfl) (by kernel_rfl) (by kernel_rfl) defC3 Go.Proofs.Tryz.func46 b46 (by kernel_rfl) (by kernel_rfl) w
theorem ka : KA G0 PP ids X.U8 where
  bool := fun h => absurd rfl h
  i8 := fun h => absurd rfl h
  i16 := fun _ => apI16
  i32 := fun _ => apI32
  i64 := fun _ => apI64
  u16 := fun _ => apU16
  uuid := fun _ => apUuid
  str := fun _ => apStr
  cstr := fun _ => apCStr
  nstr0 := fun _ => apNStr0
  nstr := fun _ b o s h => apNStr b o s h
  cnstr0 := fun _ => apCNStr0
  cnstr := fun _ b o s h => apCNStr b o s h
  bytes := fun h => absurd rfl h
  cbytes := fun h => absurd rfl h
  nbytes := fun h => absurd rfl h
  nbytes0 := fun h => absurd rfl h
  cnbytes := fun h => absurd rfl h
  cnbytes0 := fun h => absurd rfl h
  arr := fun _ => apArr
  carr := fun _ => apCArr
  narr := fun h => absurd rfl h
  cnarr := fun h => absurd rfl h
  uvar := fun _ => apUvar
  uvar2 := fun _ => apUvar2
  i32b := fun _ => apI32b
  kNew := fun _ => ⟨ok46, cKN⟩
  kSame := fun _ => ⟨ok45, fun w a b m => cKS w a b m⟩
  tagsLen := fun _ => tLenC
  tagsEach := fun _ => tEachC
end Go.Proofs.YtdnpafdgglpagaaGreatDoor.K
