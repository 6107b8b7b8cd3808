/- What this seat's program is: the functions that write. No condition. -/
import Derived.Test.YtgcocbggoielkaaDoorQX
import Derived.Test.YtgcocbggoielkaaDoorM10
namespace Go.Proofs.YtgcocbggoielkaaDoor.K
open Go Go.RowKit Go.Proofs Go.Proofs.YtgcocbggoielkaaDoor.T
set_option linter.unusedVariables false
def ids : Ids := { tI16 := 43, tInt := 3, tU32 := 80, tI8 := 0, tU8s := 22, tI32 := 21, tBool := 4, aBool := 90, aI8 := 0, aI16 := 69, aI32 := 71, aI64 := 70, aU16 := 108, aUuid := 0, aStr := 89, aCStr := 88, aNStr := 94, aCNStr := 93, aBytes := 0, aCBytes := 0, aNBytes := 0, aCNBytes := 0, aArr := 100, aCArr := 99, aNArr := 0, aCNArr := 0, aUvar := 72, tagsLen := 73, tagsEach := 74 }
theorem b90 : (Go.Proofs.Tryd.f90).body.map strip = some (sc_AppendBool 22) := by kernel_rfl
theorem apBool (x : Bool) : AP PP X.U8 90 #[.bool x] (fun _ _ => True) [if x then 1 else 0] := appendBool_ok Go.Proofs.Tryd.func90 b90 (by kernel_rfl) (by kernel_rfl) (by kernel_rfl) (by kernel_rfl) x
theorem b108 : (Go.Proofs.Tryd.f108).body.map strip = some (sc_AppendUint16 33 119 5 22) := by kernel_rfl
theorem apU16 (n : Int) : AP PP X.U8 108 #[.int .u16 n] (fun _ _ => True) (fixed n 2) := appendU16_ok Go.Proofs.Tryd.func108 b108 (by kernel_rfl) (by kernel_rfl) (by kernel_rfl) (by kernel_rfl) (by kernel_rfl) (by kernel_rfl) n
theorem b110 : (Go.Proofs.Tryd.f110).body.map strip = some (sc_AppendUint32 80 119 5 22) := by kernel_rfl
theorem apU32 (n : Int) : AP PP X.U8 110 #[.int .u32 n] (fun _ _ => True) (fixed n 4) := appendU32_ok Go.Proofs.Tryd.func110 b110 (by kernel_rfl) (by kernel_rfl) (by kernel_rfl) (by kernel_rfl) (by kernel_rfl) (by kernel_rfl) n
theorem b109 : (Go.Proofs.Tryd.f109).body.map strip = some (sc_appendUint64 92 119 5 22) := by kernel_rfl
theorem apU64 (n : Int) : AP PP X.U8 109 #[.int .u64 n] (fun _ _ => True) (fixed n 8) := appendU64_ok Go.Proofs.Tryd.func109 b109 (by kernel_rfl) (by kernel_rfl) (by kernel_rfl) (by kernel_rfl) (by kernel_rfl) (by kernel_rfl) n
theorem b69 : (Go.Proofs.Tryd.f69).body.map strip = some (sc_AppendInt16 43 33 108) := by kernel_rfl
theorem apI16 (n : Int) : AP PP X.U8 69 #[.int .i16 n] (fun _ _ => True) (fixed n 2) := appendI16_ok Go.Proofs.Tryd.func69 b69 (by kernel_rfl) (by kernel_rfl) (by kernel_rfl) (by kernel_rfl) (by kernel_rfl) apU16 n
theorem b71 : (Go.Proofs.Tryd.f71).body.map strip = some (sc_AppendInt32 21 80 110) := by kernel_rfl
theorem apI32 (n : Int) : AP PP X.U8 71 #[.int .i32 n] (fun _ _ => True) (fixed n 4) := appendI32_ok Go.Proofs.Tryd.func71 b71 (by kernel_rfl) (by kernel_rfl) (by kernel_rfl) (by kernel_rfl) (by kernel_rfl) apU32 n
theorem b70 : (Go.Proofs.Tryd.f70).body.map strip = some (sc_AppendInt64 2 92 109) := by kernel_rfl
theorem apI64 (n : Int) : AP PP X.U8 70 #[.int .i64 n] (fun _ _ => True) (fixed n 8) := appendI64_ok Go.Proofs.Tryd.func70 b70 (by kernel_rfl) (by kernel_rfl) (by kernel_rfl) (by kernel_rfl) (by kernel_rfl) apU64 n
theorem b137 : (Go.Proofs.Tryd.f137).body.map strip = some (sc_Len32 80 119 3 5 9) := by kernel_rfl
theorem ok137 : FnOK PP 137 := fnOK_of Go.Proofs.Tryd.func137 b137 (by kernel_rfl)
theorem b111 : (Go.Proofs.Tryd.f111).body.map strip = some (sc_UvarintLen 3 5 9 137) := by kernel_rfl
theorem ok111 : FnOK PP 111 := fnOK_of Go.Proofs.Tryd.func111 b111 (by kernel_rfl)
theorem b72 : (Go.Proofs.Tryd.f72).body.map strip = some (sc_AppendUvarint 3 80 5 119 22 111) := by kernel_rfl
theorem apUvar2 (n : Nat) (h : n < 4294967296) : AP2 PP X.U8 72 #[.int .u32 (n : Int)] (uvarint n) := appendUvarint2_ok Go.Proofs.Tryd.func72 b72 (by kernel_rfl) (by kernel_rfl) (by kernel_rfl) (by kernel_rfl) (by kernel_rfl) (by kernel_rfl) ok111 (fun n w h => uvarintLen_ok Go.Proofs.Tryd.func111 b111 (by kernel_rfl) (by kernel_rfl) (by kernel_rfl) (by kernel_rfl) (by kernel_rfl) ok137 (fun n w h => len32_ok Go.Proofs.Tryd.func137 b137 (by kernel_rfl) (by kernel_rfl) (by kernel_rfl) (by kernel_rfl) (by kernel_rfl) (by kernel_rfl) n h w) n h w) n h
theorem apUvar (n : Nat) (h : n < 4294967296) : AP PP X.U8 72 #[.int .u32 (n : Int)] (fun _ _ => True) (uvarint n) := appendUvarint_ok Go.Proofs.Tryd.func72 b72 (by kernel_rfl) (by kernel_rfl) (by kernel_rfl) (by kernel_rfl) (by kernel_rfl) (by kernel_rfl) ok111 (fun n w h => uvarintLen_ok Go.Proofs.Tryd.func111 b111 (by kernel_rfl) (by kernel_rfl) (by kernel_rfl) (by kernel_rfl) (by kernel_rfl) ok137 (fun n w h => len32_ok Go.Proofs.Tryd.func137 b137 (by kernel_rfl) (by kernel_rfl) (by kernel_rfl) (by kernel_rfl) (by kernel_rfl) (by kernel_rfl) n h w) n h w) n h
theorem b89 : (Go.Proofs.Tryd.f89).body.map strip = some (sc_AppendString 9 3 43 22 69) := by kernel_rfl
theorem apStr (s : ByteArray) (h : s.data.toList.length ≤ most) : AP PP X.U8 89 #[.string s] (fun _ _ => True) (counted false false s.data.toList.length 2 ++ s.data.toList) := appendString_ok Go.Proofs.Tryd.func89 b89 (by kernel_rfl) (by kernel_rfl) (by kernel_rfl) (by kernel_rfl) (by kernel_rfl) (by kernel_rfl) (by kernel_rfl) apI16 s h
theorem b88 : (Go.Proofs.Tryd.f88).body.map strip = some (sc_AppendCompactString 9 3 80 22 72) := by kernel_rfl
theorem apCStr (s : ByteArray) (h : s.data.toList.length ≤ most) : AP PP X.U8 88 #[.string s] (fun _ _ => True) (counted true false s.data.toList.length 2 ++ s.data.toList) := appendCompactString_ok Go.Proofs.Tryd.func88 b88 (by kernel_rfl) (by kernel_rfl) (by kernel_rfl) (by kernel_rfl) (by kernel_rfl) (by kernel_rfl) (by kernel_rfl) apUvar s h
theorem b94 : (Go.Proofs.Tryd.f94).body.map strip = some (sc_AppendNullableString 97 9 69 89) := by kernel_rfl
theorem apNStr0 : AP PP X.U8 94 #[.pointer none] (fun _ _ => True) (counted false true 0 2) := appendNullStr0_ok (compact := false) Go.Proofs.Tryd.func94 b94 (by kernel_rfl) (by kernel_rfl) (by kernel_rfl) (by kernel_rfl) (by have h := apI16 (-1); simpa [counted, uvarint_lt] using h)
theorem apNStr (b o : Nat) (s : ByteArray) (h : s.data.toList.length ≤ most) : AP PP X.U8 94 #[.pointer (some ⟨b, o, none⟩)] (fun w B => b < B ∧ w.cell? ⟨b, o, none⟩ = some (.string s)) (counted false false s.data.toList.length 2 ++ s.data.toList) := appendNullStr_ok (compact := false) Go.Proofs.Tryd.func94 b94 (by kernel_rfl) (by kernel_rfl) (by kernel_rfl) (by kernel_rfl) (by kernel_rfl) s (apStr s h) b o
theorem b93 : (Go.Proofs.Tryd.f93).body.map strip = some (sc_AppendCompactNullableString 97 9 72 88) := by kernel_rfl
theorem apCNStr0 : AP PP X.U8 93 #[.pointer none] (fun _ _ => True) (counted true true 0 2) := appendNullStr0_ok (compact := true) Go.Proofs.Tryd.func93 b93 (by kernel_rfl) (by kernel_rfl) (by kernel_rfl) (by kernel_rfl) (by have h := apUvar 0 (by decide); simpa [counted, uvarint_lt] using h)
theorem apCNStr (b o : Nat) (s : ByteArray) (h : s.data.toList.length ≤ most) : AP PP X.U8 93 #[.pointer (some ⟨b, o, none⟩)] (fun w B => b < B ∧ w.cell? ⟨b, o, none⟩ = some (.string s)) (counted true false s.data.toList.length 2 ++ s.data.toList) := appendNullStr_ok (compact := true) Go.Proofs.Tryd.func93 b93 (by kernel_rfl) (by kernel_rfl) (by kernel_rfl) (by kernel_rfl) (by kernel_rfl) s (apCStr s h) b o
theorem b100 : (Go.Proofs.Tryd.f100).body.map strip = some (sc_AppendArrayLen 3 21 71) := by kernel_rfl
theorem apArr (n : Nat) (h : n ≤ most) : AP PP X.U8 100 #[.int .i64 n] (fun _ _ => True) (counted false false n 4) := appendArrayLen_ok Go.Proofs.Tryd.func100 b100 (by kernel_rfl) (by kernel_rfl) (by kernel_rfl) (by kernel_rfl) (by kernel_rfl) apI32 n h
theorem b99 : (Go.Proofs.Tryd.f99).body.map strip = some (sc_AppendCompactArrayLen 3 80 72) := by kernel_rfl
theorem apCArr (n : Nat) (h : n ≤ most) : AP PP X.U8 99 #[.int .i64 n] (fun _ _ => True) (counted true false n 4) := appendCompactArrayLen_ok Go.Proofs.Tryd.func99 b99 (by kernel_rfl) (by kernel_rfl) (by kernel_rfl) (by kernel_rfl) (by kernel_rfl) apUvar n h
theorem b73 : (Go.Proofs.Tryd.f73).body.map strip = some (sc_TLen 60 58) := by kernel_rfl
theorem ok73 : FnOK PP 73 := fnOK_of Go.Proofs.Tryd.func73 b73 (by kernel_rfl)
theorem tLenC : FnOK PP 73 ∧ ∀ (w : World) (F : Nat → Prop) (b o : Nat) (u : List (Nat × Bytes)), HTags G0 w F b o u → Calls PP 73 #[.pointer (some ⟨b, o, none⟩)] w fun e w' => e = .returned (.int .i64 u.length) ∧ w = w' := ⟨ok73, fun w F b o u h => tagsLenN_ok (by kernel_rfl) (by kernel_rfl) (by kernel_rfl) Go.Proofs.Tryd.func73 b73 (by kernel_rfl) (by kernel_rfl) w F b o u h⟩
def rho : Shelf.Ren := ⟨fun n => match n with | 0 => 0 | 1 => 1 | 2 => 2 | 6 => 138 | 10 => 143 | 11 => 144 | 12 => 145 | 13 => 146 | 14 => 147 | 15 => 148 | 16 => 149 | 17 => 150 | 18 => 151 | 19 => 152 | 20 => 153 | 21 => 154 | 22 => 155 | 23 => 156 | 24 => 137 | 25 => 157 | 26 => 158 | 27 => 159 | 28 => 160 | 29 => 161 | 30 => 162 | 31 => 163 | 32 => 164 | 33 => 165 | 34 => 166 | 35 => 167 | 36 => 168 | 37 => 169 | 38 => 170 | 39 => 171 | 40 => 172 | 41 => 173 | 42 => 174 | 43 => 175 | 44 => 176 | 45 => 177 | 46 => 178 | 47 => 179 | 48 => 180 | 49 => 181 | 50 => 182 | 51 => 183 | 52 => 184 | 53 => 185 | 54 => 186 | 55 => 190 | 56 => 191 | 57 => 192 | 58 => 194 | _ => 0, fun n => match n with | 0 => 0 | 1 => 1 | 2 => 2 | 3 => 3 | 4 => 4 | 5 => 5 | 6 => 6 | 7 => 7 | 8 => 8 | 9 => 9 | 10 => 10 | 11 => 11 | 12 => 12 | 13 => 13 | 14 => 14 | 15 => 15 | 16 => 16 | 17 => 17 | 18 => 18 | 19 => 19 | 20 => 20 | 21 => 21 | 23 => 139 | 26 => 140 | 30 => 103 | 32 => 145 | 33 => 146 | 34 => 147 | 35 => 148 | 36 => 149 | 37 => 150 | 38 => 151 | 39 => 23 | 40 => 152 | 41 => 119 | 42 => 153 | 43 => 154 | 44 => 155 | 45 => 156 | 46 => 157 | 47 => 158 | 48 => 118 | 49 => 80 | 50 => 159 | 51 => 92 | 52 => 160 | 53 => 161 | 54 => 162 | 55 => 163 | 56 => 164 | 57 => 165 | 58 => 166 | 59 => 167 | 60 => 168 | 61 => 169 | 62 => 134 | 63 => 170 | 64 => 171 | 65 => 172 | 66 => 173 | 67 => 174 | 68 => 175 | 69 => 128 | 70 => 177 | 71 => 178 | 72 => 179 | 73 => 180 | 74 => 181 | 75 => 182 | 76 => 183 | 77 => 184 | 78 => 185 | 79 => 186 | 80 => 187 | 81 => 188 | 82 => 189 | 83 => 191 | 84 => 192 | _ => 0, fun n => n⟩
theorem laysGg : LaysGg.n6 PP rho where
  mixed := by kernel_rfl
  f6 := by kernel_rfl
  f10 := by kernel_rfl
  f11 := by kernel_rfl
  f12 := by kernel_rfl
  f13 := by kernel_rfl
  f14 := by kernel_rfl
  f24 := by kernel_rfl
  f25 := by kernel_rfl
  f26 := by kernel_rfl
  f27 := by kernel_rfl
  f28 := by kernel_rfl
  f29 := by kernel_rfl
  f30 := by kernel_rfl
  f31 := by kernel_rfl
  f32 := by kernel_rfl
  f33 := by kernel_rfl
  f34 := by kernel_rfl
  f35 := by kernel_rfl
  f36 := by kernel_rfl
  f37 := by kernel_rfl
  f38 := by kernel_rfl
  f39 := by kernel_rfl
  t0 := by kernel_rfl
  a0 := fun _ => by kernel_rfl
  z0 := fun _ => by kernel_rfl
  v0 := fun _ => by kernel_rfl
  i0 := by kernel_rfl
  t3 := by kernel_rfl
  a3 := fun _ => by kernel_rfl
  z3 := fun _ => by kernel_rfl
  v3 := fun _ => by kernel_rfl
  i3 := by kernel_rfl
  t4 := by kernel_rfl
  a4 := fun _ => by kernel_rfl
  z4 := fun _ => by kernel_rfl
  v4 := fun _ => by kernel_rfl
  i4 := by kernel_rfl
  t5 := by kernel_rfl
  a5 := fun _ => by kernel_rfl
  z5 := fun _ => by kernel_rfl
  v5 := fun _ => by kernel_rfl
  i5 := by kernel_rfl
  t9 := by kernel_rfl
  a9 := fun _ => by kernel_rfl
  z9 := fun _ => by kernel_rfl
  v9 := fun _ => by kernel_rfl
  i9 := by kernel_rfl
  t12 := by kernel_rfl
  a12 := fun _ => by kernel_rfl
  z12 := fun _ => by kernel_rfl
  v12 := fun _ => by kernel_rfl
  i12 := by kernel_rfl
  t17 := by kernel_rfl
  a17 := fun _ => by kernel_rfl
  z17 := fun _ => by kernel_rfl
  v17 := fun _ => by kernel_rfl
  i17 := by kernel_rfl
  t20 := by kernel_rfl
  a20 := fun _ => by kernel_rfl
  z20 := fun _ => by kernel_rfl
  v20 := fun _ => by kernel_rfl
  i20 := by kernel_rfl
  t26 := by kernel_rfl
  a26 := fun _ => by kernel_rfl
  z26 := fun _ => by kernel_rfl
  v26 := fun _ => by kernel_rfl
  i26 := by kernel_rfl
  t32 := by kernel_rfl
  a32 := fun _ => by kernel_rfl
  z32 := fun _ => by kernel_rfl
  v32 := fun _ => by kernel_rfl
  i32 := by kernel_rfl
  t33 := by kernel_rfl
  a33 := fun _ => by kernel_rfl
  z33 := fun _ => by kernel_rfl
  v33 := fun _ => by kernel_rfl
  i33 := by kernel_rfl
  t35 := by kernel_rfl
  a35 := fun _ => by kernel_rfl
  z35 := fun _ => by kernel_rfl
  v35 := fun _ => by kernel_rfl
  i35 := by kernel_rfl
  t37 := by kernel_rfl
  a37 := fun _ => by kernel_rfl
  z37 := fun _ => by kernel_rfl
  v37 := fun _ => by kernel_rfl
  i37 := by kernel_rfl
  t41 := by kernel_rfl
  a41 := fun _ => by kernel_rfl
  z41 := fun _ => by kernel_rfl
  v41 := fun _ => by kernel_rfl
  i41 := by kernel_rfl
  t44 := by kernel_rfl
  a44 := fun _ => by kernel_rfl
  z44 := fun _ => by kernel_rfl
  v44 := fun _ => by kernel_rfl
  i44 := by kernel_rfl
  t49 := by kernel_rfl
  a49 := fun _ => by kernel_rfl
  z49 := fun _ => by kernel_rfl
  v49 := fun _ => by kernel_rfl
  i49 := by kernel_rfl
  t51 := by kernel_rfl
  a51 := fun _ => by kernel_rfl
  z51 := fun _ => by kernel_rfl
  v51 := fun _ => by kernel_rfl
  i51 := by kernel_rfl
  t53 := by kernel_rfl
  a53 := fun _ => by kernel_rfl
  z53 := fun _ => by kernel_rfl
  v53 := fun _ => by kernel_rfl
  i53 := by kernel_rfl
  t54 := by kernel_rfl
  a54 := fun _ => by kernel_rfl
  z54 := fun _ => by kernel_rfl
  v54 := fun _ => by kernel_rfl
  i54 := by kernel_rfl
  t58 := by kernel_rfl
  a58 := fun _ => by kernel_rfl
  z58 := fun _ => by kernel_rfl
  v58 := fun _ => by kernel_rfl
  i58 := by kernel_rfl
  t60 := by kernel_rfl
  a60 := fun _ => by kernel_rfl
  z60 := fun _ => by kernel_rfl
  v60 := fun _ => by kernel_rfl
  i60 := by kernel_rfl
  t64 := by kernel_rfl
  a64 := fun _ => by kernel_rfl
  z64 := fun _ => by kernel_rfl
  v64 := fun _ => by kernel_rfl
  i64 := by kernel_rfl
  t66 := by kernel_rfl
  a66 := fun _ => by kernel_rfl
  z66 := fun _ => by kernel_rfl
  v66 := fun _ => by kernel_rfl
  i66 := by kernel_rfl
  t67 := by kernel_rfl
  a67 := fun _ => by kernel_rfl
  z67 := fun _ => by kernel_rfl
  v67 := fun _ => by kernel_rfl
  i67 := by kernel_rfl
  t75 := by kernel_rfl
  a75 := fun _ => by kernel_rfl
  z75 := fun _ => by kernel_rfl
  v75 := fun _ => by kernel_rfl
  i75 := by kernel_rfl
  t76 := by kernel_rfl
  a76 := fun _ => by kernel_rfl
  z76 := fun _ => by kernel_rfl
  v76 := fun _ => by kernel_rfl
  i76 := by kernel_rfl
  t77 := by kernel_rfl
  a77 := fun _ => by kernel_rfl
  z77 := fun _ => by kernel_rfl
  v77 := fun _ => by kernel_rfl
  i77 := by kernel_rfl
  t78 := by kernel_rfl
  a78 := fun _ => by kernel_rfl
  z78 := fun _ => by kernel_rfl
  v78 := fun _ => by kernel_rfl
  i78 := by kernel_rfl
  t79 := by kernel_rfl
  a79 := fun _ => by kernel_rfl
  z79 := fun _ => by kernel_rfl
  v79 := fun _ => by kernel_rfl
  i79 := by kernel_rfl
  t80 := by kernel_rfl
  a80 := fun _ => by kernel_rfl
  z80 := fun _ => by kernel_rfl
  v80 := fun _ => by kernel_rfl
  i80 := by kernel_rfl
  t82 := by kernel_rfl
  a82 := fun _ => by kernel_rfl
  z82 := fun _ => by kernel_rfl
  v82 := fun _ => by kernel_rfl
  i82 := by kernel_rfl
theorem b139 : (Go.Proofs.Tryd.f139).body.map strip = some (sc_Each1 138 80) := by kernel_rfl
theorem ok139 : FnOK PP 139 := fnOK_of Go.Proofs.Tryd.func139 b139 (by kernel_rfl)
theorem b113 : (Go.Proofs.Tryd.f113).body.map strip = some (sc_AppendEach1 22 3 80 72) := by kernel_rfl
theorem ok113 : FnOK PP 113 := fnOK_of Go.Proofs.Tryd.func113 b113 (by kernel_rfl)
theorem b112 : (Go.Proofs.Tryd.f112).body.map strip = some (sc_TEach 60 58 3 138 80 138 139) := by kernel_rfl
theorem ok112 : FnOK PP 112 := fnOK_of Go.Proofs.Tryd.func112 b112 (by kernel_rfl)
theorem b74 : (Go.Proofs.Tryd.f74).body.map strip = some (sc_TAppendEach 22 112 (.func 113)) := by kernel_rfl
theorem ok74 : FnOK PP 74 := fnOK_of Go.Proofs.Tryd.func74 b74 (by kernel_rfl)
theorem okS : FnOK PP 138 := ⟨_, Go.Proofs.Tryd.func138, (by kernel_rfl), (by kernel_rfl)⟩
noncomputable def siT : TypeInfo := (PP.info? 138).get (by kernel_rfl)
noncomputable def siE : TypeInfo := (PP.info? 80).get (by kernel_rfl)
noncomputable def siTz : Value := siT.zero.get (by kernel_rfl)
noncomputable def siEz : Value := siE.zero.get (by kernel_rfl)
theorem siK (n : Nat) : Lib.swapperK n siE 10 = if n = 0 then 1 else if n = 1 then 2 else 6 := by
  have a : siE.hasPointers = false := by kernel_rfl
  have b : siE.bytes = 4 := by kernel_rfl
  unfold Lib.swapperK
  rw [a, b]
  by_cases h0 : n = 0
  · simp [h0]
  · by_cases h1 : n = 1
    · simp [h1]
    · simp [h0, h1]
def swF (n : Nat) : Nat := if n = 0 then 148 else if n = 1 then 149 else 153
theorem swOK (n : Nat) : PP.funcs.findIdx? (·.name == "internal/reflectlite" ++ ".Swapper$" ++ toString (Lib.swapperK n siE 10)) = some (swF n) := by
  rw [siK]
  unfold swF
  by_cases h0 : n = 0
  · simp only [h0, if_true]; kernel_rfl
  · by_cases h1 : n = 1
    · subst h1; kernel_rfl
    · simp only [h0, h1, if_false]; kernel_rfl
theorem sortOK : SortC PP 138 139 138 80 := sortC laysGg hm (by kernel_rfl) (by kernel_rfl) (by kernel_rfl) (i := siT) (ie := siE) (by kernel_rfl) (by kernel_rfl) (by kernel_rfl) (by kernel_rfl) 10 (fun _ => by kernel_rfl) (by kernel_rfl) Go.Proofs.Tryd.func139 b139 (by kernel_rfl) (by kernel_rfl) okS ok139 swF swOK true (fun n args W h => by
  have e : swF n = 153 := by unfold swF; rw [if_neg (by omega), if_neg (by omega)]
  rw [e]
  exact run_callFunc_extern Go.Proofs.Tryd.func153 (by kernel_rfl) (by kernel_rfl) (by kernel_rfl) (e := Extern.ReflectliteSwapper.swap true) (by kernel_rfl) args W)
theorem eachC : EachC PP X.U8 22 113 G0 112 := each_ok (TU := 138) (T32 := 80) (i32 := siE) (iU := siT) (z32 := siEz) (zU := siTz) (by kernel_rfl) (by kernel_rfl) (by kernel_rfl) (by kernel_rfl) (by kernel_rfl) (by kernel_rfl) (by kernel_rfl) (by kernel_rfl) (by kernel_rfl) (by kernel_rfl) (by decide +kernel) (by kernel_rfl) (by kernel_rfl) (by kernel_rfl) sortOK ok113 (fun w B c k cap dv xs bs base h1 h2 h3 h4 h5 h6 h7 h8 => cl_ok (by kernel_rfl) (by kernel_rfl) (by kernel_rfl) (by kernel_rfl) (by kernel_rfl) apUvar2 Go.Proofs.Tryd.func113 b113 (by kernel_rfl) (by kernel_rfl) w B c k cap dv xs bs base h1 h2 h3 h4 h5 h6 h7 h8) Go.Proofs.Tryd.func112 b112 (by kernel_rfl) (by kernel_rfl)
theorem tEachC : FnOK PP 74 ∧ ∀ (w : World) (B b o : Nat) (u : List (Nat × Bytes)) (dv : Value) (xs : Bytes), HTags G0 w (· < B) b o u → b < B → Own X.U8 w B dv xs → B ≤ w.heap.size → xs.length + (u.flatMap wTag).length ≤ lim →
    Calls PP 74 #[.pointer (some ⟨b, o, none⟩), dv] w fun e w' => ∃ dv', e = .returned dv' ∧ Own X.U8 w' B dv' (xs ++ u.flatMap wTag) ∧ Below B w w' ∧ B ≤ w'.heap.size := ⟨ok74, fun w B b o u dv xs h1 h2 h3 h4 h5 => appendEachN_ok (by kernel_rfl) ok112 eachC Go.Proofs.Tryd.func74 b74 (by kernel_rfl) (by kernel_rfl) w B b o u dv xs h1 h2 h3 h4 h5⟩
theorem ka : KA G0 PP ids X.U8 where
  bool := fun _ => apBool
  i8 := fun h => absurd rfl h
  i16 := fun _ => apI16
  i32 := fun _ => apI32
  i64 := fun _ => apI64
  u16 := fun _ => apU16
  uuid := fun h => absurd rfl h
  str := fun _ => apStr
  cstr := fun _ => apCStr
  nstr0 := fun _ => apNStr0
  nstr := fun _ b o s h => apNStr b o s h
  cnstr0 := fun _ => apCNStr0
  cnstr := fun _ b o s h => apCNStr b o s h
  bytes := fun h => absurd rfl h
  cbytes := fun h => absurd rfl h
  nbytes := fun h => absurd rfl h
  nbytes0 := fun h => absurd rfl h
  cnbytes := fun h => absurd rfl h
  cnbytes0 := fun h => absurd rfl h
  arr := fun _ => apArr
  carr := fun _ => apCArr
  narr := fun h => absurd rfl h
  cnarr := fun h => absurd rfl h
  uvar := fun _ => apUvar
  tagsLen := fun _ => tLenC
  tagsEach := fun _ => tEachC
end Go.Proofs.YtgcocbggoielkaaDoor.K
