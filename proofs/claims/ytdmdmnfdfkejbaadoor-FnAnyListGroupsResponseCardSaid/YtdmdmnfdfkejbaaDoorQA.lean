/- What this seat's program is: the functions that write. No condition. -/
import Derived.Test.YtdmdmnfdfkejbaaDoorQX
import Derived.Test.YtdmdmnfdfkejbaaDoorM10
namespace Go.Proofs.YtdmdmnfdfkejbaaDoor.K
open Go Go.RowKit Go.Proofs Go.Proofs.YtdmdmnfdfkejbaaDoor.T
set_option linter.unusedVariables false
def ids : Ids := { tI16 := 29, tInt := 3, tU32 := 63, tI8 := 0, tU8s := 22, tI32 := 21, tBool := 4, aBool := 0, aI8 := 0, aI16 := 44, aI32 := 39, aI64 := 0, aU16 := 69, aUuid := 50, aStr := 43, aCStr := 42, aNStr := 0, aCNStr := 0, aBytes := 0, aCBytes := 0, aNBytes := 0, aCNBytes := 0, aArr := 41, aCArr := 40, aNArr := 0, aCNArr := 0, aUvar := 45, tagsLen := 46, tagsEach := 47 }
theorem b69 : (Go.Proofs.Tryd.f69).body.map strip = some (sc_AppendUint16 100 102 5 22) := by kernel_rfl
theorem apU16 (n : Int) : AP PP X.U8 69 #[.int .u16 n] (fun _ _ => True) (fixed n 2) := appendU16_ok Go.Proofs.Tryd.func69 b69 (by kernel_rfl) (by kernel_rfl) (by kernel_rfl) (by kernel_rfl) (by kernel_rfl) (by kernel_rfl) n
theorem b68 : (Go.Proofs.Tryd.f68).body.map strip = some (sc_AppendUint32 63 102 5 22) := by kernel_rfl
theorem apU32 (n : Int) : AP PP X.U8 68 #[.int .u32 n] (fun _ _ => True) (fixed n 4) := appendU32_ok Go.Proofs.Tryd.func68 b68 (by kernel_rfl) (by kernel_rfl) (by kernel_rfl) (by kernel_rfl) (by kernel_rfl) (by kernel_rfl) n
theorem b44 : (Go.Proofs.Tryd.f44).body.map strip = some (sc_AppendInt16 29 100 69) := by kernel_rfl
theorem apI16 (n : Int) : AP PP X.U8 44 #[.int .i16 n] (fun _ _ => True) (fixed n 2) := appendI16_ok Go.Proofs.Tryd.func44 b44 (by kernel_rfl) (by kernel_rfl) (by kernel_rfl) (by kernel_rfl) (by kernel_rfl) apU16 n
theorem b39 : (Go.Proofs.Tryd.f39).body.map strip = some (sc_AppendInt32 21 63 68) := by kernel_rfl
theorem apI32 (n : Int) : AP PP X.U8 39 #[.int .i32 n] (fun _ _ => True) (fixed n 4) := appendI32_ok Go.Proofs.Tryd.func39 b39 (by kernel_rfl) (by kernel_rfl) (by kernel_rfl) (by kernel_rfl) (by kernel_rfl) apU32 n
theorem b85 : (Go.Proofs.Tryd.f85).body.map strip = some (sc_Len32 63 102 3 5 9) := by kernel_rfl
theorem ok85 : FnOK PP 85 := fnOK_of Go.Proofs.Tryd.func85 b85 (by kernel_rfl)
theorem b70 : (Go.Proofs.Tryd.f70).body.map strip = some (sc_UvarintLen 3 5 9 85) := by kernel_rfl
theorem ok70 : FnOK PP 70 := fnOK_of Go.Proofs.Tryd.func70 b70 (by kernel_rfl)
theorem b45 : (Go.Proofs.Tryd.f45).body.map strip = some (sc_AppendUvarint 3 63 5 102 22 70) := by kernel_rfl
theorem apUvar2 (n : Nat) (h : n < 4294967296) : AP2 PP X.U8 45 #[.int .u32 (n : Int)] (uvarint n) := appendUvarint2_ok Go.Proofs.Tryd.func45 b45 (by kernel_rfl) (by kernel_rfl) (by kernel_rfl) (by kernel_rfl) (by kernel_rfl) (by kernel_rfl) ok70 (fun n w h => uvarintLen_ok Go.Proofs.Tryd.func70 b70 (by kernel_rfl) (by kernel_rfl) (by kernel_rfl) (by kernel_rfl) (by kernel_rfl) ok85 (fun n w h => len32_ok Go.Proofs.Tryd.func85 b85 (by kernel_rfl) (by kernel_rfl) (by kernel_rfl) (by kernel_rfl) (by kernel_rfl) (by kernel_rfl) n h w) n h w) n h
theorem apUvar (n : Nat) (h : n < 4294967296) : AP PP X.U8 45 #[.int .u32 (n : Int)] (fun _ _ => True) (uvarint n) := appendUvarint_ok Go.Proofs.Tryd.func45 b45 (by kernel_rfl) (by kernel_rfl) (by kernel_rfl) (by kernel_rfl) (by kernel_rfl) (by kernel_rfl) ok70 (fun n w h => uvarintLen_ok Go.Proofs.Tryd.func70 b70 (by kernel_rfl) (by kernel_rfl) (by kernel_rfl) (by kernel_rfl) (by kernel_rfl) ok85 (fun n w h => len32_ok Go.Proofs.Tryd.func85 b85 (by kernel_rfl) (by kernel_rfl) (by kernel_rfl) (by kernel_rfl) (by kernel_rfl) (by kernel_rfl) n h w) n h w) n h
theorem b50 : (Go.Proofs.Tryd.f50).body.map strip = some (sc_AppendUuid 68 22) := by kernel_rfl
theorem apUuid (bs : Bytes) (h : bs.length = 16) : AP PP X.U8 50 #[.agg (cellsOf bs).toArray] (fun _ _ => True) (bs) := appendUuid_ok Go.Proofs.Tryd.func50 b50 (by kernel_rfl) (by kernel_rfl) (by kernel_rfl) (by kernel_rfl) (by kernel_rfl) bs h
theorem b43 : (Go.Proofs.Tryd.f43).body.map strip = some (sc_AppendString 9 3 29 22 44) := by kernel_rfl
theorem apStr (s : ByteArray) (h : s.data.toList.length ≤ most) : AP PP X.U8 43 #[.string s] (fun _ _ => True) (counted false false s.data.toList.length 2 ++ s.data.toList) := appendString_ok Go.Proofs.Tryd.func43 b43 (by kernel_rfl) (by kernel_rfl) (by kernel_rfl) (by kernel_rfl) (by kernel_rfl) (by kernel_rfl) (by kernel_rfl) apI16 s h
theorem b42 : (Go.Proofs.Tryd.f42).body.map strip = some (sc_AppendCompactString 9 3 63 22 45) := by kernel_rfl
theorem apCStr (s : ByteArray) (h : s.data.toList.length ≤ most) : AP PP X.U8 42 #[.string s] (fun _ _ => True) (counted true false s.data.toList.length 2 ++ s.data.toList) := appendCompactString_ok Go.Proofs.Tryd.func42 b42 (by kernel_rfl) (by kernel_rfl) (by kernel_rfl) (by kernel_rfl) (by kernel_rfl) (by kernel_rfl) (by kernel_rfl) apUvar s h
theorem b41 : (Go.Proofs.Tryd.f41).body.map strip = some (sc_AppendArrayLen 3 21 39) := by kernel_rfl
theorem apArr (n : Nat) (h : n ≤ most) : AP PP X.U8 41 #[.int .i64 n] (fun _ _ => True) (counted false false n 4) := appendArrayLen_ok Go.Proofs.Tryd.func41 b41 (by kernel_rfl) (by kernel_rfl) (by kernel_rfl) (by kernel_rfl) (by kernel_rfl) apI32 n h
theorem b40 : (Go.Proofs.Tryd.f40).body.map strip = some (sc_AppendCompactArrayLen 3 63 45) := by kernel_rfl
theorem apCArr (n : Nat) (h : n ≤ most) : AP PP X.U8 40 #[.int .i64 n] (fun _ _ => True) (counted true false n 4) := appendCompactArrayLen_ok Go.Proofs.Tryd.func40 b40 (by kernel_rfl) (by kernel_rfl) (by kernel_rfl) (by kernel_rfl) (by kernel_rfl) apUvar n h
theorem b46 : (Go.Proofs.Tryd.f46).body.map strip = some (sc_TLen 47 45) := by kernel_rfl
theorem ok46 : FnOK PP 46 := fnOK_of Go.Proofs.Tryd.func46 b46 (by kernel_rfl)
theorem tLenC : FnOK PP 46 ∧ ∀ (w : World) (F : Nat → Prop) (b o : Nat) (u : List (Nat × Bytes)), HTags G0 w F b o u → Calls PP 46 #[.pointer (some ⟨b, o, none⟩)] w fun e w' => e = .returned (.int .i64 u.length) ∧ w = w' := ⟨ok46, fun w F b o u h => tagsLenN_ok (by kernel_rfl) (by kernel_rfl) (by kernel_rfl) Go.Proofs.Tryd.func46 b46 (by kernel_rfl) (by kernel_rfl) w F b o u h⟩
def rho : Shelf.Ren := ⟨fun n => match n with | 0 => 0 | 1 => 1 | 2 => 2 | 6 => 86 | 10 => 89 | 11 => 90 | 12 => 91 | 13 => 92 | 14 => 93 | 15 => 94 | 16 => 95 | 17 => 96 | 18 => 97 | 19 => 98 | 20 => 99 | 21 => 100 | 22 => 101 | 23 => 102 | 24 => 85 | 25 => 103 | 26 => 104 | 27 => 105 | 28 => 106 | 29 => 107 | 30 => 108 | 31 => 109 | 32 => 110 | 33 => 111 | 34 => 112 | 35 => 113 | 36 => 114 | 37 => 115 | 38 => 116 | 39 => 117 | 40 => 118 | 41 => 119 | 42 => 120 | 43 => 121 | 44 => 122 | 45 => 123 | 46 => 124 | 47 => 125 | 48 => 126 | 49 => 127 | 50 => 128 | 51 => 129 | 52 => 130 | 53 => 131 | 54 => 132 | 55 => 136 | 56 => 137 | 57 => 138 | 58 => 140 | _ => 0, fun n => match n with | 0 => 0 | 1 => 1 | 2 => 2 | 3 => 3 | 4 => 4 | 5 => 5 | 6 => 6 | 7 => 7 | 8 => 8 | 9 => 9 | 10 => 10 | 11 => 11 | 12 => 12 | 13 => 13 | 14 => 14 | 15 => 15 | 16 => 16 | 17 => 17 | 18 => 18 | 19 => 19 | 20 => 20 | 21 => 21 | 23 => 115 | 26 => 116 | 32 => 119 | 33 => 120 | 34 => 121 | 35 => 122 | 36 => 123 | 37 => 124 | 38 => 125 | 39 => 23 | 40 => 126 | 41 => 102 | 42 => 127 | 43 => 128 | 44 => 129 | 45 => 130 | 46 => 131 | 47 => 132 | 48 => 101 | 49 => 63 | 50 => 133 | 51 => 134 | 52 => 135 | 53 => 136 | 54 => 137 | 55 => 138 | 56 => 139 | 57 => 140 | 58 => 141 | 59 => 142 | 60 => 143 | 61 => 144 | 62 => 145 | 63 => 146 | 64 => 147 | 65 => 148 | 66 => 149 | 67 => 150 | 68 => 151 | 69 => 96 | 70 => 153 | 71 => 154 | 72 => 155 | 73 => 156 | 74 => 157 | 75 => 158 | 76 => 159 | 77 => 160 | 78 => 161 | 79 => 162 | 80 => 163 | 81 => 164 | 82 => 165 | 83 => 167 | 84 => 168 | _ => 0, fun n => n⟩
theorem laysGg : LaysGg.n6 PP rho where
  mixed := by kernel_rfl
  f6 := by kernel_rfl
  f10 := by kernel_rfl
  f11 := by kernel_rfl
  f12 := by kernel_rfl
  f13 := by kernel_rfl
  f14 := by kernel_rfl
  f24 := by kernel_rfl
  f25 := by kernel_rfl
  f26 := by kernel_rfl
  f27 := by kernel_rfl
  f28 := by kernel_rfl
  f29 := by kernel_rfl
  f30 := by kernel_rfl
  f31 := by kernel_rfl
  f32 := by kernel_rfl
  f33 := by kernel_rfl
  f34 := by kernel_rfl
  f35 := by kernel_rfl
  f36 := by kernel_rfl
  f37 := by kernel_rfl
  f38 := by kernel_rfl
  f39 := by kernel_rfl
  t0 := by kernel_rfl
  a0 := fun _ => by kernel_rfl
  z0 := fun _ => by kernel_rfl
  v0 := fun _ => by kernel_rfl
  i0 := by kernel_rfl
  t3 := by kernel_rfl
  a3 := fun _ => by kernel_rfl
  z3 := fun _ => by kernel_rfl
  v3 := fun _ => by kernel_rfl
  i3 := by kernel_rfl
  t4 := by kernel_rfl
  a4 := fun _ => by kernel_rfl
  z4 := fun _ => by kernel_rfl
  v4 := fun _ => by kernel_rfl
  i4 := by kernel_rfl
  t5 := by kernel_rfl
  a5 := fun _ => by kernel_rfl
  z5 := fun _ => by kernel_rfl
  v5 := fun _ => by kernel_rfl
  i5 := by kernel_rfl
  t9 := by kernel_rfl
  a9 := fun _ => by kernel_rfl
  z9 := fun _ => by kernel_rfl
  v9 := fun _ => by kernel_rfl
  i9 := by kernel_rfl
  t12 := by kernel_rfl
  a12 := fun _ => by kernel_rfl
  z12 := fun _ => by kernel_rfl
  v12 := fun _ => by kernel_rfl
  i12 := by kernel_rfl
  t17 := by kernel_rfl
  a17 := fun _ => by kernel_rfl
  z17 := fun _ => by kernel_rfl
  v17 := fun _ => by kernel_rfl
  i17 := by kernel_rfl
  t20 := by kernel_rfl
  a20 := fun _ => by kernel_rfl
  z20 := fun _ => by kernel_rfl
  v20 := fun _ => by kernel_rfl
  i20 := by kernel_rfl
  t26 := by kernel_rfl
  a26 := fun _ => by kernel_rfl
  z26 := fun _ => by kernel_rfl
  v26 := fun _ => by kernel_rfl
  i26 := by kernel_rfl
  t32 := by kernel_rfl
  a32 := fun _ => by kernel_rfl
  z32 := fun _ => by kernel_rfl
  v32 := fun _ => by kernel_rfl
  i32 := by kernel_rfl
  t33 := by kernel_rfl
  a33 := fun _ => by kernel_rfl
  z33 := fun _ => by kernel_rfl
  v33 := fun _ => by kernel_rfl
  i33 := by kernel_rfl
  t35 := by kernel_rfl
  a35 := fun _ => by kernel_rfl
  z35 := fun _ => by kernel_rfl
  v35 := fun _ => by kernel_rfl
  i35 := by kernel_rfl
  t37 := by kernel_rfl
  a37 := fun _ => by kernel_rfl
  z37 := fun _ => by kernel_rfl
  v37 := fun _ => by kernel_rfl
  i37 := by kernel_rfl
  t41 := by kernel_rfl
  a41 := fun _ => by kernel_rfl
  z41 := fun _ => by kernel_rfl
  v41 := fun _ => by kernel_rfl
  i41 := by kernel_rfl
  t44 := by kernel_rfl
  a44 := fun _ => by kernel_rfl
  z44 := fun _ => by kernel_rfl
  v44 := fun _ => by kernel_rfl
  i44 := by kernel_rfl
  t49 := by kernel_rfl
  a49 := fun _ => by kernel_rfl
  z49 := fun _ => by kernel_rfl
  v49 := fun _ => by kernel_rfl
  i49 := by kernel_rfl
  t51 := by kernel_rfl
  a51 := fun _ => by kernel_rfl
  z51 := fun _ => by kernel_rfl
  v51 := fun _ => by kernel_rfl
  i51 := by kernel_rfl
  t53 := by kernel_rfl
  a53 := fun _ => by kernel_rfl
  z53 := fun _ => by kernel_rfl
  v53 := fun _ => by kernel_rfl
  i53 := by kernel_rfl
  t54 := by kernel_rfl
  a54 := fun _ => by kernel_rfl
  z54 := fun _ => by kernel_rfl
  v54 := fun _ => by kernel_rfl
  i54 := by kernel_rfl
  t58 := by kernel_rfl
  a58 := fun _ => by kernel_rfl
  z58 := fun _ => by kernel_rfl
  v58 := fun _ => by kernel_rfl
  i58 := by kernel_rfl
  t60 := by kernel_rfl
  a60 := fun _ => by kernel_rfl
  z60 := fun _ => by kernel_rfl
  v60 := fun _ => by kernel_rfl
  i60 := by kernel_rfl
  t64 := by kernel_rfl
  a64 := fun _ => by kernel_rfl
  z64 := fun _ => by kernel_rfl
  v64 := fun _ => by kernel_rfl
  i64 := by kernel_rfl
  t66 := by kernel_rfl
  a66 := fun _ => by kernel_rfl
  z66 := fun _ => by kernel_rfl
  v66 := fun _ => by kernel_rfl
  i66 := by kernel_rfl
  t67 := by kernel_rfl
  a67 := fun _ => by kernel_rfl
  z67 := fun _ => by kernel_rfl
  v67 := fun _ => by kernel_rfl
  i67 := by kernel_rfl
  t75 := by kernel_rfl
  a75 := fun _ => by kernel_rfl
  z75 := fun _ => by kernel_rfl
  v75 := fun _ => by kernel_rfl
  i75 := by kernel_rfl
  t76 := by kernel_rfl
  a76 := fun _ => by kernel_rfl
  z76 := fun _ => by kernel_rfl
  v76 := fun _ => by kernel_rfl
  i76 := by kernel_rfl
  t77 := by kernel_rfl
  a77 := fun _ => by kernel_rfl
  z77 := fun _ => by kernel_rfl
  v77 := fun _ => by kernel_rfl
  i77 := by kernel_rfl
  t78 := by kernel_rfl
  a78 := fun _ => by kernel_rfl
  z78 := fun _ => by kernel_rfl
  v78 := fun _ => by kernel_rfl
  i78 := by kernel_rfl
  t79 := by kernel_rfl
  a79 := fun _ => by kernel_rfl
  z79 := fun _ => by kernel_rfl
  v79 := fun _ => by kernel_rfl
  i79 := by kernel_rfl
  t80 := by kernel_rfl
  a80 := fun _ => by kernel_rfl
  z80 := fun _ => by kernel_rfl
  v80 := fun _ => by kernel_rfl
  i80 := by kernel_rfl
  t82 := by kernel_rfl
  a82 := fun _ => by kernel_rfl
  z82 := fun _ => by kernel_rfl
  v82 := fun _ => by kernel_rfl
  i82 := by kernel_rfl
theorem b87 : (Go.Proofs.Tryd.f87).body.map strip = some (sc_Each1 114 63) := by kernel_rfl
theorem ok87 : FnOK PP 87 := fnOK_of Go.Proofs.Tryd.func87 b87 (by kernel_rfl)
theorem b72 : (Go.Proofs.Tryd.f72).body.map strip = some (sc_AppendEach1 22 3 63 45) := by kernel_rfl
theorem ok72 : FnOK PP 72 := fnOK_of Go.Proofs.Tryd.func72 b72 (by kernel_rfl)
theorem b71 : (Go.Proofs.Tryd.f71).body.map strip = some (sc_TEach 47 45 3 114 63 86 87) := by kernel_rfl
theorem ok71 : FnOK PP 71 := fnOK_of Go.Proofs.Tryd.func71 b71 (by kernel_rfl)
theorem b47 : (Go.Proofs.Tryd.f47).body.map strip = some (sc_TAppendEach 22 71 (.func 72)) := by kernel_rfl
theorem ok47 : FnOK PP 47 := fnOK_of Go.Proofs.Tryd.func47 b47 (by kernel_rfl)
theorem okS : FnOK PP 86 := ⟨_, Go.Proofs.Tryd.func86, (by kernel_rfl), (by kernel_rfl)⟩
noncomputable def siT : TypeInfo := (PP.info? 114).get (by kernel_rfl)
noncomputable def siE : TypeInfo := (PP.info? 63).get (by kernel_rfl)
noncomputable def siTz : Value := siT.zero.get (by kernel_rfl)
noncomputable def siEz : Value := siE.zero.get (by kernel_rfl)
theorem siK (n : Nat) : Lib.swapperK n siE 10 = if n = 0 then 1 else if n = 1 then 2 else 6 := by
  have a : siE.hasPointers = false := by kernel_rfl
  have b : siE.bytes = 4 := by kernel_rfl
  unfold Lib.swapperK
  rw [a, b]
  by_cases h0 : n = 0
  · simp [h0]
  · by_cases h1 : n = 1
    · simp [h1]
    · simp [h0, h1]
def swF (n : Nat) : Nat := if n = 0 then 94 else if n = 1 then 95 else 99
theorem swOK (n : Nat) : PP.funcs.findIdx? (·.name == "internal/reflectlite" ++ ".Swapper$" ++ toString (Lib.swapperK n siE 10)) = some (swF n) := by
  rw [siK]
  unfold swF
  by_cases h0 : n = 0
  · simp only [h0, if_true]; kernel_rfl
  · by_cases h1 : n = 1
    · subst h1; kernel_rfl
    · simp only [h0, h1, if_false]; kernel_rfl
theorem sortOK : SortC PP 86 87 114 63 := sortC laysGg hm (by kernel_rfl) (by kernel_rfl) (by kernel_rfl) (i := siT) (ie := siE) (by kernel_rfl) (by kernel_rfl) (by kernel_rfl) (by kernel_rfl) 10 (fun _ => by kernel_rfl) (by kernel_rfl) Go.Proofs.Tryd.func87 b87 (by kernel_rfl) (by kernel_rfl) okS ok87 swF swOK true (fun n args W h => by
  have e : swF n = 99 := by unfold swF; rw [if_neg (by omega), if_neg (by omega)]
  rw [e]
  exact run_callFunc_extern Go.Proofs.Tryd.func99 (by kernel_rfl) (by kernel_rfl) (by kernel_rfl) (e := Extern.ReflectliteSwapper.swap true) (by kernel_rfl) args W)
theorem eachC : EachC PP X.U8 22 72 G0 71 := each_ok (TU := 114) (T32 := 63) (i32 := siE) (iU := siT) (z32 := siEz) (zU := siTz) (by kernel_rfl) (by kernel_rfl) (by kernel_rfl) (by kernel_rfl) (by kernel_rfl) (by kernel_rfl) (by kernel_rfl) (by kernel_rfl) (by kernel_rfl) (by kernel_rfl) (by decide +kernel) (by kernel_rfl) (by kernel_rfl) (by kernel_rfl) sortOK ok72 (fun w B c k cap dv xs bs base h1 h2 h3 h4 h5 h6 h7 h8 => cl_ok (by kernel_rfl) (by kernel_rfl) (by kernel_rfl) (by kernel_rfl) (by kernel_rfl) apUvar2 Go.Proofs.Tryd.func72 b72 (by kernel_rfl) (by kernel_rfl) w B c k cap dv xs bs base h1 h2 h3 h4 h5 h6 h7 h8) Go.Proofs.Tryd.func71 b71 (by kernel_rfl) (by kernel_rfl)
theorem tEachC : FnOK PP 47 ∧ ∀ (w : World) (B b o : Nat) (u : List (Nat × Bytes)) (dv : Value) (xs : Bytes), HTags G0 w (· < B) b o u → b < B → Own X.U8 w B dv xs → B ≤ w.heap.size → xs.length + (u.flatMap wTag).length ≤ lim →
    Calls PP 47 #[.pointer (some ⟨b, o, none⟩), dv] w fun e w' => ∃ dv', e = .returned dv' ∧ Own X.U8 w' B dv' (xs ++ u.flatMap wTag) ∧ Below B w w' ∧ B ≤ w'.heap.size := ⟨ok47, fun w B b o u dv xs h1 h2 h3 h4 h5 => appendEachN_ok (by kernel_rfl) ok71 eachC Go.Proofs.Tryd.func47 b47 (by kernel_rfl) (by kernel_rfl) w B b o u dv xs h1 h2 h3 h4 h5⟩
theorem ka : KA G0 PP ids X.U8 where
  bool := fun h => absurd rfl h
  i8 := fun h => absurd rfl h
  i16 := fun _ => apI16
  i32 := fun _ => apI32
  i64 := fun h => absurd rfl h
  u16 := fun _ => apU16
  uuid := fun _ => apUuid
  str := fun _ => apStr
  cstr := fun _ => apCStr
  nstr0 := fun h => absurd rfl h
  nstr := fun h => absurd rfl h
  cnstr0 := fun h => absurd rfl h
  cnstr := fun h => absurd rfl h
  bytes := fun h => absurd rfl h
  cbytes := fun h => absurd rfl h
  nbytes := fun h => absurd rfl h
  nbytes0 := fun h => absurd rfl h
  cnbytes := fun h => absurd rfl h
  cnbytes0 := fun h => absurd rfl h
  arr := fun _ => apArr
  carr := fun _ => apCArr
  narr := fun h => absurd rfl h
  cnarr := fun h => absurd rfl h
  uvar := fun _ => apUvar
  tagsLen := fun _ => tLenC
  tagsEach := fun _ => tEachC
end Go.Proofs.YtdmdmnfdfkejbaaDoor.K
