/- FnNewVoteResponse: a new message is written, at every version, as the defaults are: this seat's functions and the law. No condition. -/
import Derived.Test.YtjbbohfaihkolaaChecked
import Derived.Test.YtjbbohfaihkolaaChecked
import Derived.Test.YtjbbohfaihkolaaN13
import Derived.KernelRfl
namespace Go.Proofs.Ytjbbohfaihkolaa.K.NewVoteResponse
open Go Go.RowKit Go.Proofs Go.Proofs.Ytjbbohfaihkolaa.T Go.Proofs.Ytjbbohfaihkolaa.K
set_option linter.unusedVariables false
def X : STy := { I := 3, B := 4, U8 := 5, U32 := 68, U64 := 81, Bs := 28, F := 43, Fs := 23, T := 35, Ts := 32, Tg := 84, Tgs := 33, I64 := 2, M := 25, U := 86 }
noncomputable abbrev PP : Program := Go.Proofs.Try.prog
abbrev G0 : List (Nat × Bytes) → Prop := fun _ => True
theorem hX0 : sOK PP X = true := by kernel_rfl
theorem hX : stOK PP X = true := by kernel_rfl
theorem hm : PP.follows .mixedOrders = true := by kernel_rfl
theorem sT : sliceN PP X.Bs = some 1 := by kernel_rfl
theorem iI : intK PP X.I = some .i64 := by kernel_rfl
theorem b6 : (Go.Proofs.Try.f6).body.map strip = some (sc_Same X.Bs X.I X.U8) := by kernel_rfl
theorem ok6 : FnOK PP 6 := fnOK_of Go.Proofs.Try.func6 b6 (by kernel_rfl)
theorem cSame (w : World) (xs : Bytes) (b1 b2 : Option Addr) (c1 c2 : Nat) (h1 : BytesAt w (fun k => k < w.heap.size) b1 xs) (h2 : BytesAt w (fun k => k < w.heap.size) b2 xs) (h3 : xs.length ≤ lim) : Calls PP 6 #[.slice b1 xs.length c1, .slice b2 xs.length c2] w fun e w' => e = .returned (.bool true) ∧ Below w.heap.size w w' := same_ok hX0 hm Go.Proofs.Try.func6 b6 (by kernel_rfl) (by kernel_rfl) w xs b1 b2 c1 c2 h1 h2 h3
theorem b8 : (Go.Proofs.Try.f8).body.map strip = some (sc_version X.U8 X.I) := by kernel_rfl
theorem ok8 : FnOK PP 8 := fnOK_of Go.Proofs.Try.func8 b8 (by kernel_rfl)
theorem cVer (w : World) (n m : Nat) (h1 : n < 256) (h2 : m < 65536) : Calls PP 8 #[.int .u8 (n : Int), .int .i64 (m : Int)] w fun e w' => e = .returned (.int .i64 ((n % (m + 1) : Nat) : Int)) ∧ w = w' := version_ok hX0 Go.Proofs.Try.func8 b8 (by kernel_rfl) (by kernel_rfl) w n m h1 h2
def ids : Ids := { tI16 := 38, tInt := 3, tU32 := 68, tI8 := 0, tU8s := 28, tI32 := 21, tBool := 4, aBool := 26, aI8 := 0, aI16 := 20, aI32 := 25, aI64 := 0, aU16 := 30, aUuid := 0, aStr := 24, aCStr := 23, aNStr := 0, aCNStr := 0, aBytes := 0, aCBytes := 0, aNBytes := 0, aCNBytes := 0, aArr := 22, aCArr := 21, aNArr := 0, aCNArr := 0, aUvar := 27, tagsLen := 28, tagsEach := 29 }
theorem b26 : (Go.Proofs.Try.f26).body.map strip = some (sc_AppendBool 28) := by kernel_rfl
theorem apBool (x : Bool) : AP PP X.U8 26 #[.bool x] (fun _ _ => True) [if x then 1 else 0] := appendBool_ok Go.Proofs.Try.func26 b26 (by kernel_rfl) (by kernel_rfl) (by kernel_rfl) (by kernel_rfl) x
theorem b30 : (Go.Proofs.Try.f30).body.map strip = some (sc_AppendUint16 71 86 5 28) := by kernel_rfl
theorem apU16 (n : Int) : AP PP X.U8 30 #[.int .u16 n] (fun _ _ => True) (fixed n 2) := appendU16_ok Go.Proofs.Try.func30 b30 (by kernel_rfl) (by kernel_rfl) (by kernel_rfl) (by kernel_rfl) (by kernel_rfl) (by kernel_rfl) n
theorem b39 : (Go.Proofs.Try.f39).body.map strip = some (sc_AppendUint32 68 86 5 28) := by kernel_rfl
theorem apU32 (n : Int) : AP PP X.U8 39 #[.int .u32 n] (fun _ _ => True) (fixed n 4) := appendU32_ok Go.Proofs.Try.func39 b39 (by kernel_rfl) (by kernel_rfl) (by kernel_rfl) (by kernel_rfl) (by kernel_rfl) (by kernel_rfl) n
theorem b20 : (Go.Proofs.Try.f20).body.map strip = some (sc_AppendInt16 38 71 30) := by kernel_rfl
theorem apI16 (n : Int) : AP PP X.U8 20 #[.int .i16 n] (fun _ _ => True) (fixed n 2) := appendI16_ok Go.Proofs.Try.func20 b20 (by kernel_rfl) (by kernel_rfl) (by kernel_rfl) (by kernel_rfl) (by kernel_rfl) apU16 n
theorem b25 : (Go.Proofs.Try.f25).body.map strip = some (sc_AppendInt32 21 68 39) := by kernel_rfl
theorem apI32 (n : Int) : AP PP X.U8 25 #[.int .i32 n] (fun _ _ => True) (fixed n 4) := appendI32_ok Go.Proofs.Try.func25 b25 (by kernel_rfl) (by kernel_rfl) (by kernel_rfl) (by kernel_rfl) (by kernel_rfl) apU32 n
theorem b49 : (Go.Proofs.Try.f49).body.map strip = some (sc_Len32 68 86 3 5 9) := by kernel_rfl
theorem ok49 : FnOK PP 49 := fnOK_of Go.Proofs.Try.func49 b49 (by kernel_rfl)
theorem b40 : (Go.Proofs.Try.f40).body.map strip = some (sc_UvarintLen 3 5 9 49) := by kernel_rfl
theorem ok40 : FnOK PP 40 := fnOK_of Go.Proofs.Try.func40 b40 (by kernel_rfl)
theorem b27 : (Go.Proofs.Try.f27).body.map strip = some (sc_AppendUvarint 3 68 5 86 28 40) := by kernel_rfl
theorem apUvar2 (n : Nat) (h : n < 4294967296) : AP2 PP X.U8 27 #[.int .u32 (n : Int)] (uvarint n) := appendUvarint2_ok Go.Proofs.Try.func27 b27 (by kernel_rfl) (by kernel_rfl) (by kernel_rfl) (by kernel_rfl) (by kernel_rfl) (by kernel_rfl) ok40 (fun n w h => uvarintLen_ok Go.Proofs.Try.func40 b40 (by kernel_rfl) (by kernel_rfl) (by kernel_rfl) (by kernel_rfl) (by kernel_rfl) ok49 (fun n w h => len32_ok Go.Proofs.Try.func49 b49 (by kernel_rfl) (by kernel_rfl) (by kernel_rfl) (by kernel_rfl) (by kernel_rfl) (by kernel_rfl) n h w) n h w) n h
theorem apUvar (n : Nat) (h : n < 4294967296) : AP PP X.U8 27 #[.int .u32 (n : Int)] (fun _ _ => True) (uvarint n) := appendUvarint_ok Go.Proofs.Try.func27 b27 (by kernel_rfl) (by kernel_rfl) (by kernel_rfl) (by kernel_rfl) (by kernel_rfl) (by kernel_rfl) ok40 (fun n w h => uvarintLen_ok Go.Proofs.Try.func40 b40 (by kernel_rfl) (by kernel_rfl) (by kernel_rfl) (by kernel_rfl) (by kernel_rfl) ok49 (fun n w h => len32_ok Go.Proofs.Try.func49 b49 (by kernel_rfl) (by kernel_rfl) (by kernel_rfl) (by kernel_rfl) (by kernel_rfl) (by kernel_rfl) n h w) n h w) n h
theorem b24 : (Go.Proofs.Try.f24).body.map strip = some (sc_AppendString 9 3 38 28 20) := by kernel_rfl
theorem apStr (s : ByteArray) (h : s.data.toList.length ≤ most) : AP PP X.U8 24 #[.string s] (fun _ _ => True) (counted false false s.data.toList.length 2 ++ s.data.toList) := appendString_ok Go.Proofs.Try.func24 b24 (by kernel_rfl) (by kernel_rfl) (by kernel_rfl) (by kernel_rfl) (by kernel_rfl) (by kernel_rfl) (by kernel_rfl) apI16 s h
theorem b23 : (Go.Proofs.Try.f23).body.map strip = some (sc_AppendCompactString 9 3 68 28 27) := by kernel_rfl
theorem apCStr (s : ByteArray) (h : s.data.toList.length ≤ most) : AP PP X.U8 23 #[.string s] (fun _ _ => True) (counted true false s.data.toList.length 2 ++ s.data.toList) := appendCompactString_ok Go.Proofs.Try.func23 b23 (by kernel_rfl) (by kernel_rfl) (by kernel_rfl) (by kernel_rfl) (by kernel_rfl) (by kernel_rfl) (by kernel_rfl) apUvar s h
theorem b22 : (Go.Proofs.Try.f22).body.map strip = some (sc_AppendArrayLen 3 21 25) := by kernel_rfl
theorem apArr (n : Nat) (h : n ≤ most) : AP PP X.U8 22 #[.int .i64 n] (fun _ _ => True) (counted false false n 4) := appendArrayLen_ok Go.Proofs.Try.func22 b22 (by kernel_rfl) (by kernel_rfl) (by kernel_rfl) (by kernel_rfl) (by kernel_rfl) apI32 n h
theorem b21 : (Go.Proofs.Try.f21).body.map strip = some (sc_AppendCompactArrayLen 3 68 27) := by kernel_rfl
theorem apCArr (n : Nat) (h : n ≤ most) : AP PP X.U8 21 #[.int .i64 n] (fun _ _ => True) (counted true false n 4) := appendCompactArrayLen_ok Go.Proofs.Try.func21 b21 (by kernel_rfl) (by kernel_rfl) (by kernel_rfl) (by kernel_rfl) (by kernel_rfl) apUvar n h
theorem b28 : (Go.Proofs.Try.f28).body.map strip = some (sc_TLen 52 50) := by kernel_rfl
theorem ok28 : FnOK PP 28 := fnOK_of Go.Proofs.Try.func28 b28 (by kernel_rfl)
theorem tLenC : FnOK PP 28 ∧ ∀ (w : World) (F : Nat → Prop) (b o : Nat) (u : List (Nat × Bytes)), HTags G0 w F b o u → Calls PP 28 #[.pointer (some ⟨b, o, none⟩)] w fun e w' => e = .returned (.int .i64 u.length) ∧ w = w' := ⟨ok28, fun w F b o u h => tagsLenN_ok (by kernel_rfl) (by kernel_rfl) (by kernel_rfl) Go.Proofs.Try.func28 b28 (by kernel_rfl) (by kernel_rfl) w F b o u h⟩
def rho : Shelf.Ren := ⟨fun n => match n with | 0 => 0 | 1 => 1 | 2 => 2 | 6 => 50 | 10 => 52 | 11 => 53 | 12 => 54 | 13 => 55 | 14 => 56 | 15 => 57 | 16 => 58 | 17 => 59 | 18 => 60 | 19 => 61 | 20 => 62 | 21 => 63 | 22 => 64 | 23 => 65 | 24 => 49 | 25 => 66 | 26 => 67 | 27 => 68 | 28 => 69 | 29 => 70 | 30 => 71 | 31 => 72 | 32 => 73 | 33 => 74 | 34 => 75 | 35 => 76 | 36 => 77 | 37 => 78 | 38 => 79 | 39 => 80 | 40 => 81 | 41 => 82 | 42 => 83 | 43 => 84 | 44 => 85 | 45 => 86 | 46 => 87 | 47 => 88 | 48 => 89 | 49 => 90 | 50 => 91 | 51 => 92 | 52 => 93 | 53 => 94 | 54 => 95 | 55 => 100 | 56 => 101 | 57 => 102 | 58 => 103 | _ => 0, fun n => match n with | 0 => 0 | 1 => 1 | 2 => 2 | 3 => 3 | 4 => 4 | 5 => 5 | 6 => 6 | 7 => 7 | 8 => 8 | 9 => 9 | 10 => 10 | 11 => 11 | 12 => 12 | 13 => 13 | 14 => 14 | 15 => 15 | 16 => 16 | 17 => 17 | 18 => 18 | 19 => 19 | 20 => 20 | 21 => 21 | 23 => 96 | 26 => 97 | 32 => 98 | 33 => 99 | 34 => 100 | 35 => 101 | 36 => 102 | 37 => 103 | 38 => 104 | 39 => 22 | 40 => 105 | 41 => 86 | 42 => 106 | 43 => 107 | 44 => 108 | 45 => 109 | 46 => 110 | 47 => 111 | 48 => 85 | 49 => 68 | 50 => 112 | 51 => 81 | 52 => 113 | 53 => 114 | 54 => 115 | 55 => 116 | 56 => 117 | 57 => 118 | 58 => 119 | 59 => 120 | 60 => 121 | 61 => 122 | 62 => 123 | 63 => 124 | 64 => 125 | 65 => 126 | 66 => 127 | 67 => 128 | 68 => 129 | 69 => 130 | 70 => 131 | 71 => 132 | 72 => 133 | 73 => 134 | 74 => 135 | 75 => 136 | 76 => 137 | 77 => 138 | 78 => 139 | 79 => 140 | 80 => 141 | 81 => 142 | 82 => 143 | 83 => 145 | 84 => 146 | _ => 0, fun n => n⟩
theorem laysGg : LaysGg.n6 PP rho where
  mixed := by kernel_rfl
  f6 := by kernel_rfl
  f10 := by kernel_rfl
  f11 := by kernel_rfl
  f12 := by kernel_rfl
  f13 := by kernel_rfl
  f14 := by kernel_rfl
  f24 := by kernel_rfl
  f25 := by kernel_rfl
  f26 := by kernel_rfl
  f27 := by kernel_rfl
  f28 := by kernel_rfl
  f29 := by kernel_rfl
  f30 := by kernel_rfl
  f31 := by kernel_rfl
  f32 := by kernel_rfl
  f33 := by kernel_rfl
  f34 := by kernel_rfl
  f35 := by kernel_rfl
  f36 := by kernel_rfl
  f37 := by kernel_rfl
  f38 := by kernel_rfl
  f39 := by kernel_rfl
  t0 := by kernel_rfl
  a0 := fun _ => by kernel_rfl
  z0 := fun _ => by kernel_rfl
  v0 := fun _ => by kernel_rfl
  i0 := by kernel_rfl
  t3 := by kernel_rfl
  a3 := fun _ => by kernel_rfl
  z3 := fun _ => by kernel_rfl
  v3 := fun _ => by kernel_rfl
  i3 := by kernel_rfl
  t4 := by kernel_rfl
  a4 := fun _ => by kernel_rfl
  z4 := fun _ => by kernel_rfl
  v4 := fun _ => by kernel_rfl
  i4 := by kernel_rfl
  t5 := by kernel_rfl
  a5 := fun _ => by kernel_rfl
  z5 := fun _ => by kernel_rfl
  v5 := fun _ => by kernel_rfl
  i5 := by kernel_rfl
  t9 := by kernel_rfl
  a9 := fun _ => by kernel_rfl
  z9 := fun _ => by kernel_rfl
  v9 := fun _ => by kernel_rfl
  i9 := by kernel_rfl
  t12 := by kernel_rfl
  a12 := fun _ => by kernel_rfl
  z12 := fun _ => by kernel_rfl
  v12 := fun _ => by kernel_rfl
  i12 := by kernel_rfl
  t17 := by kernel_rfl
  a17 := fun _ => by kernel_rfl
  z17 := fun _ => by kernel_rfl
  v17 := fun _ => by kernel_rfl
  i17 := by kernel_rfl
  t20 := by kernel_rfl
  a20 := fun _ => by kernel_rfl
  z20 := fun _ => by kernel_rfl
  v20 := fun _ => by kernel_rfl
  i20 := by kernel_rfl
  t26 := by kernel_rfl
  a26 := fun _ => by kernel_rfl
  z26 := fun _ => by kernel_rfl
  v26 := fun _ => by kernel_rfl
  i26 := by kernel_rfl
  t32 := by kernel_rfl
  a32 := fun _ => by kernel_rfl
  z32 := fun _ => by kernel_rfl
  v32 := fun _ => by kernel_rfl
  i32 := by kernel_rfl
  t33 := by kernel_rfl
  a33 := fun _ => by kernel_rfl
  z33 := fun _ => by kernel_rfl
  v33 := fun _ => by kernel_rfl
  i33 := by kernel_rfl
  t35 := by kernel_rfl
  a35 := fun _ => by kernel_rfl
  z35 := fun _ => by kernel_rfl
  v35 := fun _ => by kernel_rfl
  i35 := by kernel_rfl
  t37 := by kernel_rfl
  a37 := fun _ => by kernel_rfl
  z37 := fun _ => by kernel_rfl
  v37 := fun _ => by kernel_rfl
  i37 := by kernel_rfl
  t41 := by kernel_rfl
  a41 := fun _ => by kernel_rfl
  z41 := fun _ => by kernel_rfl
  v41 := fun _ => by kernel_rfl
  i41 := by kernel_rfl
  t44 := by kernel_rfl
  a44 := fun _ => by kernel_rfl
  z44 := fun _ => by kernel_rfl
  v44 := fun _ => by kernel_rfl
  i44 := by kernel_rfl
  t49 := by kernel_rfl
  a49 := fun _ => by kernel_rfl
  z49 := fun _ => by kernel_rfl
  v49 := fun _ => by kernel_rfl
  i49 := by kernel_rfl
  t51 := by kernel_rfl
  a51 := fun _ => by kernel_rfl
  z51 := fun _ => by kernel_rfl
  v51 := fun _ => by kernel_rfl
  i51 := by kernel_rfl
  t53 := by kernel_rfl
  a53 := fun _ => by kernel_rfl
  z53 := fun _ => by kernel_rfl
  v53 := fun _ => by kernel_rfl
  i53 := by kernel_rfl
  t54 := by kernel_rfl
  a54 := fun _ => by kernel_rfl
  z54 := fun _ => by kernel_rfl
  v54 := fun _ => by kernel_rfl
  i54 := by kernel_rfl
  t58 := by kernel_rfl
  a58 := fun _ => by kernel_rfl
  z58 := fun _ => by kernel_rfl
  v58 := fun _ => by kernel_rfl
  i58 := by kernel_rfl
  t60 := by kernel_rfl
  a60 := fun _ => by kernel_rfl
  z60 := fun _ => by kernel_rfl
  v60 := fun _ => by kernel_rfl
  i60 := by kernel_rfl
  t64 := by kernel_rfl
  a64 := fun _ => by kernel_rfl
  z64 := fun _ => by kernel_rfl
  v64 := fun _ => by kernel_rfl
  i64 := by kernel_rfl
  t66 := by kernel_rfl
  a66 := fun _ => by kernel_rfl
  z66 := fun _ => by kernel_rfl
  v66 := fun _ => by kernel_rfl
  i66 := by kernel_rfl
  t67 := by kernel_rfl
  a67 := fun _ => by kernel_rfl
  z67 := fun _ => by kernel_rfl
  v67 := fun _ => by kernel_rfl
  i67 := by kernel_rfl
  t75 := by kernel_rfl
  a75 := fun _ => by kernel_rfl
  z75 := fun _ => by kernel_rfl
  v75 := fun _ => by kernel_rfl
  i75 := by kernel_rfl
  t76 := by kernel_rfl
  a76 := fun _ => by kernel_rfl
  z76 := fun _ => by kernel_rfl
  v76 := fun _ => by kernel_rfl
  i76 := by kernel_rfl
  t77 := by kernel_rfl
  a77 := fun _ => by kernel_rfl
  z77 := fun _ => by kernel_rfl
  v77 := fun _ => by kernel_rfl
  i77 := by kernel_rfl
  t78 := by kernel_rfl
  a78 := fun _ => by kernel_rfl
  z78 := fun _ => by kernel_rfl
  v78 := fun _ => by kernel_rfl
  i78 := by kernel_rfl
  t79 := by kernel_rfl
  a79 := fun _ => by kernel_rfl
  z79 := fun _ => by kernel_rfl
  v79 := fun _ => by kernel_rfl
  i79 := by kernel_rfl
  t80 := by kernel_rfl
  a80 := fun _ => by kernel_rfl
  z80 := fun _ => by kernel_rfl
  v80 := fun _ => by kernel_rfl
  i80 := by kernel_rfl
  t82 := by kernel_rfl
  a82 := fun _ => by kernel_rfl
  z82 := fun _ => by kernel_rfl
  v82 := fun _ => by kernel_rfl
  i82 := by kernel_rfl
theorem b51 : (Go.Proofs.Try.f51).body.map strip = some (sc_Each1 69 68) := by kernel_rfl
theorem ok51 : FnOK PP 51 := fnOK_of Go.Proofs.Try.func51 b51 (by kernel_rfl)
theorem b42 : (Go.Proofs.Try.f42).body.map strip = some (sc_AppendEach1 28 3 68 27) := by kernel_rfl
theorem ok42 : FnOK PP 42 := fnOK_of Go.Proofs.Try.func42 b42 (by kernel_rfl)
theorem b41 : (Go.Proofs.Try.f41).body.map strip = some (sc_TEach 52 50 3 69 68 50 51) := by kernel_rfl
theorem ok41 : FnOK PP 41 := fnOK_of Go.Proofs.Try.func41 b41 (by kernel_rfl)
theorem b29 : (Go.Proofs.Try.f29).body.map strip = some (sc_TAppendEach 28 41 (.func 42)) := by kernel_rfl
theorem ok29 : FnOK PP 29 := fnOK_of Go.Proofs.Try.func29 b29 (by kernel_rfl)
theorem okS : FnOK PP 50 := ⟨_, Go.Proofs.Try.func50, (by kernel_rfl), (by kernel_rfl)⟩
noncomputable def siT : TypeInfo := (PP.info? 69).get (by kernel_rfl)
noncomputable def siE : TypeInfo := (PP.info? 68).get (by kernel_rfl)
noncomputable def siTz : Value := siT.zero.get (by kernel_rfl)
noncomputable def siEz : Value := siE.zero.get (by kernel_rfl)
theorem siK (n : Nat) : Lib.swapperK n siE 10 = if n = 0 then 1 else if n = 1 then 2 else 6 := by
  have a : siE.hasPointers = false := by kernel_rfl
  have b : siE.bytes = 4 := by kernel_rfl
  unfold Lib.swapperK
  rw [a, b]
  by_cases h0 : n = 0
  · simp [h0]
  · by_cases h1 : n = 1
    · simp [h1]
    · simp [h0, h1]
def swF (n : Nat) : Nat := if n = 0 then 57 else if n = 1 then 58 else 62
theorem swOK (n : Nat) : PP.funcs.findIdx? (·.name == "internal/reflectlite" ++ ".Swapper$" ++ toString (Lib.swapperK n siE 10)) = some (swF n) := by
  rw [siK]
  unfold swF
  by_cases h0 : n = 0
  · simp only [h0, if_true]; kernel_rfl
  · by_cases h1 : n = 1
    · subst h1; kernel_rfl
    · simp only [h0, h1, if_false]; kernel_rfl
theorem sortOK : SortC PP 50 51 69 68 := sortC laysGg hm (by kernel_rfl) (by kernel_rfl) (by kernel_rfl) (i := siT) (ie := siE) (by kernel_rfl) (by kernel_rfl) (by kernel_rfl) (by kernel_rfl) 10 (fun _ => by kernel_rfl) (by kernel_rfl) Go.Proofs.Try.func51 b51 (by kernel_rfl) (by kernel_rfl) okS ok51 swF swOK true (fun n args W h => by
  have e : swF n = 62 := by unfold swF; rw [if_neg (by omega), if_neg (by omega)]
  rw [e]
  exact run_callFunc_extern Go.Proofs.Try.func62 (by kernel_rfl) (by kernel_rfl) (by kernel_rfl) (e := Extern.ReflectliteSwapper.swap true) (by kernel_rfl) args W)
theorem eachC : EachC PP X.U8 28 42 G0 41 := each_ok (TU := 69) (T32 := 68) (i32 := siE) (iU := siT) (z32 := siEz) (zU := siTz) (by kernel_rfl) (by kernel_rfl) (by kernel_rfl) (by kernel_rfl) (by kernel_rfl) (by kernel_rfl) (by kernel_rfl) (by kernel_rfl) (by kernel_rfl) (by kernel_rfl) (by decide +kernel) (by kernel_rfl) (by kernel_rfl) (by kernel_rfl) sortOK ok42 (fun w B c k cap dv xs bs base h1 h2 h3 h4 h5 h6 h7 h8 => cl_ok (by kernel_rfl) (by kernel_rfl) (by kernel_rfl) (by kernel_rfl) (by kernel_rfl) apUvar2 Go.Proofs.Try.func42 b42 (by kernel_rfl) (by kernel_rfl) w B c k cap dv xs bs base h1 h2 h3 h4 h5 h6 h7 h8) Go.Proofs.Try.func41 b41 (by kernel_rfl) (by kernel_rfl)
theorem tEachC : FnOK PP 29 ∧ ∀ (w : World) (B b o : Nat) (u : List (Nat × Bytes)) (dv : Value) (xs : Bytes), HTags G0 w (· < B) b o u → b < B → Own X.U8 w B dv xs → B ≤ w.heap.size → xs.length + (u.flatMap wTag).length ≤ lim →
    Calls PP 29 #[.pointer (some ⟨b, o, none⟩), dv] w fun e w' => ∃ dv', e = .returned dv' ∧ Own X.U8 w' B dv' (xs ++ u.flatMap wTag) ∧ Below B w w' ∧ B ≤ w'.heap.size := ⟨ok29, fun w B b o u dv xs h1 h2 h3 h4 h5 => appendEachN_ok (by kernel_rfl) ok41 eachC Go.Proofs.Try.func29 b29 (by kernel_rfl) (by kernel_rfl) w B b o u dv xs h1 h2 h3 h4 h5⟩
theorem ka : KA G0 PP ids X.U8 where
  bool := fun _ => apBool
  i8 := fun h => absurd rfl h
  i16 := fun _ => apI16
  i32 := fun _ => apI32
  i64 := fun h => absurd rfl h
  u16 := fun _ => apU16
  uuid := fun h => absurd rfl h
  str := fun _ => apStr
  cstr := fun _ => apCStr
  nstr0 := fun h => absurd rfl h
  nstr := fun h => absurd rfl h
  cnstr0 := fun h => absurd rfl h
  cnstr := fun h => absurd rfl h
  bytes := fun h => absurd rfl h
  cbytes := fun h => absurd rfl h
  nbytes := fun h => absurd rfl h
  nbytes0 := fun h => absurd rfl h
  cnbytes := fun h => absurd rfl h
  cnbytes0 := fun h => absurd rfl h
  arr := fun _ => apArr
  carr := fun _ => apCArr
  narr := fun h => absurd rfl h
  cnarr := fun h => absurd rfl h
  uvar := fun _ => apUvar
  tagsLen := fun _ => tLenC
  tagsEach := fun _ => tEachC
theorem arrF : arrB PP X.F 8 = true := by kernel_rfl
theorem arrT : arrB PP X.T 5 = true := by kernel_rfl
theorem arrM : arrB PP X.M 2 = true := by kernel_rfl
theorem arrTg : arrB PP X.Tg 2 = true := by kernel_rfl
theorem fok : fOK PP X.F = true := by kernel_rfl
theorem uFs : PP.underlying X.Fs = some (.slice X.F) := by kernel_rfl
theorem zT : PP.built X.T [] = some #[.int .i64 0, .slice none 0 0, .bool false, .slice none 0 0, .slice none 0 0] := by kernel_rfl
theorem mB : ∀ (n : Int) (b : Option Addr) (l c : Nat), PP.built X.M [(1, .int .i64 n), (0, .slice b l c)] = some #[.slice b l c, .int .i64 n] := fun _ _ _ _ => by kernel_rfl
theorem sTs : sliceN PP X.Ts = some 5 := by kernel_rfl
theorem otOK : otB PP X.T X.Tg = true := by kernel_rfl
theorem b31 : (Go.Proofs.Try.f31).body.map strip = some (sc_has X.F X.I) := by kernel_rfl
theorem ok31 : FnOK PP 31 := fnOK_of Go.Proofs.Try.func31 b31 (by kernel_rfl)
theorem b43 : (Go.Proofs.Try.f43).body.map strip = some (sc_isnull X.F X.T X.B X.I) := by kernel_rfl
theorem ok43 : FnOK PP 43 := fnOK_of Go.Proofs.Try.func43 b43 (by kernel_rfl)
theorem b38 : (Go.Proofs.Try.f38).body.map strip = some (sc_whole X.Bs X.I) := by kernel_rfl
theorem ok38 : FnOK PP 38 := fnOK_of Go.Proofs.Try.func38 b38 (by kernel_rfl)
theorem b44 : (Go.Proofs.Try.f44).body.map strip = some (sc_things X.Ts X.I) := by kernel_rfl
theorem ok44 : FnOK PP 44 := fnOK_of Go.Proofs.Try.func44 b44 (by kernel_rfl)
theorem b33 : (Go.Proofs.Try.f33).body.map strip = some (sc_at X.T X.Ts X.I) := by kernel_rfl
theorem ok33 : FnOK PP 33 := fnOK_of Go.Proofs.Try.func33 b33 (by kernel_rfl)
theorem b36 : (Go.Proofs.Try.f36).body.map strip = some (sc_Uvarint X.U64 X.U8 X.Bs X.U) := by kernel_rfl
theorem ok36 : FnOK PP 36 := fnOK_of Go.Proofs.Try.func36 b36 (by kernel_rfl)
theorem b47 : (Go.Proofs.Try.f47).body.map strip = some (sc_Fixed X.I X.I64 X.U8 X.Bs) := by kernel_rfl
theorem ok47 : FnOK PP 47 := fnOK_of Go.Proofs.Try.func47 b47 (by kernel_rfl)
theorem b48 : (Go.Proofs.Try.f48).body.map strip = some (sc_width X.I) := by kernel_rfl
theorem ok48 : FnOK PP 48 := fnOK_of Go.Proofs.Try.func48 b48 (by kernel_rfl)
theorem b45 : (Go.Proofs.Try.f45).body.map strip = some (sc_counted X.Bs X.I X.U64 36 47) := by kernel_rfl
theorem ok45 : FnOK PP 45 := fnOK_of Go.Proofs.Try.func45 b45 (by kernel_rfl)
theorem b46 : (Go.Proofs.Try.f46).body.map strip = some (sc_value X.T X.I X.I64 X.U8 X.Bs 38 45 17 48 47) := by kernel_rfl
theorem ok46 : FnOK PP 46 := fnOK_of Go.Proofs.Try.func46 b46 (by kernel_rfl)
theorem b32 : (Go.Proofs.Try.f32).body.map strip = some (sc_sfield X.F X.T X.I X.Ts X.Fs X.Bs 43 44 45 46 47 17) := by kernel_rfl
theorem ok32 : FnOK PP 32 := fnOK_of Go.Proofs.Try.func32 b32 (by kernel_rfl)
theorem b34 : (Go.Proofs.Try.f34).body.map strip = some (sc_known X.Fs X.I X.F X.U32) := by kernel_rfl
theorem ok34 : FnOK PP 34 := fnOK_of Go.Proofs.Try.func34 b34 (by kernel_rfl)
theorem b17 : (Go.Proofs.Try.f17).body.map strip = some (sc_part X.T X.Fs X.I X.F X.Bs X.B X.U32 X.U64 X.Tgs X.Tg 31 33 32 34 35 36 37 38) := by kernel_rfl
theorem ok17 : FnOK PP 17 := fnOK_of Go.Proofs.Try.func17 b17 (by kernel_rfl)
theorem b37 : (Go.Proofs.Try.f37).body.map strip = some (sc_unknown X.Tgs X.I X.Tg X.U32 34) := by kernel_rfl
theorem ok37 : FnOK PP 37 := fnOK_of Go.Proofs.Try.func37 b37 (by kernel_rfl)
theorem b9 : (Go.Proofs.Try.f9).body.map strip = some (sc_Write X.M X.T X.Fs X.I 17) := by kernel_rfl
theorem ok9 : FnOK PP 9 := fnOK_of Go.Proofs.Try.func9 b9 (by kernel_rfl)
theorem small : SmallC PP X 38 44 45 48 47 36 31 43 33 G0 where
  oW := ok38
  cW := fun w b l c h => whole_ok iI sT Go.Proofs.Try.func38 b38 (by kernel_rfl) (by kernel_rfl) w b l c h
  oTh := ok44
  cTh := fun w b l c h => whole_ok iI sTs Go.Proofs.Try.func44 b44 (by kernel_rfl) (by kernel_rfl) w b l c h
  oC := ok45
  cC := fun w fl nu n s h1 h2 => counted_ok hX Go.Proofs.Try.func45 b45 (by kernel_rfl) (by kernel_rfl) ok36 (fun w n h => sUvarint_ok hX Go.Proofs.Try.func36 b36 (by kernel_rfl) (by kernel_rfl) w n h) ok47 (fun w n s h => sFixed_ok hX Go.Proofs.Try.func47 b47 (by kernel_rfl) (by kernel_rfl) w n s h) w fl nu n s h1 h2
  oWi := ok48
  cWi := fun w k => width_ok Go.Proofs.Try.func48 b48 (by kernel_rfl) (by kernel_rfl) w k
  oF := ok47
  cF := fun w n s h => sFixed_ok hX Go.Proofs.Try.func47 b47 (by kernel_rfl) (by kernel_rfl) w n s h
  oU := ok36
  cU := fun w n h => sUvarint_ok hX Go.Proofs.Try.func36 b36 (by kernel_rfl) (by kernel_rfl) w n h
  oH := ok31
  cH := fun w k fr to nu tg df o_ sub ver => has_ok hX Go.Proofs.Try.func31 b31 (by kernel_rfl) (by kernel_rfl) w k fr to nu tg df o_ sub ver
  oN := ok43
  cN := fun w k fr to nu tg df o_ sub ver n s l u null => isnull_ok hX Go.Proofs.Try.func43 b43 (by kernel_rfl) (by kernel_rfl) w k fr to nu tg df o_ sub ver n s l u null
  oA := ok33
  cA := fun w t tv i h => at_ok (G := G0) hX zT arrT Go.Proofs.Try.func33 b33 (by kernel_rfl) (by kernel_rfl) trivial w t tv i h
theorem known : KnownC PP 34 := known_ok hX arrF Go.Proofs.Try.func34 b34 (by kernel_rfl) (by kernel_rfl)
theorem tagT : TagT PP X := tagT_of (by kernel_rfl) (by kernel_rfl) (by kernel_rfl) (by kernel_rfl) (by kernel_rfl)
theorem unk : UnkC G0 PP 37 := unk_ok hX hm tagT ok34 known Go.Proofs.Try.func37 b37 (by kernel_rfl) (by kernel_rfl)
theorem fieldC : FieldC G0 PP X 32 17 := fun w h ty of_ sub ver flex t tv a1 a2 a3 a4 a5 a6 => field_ok hX small hm ok17 ok46 (fun ty h1 h2 w sub null ver flex t tv b1 b2 b3 => value_ok hX small hm ok17 Go.Proofs.Try.func46 b46 (by kernel_rfl) (by kernel_rfl) w ty h1 sub null ver flex t tv b1 h2 b2 b3) Go.Proofs.Try.func32 b32 (by kernel_rfl) (by kernel_rfl) w h ty of_ sub ver flex t tv a1 a2 a3 a4 a5 a6
theorem partOf (fs : Fs) (h1 : Fs.len fs < 4294967296) (h2 : SubsC (PartC G0 PP X 17) fs) : PartC G0 PP X 17 fs := part_ok hX arrF arrTg small hm ok32 fieldC ok34 known ok37 unk Go.Proofs.Try.func17 b17 (by kernel_rfl) (by kernel_rfl) fs h1 h2
theorem partC (fs : Fs) (h1 : Fs.len fs < 4294967296) (h2 : smallFs fs = true) : PartC G0 PP X 17 fs := partOf fs h1 (subsC_all partOf fs h2)
theorem cWr (fs : Fs) (h1 : Fs.len fs < 4294967296) (h2 : smallFs fs = true) (w : World) (fv : Value) (mflex ver : Int) (t : Tree) (tv : Value) (hf : FsV w (· < w.heap.size) fs fv) (ht : TV G0 w (· < w.heap.size) t tv) (hl : (wFs ver (decide (0 ≤ mflex) && decide (mflex ≤ ver)) fs t.l ++ wTags (decide (0 ≤ mflex) && decide (mflex ≤ ver)) t.u).length ≤ lim) : Calls PP 9 #[msgV fv mflex, .int .i64 ver, tv] w (RetOwn X.U8 w (wFs ver (decide (0 ≤ mflex) && decide (mflex ≤ ver)) fs t.l ++ wTags (decide (0 ≤ mflex) && decide (mflex ≤ ver)) t.u)) := write_ok hX ok17 Go.Proofs.Try.func9 b9 (by kernel_rfl) (by kernel_rfl) fs (partC fs h1 h2) w fv mflex ver t tv hf ht hl
theorem b10 : (Go.Proofs.Try.f10).body.map strip = some (sc_SDefault X.T X.Fs X.I X.F X.I64 X.Ts 10) := by kernel_rfl
theorem ok10 : FnOK PP 10 := fnOK_of Go.Proofs.Try.func10 b10 (by kernel_rfl)
theorem tB : ∀ (n : Int) (b : Bool), PP.built X.T [(0, .int .i64 n), (2, .bool b)] = some #[.int .i64 n, .slice none 0 0, .bool b, .slice none 0 0, .slice none 0 0] := fun _ _ => by kernel_rfl
theorem treeT : TreeT PP X where
  info := info_of (by kernel_rfl)
  row := by kernel_rfl
  agg := by kernel_rfl
  built := tB
  fld := fld3_of (by kernel_rfl)
theorem defOf (fs : Fs) (h1 : Fs.len fs < 4294967296) (h2 : SubsD (DefC G0 PP 10) fs) : DefC G0 PP 10 fs := default_ok (G := G0) hX arrF treeT trivial ok10 Go.Proofs.Try.func10 b10 (by kernel_rfl) (by kernel_rfl) fs h1 h2
theorem defC (fs : Fs) (h1 : Fs.len fs < 4294967296) (h2 : smallFs fs = true) : DefC G0 PP 10 fs := defOf fs h1 (subsD_all defOf fs h2)
def fs19 : Fs := (.cons ⟨0, -1, -1, 0, 0, 0, 0, false⟩ (.prim .i32) (.cons ⟨0, -1, -1, 0, 0, 0, 0, false⟩ (.prim .i16) (.cons ⟨0, -1, -1, 0, 0, 0, 0, false⟩ (.prim .i32) (.cons ⟨0, -1, -1, 0, 0, 0, 0, false⟩ (.prim .i32) (.cons ⟨0, -1, -1, 0, 0, 0, 0, false⟩ (.prim .bool) .nil)))))
def fs13 : Fs := (.cons ⟨0, -1, -1, 0, 0, 0, 0, false⟩ (.prim .str) (.cons ⟨0, -1, -1, 0, 0, 0, 0, false⟩ (.list 0 0 0 (.struct 0 0 0 none fs19)) .nil))
def fs14 : Fs := (.cons ⟨1, -1, -1, 0, 0, 0, 0, false⟩ (.prim .i32) (.cons ⟨1, -1, -1, 0, 0, 0, 0, false⟩ (.prim .str) (.cons ⟨1, -1, -1, 0, 0, 0, 0, false⟩ (.prim .u16) .nil)))
theorem b19 : (Go.Proofs.Try.f19).body.map strip = some (sc_bSub X.F X.Fs fs19 []) := by kernel_rfl
theorem ok19 : FnOK PP 19 := fnOK_of Go.Proofs.Try.func19 b19 (by kernel_rfl)
theorem sf19 : SubFns PP fs19 [] := by
  simp [SubFns, hasSub, fs19]
theorem c19 (w : World) : Calls PP 19 #[] w fun e w' => ∃ v, e = .returned v ∧ v.oneCell' = true ∧ FsV w' (fun k => w.heap.size ≤ k ∧ k < w'.heap.size) fs19 v ∧ Below w.heap.size w w' := bSub_ok hX fok uFs fs19 [] (by kernel_rfl) sf19 (by decide +kernel) Go.Proofs.Try.func19 b19 (by kernel_rfl) (by kernel_rfl) w
theorem b13 : (Go.Proofs.Try.f13).body.map strip = some (sc_bSub X.F X.Fs fs13 [19]) := by kernel_rfl
theorem ok13 : FnOK PP 13 := fnOK_of Go.Proofs.Try.func13 b13 (by kernel_rfl)
theorem sf13 : SubFns PP fs13 [19] := by
  simp only [SubFns, hasSub, Bool.false_eq_true, if_false, if_true, List.headD_cons, List.tail_cons, fs13]
  exact ⟨⟨ok19, fun w => (c19 w).mono fun e w' ⟨v, q1, q2, q3, q4⟩ => ⟨v, q1, q2, by simp only [SubV]; exact q3, q4⟩⟩, trivial⟩
theorem c13 (w : World) : Calls PP 13 #[] w fun e w' => ∃ v, e = .returned v ∧ v.oneCell' = true ∧ FsV w' (fun k => w.heap.size ≤ k ∧ k < w'.heap.size) fs13 v ∧ Below w.heap.size w w' := bSub_ok hX fok uFs fs13 [19] (by kernel_rfl) sf13 (by decide +kernel) Go.Proofs.Try.func13 b13 (by kernel_rfl) (by kernel_rfl) w
theorem b14 : (Go.Proofs.Try.f14).body.map strip = some (sc_bSub X.F X.Fs fs14 []) := by kernel_rfl
theorem ok14 : FnOK PP 14 := fnOK_of Go.Proofs.Try.func14 b14 (by kernel_rfl)
theorem sf14 : SubFns PP fs14 [] := by
  simp [SubFns, hasSub, fs14]
theorem c14 (w : World) : Calls PP 14 #[] w fun e w' => ∃ v, e = .returned v ∧ v.oneCell' = true ∧ FsV w' (fun k => w.heap.size ≤ k ∧ k < w'.heap.size) fs14 v ∧ Below w.heap.size w w' := bSub_ok hX fok uFs fs14 [] (by kernel_rfl) sf14 (by decide +kernel) Go.Proofs.Try.func14 b14 (by kernel_rfl) (by kernel_rfl) w
abbrev fs : Fs := fsVote fs13 fs14
theorem b5 : (Go.Proofs.Try.f5).body.map strip = some (sc_VoteSpec X.M X.F X.Fs 13 14) := by kernel_rfl
theorem ok5 : FnOK PP 5 := fnOK_of Go.Proofs.Try.func5 b5 (by kernel_rfl)
theorem cSp (w : World) : Calls PP 5 #[] w fun e w' => ∃ v, e = .returned (msgV v 0) ∧ v.oneCell' = true ∧ FsVT w' (fun k => w.heap.size ≤ k ∧ k < w'.heap.size) fs tgVote v ∧ Below w.heap.size w w' := voteSpec_ok hX fok uFs arrM mB ok13 c13 ok14 c14 Go.Proofs.Try.func5 b5 (by kernel_rfl) (by kernel_rfl) w
theorem knownT : KnownTC PP 34 := knownT_ok hX arrF Go.Proofs.Try.func34 b34 (by kernel_rfl) (by kernel_rfl)
theorem unkT : UnkTC PP 37 := unkNilT_ok hX ok34 knownT Go.Proofs.Try.func37 b37 (by kernel_rfl) (by kernel_rfl)
def sc35 : SC := .seq (.reg [⟨some 2, .box 43 (.tmp 0), none⟩, ⟨some 3, .box 35 (.tmp 1), none⟩, ⟨some 4, .assign (.const (.bool false)), none⟩]) (.seq (.seq (.reg [fa 9 43 2 0, ld 10 3 9]) (.block 0 (.seq (.reg [⟨some 12, .binOp .eql 3 (.tmp 10) (.const (.int .i64 0)) 3, none⟩, asg 11 12]) (.cond (.tmp 11) (.seq (.reg [fa 13 35 3 0, ld 14 2 13, ⟨some 15, .binOp .and 2 (.tmp 14) (.const (.int .i64 1)) 2, none⟩, fa 16 43 2 5, ld 17 2 16, ⟨some 18, .binOp .eql 2 (.tmp 15) (.tmp 17) 2, none⟩, asg 4 18]) (.ret)) (.seq (.reg [⟨some 20, .binOp .eql 3 (.tmp 10) (.const (.int .i64 7)) 3, none⟩, asg 19 20]) (.cond (.tmp 19) (.seq (.seq (.reg [fa 21 35 3 1, ld 22 28 21, lenOp 23 28 22, ⟨some 24, .move (.const (.int .i64 0)), none⟩]) (.block 1 (.loop (.seq (.reg [⟨some 25, .binOp .lss 3 (.tmp 24) (.tmp 23) 3, none⟩]) (.seq (.cond (.tmp 25) (.skip) (.exit 1)) (.seq (.block 2 (.seq (.reg [mv 26 24, ⟨some 27, .indexAddr 28 (.tmp 22) (.tmp 24), none⟩, ld 28 5 27, asg 5 26, asg 6 28]) (.seq (.reg [mv 29 5, ⟨some 30, .binOp .lss 3 (.tmp 29) (.const (.int .i64 16)) 3, none⟩, mv 31 30, ⟨some 32, .move (.tmp 6), some (2, true)⟩, ⟨some 33, .binOp .neq 5 (.tmp 32) (.const (.int .u8 0)) 5, some (2, true)⟩, ⟨some 34, .pick (.tmp 31) (.tmp 33) (.const (.bool false)), none⟩]) (.cond (.tmp 34) (.seq (.reg [⟨some 4, .assign (.const (.bool false)), none⟩]) (.ret)) (.skip))))) (.reg [⟨some 35, .binOp .add 3 (.tmp 24) (.const (.int .i64 1)) 3, none⟩, mv 24 35]))))))) (.seq (.reg [⟨some 4, .assign (.const (.bool true)), none⟩]) (.ret))) (.seq (.seq (.reg [⟨some 37, .binOp .eql 3 (.tmp 10) (.const (.int .i64 8)) 3, none⟩, asg 36 37]) (.cond (.tmp 36) (.skip) (.reg [⟨some 38, .binOp .eql 3 (.tmp 10) (.const (.int .i64 9)) 3, none⟩, asg 36 38]))) (.cond (.tmp 36) (.seq (.seq (.reg [fa 39 43 2 3, ld 40 3 39, ⟨some 41, .binOp .geq 3 (.tmp 40) (.const (.int .i64 0)) 3, none⟩]) (.cond (.tmp 41) (.seq (.reg [fa 42 35 3 2, ld 43 4 42, asg 4 43]) (.ret)) (.skip))) (.seq (.reg [fa 44 35 3 1, ld 45 28 44, lenOp 46 28 45, ⟨some 47, .binOp .eql 3 (.tmp 46) (.const (.int .i64 0)) 3, none⟩, asg 4 47]) (.ret))) (.seq (.reg [⟨some 49, .binOp .eql 3 (.tmp 10) (.const (.int .i64 11)) 3, none⟩, asg 48 49]) (.cond (.tmp 48) (.seq (.reg [fa 50 35 3 3, ld 51 32 50, lenOp 52 32 51, ⟨some 53, .binOp .eql 3 (.tmp 52) (.const (.int .i64 0)) 3, none⟩, asg 4 53]) (.ret)) (.seq (.reg [⟨some 55, .binOp .eql 3 (.tmp 10) (.const (.int .i64 10)) 3, none⟩, asg 54 55]) (.cond (.tmp 54) (.seq (.seq (.reg [fa 56 43 2 7, ld 57 23 56, lenOp 58 23 57, ⟨some 59, .move (.const (.int .i64 0)), none⟩]) (.block 3 (.loop (.seq (.reg [⟨some 60, .binOp .lss 3 (.tmp 59) (.tmp 58) 3, none⟩]) (.seq (.cond (.tmp 60) (.skip) (.exit 3)) (.seq (.block 4 (.seq (.reg [mv 61 59, ⟨some 62, .indexAddr 23 (.tmp 57) (.tmp 59), none⟩, ld 63 43 62, ⟨some 8, .alloc 43, none⟩, asg 7 61, ⟨none, .store 43 (.tmp 8) (.tmp 63), none⟩]) (.seq (.dreg [ld 64 43 8, ld 65 35 3, mv 66 7, cal 67 33 [65, 66], cal 68 35 [64, 67], ⟨some 69, .unOp .not 4 (.tmp 68), none⟩] [[], [], [], [1, 2], [0, 3, 3], [4]]) (.cond (.tmp 69) (.seq (.reg [⟨some 4, .assign (.const (.bool false)), none⟩]) (.ret)) (.skip))))) (.reg [⟨some 70, .binOp .add 3 (.tmp 59) (.const (.int .i64 1)) 3, none⟩, mv 59 70]))))))) (.seq (.reg [fa 71 43 2 7, ld 72 23 71, fa 73 35 3 4, ld 74 33 73, cal 75 37 [72, 74], lenOp 76 33 75, ⟨some 77, .binOp .eql 3 (.tmp 76) (.const (.int .i64 0)) 3, none⟩, asg 4 77]) (.ret))) (.skip))))))))))))) (.seq (.dreg [fa 78 35 3 0, ld 79 2 78, fa 80 43 2 0, ld 81 3 80, cal 82 48 [81], cal 83 47 [79, 82], fa 84 43 2 5, ld 85 2 84, fa 86 43 2 0, ld 87 3 86, cal 88 48 [87], cal 89 47 [85, 88], cal 90 6 [83, 89], asg 4 90] [[], [0], [], [2], [3], [1, 4, 4], [], [6], [], [8], [9, 5], [7, 10, 10], [5, 11, 11], [12, 12, 0, 1, 2, 3, 4, 5, 6, 7, 8, 9, 10, 11, 12]]) (.ret)))
theorem b35 : (Go.Proofs.Try.f35).body.map strip = some (sc35) := by kernel_rfl
theorem usL : UsualLC PP 35 := usualL_ok hX Go.Proofs.Try.func35 b35 (by kernel_rfl) (by kernel_rfl) (by kernel_rfl)
theorem sbC : SubsC (PartC G0 PP X 17) fs := ⟨trivial, partC fs13 (by decide +kernel) (by decide +kernel), partC fs14 (by decide +kernel) (by decide +kernel), trivial⟩
theorem partT : PartTC G0 PP X 17 fs tgVote := partT_ok hX arrF arrTg small hm ok32 fieldC ok34 knownT ok37 unkT usL Go.Proofs.Try.func17 b17 (by kernel_rfl) (by kernel_rfl) fs (by decide) sbC tgVote tgVote_ok
theorem defT0 : DefTC G0 PP 10 fs tgVote := defaultT_ok (G := G0) hX arrF treeT trivial ok10 Go.Proofs.Try.func10 b10 (by kernel_rfl) (by kernel_rfl) fs (by decide) ⟨trivial, trivial, trivial, trivial⟩ tgVote
def sc18 : SC := .skip
theorem b18 : (Go.Proofs.Try.f18).body.map strip = some (sc18) := by kernel_rfl
theorem d18 : DefAt PP 18 5 [] := defAt_ok (N := 2) Go.Proofs.Try.func18 b18 (by kernel_rfl) (by kernel_rfl) (by decide) (by kernel_rfl) (by kernel_rfl)
noncomputable abbrev zc : Array Value := zcOf PP 54
noncomputable def cs : Array Value := dSetAll 0 [] zc
theorem csE : cs = #[.int .i16 0, .int .i16 0, .slice none 0 0, .slice none 0 0, .map none] := by kernel_rfl
theorem defFn : DefFn PP 18 54 zc cs := ⟨d18.1, fun w b hc => d18.2 w b 0 zc 54 hc (by decide +kernel)⟩
theorem b11 : (Go.Proofs.Try.f11).body.map strip = some (sc_NewPtr 54 18) := by kernel_rfl
theorem ok11 : FnOK PP 11 := fnOK_of Go.Proofs.Try.func11 b11 (by kernel_rfl)
theorem cNP (w : World) : Calls PP 11 #[] w fun e w' => ∃ b, e = .returned (.pointer (some ⟨b, 0, none⟩)) ∧ w.heap.size ≤ b ∧ w'.heap[b]? = some (.cells cs 54 (0, 0)) ∧ Below w.heap.size w w' := newPtr_ok (zc_of (by kernel_rfl)) defFn Go.Proofs.Try.func11 b11 (by kernel_rfl) (by kernel_rfl) w
theorem b12 : (Go.Proofs.Try.f12).body.map strip = some (sc_MaxV 2) := by kernel_rfl
theorem ok12 : FnOK PP 12 := fnOK_of Go.Proofs.Try.func12 b12 (by kernel_rfl)
theorem b4 : (Go.Proofs.Try.f4).body.map strip = some (sc_Max 11 12 38 3) := by kernel_rfl
theorem ok4 : FnOK PP 4 := fnOK_of Go.Proofs.Try.func4 b4 (by kernel_rfl)
theorem cMax (w : World) : Calls PP 4 #[] w fun e w' => e = .returned (.int .i64 ((2 : Nat) : Int)) ∧ Below w.heap.size w w' := max_ok (by kernel_rfl) (by kernel_rfl) (by decide) ok11 cNP ok12 (fun w v => maxV_ok Go.Proofs.Try.func12 b12 (by kernel_rfl) (by kernel_rfl) w v) Go.Proofs.Try.func4 b4 (by kernel_rfl) (by kernel_rfl) w
theorem b15 : (Go.Proofs.Try.f15).body.map strip = some (sc_SetV 54 38) := by kernel_rfl
theorem ok15 : FnOK PP 15 := fnOK_of Go.Proofs.Try.func15 b15 (by kernel_rfl)
def sc16 : SC := .seq (.reg [⟨some 4, .assign (.const (.slice none 0 0)), none⟩]) (.seq (.reg [mv 31 0, nilc 32 31, fa 33 54 32 0, ld 34 38 33, asg 5 34]) (.seq (.reg [mv 35 5]) (.seq (.reg [mv 36 5, ⟨some 37, .binOp .geq 38 (.tmp 36) (.const (.int .i16 0)) 38, none⟩, asg 6 37]) (.seq (.reg [mv 38 6]) (.seq (.seq (.reg [mv 39 0, nilc 40 39, fa 41 54 40 1, ld 42 38 41, asg 7 42]) (.reg [mv 43 1, mv 44 7, cal 45 20 [43, 44], asg 1 45])) (.seq (.seq (.reg [mv 46 0, nilc 47 46, fa 48 54 47 2, ld 49 48 48, asg 8 49]) (.seq (.seq (.reg [mv 50 6]) (.cond (.tmp 50) (.reg [mv 51 1, mv 52 8, lenOp 53 48 52, cal 54 21 [51, 53], asg 1 54]) (.reg [mv 55 1, mv 56 8, lenOp 57 48 56, cal 58 22 [55, 57], asg 1 58]))) (.seq (.reg [mv 59 8, lenOp 60 48 59, ⟨some 61, .move (.const (.int .i64 0)), none⟩]) (.block 0 (.loop (.seq (.reg [⟨some 62, .binOp .lss 3 (.tmp 61) (.tmp 60) 3, none⟩]) (.seq (.cond (.tmp 62) (.skip) (.exit 0)) (.seq (.block 1 (.seq (.reg [mv 63 61, asg 9 63]) (.seq (.reg [mv 64 8, mv 65 9, ⟨some 66, .indexAddr 48 (.tmp 64) (.tmp 65), none⟩, asg 10 66]) (.seq (.seq (.reg [mv 67 10, nilc 68 67, fa 69 60 68 0, ld 70 9 69, asg 11 70]) (.seq (.reg [mv 71 6]) (.cond (.tmp 71) (.reg [mv 72 1, mv 73 11, cal 74 23 [72, 73], asg 1 74]) (.reg [mv 75 1, mv 76 11, cal 77 24 [75, 76], asg 1 77])))) (.seq (.seq (.reg [mv 78 10, nilc 79 78, fa 80 60 79 1, ld 81 58 80, asg 12 81]) (.seq (.seq (.reg [mv 82 6]) (.cond (.tmp 82) (.reg [mv 83 1, mv 84 12, lenOp 85 58 84, cal 86 21 [83, 85], asg 1 86]) (.reg [mv 87 1, mv 88 12, lenOp 89 58 88, cal 90 22 [87, 89], asg 1 90]))) (.seq (.reg [mv 91 12, lenOp 92 58 91, ⟨some 93, .move (.const (.int .i64 0)), none⟩]) (.block 2 (.loop (.seq (.reg [⟨some 94, .binOp .lss 3 (.tmp 93) (.tmp 92) 3, none⟩]) (.seq (.cond (.tmp 94) (.skip) (.exit 2)) (.seq (.block 3 (.seq (.reg [mv 95 93, asg 13 95]) (.seq (.reg [mv 96 12, mv 97 13, ⟨some 98, .indexAddr 58 (.tmp 96) (.tmp 97), none⟩, asg 14 98]) (.seq (.seq (.reg [mv 99 14, nilc 100 99, fa 101 64 100 0, ld 102 21 101, asg 15 102]) (.reg [mv 103 1, mv 104 15, cal 105 25 [103, 104], asg 1 105])) (.seq (.seq (.reg [mv 106 14, nilc 107 106, fa 108 64 107 1, ld 109 38 108, asg 16 109]) (.reg [mv 110 1, mv 111 16, cal 112 20 [110, 111], asg 1 112])) (.seq (.seq (.reg [mv 113 14, nilc 114 113, fa 115 64 114 2, ld 116 21 115, asg 17 116]) (.reg [mv 117 1, mv 118 17, cal 119 25 [117, 118], asg 1 119])) (.seq (.seq (.reg [mv 120 14, nilc 121 120, fa 122 64 121 3, ld 123 21 122, asg 18 123]) (.reg [mv 124 1, mv 125 18, cal 126 25 [124, 125], asg 1 126])) (.seq (.seq (.reg [mv 127 14, nilc 128 127, fa 129 64 128 4, ld 130 4 129, asg 19 130]) (.reg [mv 131 1, mv 132 19, cal 133 26 [131, 132], asg 1 133])) (.seq (.reg [mv 134 6]) (.cond (.tmp 134) (.seq (.reg [mv 135 1, mv 136 14, nilc 137 136, fa 138 64 137 5, cal 139 28 [138], ⟨some 140, .convert 3 68 (.tmp 139), none⟩, ⟨some 141, .binOp .add 68 (.const (.int .u32 0)) (.tmp 140) 68, none⟩, cal 142 27 [135, 141], asg 1 142]) (.reg [mv 143 14, nilc 144 143, fa 145 64 144 5, mv 146 1, cal 147 29 [145, 146], asg 1 147])) (.skip))))))))))) (.reg [⟨some 148, .binOp .add 3 (.tmp 93) (.const (.int .i64 1)) 3, none⟩, mv 93 148]))))))))) (.seq (.reg [mv 149 6]) (.cond (.tmp 149) (.seq (.reg [mv 150 1, mv 151 10, nilc 152 151, fa 153 60 152 2, cal 154 28 [153], ⟨some 155, .convert 3 68 (.tmp 154), none⟩, ⟨some 156, .binOp .add 68 (.const (.int .u32 0)) (.tmp 155) 68, none⟩, cal 157 27 [150, 156], asg 1 157]) (.reg [mv 158 10, nilc 159 158, fa 160 60 159 2, mv 161 1, cal 162 29 [160, 161], asg 1 162])) (.skip)))))))) (.reg [⟨some 163, .binOp .add 3 (.tmp 61) (.const (.int .i64 1)) 3, none⟩, mv 61 163]))))))))) (.seq (.seq (.reg [mv 164 6]) (.cond (.tmp 164) (.seq (.reg [⟨some 20, .assign (.const (.slice none 0 0)), none⟩]) (.seq (.seq (.reg [mv 165 0, nilc 166 165, fa 167 54 166 3, ld 168 49 167, lenOp 169 49 168, ⟨some 170, .binOp .gtr 3 (.tmp 169) (.const (.int .i64 0)) 3, none⟩]) (.cond (.tmp 170) (.reg [mv 171 20, ⟨some 172, .buildSlice 69 1 #[(0, (.const (.int .u32 0)))], none⟩, ⟨some 173, .call ⟨.builtin .append, #[(.tmp 171), (.tmp 172)], #[69, 69]⟩, none⟩, asg 20 173]) (.skip))) (.seq (.reg [mv 174 1, mv 175 20, lenOp 176 69 175, mv 177 0, nilc 178 177, fa 179 54 178 4, cal 180 28 [179], ⟨some 181, .binOp .add 3 (.tmp 176) (.tmp 180) 3, none⟩, ⟨some 182, .convert 3 68 (.tmp 181), none⟩, cal 183 27 [174, 182], asg 1 183]) (.seq (.seq (.reg [mv 184 20, lenOp 185 69 184, ⟨some 186, .move (.const (.int .i64 0)), none⟩]) (.block 4 (.loop (.seq (.reg [⟨some 187, .binOp .lss 3 (.tmp 186) (.tmp 185) 3, none⟩]) (.seq (.cond (.tmp 187) (.skip) (.exit 4)) (.seq (.block 5 (.seq (.reg [⟨some 188, .indexAddr 69 (.tmp 184) (.tmp 186), none⟩, ld 189 68 188, asg 22 189]) (.seq (.reg [mv 190 22]) (.block 6 (.seq (.reg [⟨some 192, .binOp .eql 68 (.tmp 190) (.const (.int .u32 0)) 68, none⟩, asg 191 192]) (.cond (.tmp 191) (.scope (.seq (.reg [mv 193 0, nilc 194 193, fa 195 54 194 3, ld 196 49 195, asg 23 196]) (.seq (.reg [mv 197 1, ⟨some 198, .call ⟨.value (.func 27), #[(.tmp 197), (.const (.int .u32 0))], #[]⟩, none⟩, asg 1 198]) (.seq (.reg [⟨some 24, .assign (.const (.bool false)), none⟩]) (.seq (.reg [mv 199 1, lenOp 200 28 199, asg 25 200]) (.seq (.label 0) (.seq (.seq (.reg [mv 201 6]) (.cond (.tmp 201) (.reg [mv 202 1, mv 203 23, lenOp 204 49 203, cal 205 21 [202, 204], asg 1 205]) (.reg [mv 206 1, mv 207 23, lenOp 208 49 207, cal 209 22 [206, 208], asg 1 209]))) (.seq (.seq (.reg [mv 210 23, lenOp 211 49 210, ⟨some 212, .move (.const (.int .i64 0)), none⟩]) (.block 7 (.loop (.seq (.reg [⟨some 213, .binOp .lss 3 (.tmp 212) (.tmp 211) 3, none⟩]) (.seq (.cond (.tmp 213) (.skip) (.exit 7)) (.seq (.block 8 (.seq (.reg [mv 214 212, asg 26 214]) (.seq (.reg [mv 215 23, mv 216 26, ⟨some 217, .indexAddr 49 (.tmp 215) (.tmp 216), none⟩, asg 27 217]) (.seq (.seq (.reg [mv 218 5, ⟨some 219, .binOp .geq 38 (.tmp 218) (.const (.int .i16 1)) 38, none⟩]) (.cond (.tmp 219) (.seq (.reg [mv 220 27, nilc 221 220, fa 222 73 221 0, ld 223 21 222, asg 28 223]) (.reg [mv 224 1, mv 225 28, cal 226 25 [224, 225], asg 1 226])) (.skip))) (.seq (.seq (.reg [mv 227 5, ⟨some 228, .binOp .geq 38 (.tmp 227) (.const (.int .i16 1)) 38, none⟩]) (.cond (.tmp 228) (.seq (.reg [mv 229 27, nilc 230 229, fa 231 73 230 1, ld 232 9 231, asg 29 232]) (.seq (.reg [mv 233 6]) (.cond (.tmp 233) (.reg [mv 234 1, mv 235 29, cal 236 23 [234, 235], asg 1 236]) (.reg [mv 237 1, mv 238 29, cal 239 24 [237, 238], asg 1 239])))) (.skip))) (.seq (.seq (.reg [mv 240 5, ⟨some 241, .binOp .geq 38 (.tmp 240) (.const (.int .i16 1)) 38, none⟩]) (.cond (.tmp 241) (.seq (.reg [mv 242 27, nilc 243 242, fa 244 73 243 2, ld 245 71 244, asg 30 245]) (.reg [mv 246 1, mv 247 30, cal 248 30 [246, 247], asg 1 248])) (.skip))) (.seq (.reg [mv 249 6]) (.cond (.tmp 249) (.seq (.reg [mv 250 1, mv 251 27, nilc 252 251, fa 253 73 252 3, cal 254 28 [253], ⟨some 255, .convert 3 68 (.tmp 254), none⟩, ⟨some 256, .binOp .add 68 (.const (.int .u32 0)) (.tmp 255) 68, none⟩, cal 257 27 [250, 256], asg 1 257]) (.reg [mv 258 27, nilc 259 258, fa 260 73 259 3, mv 261 1, cal 262 29 [260, 261], asg 1 262])) (.skip))))))))) (.reg [⟨some 263, .binOp .add 3 (.tmp 212) (.const (.int .i64 1)) 3, none⟩, mv 212 263]))))))) (.seq (.reg [mv 264 24, ⟨some 265, .unOp .not 4 (.tmp 264), none⟩]) (.cond (.tmp 265) (.seq (.dreg [mv 266 1, mv 267 25, ⟨some 268, .slice 28 (.tmp 266) none (some (.tmp 267)) none, none⟩, mv 269 1, mv 270 25, ⟨some 271, .slice 28 (.tmp 269) (some (.tmp 270)) none none, none⟩, lenOp 272 28 271, ⟨some 273, .convert 3 68 (.tmp 272), none⟩, cal 274 27 [268, 273], asg 1 274] [[], [], [0, 1], [], [], [3, 4], [5], [6], [2, 7], [8, 8, 0, 1, 2, 3, 4, 5, 6, 7, 8]]) (.seq (.reg [⟨some 24, .assign (.const (.bool true)), none⟩]) (.goto 0))) (.skip))))))))))) (.skip))))))) (.reg [⟨some 275, .binOp .add 3 (.tmp 186) (.const (.int .i64 1)) 3, none⟩, mv 186 275]))))))) (.reg [mv 276 0, nilc 277 276, fa 278 54 277 4, mv 279 1, cal 280 29 [278, 279], asg 1 280]))))) (.skip))) (.seq (.reg [mv 281 1, asg 4 281]) (.ret)))))))))
theorem b16 : (Go.Proofs.Try.f16).body.map strip = some (sc16) := by kernel_rfl
theorem ok16 : FnOK PP 16 := fnOK_of Go.Proofs.Try.func16 b16 (by kernel_rfl)
theorem cAT (w : World) (b : Nat) (n : Int) (hc : w.heap[b]? = some (.cells (cs.setIfInBounds 0 (.int .i16 n)) 54 (0, 0))) (h0 : 0 ≤ n) (h1 : n < 32768) : Calls PP 16 #[.pointer (some ⟨b, 0, none⟩), .slice none 0 0] w fun e w' => ∃ dv, e = .returned dv ∧ Own X.U8 w' w.heap.size dv outVote ∧ Below w.heap.size w w' :=
  voteAppend_ok (I := ids) (G := G0) trivial ka rfl (by decide) rfl (by decide) rfl (by decide) rfl (by decide) rfl (by decide) (by kernel_rfl) (by kernel_rfl) (by kernel_rfl) (by kernel_rfl) (by kernel_rfl) (by kernel_rfl) (by kernel_rfl) (by kernel_rfl) (by kernel_rfl) (by kernel_rfl) (by kernel_rfl) (by kernel_rfl) (by kernel_rfl) (by kernel_rfl) Go.Proofs.Try.func16 b16 (by kernel_rfl) (by kernel_rfl) w b n (by rw [csE] at hc; exact hc) h0 h1
theorem b7 : (Go.Proofs.Try.f7).body.map strip = some (sc_New 11 15 16 3 38) := by kernel_rfl
theorem ok7 : FnOK PP 7 := fnOK_of Go.Proofs.Try.func7 b7 (by kernel_rfl)
theorem cNew (w : World) (ver : Nat) (h : ver ≤ 2) : Calls PP 7 #[.int .i64 (ver : Int)] w (RetOwn X.U8 w outVote) :=
  new_ok (out := fun _ : Int => outVote) (by kernel_rfl) (by kernel_rfl) ok11 cNP ok15 (fun w b hc n => setV_ok (by kernel_rfl) (by kernel_rfl) Go.Proofs.Try.func15 b15 (by kernel_rfl) (by kernel_rfl) w b cs _ hc (by decide +kernel) n) ok16 cAT Go.Proofs.Try.func7 b7 (by kernel_rfl) (by kernel_rfl) w ver (by omega)
theorem b3 : (Go.Proofs.Try.f3).body.map strip = some (sc_LawNew 4 5 8 7 10 9 6 X.I X.M X.Fs) := by kernel_rfl
theorem law (w : World) (n : Nat) (hn : n < 256) : Calls PP 3 #[.int .u8 (n : Int)] w fun e w' => e = .returned (.bool true) ∧ Below w.heap.size w w' :=
  lawNewT_ok (G := G0) hX hm arrM (m := 2) (by decide) fs tgVote (usVote _ _) 0 (fun _ : Int => outVote) ok4 cMax ok5 cSp ok8 cVer ok7 cNew ok10 defT0 ok9 (fun w fv mf ver t tv h1 h2 h3 h4 h5 => writeT_ok hX ok17 Go.Proofs.Try.func9 b9 (by kernel_rfl) (by kernel_rfl) fs tgVote partT w fv mf ver t tv h1 h2 h3 h4 h5) ok6 cSame (fun ver _ => wVote _ _ ver) (fun _ _ => outVote_len) Go.Proofs.Try.func3 b3 (by kernel_rfl) (by kernel_rfl) w n hn
end Go.Proofs.Ytjbbohfaihkolaa.K.NewVoteResponse
