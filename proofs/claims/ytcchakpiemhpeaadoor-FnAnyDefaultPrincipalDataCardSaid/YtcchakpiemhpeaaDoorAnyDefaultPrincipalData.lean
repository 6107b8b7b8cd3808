/- FnAnyDefaultPrincipalData: what is read of any octets is written as octets that are read again, and written as the same: this seat's functions and the law. No condition. -/
import Derived.Test.YtcchakpiemhpeaaDoorChecked
import Derived.Test.YtcchakpiemhpeaaDoorChecked
import Derived.Test.YtcchakpiemhpeaaDoorN14
import Derived.KernelRfl
namespace Go.Proofs.YtcchakpiemhpeaaDoor.K
open Go Go.RowKit Go.Proofs Go.Proofs.YtcchakpiemhpeaaDoor.T
set_option linter.unusedVariables false
def X : STy := { I := 3, B := 4, U8 := 5, U32 := 56, U64 := 80, Bs := 22, F := 49, Fs := 26, T := 33, Ts := 30, Tg := 83, Tgs := 31, I64 := 2, M := 28, U := 70 }
noncomputable abbrev PP : Program := Go.Proofs.Tryd.prog
abbrev G0 : List (Nat × Bytes) → Prop := fun _ => True
theorem hX0 : sOK PP X = true := by kernel_rfl
theorem hX : stOK PP X = true := by kernel_rfl
theorem hm : PP.follows .mixedOrders = true := by kernel_rfl
theorem sT : sliceN PP X.Bs = some 1 := by kernel_rfl
theorem iI : intK PP X.I = some .i64 := by kernel_rfl
theorem b7 : (Go.Proofs.Tryd.f7).body.map strip = some (sc_Same X.Bs X.I X.U8) := by kernel_rfl
theorem ok7 : FnOK PP 7 := fnOK_of Go.Proofs.Tryd.func7 b7 (by kernel_rfl)
theorem cSame (w : World) (xs : Bytes) (b1 b2 : Option Addr) (c1 c2 : Nat) (h1 : BytesAt w (fun k => k < w.heap.size) b1 xs) (h2 : BytesAt w (fun k => k < w.heap.size) b2 xs) (h3 : xs.length ≤ lim) : Calls PP 7 #[.slice b1 xs.length c1, .slice b2 xs.length c2] w fun e w' => e = .returned (.bool true) ∧ Below w.heap.size w w' := same_ok hX0 hm Go.Proofs.Tryd.func7 b7 (by kernel_rfl) (by kernel_rfl) w xs b1 b2 c1 c2 h1 h2 h3
def rids : RIds := { tRd := 60, tTags := 39, tI8 := 0, tI16 := 36, tI32 := 21, tBool := 4, rBool := 28, rI8 := 0, rI16 := 23, rI32 := 0, rI64 := 0, rU16 := 0, rUuid := 0, rStr := 27, rUStr := 25, rCStr := 26, rUCStr := 24, rNStr := 0, rUNStr := 0, rCNStr := 0, rUCNStr := 0, rBytes := 0, rCBytes := 0, rNBytes := 0, rArr := 0, rCArr := 0, rOk := 0, rCompl := 30, rTags := 29 }
def R : RTy := { TR := 60, TB := 22, U8 := 5, I := 3, Bo := 4 }
/-- the error that the package returns -/
def errV (a : Addr) : Value := .iface 132 (.pointer (some a))
abbrev GlE (a : Addr) : World → Prop := fun w => w.cell? ⟨1, 0, none⟩ = some (errV a)
theorem rdO : rdOK PP R = true := by kernel_rfl
theorem hBE : aggN PP 85 = some 0 := by kernel_rfl
theorem hBE1 : oneB PP 85 = false := by kernel_rfl
theorem b30 : (Go.Proofs.Tryd.f30).body.map strip = some (sc_RComplete R 44 1) := by kernel_rfl
theorem ok30 : FnOK PP 30 := fnOK_of Go.Proofs.Tryd.func30 b30 (by kernel_rfl)
theorem b43 : (Go.Proofs.Tryd.f43).body.map strip = some (sc_BE16 85 R.TB R.U8 68 70) := by kernel_rfl
theorem be2 : BeC PP 43 2 .u16 := beC2 hm rdO (by kernel_rfl) Go.Proofs.Tryd.func43 b43 (by kernel_rfl) (by kernel_rfl) (by kernel_rfl)
theorem b28 : (Go.Proofs.Tryd.f28).body.map strip = some (sc_RBool R) := by kernel_rfl
theorem rBoolC : RC PP rids.tRd 0 28 (pFix 1) (fun v => ∃ x, v = .bool x) (fun _ _ n v => v = .bool (n != 0)) := rBool_ok rfl rdO Go.Proofs.Tryd.func28 b28 (by kernel_rfl) (by kernel_rfl) (by kernel_rfl)
theorem b23 : (Go.Proofs.Tryd.f23).body.map strip = some (sc_RNumS R 85 43 0 68 36 2 .i16) := by kernel_rfl
theorem rI16C : RC PP rids.tRd 0 23 (pInt 2) (fun v => ∃ n, v = .int .i16 n) (fun _ _ n v => v = .int .i16 n) := rNumS_ok (ku := .u16) rfl hm rdO hBE hBE1 be2 (by decide) (by kernel_rfl) (by kernel_rfl) (fun n hn => wrap_i16s hn) Go.Proofs.Tryd.func23 b23 (by kernel_rfl) (by kernel_rfl) (by kernel_rfl)
theorem b56 : (Go.Proofs.Tryd.f56).body.map strip = some (sc_KUvarint R.TB R.I R.U8 56 70) := by kernel_rfl
theorem kuvC : UvC PP 56 := uvC rdO (by kernel_rfl) Go.Proofs.Tryd.func56 b56 (by kernel_rfl) (by kernel_rfl) (by kernel_rfl)
theorem b44 : (Go.Proofs.Tryd.f44).body.map strip = some (sc_RUvarint R 56) := by kernel_rfl
theorem rUvC : RC PP rids.tRd 0 44 pUv (fun v => ∃ n : Nat, n < 4294967296 ∧ v = .int .u32 (n : Int)) (fun _ _ n v => v = .int .u32 (n : Int)) := rUvarint_ok rfl rdO kuvC Go.Proofs.Tryd.func44 b44 (by kernel_rfl) (by kernel_rfl) (by kernel_rfl)
theorem rUvC2 : RC PP rids.tRd 0 44 pUv (fun v => ∃ n, v = .int .u32 n) (fun _ _ n v => v = .int .u32 (n : Int)) := rUvC.ty (fun v ⟨n, _, h⟩ => ⟨(n : Int), h⟩)
theorem b46 : (Go.Proofs.Tryd.f46).body.map strip = some (sc_RSpan R) := by kernel_rfl
theorem spC : SpC PP rids.tRd 46 := rSpan_ok rfl rdO Go.Proofs.Tryd.func46 b46 (by kernel_rfl) (by kernel_rfl) (by kernel_rfl)
theorem b27 : (Go.Proofs.Tryd.f27).body.map strip = some (sc_RStr 36 3 22 9 23 46) := by kernel_rfl
theorem rStrC : RC PP rids.tRd 0 27 (pPrim false false .str) (tyP false .str) (okP false .str) := rStr_ok rfl rdO (by kernel_rfl) (by kernel_rfl) (by kernel_rfl) rI16C spC Go.Proofs.Tryd.func27 b27 (by kernel_rfl) (by kernel_rfl) (by kernel_rfl)
theorem b26 : (Go.Proofs.Tryd.f26).body.map strip = some (sc_RCStr 56 3 22 9 44 46) := by kernel_rfl
theorem rCStrC : RC PP rids.tRd 0 26 (pPrim true false .str) (tyP false .str) (okP false .str) := rCStr_ok rfl rdO (by kernel_rfl) (by kernel_rfl) (by kernel_rfl) rUvC2 spC Go.Proofs.Tryd.func26 b26 (by kernel_rfl) (by kernel_rfl) (by kernel_rfl)
theorem b47 : (Go.Proofs.Tryd.f47).body.map strip = some (sc_TSet 39 37) := by kernel_rfl
theorem tSetC : SetC PP 39 47 := tSet_ok (by kernel_rfl) (by kernel_rfl) Go.Proofs.Tryd.func47 b47 (by kernel_rfl) (by kernel_rfl) (by kernel_rfl)
theorem b29 : (Go.Proofs.Tryd.f29).body.map strip = some (sc_ReadTags 39 56 3 44 46 47) := by kernel_rfl
theorem rTagsC : RC PP rids.tRd 0 29 (pTags true) (fun v => ∃ m, v = .agg #[m] ∧ m.oneCell' = true) (fun w F u v => ∃ m, v = .agg #[m] ∧ TagsV w F u m) := rTagsFn_ok (by kernel_rfl) (info_ex2 (by kernel_rfl)) (by kernel_rfl) (by kernel_rfl) rUvC spC tSetC Go.Proofs.Tryd.func29 b29 (by kernel_rfl) (by kernel_rfl) (by kernel_rfl)
theorem kr (a : Addr) : KR PP rids rids.tRd 0 (errV a) (GlE a) where
  num := fun k h1 h2 => by
    cases k
    · exact num_bool rBoolC
    · exact absurd rfl h2
    · exact num_i16 rI16C
    · exact absurd rfl h2
    · exact absurd rfl h2
    · exact absurd rfl h2
    all_goals exact absurd h1 (by decide)
  uuid := fun h => absurd rfl h
  str := fun _ => rStrC
  cstr := fun _ => rCStrC
  nstr := fun h => absurd rfl h
  cnstr := fun h => absurd rfl h
  bytes := fun h => absurd rfl h
  cbytes := fun h => absurd rfl h
  nbytes := fun h => absurd rfl h
  arr := fun h => absurd rfl h
  carr := fun h => absurd rfl h
  tags := fun _ => rTagsC
  okF := fun h => absurd rfl h
  ok := fun h => absurd rfl h
  complF := ok30
  compl := fun w S rb st hg h => rComplete_ok rdO (by kernel_rfl) (.inr trivial) Go.Proofs.Tryd.func30 b30 (by kernel_rfl) (by kernel_rfl) w S rb st hg h
def ids : Ids := { tI16 := 36, tInt := 3, tU32 := 56, tI8 := 0, tU8s := 22, tI32 := 21, tBool := 4, aBool := 18, aI8 := 0, aI16 := 15, aI32 := 0, aI64 := 0, aU16 := 31, aUuid := 0, aStr := 17, aCStr := 16, aNStr := 0, aCNStr := 0, aBytes := 0, aCBytes := 0, aNBytes := 0, aCNBytes := 0, aArr := 0, aCArr := 0, aNArr := 0, aCNArr := 0, aUvar := 19, tagsLen := 20, tagsEach := 21 }
theorem b18 : (Go.Proofs.Tryd.f18).body.map strip = some (sc_AppendBool 22) := by kernel_rfl
theorem apBool (x : Bool) : AP PP X.U8 18 #[.bool x] (fun _ _ => True) [if x then 1 else 0] := appendBool_ok Go.Proofs.Tryd.func18 b18 (by kernel_rfl) (by kernel_rfl) (by kernel_rfl) (by kernel_rfl) x
theorem b31 : (Go.Proofs.Tryd.f31).body.map strip = some (sc_AppendUint16 68 70 5 22) := by kernel_rfl
theorem apU16 (n : Int) : AP PP X.U8 31 #[.int .u16 n] (fun _ _ => True) (fixed n 2) := appendU16_ok Go.Proofs.Tryd.func31 b31 (by kernel_rfl) (by kernel_rfl) (by kernel_rfl) (by kernel_rfl) (by kernel_rfl) (by kernel_rfl) n
theorem b15 : (Go.Proofs.Tryd.f15).body.map strip = some (sc_AppendInt16 36 68 31) := by kernel_rfl
theorem apI16 (n : Int) : AP PP X.U8 15 #[.int .i16 n] (fun _ _ => True) (fixed n 2) := appendI16_ok Go.Proofs.Tryd.func15 b15 (by kernel_rfl) (by kernel_rfl) (by kernel_rfl) (by kernel_rfl) (by kernel_rfl) apU16 n
theorem b48 : (Go.Proofs.Tryd.f48).body.map strip = some (sc_Len32 56 70 3 5 9) := by kernel_rfl
theorem ok48 : FnOK PP 48 := fnOK_of Go.Proofs.Tryd.func48 b48 (by kernel_rfl)
theorem b32 : (Go.Proofs.Tryd.f32).body.map strip = some (sc_UvarintLen 3 5 9 48) := by kernel_rfl
theorem ok32 : FnOK PP 32 := fnOK_of Go.Proofs.Tryd.func32 b32 (by kernel_rfl)
theorem b19 : (Go.Proofs.Tryd.f19).body.map strip = some (sc_AppendUvarint 3 56 5 70 22 32) := by kernel_rfl
theorem apUvar2 (n : Nat) (h : n < 4294967296) : AP2 PP X.U8 19 #[.int .u32 (n : Int)] (uvarint n) := appendUvarint2_ok Go.Proofs.Tryd.func19 b19 (by kernel_rfl) (by kernel_rfl) (by kernel_rfl) (by kernel_rfl) (by kernel_rfl) (by kernel_rfl) ok32 (fun n w h => uvarintLen_ok Go.Proofs.Tryd.func32 b32 (by kernel_rfl) (by kernel_rfl) (by kernel_rfl) (by kernel_rfl) (by kernel_rfl) ok48 (fun n w h => len32_ok Go.Proofs.Tryd.func48 b48 (by kernel_rfl) (by kernel_rfl) (by kernel_rfl) (by kernel_rfl) (by kernel_rfl) (by kernel_rfl) n h w) n h w) n h
theorem apUvar (n : Nat) (h : n < 4294967296) : AP PP X.U8 19 #[.int .u32 (n : Int)] (fun _ _ => True) (uvarint n) := appendUvarint_ok Go.Proofs.Tryd.func19 b19 (by kernel_rfl) (by kernel_rfl) (by kernel_rfl) (by kernel_rfl) (by kernel_rfl) (by kernel_rfl) ok32 (fun n w h => uvarintLen_ok Go.Proofs.Tryd.func32 b32 (by kernel_rfl) (by kernel_rfl) (by kernel_rfl) (by kernel_rfl) (by kernel_rfl) ok48 (fun n w h => len32_ok Go.Proofs.Tryd.func48 b48 (by kernel_rfl) (by kernel_rfl) (by kernel_rfl) (by kernel_rfl) (by kernel_rfl) (by kernel_rfl) n h w) n h w) n h
theorem b17 : (Go.Proofs.Tryd.f17).body.map strip = some (sc_AppendString 9 3 36 22 15) := by kernel_rfl
theorem apStr (s : ByteArray) (h : s.data.toList.length ≤ most) : AP PP X.U8 17 #[.string s] (fun _ _ => True) (counted false false s.data.toList.length 2 ++ s.data.toList) := appendString_ok Go.Proofs.Tryd.func17 b17 (by kernel_rfl) (by kernel_rfl) (by kernel_rfl) (by kernel_rfl) (by kernel_rfl) (by kernel_rfl) (by kernel_rfl) apI16 s h
theorem b16 : (Go.Proofs.Tryd.f16).body.map strip = some (sc_AppendCompactString 9 3 56 22 19) := by kernel_rfl
theorem apCStr (s : ByteArray) (h : s.data.toList.length ≤ most) : AP PP X.U8 16 #[.string s] (fun _ _ => True) (counted true false s.data.toList.length 2 ++ s.data.toList) := appendCompactString_ok Go.Proofs.Tryd.func16 b16 (by kernel_rfl) (by kernel_rfl) (by kernel_rfl) (by kernel_rfl) (by kernel_rfl) (by kernel_rfl) (by kernel_rfl) apUvar s h
theorem b20 : (Go.Proofs.Tryd.f20).body.map strip = some (sc_TLen 39 37) := by kernel_rfl
theorem ok20 : FnOK PP 20 := fnOK_of Go.Proofs.Tryd.func20 b20 (by kernel_rfl)
theorem tLenC : FnOK PP 20 ∧ ∀ (w : World) (F : Nat → Prop) (b o : Nat) (u : List (Nat × Bytes)), HTags G0 w F b o u → Calls PP 20 #[.pointer (some ⟨b, o, none⟩)] w fun e w' => e = .returned (.int .i64 u.length) ∧ w = w' := ⟨ok20, fun w F b o u h => tagsLenN_ok (by kernel_rfl) (by kernel_rfl) (by kernel_rfl) Go.Proofs.Tryd.func20 b20 (by kernel_rfl) (by kernel_rfl) w F b o u h⟩
def rho : Shelf.Ren := ⟨fun n => match n with | 0 => 0 | 1 => 1 | 2 => 2 | 6 => 49 | 10 => 57 | 11 => 58 | 12 => 59 | 13 => 60 | 14 => 61 | 15 => 62 | 16 => 63 | 17 => 64 | 18 => 65 | 19 => 66 | 20 => 67 | 21 => 68 | 22 => 69 | 23 => 70 | 24 => 48 | 25 => 71 | 26 => 72 | 27 => 73 | 28 => 74 | 29 => 75 | 30 => 76 | 31 => 77 | 32 => 78 | 33 => 79 | 34 => 80 | 35 => 81 | 36 => 82 | 37 => 83 | 38 => 84 | 39 => 85 | 40 => 86 | 41 => 87 | 42 => 88 | 43 => 89 | 44 => 90 | 45 => 91 | 46 => 92 | 47 => 93 | 48 => 94 | 49 => 95 | 50 => 96 | 51 => 97 | 52 => 98 | 53 => 99 | 54 => 100 | 55 => 105 | 56 => 106 | 57 => 107 | 58 => 109 | _ => 0, fun n => match n with | 0 => 0 | 1 => 1 | 2 => 2 | 3 => 3 | 4 => 4 | 5 => 5 | 6 => 6 | 7 => 7 | 8 => 8 | 9 => 9 | 10 => 10 | 11 => 11 | 12 => 12 | 13 => 13 | 14 => 14 | 15 => 15 | 16 => 16 | 17 => 17 | 18 => 18 | 19 => 19 | 20 => 20 | 21 => 21 | 23 => 91 | 26 => 92 | 32 => 100 | 33 => 101 | 34 => 102 | 35 => 103 | 36 => 104 | 37 => 105 | 38 => 106 | 39 => 57 | 40 => 107 | 41 => 70 | 42 => 108 | 43 => 109 | 44 => 110 | 45 => 111 | 46 => 112 | 47 => 113 | 48 => 69 | 49 => 56 | 50 => 114 | 51 => 80 | 52 => 115 | 53 => 116 | 54 => 117 | 55 => 118 | 56 => 119 | 57 => 120 | 58 => 121 | 59 => 122 | 60 => 123 | 61 => 124 | 62 => 125 | 63 => 126 | 64 => 127 | 65 => 128 | 66 => 129 | 67 => 130 | 68 => 131 | 69 => 62 | 70 => 133 | 71 => 134 | 72 => 135 | 73 => 136 | 74 => 137 | 75 => 138 | 76 => 139 | 77 => 140 | 78 => 141 | 79 => 142 | 80 => 143 | 81 => 144 | 82 => 145 | 83 => 148 | 84 => 149 | _ => 0, fun n => n⟩
theorem laysGg : LaysGg.n6 PP rho where
  mixed := by kernel_rfl
  f6 := by kernel_rfl
  f10 := by kernel_rfl
  f11 := by kernel_rfl
  f12 := by kernel_rfl
  f13 := by kernel_rfl
  f14 := by kernel_rfl
  f24 := by kernel_rfl
  f25 := by kernel_rfl
  f26 := by kernel_rfl
  f27 := by kernel_rfl
  f28 := by kernel_rfl
  f29 := by kernel_rfl
  f30 := by kernel_rfl
  f31 := by kernel_rfl
  f32 := by kernel_rfl
  f33 := by kernel_rfl
  f34 := by kernel_rfl
  f35 := by kernel_rfl
  f36 := by kernel_rfl
  f37 := by kernel_rfl
  f38 := by kernel_rfl
  f39 := by kernel_rfl
  t0 := by kernel_rfl
  a0 := fun _ => by kernel_rfl
  z0 := fun _ => by kernel_rfl
  v0 := fun _ => by kernel_rfl
  i0 := by kernel_rfl
  t3 := by kernel_rfl
  a3 := fun _ => by kernel_rfl
  z3 := fun _ => by kernel_rfl
  v3 := fun _ => by kernel_rfl
  i3 := by kernel_rfl
  t4 := by kernel_rfl
  a4 := fun _ => by kernel_rfl
  z4 := fun _ => by kernel_rfl
  v4 := fun _ => by kernel_rfl
  i4 := by kernel_rfl
  t5 := by kernel_rfl
  a5 := fun _ => by kernel_rfl
  z5 := fun _ => by kernel_rfl
  v5 := fun _ => by kernel_rfl
  i5 := by kernel_rfl
  t9 := by kernel_rfl
  a9 := fun _ => by kernel_rfl
  z9 := fun _ => by kernel_rfl
  v9 := fun _ => by kernel_rfl
  i9 := by kernel_rfl
  t12 := by kernel_rfl
  a12 := fun _ => by kernel_rfl
  z12 := fun _ => by kernel_rfl
  v12 := fun _ => by kernel_rfl
  i12 := by kernel_rfl
  t17 := by kernel_rfl
  a17 := fun _ => by kernel_rfl
  z17 := fun _ => by kernel_rfl
  v17 := fun _ => by kernel_rfl
  i17 := by kernel_rfl
  t20 := by kernel_rfl
  a20 := fun _ => by kernel_rfl
  z20 := fun _ => by kernel_rfl
  v20 := fun _ => by kernel_rfl
  i20 := by kernel_rfl
  t26 := by kernel_rfl
  a26 := fun _ => by kernel_rfl
  z26 := fun _ => by kernel_rfl
  v26 := fun _ => by kernel_rfl
  i26 := by kernel_rfl
  t32 := by kernel_rfl
  a32 := fun _ => by kernel_rfl
  z32 := fun _ => by kernel_rfl
  v32 := fun _ => by kernel_rfl
  i32 := by kernel_rfl
  t33 := by kernel_rfl
  a33 := fun _ => by kernel_rfl
  z33 := fun _ => by kernel_rfl
  v33 := fun _ => by kernel_rfl
  i33 := by kernel_rfl
  t35 := by kernel_rfl
  a35 := fun _ => by kernel_rfl
  z35 := fun _ => by kernel_rfl
  v35 := fun _ => by kernel_rfl
  i35 := by kernel_rfl
  t37 := by kernel_rfl
  a37 := fun _ => by kernel_rfl
  z37 := fun _ => by kernel_rfl
  v37 := fun _ => by kernel_rfl
  i37 := by kernel_rfl
  t41 := by kernel_rfl
  a41 := fun _ => by kernel_rfl
  z41 := fun _ => by kernel_rfl
  v41 := fun _ => by kernel_rfl
  i41 := by kernel_rfl
  t44 := by kernel_rfl
  a44 := fun _ => by kernel_rfl
  z44 := fun _ => by kernel_rfl
  v44 := fun _ => by kernel_rfl
  i44 := by kernel_rfl
  t49 := by kernel_rfl
  a49 := fun _ => by kernel_rfl
  z49 := fun _ => by kernel_rfl
  v49 := fun _ => by kernel_rfl
  i49 := by kernel_rfl
  t51 := by kernel_rfl
  a51 := fun _ => by kernel_rfl
  z51 := fun _ => by kernel_rfl
  v51 := fun _ => by kernel_rfl
  i51 := by kernel_rfl
  t53 := by kernel_rfl
  a53 := fun _ => by kernel_rfl
  z53 := fun _ => by kernel_rfl
  v53 := fun _ => by kernel_rfl
  i53 := by kernel_rfl
  t54 := by kernel_rfl
  a54 := fun _ => by kernel_rfl
  z54 := fun _ => by kernel_rfl
  v54 := fun _ => by kernel_rfl
  i54 := by kernel_rfl
  t58 := by kernel_rfl
  a58 := fun _ => by kernel_rfl
  z58 := fun _ => by kernel_rfl
  v58 := fun _ => by kernel_rfl
  i58 := by kernel_rfl
  t60 := by kernel_rfl
  a60 := fun _ => by kernel_rfl
  z60 := fun _ => by kernel_rfl
  v60 := fun _ => by kernel_rfl
  i60 := by kernel_rfl
  t64 := by kernel_rfl
  a64 := fun _ => by kernel_rfl
  z64 := fun _ => by kernel_rfl
  v64 := fun _ => by kernel_rfl
  i64 := by kernel_rfl
  t66 := by kernel_rfl
  a66 := fun _ => by kernel_rfl
  z66 := fun _ => by kernel_rfl
  v66 := fun _ => by kernel_rfl
  i66 := by kernel_rfl
  t67 := by kernel_rfl
  a67 := fun _ => by kernel_rfl
  z67 := fun _ => by kernel_rfl
  v67 := fun _ => by kernel_rfl
  i67 := by kernel_rfl
  t75 := by kernel_rfl
  a75 := fun _ => by kernel_rfl
  z75 := fun _ => by kernel_rfl
  v75 := fun _ => by kernel_rfl
  i75 := by kernel_rfl
  t76 := by kernel_rfl
  a76 := fun _ => by kernel_rfl
  z76 := fun _ => by kernel_rfl
  v76 := fun _ => by kernel_rfl
  i76 := by kernel_rfl
  t77 := by kernel_rfl
  a77 := fun _ => by kernel_rfl
  z77 := fun _ => by kernel_rfl
  v77 := fun _ => by kernel_rfl
  i77 := by kernel_rfl
  t78 := by kernel_rfl
  a78 := fun _ => by kernel_rfl
  z78 := fun _ => by kernel_rfl
  v78 := fun _ => by kernel_rfl
  i78 := by kernel_rfl
  t79 := by kernel_rfl
  a79 := fun _ => by kernel_rfl
  z79 := fun _ => by kernel_rfl
  v79 := fun _ => by kernel_rfl
  i79 := by kernel_rfl
  t80 := by kernel_rfl
  a80 := fun _ => by kernel_rfl
  z80 := fun _ => by kernel_rfl
  v80 := fun _ => by kernel_rfl
  i80 := by kernel_rfl
  t82 := by kernel_rfl
  a82 := fun _ => by kernel_rfl
  z82 := fun _ => by kernel_rfl
  v82 := fun _ => by kernel_rfl
  i82 := by kernel_rfl
theorem b50 : (Go.Proofs.Tryd.f50).body.map strip = some (sc_Each1 90 56) := by kernel_rfl
theorem ok50 : FnOK PP 50 := fnOK_of Go.Proofs.Tryd.func50 b50 (by kernel_rfl)
theorem b34 : (Go.Proofs.Tryd.f34).body.map strip = some (sc_AppendEach1 22 3 56 19) := by kernel_rfl
theorem ok34 : FnOK PP 34 := fnOK_of Go.Proofs.Tryd.func34 b34 (by kernel_rfl)
theorem b33 : (Go.Proofs.Tryd.f33).body.map strip = some (sc_TEach 39 37 3 90 56 49 50) := by kernel_rfl
theorem ok33 : FnOK PP 33 := fnOK_of Go.Proofs.Tryd.func33 b33 (by kernel_rfl)
theorem b21 : (Go.Proofs.Tryd.f21).body.map strip = some (sc_TAppendEach 22 33 (.func 34)) := by kernel_rfl
theorem ok21 : FnOK PP 21 := fnOK_of Go.Proofs.Tryd.func21 b21 (by kernel_rfl)
theorem okS : FnOK PP 49 := ⟨_, Go.Proofs.Tryd.func49, (by kernel_rfl), (by kernel_rfl)⟩
noncomputable def siT : TypeInfo := (PP.info? 90).get (by kernel_rfl)
noncomputable def siE : TypeInfo := (PP.info? 56).get (by kernel_rfl)
noncomputable def siTz : Value := siT.zero.get (by kernel_rfl)
noncomputable def siEz : Value := siE.zero.get (by kernel_rfl)
theorem siK (n : Nat) : Lib.swapperK n siE 10 = if n = 0 then 1 else if n = 1 then 2 else 6 := by
  have a : siE.hasPointers = false := by kernel_rfl
  have b : siE.bytes = 4 := by kernel_rfl
  unfold Lib.swapperK
  rw [a, b]
  by_cases h0 : n = 0
  · simp [h0]
  · by_cases h1 : n = 1
    · simp [h1]
    · simp [h0, h1]
def swF (n : Nat) : Nat := if n = 0 then 62 else if n = 1 then 63 else 67
theorem swOK (n : Nat) : PP.funcs.findIdx? (·.name == "internal/reflectlite" ++ ".Swapper$" ++ toString (Lib.swapperK n siE 10)) = some (swF n) := by
  rw [siK]
  unfold swF
  by_cases h0 : n = 0
  · simp only [h0, if_true]; kernel_rfl
  · by_cases h1 : n = 1
    · subst h1; kernel_rfl
    · simp only [h0, h1, if_false]; kernel_rfl
theorem sortOK : SortC PP 49 50 90 56 := sortC laysGg hm (by kernel_rfl) (by kernel_rfl) (by kernel_rfl) (i := siT) (ie := siE) (by kernel_rfl) (by kernel_rfl) (by kernel_rfl) (by kernel_rfl) 10 (fun _ => by kernel_rfl) (by kernel_rfl) Go.Proofs.Tryd.func50 b50 (by kernel_rfl) (by kernel_rfl) okS ok50 swF swOK true (fun n args W h => by
  have e : swF n = 67 := by unfold swF; rw [if_neg (by omega), if_neg (by omega)]
  rw [e]
  exact run_callFunc_extern Go.Proofs.Tryd.func67 (by kernel_rfl) (by kernel_rfl) (by kernel_rfl) (e := Extern.ReflectliteSwapper.swap true) (by kernel_rfl) args W)
theorem eachC : EachC PP X.U8 22 34 G0 33 := each_ok (TU := 90) (T32 := 56) (i32 := siE) (iU := siT) (z32 := siEz) (zU := siTz) (by kernel_rfl) (by kernel_rfl) (by kernel_rfl) (by kernel_rfl) (by kernel_rfl) (by kernel_rfl) (by kernel_rfl) (by kernel_rfl) (by kernel_rfl) (by kernel_rfl) (by decide +kernel) (by kernel_rfl) (by kernel_rfl) (by kernel_rfl) sortOK ok34 (fun w B c k cap dv xs bs base h1 h2 h3 h4 h5 h6 h7 h8 => cl_ok (by kernel_rfl) (by kernel_rfl) (by kernel_rfl) (by kernel_rfl) (by kernel_rfl) apUvar2 Go.Proofs.Tryd.func34 b34 (by kernel_rfl) (by kernel_rfl) w B c k cap dv xs bs base h1 h2 h3 h4 h5 h6 h7 h8) Go.Proofs.Tryd.func33 b33 (by kernel_rfl) (by kernel_rfl)
theorem tEachC : FnOK PP 21 ∧ ∀ (w : World) (B b o : Nat) (u : List (Nat × Bytes)) (dv : Value) (xs : Bytes), HTags G0 w (· < B) b o u → b < B → Own X.U8 w B dv xs → B ≤ w.heap.size → xs.length + (u.flatMap wTag).length ≤ lim →
    Calls PP 21 #[.pointer (some ⟨b, o, none⟩), dv] w fun e w' => ∃ dv', e = .returned dv' ∧ Own X.U8 w' B dv' (xs ++ u.flatMap wTag) ∧ Below B w w' ∧ B ≤ w'.heap.size := ⟨ok21, fun w B b o u dv xs h1 h2 h3 h4 h5 => appendEachN_ok (by kernel_rfl) ok33 eachC Go.Proofs.Tryd.func21 b21 (by kernel_rfl) (by kernel_rfl) w B b o u dv xs h1 h2 h3 h4 h5⟩
theorem ka : KA G0 PP ids X.U8 where
  bool := fun _ => apBool
  i8 := fun h => absurd rfl h
  i16 := fun _ => apI16
  i32 := fun h => absurd rfl h
  i64 := fun h => absurd rfl h
  u16 := fun _ => apU16
  uuid := fun h => absurd rfl h
  str := fun _ => apStr
  cstr := fun _ => apCStr
  nstr0 := fun h => absurd rfl h
  nstr := fun h => absurd rfl h
  cnstr0 := fun h => absurd rfl h
  cnstr := fun h => absurd rfl h
  bytes := fun h => absurd rfl h
  cbytes := fun h => absurd rfl h
  nbytes := fun h => absurd rfl h
  nbytes0 := fun h => absurd rfl h
  cnbytes := fun h => absurd rfl h
  cnbytes0 := fun h => absurd rfl h
  arr := fun h => absurd rfl h
  carr := fun h => absurd rfl h
  narr := fun h => absurd rfl h
  cnarr := fun h => absurd rfl h
  uvar := fun _ => apUvar
  tagsLen := fun _ => tLenC
  tagsEach := fun _ => tEachC
theorem arrF : arrB PP X.F 8 = true := by kernel_rfl
theorem arrT : arrB PP X.T 5 = true := by kernel_rfl
theorem arrM : arrB PP X.M 2 = true := by kernel_rfl
theorem arrTg : arrB PP X.Tg 2 = true := by kernel_rfl
theorem fok : fOK PP X.F = true := by kernel_rfl
theorem uFs : PP.underlying X.Fs = some (.slice X.F) := by kernel_rfl
theorem zT : PP.built X.T [] = some #[.int .i64 0, .slice none 0 0, .bool false, .slice none 0 0, .slice none 0 0] := by kernel_rfl
theorem mB : ∀ (n : Int) (b : Option Addr) (l c : Nat), PP.built X.M [(1, .int .i64 n), (0, .slice b l c)] = some #[.slice b l c, .int .i64 n] := fun _ _ _ _ => by kernel_rfl
theorem sTs : sliceN PP X.Ts = some 5 := by kernel_rfl
theorem otOK : otB PP X.T X.Tg = true := by kernel_rfl
theorem b35 : (Go.Proofs.Tryd.f35).body.map strip = some (sc_has X.F X.I) := by kernel_rfl
theorem ok35 : FnOK PP 35 := fnOK_of Go.Proofs.Tryd.func35 b35 (by kernel_rfl)
theorem b51 : (Go.Proofs.Tryd.f51).body.map strip = some (sc_isnull X.F X.T X.B X.I) := by kernel_rfl
theorem ok51 : FnOK PP 51 := fnOK_of Go.Proofs.Tryd.func51 b51 (by kernel_rfl)
theorem b42 : (Go.Proofs.Tryd.f42).body.map strip = some (sc_whole X.Bs X.I) := by kernel_rfl
theorem ok42 : FnOK PP 42 := fnOK_of Go.Proofs.Tryd.func42 b42 (by kernel_rfl)
theorem b52 : (Go.Proofs.Tryd.f52).body.map strip = some (sc_things X.Ts X.I) := by kernel_rfl
theorem ok52 : FnOK PP 52 := fnOK_of Go.Proofs.Tryd.func52 b52 (by kernel_rfl)
theorem b37 : (Go.Proofs.Tryd.f37).body.map strip = some (sc_at X.T X.Ts X.I) := by kernel_rfl
theorem ok37 : FnOK PP 37 := fnOK_of Go.Proofs.Tryd.func37 b37 (by kernel_rfl)
theorem b40 : (Go.Proofs.Tryd.f40).body.map strip = some (sc_Uvarint X.U64 X.U8 X.Bs X.U) := by kernel_rfl
theorem ok40 : FnOK PP 40 := fnOK_of Go.Proofs.Tryd.func40 b40 (by kernel_rfl)
theorem b11 : (Go.Proofs.Tryd.f11).body.map strip = some (sc_Fixed X.I X.I64 X.U8 X.Bs) := by kernel_rfl
theorem ok11 : FnOK PP 11 := fnOK_of Go.Proofs.Tryd.func11 b11 (by kernel_rfl)
theorem b55 : (Go.Proofs.Tryd.f55).body.map strip = some (sc_width X.I) := by kernel_rfl
theorem ok55 : FnOK PP 55 := fnOK_of Go.Proofs.Tryd.func55 b55 (by kernel_rfl)
theorem b53 : (Go.Proofs.Tryd.f53).body.map strip = some (sc_counted X.Bs X.I X.U64 40 11) := by kernel_rfl
theorem ok53 : FnOK PP 53 := fnOK_of Go.Proofs.Tryd.func53 b53 (by kernel_rfl)
theorem b54 : (Go.Proofs.Tryd.f54).body.map strip = some (sc_value X.T X.I X.I64 X.U8 X.Bs 42 53 22 55 11) := by kernel_rfl
theorem ok54 : FnOK PP 54 := fnOK_of Go.Proofs.Tryd.func54 b54 (by kernel_rfl)
theorem b36 : (Go.Proofs.Tryd.f36).body.map strip = some (sc_sfield X.F X.T X.I X.Ts X.Fs X.Bs 51 52 53 54 11 22) := by kernel_rfl
theorem ok36 : FnOK PP 36 := fnOK_of Go.Proofs.Tryd.func36 b36 (by kernel_rfl)
theorem b38 : (Go.Proofs.Tryd.f38).body.map strip = some (sc_known X.Fs X.I X.F X.U32) := by kernel_rfl
theorem ok38 : FnOK PP 38 := fnOK_of Go.Proofs.Tryd.func38 b38 (by kernel_rfl)
theorem b22 : (Go.Proofs.Tryd.f22).body.map strip = some (sc_part X.T X.Fs X.I X.F X.Bs X.B X.U32 X.U64 X.Tgs X.Tg 35 37 36 38 39 40 41 42) := by kernel_rfl
theorem ok22 : FnOK PP 22 := fnOK_of Go.Proofs.Tryd.func22 b22 (by kernel_rfl)
theorem b41 : (Go.Proofs.Tryd.f41).body.map strip = some (sc_unknown X.Tgs X.I X.Tg X.U32 38) := by kernel_rfl
theorem ok41 : FnOK PP 41 := fnOK_of Go.Proofs.Tryd.func41 b41 (by kernel_rfl)
theorem b12 : (Go.Proofs.Tryd.f12).body.map strip = some (sc_Write X.M X.T X.Fs X.I 22) := by kernel_rfl
theorem ok12 : FnOK PP 12 := fnOK_of Go.Proofs.Tryd.func12 b12 (by kernel_rfl)
theorem small : SmallC PP X 42 52 53 55 11 40 35 51 37 G0 where
  oW := ok42
  cW := fun w b l c h => whole_ok iI sT Go.Proofs.Tryd.func42 b42 (by kernel_rfl) (by kernel_rfl) w b l c h
  oTh := ok52
  cTh := fun w b l c h => whole_ok iI sTs Go.Proofs.Tryd.func52 b52 (by kernel_rfl) (by kernel_rfl) w b l c h
  oC := ok53
  cC := fun w fl nu n s h1 h2 => counted_ok hX Go.Proofs.Tryd.func53 b53 (by kernel_rfl) (by kernel_rfl) ok40 (fun w n h => sUvarint_ok hX Go.Proofs.Tryd.func40 b40 (by kernel_rfl) (by kernel_rfl) w n h) ok11 (fun w n s h => sFixed_ok hX Go.Proofs.Tryd.func11 b11 (by kernel_rfl) (by kernel_rfl) w n s h) w fl nu n s h1 h2
  oWi := ok55
  cWi := fun w k => width_ok Go.Proofs.Tryd.func55 b55 (by kernel_rfl) (by kernel_rfl) w k
  oF := ok11
  cF := fun w n s h => sFixed_ok hX Go.Proofs.Tryd.func11 b11 (by kernel_rfl) (by kernel_rfl) w n s h
  oU := ok40
  cU := fun w n h => sUvarint_ok hX Go.Proofs.Tryd.func40 b40 (by kernel_rfl) (by kernel_rfl) w n h
  oH := ok35
  cH := fun w k fr to nu tg df o_ sub ver => has_ok hX Go.Proofs.Tryd.func35 b35 (by kernel_rfl) (by kernel_rfl) w k fr to nu tg df o_ sub ver
  oN := ok51
  cN := fun w k fr to nu tg df o_ sub ver n s l u null => isnull_ok hX Go.Proofs.Tryd.func51 b51 (by kernel_rfl) (by kernel_rfl) w k fr to nu tg df o_ sub ver n s l u null
  oA := ok37
  cA := fun w t tv i h => at_ok (G := G0) hX zT arrT Go.Proofs.Tryd.func37 b37 (by kernel_rfl) (by kernel_rfl) trivial w t tv i h
theorem known : KnownC PP 38 := known_ok hX arrF Go.Proofs.Tryd.func38 b38 (by kernel_rfl) (by kernel_rfl)
theorem tagT : TagT PP X := tagT_of (by kernel_rfl) (by kernel_rfl) (by kernel_rfl) (by kernel_rfl) (by kernel_rfl)
theorem unk : UnkC G0 PP 41 := unk_ok hX hm tagT ok38 known Go.Proofs.Tryd.func41 b41 (by kernel_rfl) (by kernel_rfl)
theorem fieldC : FieldC G0 PP X 36 22 := fun w h ty of_ sub ver flex t tv a1 a2 a3 a4 a5 a6 => field_ok hX small hm ok22 ok54 (fun ty h1 h2 w sub null ver flex t tv b1 b2 b3 => value_ok hX small hm ok22 Go.Proofs.Tryd.func54 b54 (by kernel_rfl) (by kernel_rfl) w ty h1 sub null ver flex t tv b1 h2 b2 b3) Go.Proofs.Tryd.func36 b36 (by kernel_rfl) (by kernel_rfl) w h ty of_ sub ver flex t tv a1 a2 a3 a4 a5 a6
theorem partOf (fs : Fs) (h1 : Fs.len fs < 4294967296) (h2 : SubsC (PartC G0 PP X 22) fs) : PartC G0 PP X 22 fs := part_ok hX arrF arrTg small hm ok36 fieldC ok38 known ok41 unk Go.Proofs.Tryd.func22 b22 (by kernel_rfl) (by kernel_rfl) fs h1 h2
theorem partC (fs : Fs) (h1 : Fs.len fs < 4294967296) (h2 : smallFs fs = true) : PartC G0 PP X 22 fs := partOf fs h1 (subsC_all partOf fs h2)
theorem cWr (fs : Fs) (h1 : Fs.len fs < 4294967296) (h2 : smallFs fs = true) (w : World) (fv : Value) (mflex ver : Int) (t : Tree) (tv : Value) (hf : FsV w (· < w.heap.size) fs fv) (ht : TV G0 w (· < w.heap.size) t tv) (hl : (wFs ver (decide (0 ≤ mflex) && decide (mflex ≤ ver)) fs t.l ++ wTags (decide (0 ≤ mflex) && decide (mflex ≤ ver)) t.u).length ≤ lim) : Calls PP 12 #[msgV fv mflex, .int .i64 ver, tv] w (RetOwn X.U8 w (wFs ver (decide (0 ≤ mflex) && decide (mflex ≤ ver)) fs t.l ++ wTags (decide (0 ≤ mflex) && decide (mflex ≤ ver)) t.u)) := write_ok hX ok22 Go.Proofs.Tryd.func12 b12 (by kernel_rfl) (by kernel_rfl) fs (partC fs h1 h2) w fv mflex ver t tv hf ht hl
abbrev fs : Fs := fsPr 9 4
theorem b6 : (Go.Proofs.Tryd.f6).body.map strip = some (sc_bTop X.F X.Fs X.M fs 0 []) := by kernel_rfl
theorem ok6 : FnOK PP 6 := fnOK_of Go.Proofs.Tryd.func6 b6 (by kernel_rfl)
theorem sfTop : SubFns PP fs [] := by
  simp [SubFns, hasSub, fs, fsPr]
theorem cSp (w : World) : Calls PP 6 #[] w fun e w' => ∃ v, e = .returned (msgV v 0) ∧ v.oneCell' = true ∧ FsV w' (fun k => w.heap.size ≤ k ∧ k < w'.heap.size) fs v ∧ Below w.heap.size w w' := bTop_ok hX fok uFs arrM mB fs 0 [] (by kernel_rfl) sfTop (by decide +kernel) Go.Proofs.Tryd.func6 b6 (by kernel_rfl) (by kernel_rfl) w
theorem b5 : (Go.Proofs.Tryd.f5).body.map strip = some (sc_Kept X.M X.T X.Bs 11 12) := by kernel_rfl
theorem cK : Kept2C G0 PP X fs 0 5 := kept2_ok hX hm ok11 small.cF ok12 (cWr fs (by decide +kernel) (by decide +kernel)) Go.Proofs.Tryd.func5 b5 (by kernel_rfl) (by kernel_rfl) (by kernel_rfl)
def sc13 : SC := .skip
theorem b13 : (Go.Proofs.Tryd.f13).body.map strip = some (sc13) := by kernel_rfl
theorem ok13 : FnOK PP 13 := fnOK_of Go.Proofs.Tryd.func13 b13 (by kernel_rfl)
theorem d13 : DefAt PP 13 5 [] := defAt_ok (N := 2) Go.Proofs.Tryd.func13 b13 (by kernel_rfl) (by kernel_rfl) (by decide) (by kernel_rfl) (by kernel_rfl)
noncomputable abbrev zc : Array Value := zcOf PP 41
noncomputable def cs : Array Value := dSetAll 0 [] zc
theorem defFn : DefFn PP 13 41 zc cs := ⟨d13.1, fun w b hc => d13.2 w b 0 zc 41 hc (by decide +kernel)⟩
theorem hone : ∀ v ∈ cs.toList, v.oneCell' = true := fun v hv => List.all_eq_true.1 (show cs.toList.all (fun v => v.oneCell') = true by kernel_rfl) v hv
theorem b8 : (Go.Proofs.Tryd.f8).body.map strip = some (sc_NewV 41 13) := by kernel_rfl
theorem ok8 : FnOK PP 8 := fnOK_of Go.Proofs.Tryd.func8 b8 (by kernel_rfl)
theorem csE : cs.toList.toArray = csPr := by kernel_rfl
theorem cNV (w : World) : Calls PP 8 #[] w fun e w' => e = .returned (.agg csPr) ∧ Below w.heap.size w w' := csE ▸ newV_ok (n := 5) (zc_of (by kernel_rfl)) (by kernel_rfl) (by kernel_rfl) (by kernel_rfl) hone defFn Go.Proofs.Tryd.func8 b8 (by kernel_rfl) (by kernel_rfl) w
theorem cDef (w : World) (v : Value) : Calls PP 13 #[v] w fun e w' => e = .returned (.tuple #[]) ∧ w' = w := skip_ok Go.Proofs.Tryd.func13 b13 (by kernel_rfl) (by kernel_rfl) w v
theorem i16Z : RCZ PP 60 0 .i16 23 (pInt 2) := rNumZ_ok (R := R) (ku := .u16) rfl hm rdO hBE hBE1 be2 (by decide) (by kernel_rfl) (by kernel_rfl) (fun n hn => wrap_i16s hn) Go.Proofs.Tryd.func23 b23 (by kernel_rfl) (by kernel_rfl) (by kernel_rfl)
theorem b14 : (Go.Proofs.Tryd.f14).body.map strip = some (sc_PrRead 60 41 36 9 4 39 13 23 24 25 26 27 28 29 30) := by kernel_rfl
theorem ok14 : FnOK PP 14 := fnOK_of Go.Proofs.Tryd.func14 b14 (by kernel_rfl)
theorem prRC (a : Addr) : PrRC PP 41 9 4 0 (errV a) (GlE a) 14 := prRead_ok (by kernel_rfl) (by kernel_rfl) (by kernel_rfl) (by kernel_rfl) (by kernel_rfl) (by kernel_rfl) (by kernel_rfl) (by kernel_rfl) (by kernel_rfl) (by kernel_rfl) (by kernel_rfl) ok13 cDef i16Z rCStrC rStrC (num_bool rBoolC) rTagsC (kr a).complF (kr a).compl Go.Proofs.Tryd.func14 b14 (by kernel_rfl) (by kernel_rfl)
theorem b10 : (Go.Proofs.Tryd.f10).body.map strip = some (sc_PrAppend 41 36 9 4 3 56 15 16 17 18 20 19 21) := by kernel_rfl
theorem b10a : (Go.Proofs.Tryd.f10).body.map strip = some (aTop ids 41 11 (some 0) (some (4, 4)) (.cons (hdV 36) (.prim .i16) fs)) := by kernel_rfl
theorem prATC : PrATC PP X.U8 41 9 4 10 := prAppend_ok (I := ids) (G := G0) (t := 11) (fun _ => trivial) ka (by kernel_rfl) b10a rfl (by decide) rfl (by decide) rfl (by decide) (by kernel_rfl) (by kernel_rfl) (by kernel_rfl) (by kernel_rfl) (by kernel_rfl) (by kernel_rfl) (by kernel_rfl) (by kernel_rfl) Go.Proofs.Tryd.func10 b10 (by kernel_rfl) (by kernel_rfl) (by kernel_rfl)
theorem b9 : (Go.Proofs.Tryd.f9).body.map strip = some (sc_ReadFromW 14) := by kernel_rfl
theorem ok9 : FnOK PP 9 := fnOK_of Go.Proofs.Tryd.func9 b9 (by kernel_rfl)
theorem b4 : (Go.Proofs.Tryd.f4).body.map strip = some (sc_AgainK 41 22 44 8 9 10) := by kernel_rfl
theorem agC (a : Addr) : AgPC PP X.U8 9 4 0 (GlE a) 4 := againPr_ok (zero_sz (by kernel_rfl)) (by kernel_rfl) (by kernel_rfl) (by kernel_rfl) ⟨_, _, rfl⟩ ok8 cNV ok9 (fun w x y Q h => readFromW_ok ok14 Go.Proofs.Tryd.func9 b9 (by kernel_rfl) (by kernel_rfl) w x y Q h) (prRC a) prATC Go.Proofs.Tryd.func4 b4 (by kernel_rfl) (by kernel_rfl) (by kernel_rfl)
theorem b3 : (Go.Proofs.Tryd.f3).body.map strip = some (sc_LawAnyPr 22 3 33 4 6 5 4 7) := by kernel_rfl
theorem law (a : Addr) (w : World) (S : Option Nat) (base : Option Addr) (data : Bytes) (cap : Nat) (hsr : SrcAt w S base data) (hS : ∀ sb, S = some sb → sb < w.heap.size) (hgb : 0 < w.heap.size) (hgl : ∀ w', Below w.heap.size w w' → GlE a w') :
    Calls PP 3 #[.slice base data.length cap] w fun e w' => e = .returned (.bool true) ∧ Below w.heap.size w w' :=
  lawAnyPr_ok (Gl := GlE a) (by kernel_rfl) (by kernel_rfl) fs (fun _ _ => rfl) zT ok6 cSp cK (agC a) ok7 cSame Go.Proofs.Tryd.func3 b3 (by kernel_rfl) (by kernel_rfl) w S base data cap hsr hS hgb hgl
end Go.Proofs.YtcchakpiemhpeaaDoor.K
