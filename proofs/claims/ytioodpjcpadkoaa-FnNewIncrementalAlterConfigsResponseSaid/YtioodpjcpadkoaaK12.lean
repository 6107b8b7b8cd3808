/- The functions that write counts, texts and octets. No condition. -/
import Derived.Test.YtioodpjcpadkoaaK11
import Derived.Deep.AppendSrc
namespace Go.Proofs.Ytioodpjcpadkoaa.K
open Go Go.RowKit Go.Proofs.Ytioodpjcpadkoaa.T
set_option linter.unusedSimpArgs false
set_option linter.unusedVariables false

def sc_uvTab : ByteArray := ⟨#[1, 1, 1, 1, 1, 1, 1, 1, 2, 2, 2, 2, 2, 2, 2, 3, 3, 3, 3, 3, 3, 3, 4, 4, 4, 4, 4, 4, 4, 5, 5, 5, 5, 5, 5, 5, 6, 6, 6, 6, 6, 6, 6, 7, 7, 7, 7, 7, 7, 7, 8, 8, 8, 8, 8, 8, 8, 9, 9, 9, 9, 9, 9, 9, 10, 0, 0, 0, 0, 0, 0, 0, 0, 0, 0, 0, 0, 0, 0, 0, 0, 0, 0, 0, 0, 0, 0, 0, 0, 0, 0, 0, 0, 0, 0, 0, 0, 0, 0, 0, 0, 0, 0, 0, 0, 0, 0, 0, 0, 0, 0, 0, 0, 0, 0, 0, 0, 0, 0, 0, 0, 0, 0, 0, 0, 0, 0, 0, 0, 0, 0, 0, 0, 0, 0, 0, 0, 0, 0, 0, 0, 0, 0, 0, 0, 0, 0, 0, 0, 0, 0, 0, 0, 0, 0, 0, 0, 0, 0, 0, 0, 0, 0, 0, 0, 0, 0, 0, 0, 0, 0, 0, 0, 0, 0, 0, 0, 0, 0, 0, 0, 0, 0, 0, 0, 0, 0, 0, 0, 0, 0, 0, 0, 0, 0, 0, 0, 0, 0, 0, 0, 0, 0, 0, 0, 0, 0, 0, 0, 0, 0, 0, 0, 0, 0, 0, 0, 0, 0, 0, 0, 0, 0, 0, 0, 0, 0, 0, 0, 0, 0, 0, 0, 0, 0, 0, 0, 0, 0, 0, 0, 0, 0, 0, 0, 0, 0, 0, 0, 0, 0, 0, 0, 0, 0, 0]⟩
def sc_lenTab : ByteArray := ⟨#[0, 1, 2, 2, 3, 3, 3, 3, 4, 4, 4, 4, 4, 4, 4, 4, 5, 5, 5, 5, 5, 5, 5, 5, 5, 5, 5, 5, 5, 5, 5, 5, 6, 6, 6, 6, 6, 6, 6, 6, 6, 6, 6, 6, 6, 6, 6, 6, 6, 6, 6, 6, 6, 6, 6, 6, 6, 6, 6, 6, 6, 6, 6, 6, 7, 7, 7, 7, 7, 7, 7, 7, 7, 7, 7, 7, 7, 7, 7, 7, 7, 7, 7, 7, 7, 7, 7, 7, 7, 7, 7, 7, 7, 7, 7, 7, 7, 7, 7, 7, 7, 7, 7, 7, 7, 7, 7, 7, 7, 7, 7, 7, 7, 7, 7, 7, 7, 7, 7, 7, 7, 7, 7, 7, 7, 7, 7, 7, 8, 8, 8, 8, 8, 8, 8, 8, 8, 8, 8, 8, 8, 8, 8, 8, 8, 8, 8, 8, 8, 8, 8, 8, 8, 8, 8, 8, 8, 8, 8, 8, 8, 8, 8, 8, 8, 8, 8, 8, 8, 8, 8, 8, 8, 8, 8, 8, 8, 8, 8, 8, 8, 8, 8, 8, 8, 8, 8, 8, 8, 8, 8, 8, 8, 8, 8, 8, 8, 8, 8, 8, 8, 8, 8, 8, 8, 8, 8, 8, 8, 8, 8, 8, 8, 8, 8, 8, 8, 8, 8, 8, 8, 8, 8, 8, 8, 8, 8, 8, 8, 8, 8, 8, 8, 8, 8, 8, 8, 8, 8, 8, 8, 8, 8, 8, 8, 8, 8, 8, 8, 8, 8, 8, 8, 8, 8, 8]⟩
def sc_UvarintLen (T0 T1 T2 F0 : Nat) : SC := .seq (.reg [⟨some 2, .assign (.const (.int .i64 0)), none⟩]) (.seq (.reg [mv 3 0, cal 4 F0 [3], ⟨some 5, .convert T0 T1 (.tmp 4), none⟩, ⟨some 6, .index T2 (.const (.string sc_uvTab)) (.tmp 5), none⟩, ⟨some 7, .convert T1 T0 (.tmp 6), none⟩, asg 2 7]) (.ret))
def sc_AppendUvarint (T0 T1 T2 T3 T4 F0 : Nat) : SC := .seq (.reg [⟨some 4, .assign (.const (.slice none 0 0)), none⟩]) (.seq (.seq (.reg [mv 5 1, cal 6 F0 [5]]) (.block 0 (.seq (.reg [⟨some 8, .binOp .eql T0 (.tmp 6) (.const (.int .i64 5)) T0, none⟩, asg 7 8]) (.cond (.tmp 7) (.seq (.reg [mv 9 0, mv 10 1, ⟨some 11, .binOp .and T1 (.tmp 10) (.const (.int .u32 127)) T1, none⟩, ⟨some 12, .binOp .or T1 (.tmp 11) (.const (.int .u32 128)) T1, none⟩, ⟨some 13, .convert T1 T2 (.tmp 12), none⟩, mv 14 1, ⟨some 15, .binOp .shr T1 (.tmp 14) (.const (.int .u64 7)) T3, none⟩, ⟨some 16, .binOp .and T1 (.tmp 15) (.const (.int .u32 127)) T1, none⟩, ⟨some 17, .binOp .or T1 (.tmp 16) (.const (.int .u32 128)) T1, none⟩, ⟨some 18, .convert T1 T2 (.tmp 17), none⟩, mv 19 1, ⟨some 20, .binOp .shr T1 (.tmp 19) (.const (.int .u64 14)) T3, none⟩, ⟨some 21, .binOp .and T1 (.tmp 20) (.const (.int .u32 127)) T1, none⟩, ⟨some 22, .binOp .or T1 (.tmp 21) (.const (.int .u32 128)) T1, none⟩, ⟨some 23, .convert T1 T2 (.tmp 22), none⟩, mv 24 1, ⟨some 25, .binOp .shr T1 (.tmp 24) (.const (.int .u64 21)) T3, none⟩, ⟨some 26, .binOp .and T1 (.tmp 25) (.const (.int .u32 127)) T1, none⟩, ⟨some 27, .binOp .or T1 (.tmp 26) (.const (.int .u32 128)) T1, none⟩, ⟨some 28, .convert T1 T2 (.tmp 27), none⟩, mv 29 1, ⟨some 30, .binOp .shr T1 (.tmp 29) (.const (.int .u64 28)) T3, none⟩, ⟨some 31, .convert T1 T2 (.tmp 30), none⟩, ⟨some 32, .buildSlice T4 5 #[(0, (.tmp 13)), (1, (.tmp 18)), (2, (.tmp 23)), (3, (.tmp 28)), (4, (.tmp 31))], none⟩, ⟨some 33, .call ⟨.builtin .append, #[(.tmp 9), (.tmp 32)], #[T4, T4]⟩, none⟩, asg 4 33]) (.ret)) (.seq (.reg [⟨some 35, .binOp .eql T0 (.tmp 6) (.const (.int .i64 4)) T0, none⟩, asg 34 35]) (.cond (.tmp 34) (.seq (.reg [mv 36 0, mv 37 1, ⟨some 38, .binOp .and T1 (.tmp 37) (.const (.int .u32 127)) T1, none⟩, ⟨some 39, .binOp .or T1 (.tmp 38) (.const (.int .u32 128)) T1, none⟩, ⟨some 40, .convert T1 T2 (.tmp 39), none⟩, mv 41 1, ⟨some 42, .binOp .shr T1 (.tmp 41) (.const (.int .u64 7)) T3, none⟩, ⟨some 43, .binOp .and T1 (.tmp 42) (.const (.int .u32 127)) T1, none⟩, ⟨some 44, .binOp .or T1 (.tmp 43) (.const (.int .u32 128)) T1, none⟩, ⟨some 45, .convert T1 T2 (.tmp 44), none⟩, mv 46 1, ⟨some 47, .binOp .shr T1 (.tmp 46) (.const (.int .u64 14)) T3, none⟩, ⟨some 48, .binOp .and T1 (.tmp 47) (.const (.int .u32 127)) T1, none⟩, ⟨some 49, .binOp .or T1 (.tmp 48) (.const (.int .u32 128)) T1, none⟩, ⟨some 50, .convert T1 T2 (.tmp 49), none⟩, mv 51 1, ⟨some 52, .binOp .shr T1 (.tmp 51) (.const (.int .u64 21)) T3, none⟩, ⟨some 53, .convert T1 T2 (.tmp 52), none⟩, ⟨some 54, .buildSlice T4 4 #[(0, (.tmp 40)), (1, (.tmp 45)), (2, (.tmp 50)), (3, (.tmp 53))], none⟩, ⟨some 55, .call ⟨.builtin .append, #[(.tmp 36), (.tmp 54)], #[T4, T4]⟩, none⟩, asg 4 55]) (.ret)) (.seq (.reg [⟨some 57, .binOp .eql T0 (.tmp 6) (.const (.int .i64 3)) T0, none⟩, asg 56 57]) (.cond (.tmp 56) (.seq (.reg [mv 58 0, mv 59 1, ⟨some 60, .binOp .and T1 (.tmp 59) (.const (.int .u32 127)) T1, none⟩, ⟨some 61, .binOp .or T1 (.tmp 60) (.const (.int .u32 128)) T1, none⟩, ⟨some 62, .convert T1 T2 (.tmp 61), none⟩, mv 63 1, ⟨some 64, .binOp .shr T1 (.tmp 63) (.const (.int .u64 7)) T3, none⟩, ⟨some 65, .binOp .and T1 (.tmp 64) (.const (.int .u32 127)) T1, none⟩, ⟨some 66, .binOp .or T1 (.tmp 65) (.const (.int .u32 128)) T1, none⟩, ⟨some 67, .convert T1 T2 (.tmp 66), none⟩, mv 68 1, ⟨some 69, .binOp .shr T1 (.tmp 68) (.const (.int .u64 14)) T3, none⟩, ⟨some 70, .convert T1 T2 (.tmp 69), none⟩, ⟨some 71, .buildSlice T4 3 #[(0, (.tmp 62)), (1, (.tmp 67)), (2, (.tmp 70))], none⟩, ⟨some 72, .call ⟨.builtin .append, #[(.tmp 58), (.tmp 71)], #[T4, T4]⟩, none⟩, asg 4 72]) (.ret)) (.seq (.reg [⟨some 74, .binOp .eql T0 (.tmp 6) (.const (.int .i64 2)) T0, none⟩, asg 73 74]) (.cond (.tmp 73) (.seq (.reg [mv 75 0, mv 76 1, ⟨some 77, .binOp .and T1 (.tmp 76) (.const (.int .u32 127)) T1, none⟩, ⟨some 78, .binOp .or T1 (.tmp 77) (.const (.int .u32 128)) T1, none⟩, ⟨some 79, .convert T1 T2 (.tmp 78), none⟩, mv 80 1, ⟨some 81, .binOp .shr T1 (.tmp 80) (.const (.int .u64 7)) T3, none⟩, ⟨some 82, .convert T1 T2 (.tmp 81), none⟩, ⟨some 83, .buildSlice T4 2 #[(0, (.tmp 79)), (1, (.tmp 82))], none⟩, ⟨some 84, .call ⟨.builtin .append, #[(.tmp 75), (.tmp 83)], #[T4, T4]⟩, none⟩, asg 4 84]) (.ret)) (.seq (.reg [⟨some 86, .binOp .eql T0 (.tmp 6) (.const (.int .i64 1)) T0, none⟩, asg 85 86]) (.cond (.tmp 85) (.seq (.reg [mv 87 0, mv 88 1, ⟨some 89, .convert T1 T2 (.tmp 88), none⟩, ⟨some 90, .buildSlice T4 1 #[(0, (.tmp 89))], none⟩, ⟨some 91, .call ⟨.builtin .append, #[(.tmp 87), (.tmp 90)], #[T4, T4]⟩, none⟩, asg 4 91]) (.ret)) (.skip))))))))))))) (.seq (.reg [mv 92 0, asg 4 92]) (.ret)))
def sc_AppendString (T0 T1 T2 T3 F0 : Nat) : SC := .seq (.reg [⟨some 4, .assign (.const (.slice none 0 0)), none⟩]) (.seq (.reg [mv 5 0, mv 6 1, lenOp 7 T0 6, ⟨some 8, .convert T1 T2 (.tmp 7), none⟩, cal 9 F0 [5, 8], asg 0 9]) (.seq (.reg [mv 10 0, mv 11 1, ⟨some 12, .call ⟨.builtin .append, #[(.tmp 10), (.tmp 11)], #[T3, T0]⟩, none⟩, asg 4 12]) (.ret)))
def sc_AppendCompactString (T0 T1 T2 T3 F0 : Nat) : SC := .seq (.reg [⟨some 4, .assign (.const (.slice none 0 0)), none⟩]) (.seq (.reg [mv 5 0, mv 6 1, lenOp 7 T0 6, ⟨some 8, .convert T1 T2 (.tmp 7), none⟩, ⟨some 9, .binOp .add T2 (.const (.int .u32 1)) (.tmp 8) T2, none⟩, cal 10 F0 [5, 9], asg 0 10]) (.seq (.reg [mv 11 0, mv 12 1, ⟨some 13, .call ⟨.builtin .append, #[(.tmp 11), (.tmp 12)], #[T3, T0]⟩, none⟩, asg 4 13]) (.ret)))
def sc_AppendNullableString (T0 T1 F0 F1 : Nat) : SC := .seq (.reg [⟨some 4, .assign (.const (.slice none 0 0)), none⟩]) (.seq (.seq (.reg [mv 5 1, ⟨some 6, .binOp .eql T0 (.tmp 5) (.const (.pointer none)) T0, none⟩]) (.cond (.tmp 6) (.seq (.reg [mv 7 0, ⟨some 8, .call ⟨.value (.func F0), #[(.tmp 7), (.const (.int .i16 (-1)))], #[]⟩, none⟩, asg 4 8]) (.ret)) (.skip))) (.seq (.reg [mv 9 0, mv 10 1, nilc 11 10, ld 12 T1 11, cal 13 F1 [9, 12], asg 4 13]) (.ret)))
def sc_AppendCompactNullableString (T0 T1 F0 F1 : Nat) : SC := .seq (.reg [⟨some 4, .assign (.const (.slice none 0 0)), none⟩]) (.seq (.seq (.reg [mv 5 1, ⟨some 6, .binOp .eql T0 (.tmp 5) (.const (.pointer none)) T0, none⟩]) (.cond (.tmp 6) (.seq (.reg [mv 7 0, ⟨some 8, .call ⟨.value (.func F0), #[(.tmp 7), (.const (.int .u32 0))], #[]⟩, none⟩, asg 4 8]) (.ret)) (.skip))) (.seq (.reg [mv 9 0, mv 10 1, nilc 11 10, ld 12 T1 11, cal 13 F1 [9, 12], asg 4 13]) (.ret)))
def sc_AppendArrayLen (T0 T1 F0 : Nat) : SC := .seq (.reg [⟨some 4, .assign (.const (.slice none 0 0)), none⟩]) (.seq (.reg [mv 5 0, mv 6 1, ⟨some 7, .convert T0 T1 (.tmp 6), none⟩, cal 8 F0 [5, 7], asg 4 8]) (.ret))
def sc_AppendCompactArrayLen (T0 T1 F0 : Nat) : SC := .seq (.reg [⟨some 4, .assign (.const (.slice none 0 0)), none⟩]) (.seq (.reg [mv 5 0, mv 6 1, ⟨some 7, .convert T0 T1 (.tmp 6), none⟩, ⟨some 8, .binOp .add T1 (.const (.int .u32 1)) (.tmp 7) T1, none⟩, cal 9 F0 [5, 8], asg 4 9]) (.ret))
def sc_AppendNullableArrayLen (T0 T1 F0 : Nat) : SC := .seq (.reg [⟨some 6, .assign (.const (.slice none 0 0)), none⟩]) (.seq (.seq (.reg [mv 7 2]) (.cond (.tmp 7) (.seq (.reg [mv 8 0, ⟨some 9, .call ⟨.value (.func F0), #[(.tmp 8), (.const (.int .i32 (-1)))], #[]⟩, none⟩, asg 6 9]) (.ret)) (.skip))) (.seq (.reg [mv 10 0, mv 11 1, ⟨some 12, .convert T0 T1 (.tmp 11), none⟩, cal 13 F0 [10, 12], asg 6 13]) (.ret)))
def sc_AppendCompactNullableArrayLen (T0 T1 F0 : Nat) : SC := .seq (.reg [⟨some 6, .assign (.const (.slice none 0 0)), none⟩]) (.seq (.seq (.reg [mv 7 2]) (.cond (.tmp 7) (.seq (.reg [mv 8 0, ⟨some 9, .call ⟨.value (.func F0), #[(.tmp 8), (.const (.int .u32 0))], #[]⟩, none⟩, asg 6 9]) (.ret)) (.skip))) (.seq (.reg [mv 10 0, mv 11 1, ⟨some 12, .convert T0 T1 (.tmp 11), none⟩, ⟨some 13, .binOp .add T1 (.const (.int .u32 1)) (.tmp 12) T1, none⟩, cal 14 F0 [10, 13], asg 6 14]) (.ret)))
def sc_AppendUuid (T0 T1 : Nat) : SC := .seq (.reg [⟨some 3, .box T0 (.tmp 1), none⟩, ⟨some 4, .assign (.const (.slice none 0 0)), none⟩]) (.seq (.reg [mv 5 0, ⟨some 6, .slice T0 (.tmp 3) none none none, none⟩, ⟨some 7, .call ⟨.builtin .append, #[(.tmp 5), (.tmp 6)], #[T1, T1]⟩, none⟩, asg 4 7]) (.ret))
def sc_Len32 (T0 T1 T2 T3 T4 : Nat) : SC := .seq (.reg [⟨some 2, .assign (.const (.int .i64 0)), none⟩]) (.seq (.seq (.reg [mv 3 0, ⟨some 4, .binOp .geq T0 (.tmp 3) (.const (.int .u32 65536)) T0, none⟩]) (.cond (.tmp 4) (.seq (.reg [mv 5 0, ⟨some 6, .binOp .shr T0 (.tmp 5) (.const (.int .u64 16)) T1, none⟩, asg 0 6]) (.reg [⟨some 2, .assign (.const (.int .i64 16)), none⟩])) (.skip))) (.seq (.seq (.reg [mv 7 0, ⟨some 8, .binOp .geq T0 (.tmp 7) (.const (.int .u32 256)) T0, none⟩]) (.cond (.tmp 8) (.seq (.reg [mv 9 0, ⟨some 10, .binOp .shr T0 (.tmp 9) (.const (.int .u64 8)) T1, none⟩, asg 0 10]) (.reg [mv 11 2, ⟨some 12, .binOp .add T2 (.tmp 11) (.const (.int .i64 8)) T2, none⟩, asg 2 12])) (.skip))) (.seq (.reg [mv 13 2, mv 14 0, ⟨some 15, .convert T0 T3 (.tmp 14), none⟩, ⟨some 16, .index T4 (.const (.string sc_lenTab)) (.tmp 15), none⟩, ⟨some 17, .convert T3 T2 (.tmp 16), none⟩, ⟨some 18, .binOp .add T2 (.tmp 13) (.tmp 17) T2, none⟩, asg 2 18]) (.ret))))

/-! ### how many groups of seven bits -/
def IsLen (n L : Nat) : Prop := ∀ k, L ≤ k ↔ n < 2 ^ k
theorem IsLen.shift {n L m : Nat} (h : IsLen (n / 2 ^ m) L) (hn : 2 ^ m ≤ n) : IsLen n (m + L) := by
  intro k
  have hpos : 0 < 2 ^ m := Nat.pow_pos (by decide)
  constructor
  · intro hk
    have h1 := (h (k - m)).1 (by omega)
    rw [Nat.div_lt_iff_lt_mul hpos, ← Nat.pow_add] at h1
    rwa [show k - m + m = k by omega] at h1
  · intro hk
    by_cases hm : m ≤ k
    · have : n / 2 ^ m < 2 ^ (k - m) := by
        rw [Nat.div_lt_iff_lt_mul hpos, ← Nat.pow_add, show k - m + m = k by omega]
        exact hk
      have := (h (k - m)).2 this
      omega
    · have : 2 ^ k ≤ 2 ^ m := Nat.pow_le_pow_right (by decide) (by omega)
      omega

def len8 (n : Nat) : Nat := if n = 0 then 0 else n.log2 + 1
theorem len8_ok (n : Nat) : IsLen n (len8 n) := by
  intro k
  unfold len8
  split
  · rename_i h
    subst h
    simp [Nat.pow_pos]
  · rename_i h
    rw [← Nat.log2_lt h]
    omega

/-- an octet of a constant text -/
theorem opw_indexStr {P : Program} {a : Act} {w : World} {K : Act → World → Prop} {d : Option Tmp} {g : Option (Nat × Bool)} {T : TypeId} {s : ByteArray} {x : Operand} {k : IntKind} {i : Nat} (hT : P.underlying T = some .string) (hx : a.eval x = .int k (i : Int)) (hi : i < s.size)
    (h : K (a.put d (.int .u8 ((s.data.getD i 0).toNat : Int))) w) : opw P ⟨d, .index T (.const (.string s)) x, g⟩ a w K := by
  refine opw_value (by simp) (fun p hp => ?_) h
  simp [execOp, hp, hx, eval_const, Instr.index, asIntOf, run_underlying hT, hi]
  rfl

def strB (P : Program) (T : TypeId) : Bool :=
  match P.underlying T with
  | some .string => true
  | _ => false
theorem str_of {P : Program} {T : TypeId} (h : strB P T = true) : P.underlying T = some .string := by
  unfold strB at h
  split at h <;> simp_all

theorem lenTab_size : sc_lenTab.size = 256 := by decide +kernel
theorem uvTab_size : sc_uvTab.size = 256 := by decide +kernel
theorem lenTab_ok : ∀ i, i < 256 → ((sc_lenTab.data.getD i 0).toNat = len8 i) := by decide +kernel
theorem uvTab_ok : ∀ i, i ≤ 32 → ((sc_uvTab.data.getD i 0).toNat = max 1 ((i + 6) / 7)) := by decide +kernel

section
variable {P : Program} {tU8 : Nat}

/-- bits.Len32 -/
theorem len32_ok {f : FuncId} {fn : Func} {T0 T1 T2 T3 T4 : Nat} (hf : P.funcs[f]? = some fn) (hb : fn.body.map strip = some (sc_Len32 T0 T1 T2 T3 T4)) (hn : fn.ntmps = 19) (hr : fn.results = #[.tmp 2])
    (h0 : intB P T0 .u32 = true) (h3 : intB P T3 .u8 = true) (h4 : strB P T4 = true) (h2 : intB P T2 .i64 = true) (n : Nat) (hn32 : n < 4294967296) (w : World) :
    Calls P f #[.int .u32 (n : Int)] w fun e w' => (∃ L : Nat, IsLen n L ∧ e = .returned (.int .i64 (L : Int))) ∧ w = w' := by
  refine fn_calls hf hb hn (by simp) fun a0 hs hd ha => ?_
  have hx := ha 0 _ rfl
  generalize hR : bodyPost P fn _ = Q
  have hQ : ∀ (a : Act) (L : Nat), a.defers = [] → getT a 2 = .int .i64 (L : Int) → IsLen n L → Q .ret a w := by
    intro a L h1 h2 h3
    subst hR
    exact ret_tmp hr h1 ⟨⟨L, h3, by rw [h2]⟩, rfl⟩
  clear hR
  have last : ∀ (a : Act) (m c : Nat), a.tmps.size = 19 → a.defers = [] → getT a 0 = .int .u32 (m : Int) → getT a 2 = .int .i64 (c : Int) → m < 256 → c ≤ 24 → (∀ L, IsLen m L → IsLen n (c + L)) →
      (SC.seq (.reg [mv 13 2, mv 14 0, ⟨some 15, .convert T0 T3 (.tmp 14), none⟩, ⟨some 16, .index T4 (.const (.string sc_lenTab)) (.tmp 15), none⟩, ⟨some 17, .convert T3 T2 (.tmp 16), none⟩, ⟨some 18, .binOp .add T2 (.tmp 13) (.tmp 17) T2, none⟩, asg 2 18]) .ret).wp P Q a w := by
    intro a m c hs hd hm hc hm256 hc24 hL
    have hl8 : len8 m ≤ 8 := (len8_ok m 8).2 (by omega)
    refine SC.wp_seq (SC.wp_reg (ops_mv (ops_mv (opsw_none rfl (opw_convert h0 h3 (n := (m : Int)) ?_ (opsw_none rfl (opw_indexStr (str_of h4) (k := .u8) (i := m) ?_ ?_ (opsw_none rfl (opw_convert h3 h2 (n := (len8 m : Int)) ?_ (opsw_none rfl (opw_arith (op := .add) (k := .i64) (m := (c : Int)) (n := (len8 m : Int)) (r := ((c + len8 m : Nat) : Int)) ?_ ?_ (.inl ⟨rfl, ?_⟩) (ops_asg (ops_nil ?_)))))))))))))
    · simp (disch := first | omega | (simp only [size_put]; omega)) [eval_tmp, getT_put, getT_put_ne]
      exact hm
    · rw [eval_tmp, getT_put (by first | omega | (simp only [size_put]; omega)), wrap_u8]
      congr 1
      omega
    · rw [lenTab_size]
      exact hm256
    · rw [eval_tmp, getT_put (by first | omega | (simp only [size_put]; omega)), lenTab_ok m hm256]
    · simp (disch := first | omega | (simp only [size_put]; omega)) [eval_tmp, getT_put, getT_put_ne]
      exact hc
    · rw [eval_tmp, getT_put (by first | omega | (simp only [size_put]; omega)), IntWalk.i64_in _ (by omega)]
    · rw [IntWalk.i64_in _ (by omega)]
      simp
    · refine SC.wp_ret (hQ _ (c + len8 m) ?_ ?_ (hL _ (len8_ok m)))
      · simp [defers_put, hd]
      · simp (disch := first | omega | (simp only [size_put]; omega)) [getT_put]
  have second : ∀ (a : Act) (m c : Nat), a.tmps.size = 19 → a.defers = [] → getT a 0 = .int .u32 (m : Int) → getT a 2 = .int .i64 (c : Int) → m < 65536 → c ≤ 16 → (∀ L, IsLen m L → IsLen n (c + L)) →
      (SC.seq (.seq (.reg [mv 7 0, ⟨some 8, .binOp .geq T0 (.tmp 7) (.const (.int .u32 256)) T0, none⟩]) (.cond (.tmp 8) (.seq (.reg [mv 9 0, ⟨some 10, .binOp .shr T0 (.tmp 9) (.const (.int .u64 8)) T1, none⟩, asg 0 10]) (.reg [mv 11 2, ⟨some 12, .binOp .add T2 (.tmp 11) (.const (.int .i64 8)) T2, none⟩, asg 2 12])) .skip))
        (.seq (.reg [mv 13 2, mv 14 0, ⟨some 15, .convert T0 T3 (.tmp 14), none⟩, ⟨some 16, .index T4 (.const (.string sc_lenTab)) (.tmp 15), none⟩, ⟨some 17, .convert T3 T2 (.tmp 16), none⟩, ⟨some 18, .binOp .add T2 (.tmp 13) (.tmp 17) T2, none⟩, asg 2 18]) .ret)).wp P Q a w := by
    intro a m c hs hd hm hc hmlt hc16 hL
    refine SC.wp_seq (SC.wp_seq (SC.wp_reg (ops_mv (opsw_none rfl (opw_cmp (op := .geq) (k := .u32) (m := (m : Int)) (n := 256) (r := decide (256 ≤ m)) ?_ rfl (by simp; omega) (ops_nil ?_))))))
    · rw [eval_tmp, getT_put (by first | omega | (simp only [size_put]; omega))]
      exact hm
    refine SC.wp_cond (t := decide (256 ≤ m)) (by rw [eval_tmp, getT_put (by first | omega | (simp only [size_put]; omega))]) ?_
    by_cases h : 256 ≤ m
    · rw [if_pos (by simpa using h)]
      refine SC.wp_seq (SC.wp_reg (ops_mv (opsw_none rfl (opw_shr (n := 8) (k := .u32) (m := (m : Int)) ?_ (by decide) (ops_asg (ops_nil ?_))))))
      · simp (disch := first | omega | (simp only [size_put]; omega)) [eval_tmp, getT_put, getT_put_ne]
        exact hm
      refine SC.wp_reg (ops_mv (opsw_none rfl (opw_arith (op := .add) (k := .i64) (m := (c : Int)) (n := 8) (r := ((c + 8 : Nat) : Int)) ?_ rfl (.inl ⟨rfl, ?_⟩) (ops_asg (ops_nil ?_)))))
      · simp (disch := first | omega | (simp only [size_put]; omega)) [eval_tmp, getT_put, getT_put_ne]
        exact hc
      · rw [IntWalk.i64_in _ (by omega)]
        simp
      refine last _ (m / 256) (c + 8) (by simp [size_put, hs]) (by simp [defers_put, hd]) ?_ ?_ (by omega) (by omega) ?_
      · simp (disch := first | omega | (simp only [size_put]; omega)) [getT_put, getT_put_ne]
      · simp (disch := first | omega | (simp only [size_put]; omega)) [getT_put, getT_put_ne]
      · intro L hLm
        have := hL _ (IsLen.shift (m := 8) hLm (by omega))
        rwa [← Nat.add_assoc] at this
    · rw [if_neg (by simpa using h)]
      refine SC.wp_skip (last _ m c (by simp [size_put, hs]) (by simp [defers_put, hd]) ?_ ?_ (by omega) (by omega) hL)
      · simp (disch := omega) [getT_put_ne]
        exact hm
      · simp (disch := omega) [getT_put_ne]
        exact hc
  refine SC.wp_seq (SC.wp_reg (opsw_none rfl (opw_assign (ops_nil ?_))))
  rw [eval_const]
  refine SC.wp_seq (SC.wp_seq (SC.wp_reg (ops_mv (opsw_none rfl (opw_cmp (op := .geq) (k := .u32) (m := (n : Int)) (n := 65536) (r := decide (65536 ≤ n)) ?_ rfl (by simp; omega) (ops_nil ?_))))))
  · simp (disch := first | omega | (simp only [size_put]; omega)) [eval_tmp, getT_put, getT_put_ne]
    exact hx
  refine SC.wp_cond (t := decide (65536 ≤ n)) (by rw [eval_tmp, getT_put (by first | omega | (simp only [size_put]; omega))]) ?_
  by_cases h : 65536 ≤ n
  · rw [if_pos (by simpa using h)]
    refine SC.wp_seq (SC.wp_reg (ops_mv (opsw_none rfl (opw_shr (n := 16) (k := .u32) (m := (n : Int)) ?_ (by decide) (ops_asg (ops_nil ?_))))))
    · simp (disch := first | omega | (simp only [size_put]; omega)) [eval_tmp, getT_put, getT_put_ne]
      exact hx
    refine SC.wp_reg (opsw_none rfl (opw_assign (ops_nil ?_)))
    rw [eval_const]
    refine second _ (n / 65536) 16 (by simp [size_put, hs]) (by simp [defers_put, hd]) ?_ ?_ (by omega) (by omega) ?_
    · simp (disch := first | omega | (simp only [size_put]; omega)) [getT_put, getT_put_ne]
    · simp (disch := first | omega | (simp only [size_put]; omega)) [getT_put]
    · intro L hLm
      exact IsLen.shift (m := 16) hLm (by omega)
  · rw [if_neg (by simpa using h)]
    refine SC.wp_skip (second _ n 0 (by simp [size_put, hs]) (by simp [defers_put, hd]) ?_ ?_ (by omega) (by omega) (fun L hL => by rwa [Nat.zero_add]))
    · simp (disch := omega) [getT_put_ne]
      exact hx
    · simp (disch := first | omega | (simp only [size_put]; omega)) [getT_put, getT_put_ne]

/-- kbin.UvarintLen -/
theorem uvarintLen_ok {f g : FuncId} {fn : Func} {T0 T1 T2 : Nat} (hf : P.funcs[f]? = some fn) (hb : fn.body.map strip = some (sc_UvarintLen T0 T1 T2 g)) (hn : fn.ntmps = 8) (hr : fn.results = #[.tmp 2])
    (h0 : intB P T0 .i64 = true) (h1 : intB P T1 .u8 = true) (h2 : strB P T2 = true) (hok : FnOK P g)
    (hg : ∀ (n : Nat) (w : World), n < 4294967296 → Calls P g #[.int .u32 (n : Int)] w fun e w' => (∃ L : Nat, IsLen n L ∧ e = .returned (.int .i64 (L : Int))) ∧ w = w') (n : Nat) (hn32 : n < 4294967296) (w : World) :
    Calls P f #[.int .u32 (n : Int)] w fun e w' => (∃ L : Nat, IsLen n L ∧ e = .returned (.int .i64 ((max 1 ((L + 6) / 7) : Nat) : Int))) ∧ w = w' := by
  refine fn_calls hf hb hn (by simp) fun a0 hs hd ha => ?_
  have hx := ha 0 _ rfl
  refine SC.wp_seq (SC.wp_reg (opsw_none rfl (opw_assign (ops_nil ?_))))
  refine SC.wp_seq (SC.wp_reg (ops_mv ?_))
  refine ops_cal hok (R := fun e w' => (∃ L : Nat, IsLen n L ∧ e = .returned (.int .i64 (L : Int))) ∧ w = w') ?_ ?_
  · refine Eq.mp (congrArg (fun z => Calls P g z w _) ?_) (hg n w hn32)
    simp (disch := first | omega | (simp only [size_put]; omega)) [getT_put, getT_put_ne]
    exact hx.symm
  rintro e w' ⟨⟨L, hL, rfl⟩, rfl⟩
  have hL32 : L ≤ 32 := (hL 32).2 (by omega)
  refine ⟨_, rfl, opsw_none rfl (opw_convert h0 h1 (n := (L : Int)) ?_ (opsw_none rfl (opw_indexStr (str_of h2) (k := .u8) (i := L) ?_ ?_ (opsw_none rfl (opw_convert h1 h0 (n := ((max 1 ((L + 6) / 7) : Nat) : Int)) ?_ (ops_asg (ops_nil ?_)))))))⟩
  · rw [eval_tmp, getT_put (by first | omega | (simp only [size_put]; omega))]
  · rw [eval_tmp, getT_put (by first | omega | (simp only [size_put]; omega)), wrap_u8]
    congr 1
    omega
  · rw [uvTab_size]
    omega
  · rw [eval_tmp, getT_put (by first | omega | (simp only [size_put]; omega)), uvTab_ok L hL32]
  refine SC.wp_ret ?_
  try simp only [Exit.then]
  refine ret_tmp hr (by simp [defers_put, hd]) ⟨⟨L, hL, ?_⟩, rfl⟩
  rw [getT_put (by first | omega | (simp only [size_put]; omega)), getT_put (by first | omega | (simp only [size_put]; omega)), IntWalk.i64_in _ (by omega)]
end

theorem uvarint_lt {n : Nat} (h : n ≤ 127) : uvarint n = [UInt8.ofNat n] := by
  rw [uvarint, dif_pos h]
theorem uvarint_ge {n : Nat} (h : 127 < n) : uvarint n = UInt8.ofNat (n % 128 + 128) :: uvarint (n / 128) := by
  rw [uvarint, dif_neg (by omega)]
theorem cell_ofNat {m : Nat} (h : m < 256) : cell (UInt8.ofNat m) = .int .u8 (m : Int) := by
  unfold cell
  rw [UInt8.toNat_ofNat_of_lt' h]

section
variable {P : Program} {a : Act} {w : World} {K : Act → World → Prop} {d : Option Tmp} {g : Option (Nat × Bool)}
theorem opw_and7 {T T' : TypeId} {x : Operand} {m : Nat} (hx : a.eval x = .int .u32 (m : Int)) (h : K (a.put d (.int .u32 ((m % 128 : Nat) : Int))) w) : opw P ⟨d, .binOp .and T x (.const (.int .u32 127)) T', g⟩ a w K := by
  refine opw_value (by simp) (fun p hp => ?_) h
  have e : IntKind.u32.wrap (((BitVec.ofInt IntKind.u32.bits (m : Int)) &&& (BitVec.ofInt IntKind.u32.bits 127)).toNat : Int) = ((m % 128 : Nat) : Int) := by
    have h1 : ((BitVec.ofInt 32 (m : Int)) &&& (BitVec.ofInt 32 127)).toNat = (m % 4294967296) % 128 := by
      rw [BitVec.toNat_and]
      have e1 : (BitVec.ofInt 32 (m : Int)).toNat = m % 4294967296 := by simp [BitVec.toNat_ofInt]
      have e2 : (BitVec.ofInt 32 127).toNat = 2 ^ 7 - 1 := by decide
      rw [e1, e2, Nat.and_two_pow_sub_one_eq_mod]
    show IntKind.u32.wrap (((BitVec.ofInt 32 (m : Int)) &&& (BitVec.ofInt 32 127)).toNat : Int) = _
    rw [h1, wrap_u32]
    omega
  simp only [execOp, hp, hx, eval_const]
  simp [run_eqGuard_int, binOp, Op.intBits]
  exact e
theorem opw_or7 {T T' : TypeId} {x : Operand} {m : Nat} (hx : a.eval x = .int .u32 (m : Int)) (hm : m < 128) (h : K (a.put d (.int .u32 ((m + 128 : Nat) : Int))) w) : opw P ⟨d, .binOp .or T x (.const (.int .u32 128)) T', g⟩ a w K := by
  refine opw_value (by simp) (fun p hp => ?_) h
  have e : IntKind.u32.wrap (((BitVec.ofInt IntKind.u32.bits (m : Int)) ||| (BitVec.ofInt IntKind.u32.bits 128)).toNat : Int) = ((m + 128 : Nat) : Int) := by
    have h1 : ((BitVec.ofInt 32 (m : Int)) ||| (BitVec.ofInt 32 128)).toNat = m + 128 := by
      rw [BitVec.toNat_or]
      have e1 : (BitVec.ofInt 32 (m : Int)).toNat = m := by simp [BitVec.toNat_ofInt]; omega
      have e2 : (BitVec.ofInt 32 128).toNat = 2 ^ 7 * 1 := by decide
      rw [e1, e2, Nat.or_comm, ← Nat.two_pow_add_eq_or_of_lt (by omega) 1]
      omega
    show IntKind.u32.wrap (((BitVec.ofInt 32 (m : Int)) ||| (BitVec.ofInt 32 128)).toNat : Int) = _
    rw [h1, wrap_u32]
    omega
  simp only [execOp, hp, hx, eval_const]
  simp [run_eqGuard_int, binOp, Op.intBits]
  exact e
theorem opw_shrN {T T' n : Nat} {yk : IntKind} {x : Operand} {m : Nat} (hx : a.eval x = .int .u32 (m : Int)) (hn : n ≤ 32) (h : K (a.put d (.int .u32 ((m / 2 ^ n : Nat) : Int))) w) : opw P ⟨d, .binOp .shr T x (.const (.int yk (n : Int))) T', g⟩ a w K := by
  refine opw_shr hx hn ?_
  have e : (m : Int) / (2 ^ n : Int) = ((m / 2 ^ n : Nat) : Int) := by norm_cast
  rw [e]
  exact h
theorem opw_conv8 {S T : TypeId} {x : Operand} {m : Nat} (hS : intB P S .u32 = true) (hT : intB P T .u8 = true) (hx : a.eval x = .int .u32 (m : Int)) (hm : m < 256) (h : K (a.put d (.int .u8 (m : Int))) w) : opw P ⟨d, .convert S T x, g⟩ a w K := by
  refine opw_convert hS hT hx ?_
  rw [wrap_u8, show (m : Int) % 256 = (m : Int) by omega]
  exact h
end

section
variable {P : Program} {tU8 : Nat}
set_option maxHeartbeats 1000000 in
theorem appendUvarint_ok {f g : FuncId} {fn : Func} {T0 T1 T2 T3 T4 : Nat} (hf : P.funcs[f]? = some fn) (hb : fn.body.map strip = some (sc_AppendUvarint T0 T1 T2 T3 T4 g)) (hnm : (fn.name == "runtime.NumGoroutine") = false) (hn : fn.ntmps = 93) (hr : fn.results = #[.tmp 4])
    (hT : u8sB P T4 tU8 = true) (hU : intB P T1 .u32 = true) (hU8 : intB P T2 .u8 = true) (hok : FnOK P g)
    (hg : ∀ (n : Nat) (w : World), n < 4294967296 → Calls P g #[.int .u32 (n : Int)] w fun e w' => (∃ L : Nat, IsLen n L ∧ e = .returned (.int .i64 ((max 1 ((L + 6) / 7) : Nat) : Int))) ∧ w = w') (n : Nat) (hn32 : n < 4294967296) :
    AP P tU8 f #[.int .u32 (n : Int)] (fun _ _ => True) (uvarint n) := by
  refine AP_of hf hb hnm hn (by simp) fun w B dv xs a0 ho hB hl _ hs hd hh0 ha => ?_
  have hx0 := ha 0 (.int .u32 n) rfl
  generalize hR : bodyPost P fn _ = Q
  have hfin : ∀ (dv' : Value) (w2 : World) (a' : Act), Own tU8 w2 B dv' (xs ++ uvarint n) → Below B w w2 → B ≤ w2.heap.size → a'.defers = [] → getT a' 4 = dv' → Q .ret a' w2 := by
    intro dv' w2 a' q1 q2 q3 q4 q5
    subst hR
    exact ret_tmp hr q4 ⟨dv', by rw [q5], q1, q2, q3⟩
  clear hR
  refine SC.wp_seq (SC.wp_reg (opsw_none rfl (opw_assign (ops_nil ?_))))
  refine SC.wp_seq (SC.wp_seq (SC.wp_reg (ops_mv ?_)))
  refine ops_cal hok (R := fun e w' => (∃ L : Nat, IsLen n L ∧ e = .returned (.int .i64 ((max 1 ((L + 6) / 7) : Nat) : Int))) ∧ w = w') ?_ ?_
  · refine Eq.mp (congrArg (fun z => Calls P g z w _) ?_) (hg n w hn32)
    simp (disch := first | omega | (simp only [size_put]; omega)) [getT_put, getT_put_ne]
    exact hx0.symm
  rintro e w' ⟨⟨L, hL, rfl⟩, rfl⟩
  refine ⟨_, rfl, ops_nil ?_⟩
  have hL32 : L ≤ 32 := (hL 32).2 (by omega)
  have l7 := hL 7
  have l14 := hL 14
  have l21 := hL 21
  have l28 := hL 28
  generalize ha1 : ((a0.put (some 4) (a0.eval (.const (.slice none 0 0)))).put (some 5) (getT (a0.put (some 4) (a0.eval (.const (.slice none 0 0)))) 1)).put (some 6) (.int .i64 ((max 1 ((L + 6) / 7) : Nat) : Int)) = a1
  have h6 : getT a1 6 = .int .i64 ((max 1 ((L + 6) / 7) : Nat) : Int) := by rw [← ha1]; simp (disch := first | omega | (simp only [size_put]; omega)) [getT_put]
  have hd0 : getT a1 0 = dv := by rw [← ha1]; simp (disch := omega) [getT_put_ne, hh0]
  have hx : getT a1 1 = .int .u32 (n : Int) := by rw [← ha1]; simp (disch := omega) [getT_put_ne]; exact hx0
  have hs' : a1.tmps.size = 93 := by rw [← ha1]; simp [size_put, hs]
  have hd' : a1.defers = [] := by rw [← ha1]; simp [defers_put, hd]
  clear ha1 hs hd
  have hs := hs'
  have hd := hd'
  obtain hk | hk | hk | hk | hk : max 1 ((L + 6) / 7) = 1 ∨ max 1 ((L + 6) / 7) = 2 ∨ max 1 ((L + 6) / 7) = 3 ∨ max 1 ((L + 6) / 7) = 4 ∨ max 1 ((L + 6) / 7) = 5 := by omega
  · rw [hk] at h6
    have huv : uvarint n = [UInt8.ofNat n] := by
        rw [uvarint_lt (by omega)]
    have hcell : cellsOf (uvarint n) = [.int .u8 (n : Int)] := by
      rw [huv]
      simp only [cellsOf, List.map_cons, List.map_nil]
      rw [cell_ofNat (by omega)]
    have hulen : (uvarint n).length = 1 := by rw [huv]; rfl
    refine SC.wp_block (SC.wp_seq (SC.wp_reg (opsw_none rfl (opw_cmp (op := .eql) (k := .i64) (m := 1) (n := 5) (r := false) ?_ rfl (by decide) (ops_asg (ops_nil ?_))))))
    · simp (disch := first | omega | (simp only [size_put]; omega)) [eval_tmp, getT_put, getT_put_ne, h6]
    refine SC.wp_cond (t := false) (by simp (disch := first | omega | (simp only [size_put]; omega)) [eval_tmp, getT_put]) ?_
    rw [if_neg (by decide)]
    refine SC.wp_seq (SC.wp_reg (opsw_none rfl (opw_cmp (op := .eql) (k := .i64) (m := 1) (n := 4) (r := false) ?_ rfl (by decide) (ops_asg (ops_nil ?_)))))
    · simp (disch := first | omega | (simp only [size_put]; omega)) [eval_tmp, getT_put, getT_put_ne, h6]
    refine SC.wp_cond (t := false) (by simp (disch := first | omega | (simp only [size_put]; omega)) [eval_tmp, getT_put]) ?_
    rw [if_neg (by decide)]
    refine SC.wp_seq (SC.wp_reg (opsw_none rfl (opw_cmp (op := .eql) (k := .i64) (m := 1) (n := 3) (r := false) ?_ rfl (by decide) (ops_asg (ops_nil ?_)))))
    · simp (disch := first | omega | (simp only [size_put]; omega)) [eval_tmp, getT_put, getT_put_ne, h6]
    refine SC.wp_cond (t := false) (by simp (disch := first | omega | (simp only [size_put]; omega)) [eval_tmp, getT_put]) ?_
    rw [if_neg (by decide)]
    refine SC.wp_seq (SC.wp_reg (opsw_none rfl (opw_cmp (op := .eql) (k := .i64) (m := 1) (n := 2) (r := false) ?_ rfl (by decide) (ops_asg (ops_nil ?_)))))
    · simp (disch := first | omega | (simp only [size_put]; omega)) [eval_tmp, getT_put, getT_put_ne, h6]
    refine SC.wp_cond (t := false) (by simp (disch := first | omega | (simp only [size_put]; omega)) [eval_tmp, getT_put]) ?_
    rw [if_neg (by decide)]
    refine SC.wp_seq (SC.wp_reg (opsw_none rfl (opw_cmp (op := .eql) (k := .i64) (m := 1) (n := 1) (r := true) ?_ rfl (by decide) (ops_asg (ops_nil ?_)))))
    · simp (disch := first | omega | (simp only [size_put]; omega)) [eval_tmp, getT_put, getT_put_ne, h6]
    refine SC.wp_cond (t := true) (by simp (disch := first | omega | (simp only [size_put]; omega)) [eval_tmp, getT_put]) ?_
    rw [if_pos rfl]
    refine SC.wp_seq (SC.wp_reg (ops_mv (ops_mv (opsw_none rfl (opw_conv8 hU hU8 (m := n) ?_ ?_ (ops_retBytes (B := B) (dv := dv) (xs := xs) (bs := uvarint n) hT ?_ (by decide) (by decide) ?_ ho hB hl ?_ (by decide) (by simp only [size_put]; omega) ?_ (by simp only [size_put]; omega)))))))
    · simp (disch := first | omega | (simp only [size_put]; omega)) [eval_tmp, getT_put, getT_put_ne]
      exact hx
    · omega
    · rw [huv]; rfl
    · rw [hcell, hulen]
      simp (disch := first | omega | (simp only [size_put]; omega)) [eval_tmp, getT_put, getT_put_ne, List.range']
    · simp (disch := first | omega | (simp only [size_put]; omega)) [getT_put, getT_put_ne, hd0]
    · intro dv' w2 a' q1 q2 q3 q4 q5 q6
      refine SC.wp_ret ?_
      simp only [Exit.then, Exit.inBlock]
      exact hfin dv' w2 a' q1 q2 q3 (by rw [q5]; simp [defers_put, hd]) q6
  · rw [hk] at h6
    have huv : uvarint n = [UInt8.ofNat (n % 128 + 128), UInt8.ofNat (n / 2 ^ 7)] := by
        rw [uvarint_ge (by omega), uvarint_lt (by omega)]
        try simp [Nat.div_div_eq_div_mul]
    have hcell : cellsOf (uvarint n) = [.int .u8 ((n % 128 + 128 : Nat) : Int), .int .u8 ((n / 2 ^ 7 : Nat) : Int)] := by
      rw [huv]
      simp only [cellsOf, List.map_cons, List.map_nil]
      rw [cell_ofNat (by omega), cell_ofNat (by omega)]
    have hulen : (uvarint n).length = 2 := by rw [huv]; rfl
    refine SC.wp_block (SC.wp_seq (SC.wp_reg (opsw_none rfl (opw_cmp (op := .eql) (k := .i64) (m := 2) (n := 5) (r := false) ?_ rfl (by decide) (ops_asg (ops_nil ?_))))))
    · simp (disch := first | omega | (simp only [size_put]; omega)) [eval_tmp, getT_put, getT_put_ne, h6]
    refine SC.wp_cond (t := false) (by simp (disch := first | omega | (simp only [size_put]; omega)) [eval_tmp, getT_put]) ?_
    rw [if_neg (by decide)]
    refine SC.wp_seq (SC.wp_reg (opsw_none rfl (opw_cmp (op := .eql) (k := .i64) (m := 2) (n := 4) (r := false) ?_ rfl (by decide) (ops_asg (ops_nil ?_)))))
    · simp (disch := first | omega | (simp only [size_put]; omega)) [eval_tmp, getT_put, getT_put_ne, h6]
    refine SC.wp_cond (t := false) (by simp (disch := first | omega | (simp only [size_put]; omega)) [eval_tmp, getT_put]) ?_
    rw [if_neg (by decide)]
    refine SC.wp_seq (SC.wp_reg (opsw_none rfl (opw_cmp (op := .eql) (k := .i64) (m := 2) (n := 3) (r := false) ?_ rfl (by decide) (ops_asg (ops_nil ?_)))))
    · simp (disch := first | omega | (simp only [size_put]; omega)) [eval_tmp, getT_put, getT_put_ne, h6]
    refine SC.wp_cond (t := false) (by simp (disch := first | omega | (simp only [size_put]; omega)) [eval_tmp, getT_put]) ?_
    rw [if_neg (by decide)]
    refine SC.wp_seq (SC.wp_reg (opsw_none rfl (opw_cmp (op := .eql) (k := .i64) (m := 2) (n := 2) (r := true) ?_ rfl (by decide) (ops_asg (ops_nil ?_)))))
    · simp (disch := first | omega | (simp only [size_put]; omega)) [eval_tmp, getT_put, getT_put_ne, h6]
    refine SC.wp_cond (t := true) (by simp (disch := first | omega | (simp only [size_put]; omega)) [eval_tmp, getT_put]) ?_
    rw [if_pos rfl]
    refine SC.wp_seq (SC.wp_reg (ops_mv (ops_mv (opsw_none rfl (opw_and7 (m := n) ?_ (opsw_none rfl (opw_or7 (m := (n) % 128) ?_ ?_ (opsw_none rfl (opw_conv8 hU hU8 (m := (n) % 128 + 128) ?_ ?_ (ops_mv (opsw_none rfl (opw_shrN (n := 7) (m := n) ?_ (by decide) (opsw_none rfl (opw_conv8 hU hU8 (m := n / 2 ^ 7) ?_ ?_ (ops_retBytes (B := B) (dv := dv) (xs := xs) (bs := uvarint n) hT ?_ (by decide) (by decide) ?_ ho hB hl ?_ (by decide) (by simp only [size_put]; omega) ?_ (by simp only [size_put]; omega))))))))))))))))
    · simp (disch := first | omega | (simp only [size_put]; omega)) [eval_tmp, getT_put, getT_put_ne]
      exact hx
    · simp (disch := first | omega | (simp only [size_put]; omega)) [eval_tmp, getT_put, getT_put_ne]
    · omega
    · simp (disch := first | omega | (simp only [size_put]; omega)) [eval_tmp, getT_put, getT_put_ne]
    · omega
    · simp (disch := first | omega | (simp only [size_put]; omega)) [eval_tmp, getT_put, getT_put_ne]
      exact hx
    · simp (disch := first | omega | (simp only [size_put]; omega)) [eval_tmp, getT_put, getT_put_ne]
    · omega
    · rw [huv]; rfl
    · rw [hcell, hulen]
      simp (disch := first | omega | (simp only [size_put]; omega)) [eval_tmp, getT_put, getT_put_ne, List.range']
    · simp (disch := first | omega | (simp only [size_put]; omega)) [getT_put, getT_put_ne, hd0]
    · intro dv' w2 a' q1 q2 q3 q4 q5 q6
      refine SC.wp_ret ?_
      simp only [Exit.then, Exit.inBlock]
      exact hfin dv' w2 a' q1 q2 q3 (by rw [q5]; simp [defers_put, hd]) q6
  · rw [hk] at h6
    have huv : uvarint n = [UInt8.ofNat (n % 128 + 128), UInt8.ofNat ((n / 2 ^ 7) % 128 + 128), UInt8.ofNat (n / 2 ^ 14)] := by
        rw [uvarint_ge (by omega), uvarint_ge (by omega), uvarint_lt (by omega)]
        try simp [Nat.div_div_eq_div_mul]
    have hcell : cellsOf (uvarint n) = [.int .u8 ((n % 128 + 128 : Nat) : Int), .int .u8 (((n / 2 ^ 7) % 128 + 128 : Nat) : Int), .int .u8 ((n / 2 ^ 14 : Nat) : Int)] := by
      rw [huv]
      simp only [cellsOf, List.map_cons, List.map_nil]
      rw [cell_ofNat (by omega), cell_ofNat (by omega), cell_ofNat (by omega)]
    have hulen : (uvarint n).length = 3 := by rw [huv]; rfl
    refine SC.wp_block (SC.wp_seq (SC.wp_reg (opsw_none rfl (opw_cmp (op := .eql) (k := .i64) (m := 3) (n := 5) (r := false) ?_ rfl (by decide) (ops_asg (ops_nil ?_))))))
    · simp (disch := first | omega | (simp only [size_put]; omega)) [eval_tmp, getT_put, getT_put_ne, h6]
    refine SC.wp_cond (t := false) (by simp (disch := first | omega | (simp only [size_put]; omega)) [eval_tmp, getT_put]) ?_
    rw [if_neg (by decide)]
    refine SC.wp_seq (SC.wp_reg (opsw_none rfl (opw_cmp (op := .eql) (k := .i64) (m := 3) (n := 4) (r := false) ?_ rfl (by decide) (ops_asg (ops_nil ?_)))))
    · simp (disch := first | omega | (simp only [size_put]; omega)) [eval_tmp, getT_put, getT_put_ne, h6]
    refine SC.wp_cond (t := false) (by simp (disch := first | omega | (simp only [size_put]; omega)) [eval_tmp, getT_put]) ?_
    rw [if_neg (by decide)]
    refine SC.wp_seq (SC.wp_reg (opsw_none rfl (opw_cmp (op := .eql) (k := .i64) (m := 3) (n := 3) (r := true) ?_ rfl (by decide) (ops_asg (ops_nil ?_)))))
    · simp (disch := first | omega | (simp only [size_put]; omega)) [eval_tmp, getT_put, getT_put_ne, h6]
    refine SC.wp_cond (t := true) (by simp (disch := first | omega | (simp only [size_put]; omega)) [eval_tmp, getT_put]) ?_
    rw [if_pos rfl]
    refine SC.wp_seq (SC.wp_reg (ops_mv (ops_mv (opsw_none rfl (opw_and7 (m := n) ?_ (opsw_none rfl (opw_or7 (m := (n) % 128) ?_ ?_ (opsw_none rfl (opw_conv8 hU hU8 (m := (n) % 128 + 128) ?_ ?_ (ops_mv (opsw_none rfl (opw_shrN (n := 7) (m := n) ?_ (by decide) (opsw_none rfl (opw_and7 (m := n / 2 ^ 7) ?_ (opsw_none rfl (opw_or7 (m := (n / 2 ^ 7) % 128) ?_ ?_ (opsw_none rfl (opw_conv8 hU hU8 (m := (n / 2 ^ 7) % 128 + 128) ?_ ?_ (ops_mv (opsw_none rfl (opw_shrN (n := 14) (m := n) ?_ (by decide) (opsw_none rfl (opw_conv8 hU hU8 (m := n / 2 ^ 14) ?_ ?_ (ops_retBytes (B := B) (dv := dv) (xs := xs) (bs := uvarint n) hT ?_ (by decide) (by decide) ?_ ho hB hl ?_ (by decide) (by simp only [size_put]; omega) ?_ (by simp only [size_put]; omega)))))))))))))))))))))))))
    · simp (disch := first | omega | (simp only [size_put]; omega)) [eval_tmp, getT_put, getT_put_ne]
      exact hx
    · simp (disch := first | omega | (simp only [size_put]; omega)) [eval_tmp, getT_put, getT_put_ne]
    · omega
    · simp (disch := first | omega | (simp only [size_put]; omega)) [eval_tmp, getT_put, getT_put_ne]
    · omega
    · simp (disch := first | omega | (simp only [size_put]; omega)) [eval_tmp, getT_put, getT_put_ne]
      exact hx
    · simp (disch := first | omega | (simp only [size_put]; omega)) [eval_tmp, getT_put, getT_put_ne]
    · simp (disch := first | omega | (simp only [size_put]; omega)) [eval_tmp, getT_put, getT_put_ne]
    · omega
    · simp (disch := first | omega | (simp only [size_put]; omega)) [eval_tmp, getT_put, getT_put_ne]
    · omega
    · simp (disch := first | omega | (simp only [size_put]; omega)) [eval_tmp, getT_put, getT_put_ne]
      exact hx
    · simp (disch := first | omega | (simp only [size_put]; omega)) [eval_tmp, getT_put, getT_put_ne]
    · omega
    · rw [huv]; rfl
    · rw [hcell, hulen]
      simp (disch := first | omega | (simp only [size_put]; omega)) [eval_tmp, getT_put, getT_put_ne, List.range']
    · simp (disch := first | omega | (simp only [size_put]; omega)) [getT_put, getT_put_ne, hd0]
    · intro dv' w2 a' q1 q2 q3 q4 q5 q6
      refine SC.wp_ret ?_
      simp only [Exit.then, Exit.inBlock]
      exact hfin dv' w2 a' q1 q2 q3 (by rw [q5]; simp [defers_put, hd]) q6
  · rw [hk] at h6
    have huv : uvarint n = [UInt8.ofNat (n % 128 + 128), UInt8.ofNat ((n / 2 ^ 7) % 128 + 128), UInt8.ofNat ((n / 2 ^ 14) % 128 + 128), UInt8.ofNat (n / 2 ^ 21)] := by
        rw [uvarint_ge (by omega), uvarint_ge (by omega), uvarint_ge (by omega), uvarint_lt (by omega)]
        try simp [Nat.div_div_eq_div_mul]
    have hcell : cellsOf (uvarint n) = [.int .u8 ((n % 128 + 128 : Nat) : Int), .int .u8 (((n / 2 ^ 7) % 128 + 128 : Nat) : Int), .int .u8 (((n / 2 ^ 14) % 128 + 128 : Nat) : Int), .int .u8 ((n / 2 ^ 21 : Nat) : Int)] := by
      rw [huv]
      simp only [cellsOf, List.map_cons, List.map_nil]
      rw [cell_ofNat (by omega), cell_ofNat (by omega), cell_ofNat (by omega), cell_ofNat (by omega)]
    have hulen : (uvarint n).length = 4 := by rw [huv]; rfl
    refine SC.wp_block (SC.wp_seq (SC.wp_reg (opsw_none rfl (opw_cmp (op := .eql) (k := .i64) (m := 4) (n := 5) (r := false) ?_ rfl (by decide) (ops_asg (ops_nil ?_))))))
    · simp (disch := first | omega | (simp only [size_put]; omega)) [eval_tmp, getT_put, getT_put_ne, h6]
    refine SC.wp_cond (t := false) (by simp (disch := first | omega | (simp only [size_put]; omega)) [eval_tmp, getT_put]) ?_
    rw [if_neg (by decide)]
    refine SC.wp_seq (SC.wp_reg (opsw_none rfl (opw_cmp (op := .eql) (k := .i64) (m := 4) (n := 4) (r := true) ?_ rfl (by decide) (ops_asg (ops_nil ?_)))))
    · simp (disch := first | omega | (simp only [size_put]; omega)) [eval_tmp, getT_put, getT_put_ne, h6]
    refine SC.wp_cond (t := true) (by simp (disch := first | omega | (simp only [size_put]; omega)) [eval_tmp, getT_put]) ?_
    rw [if_pos rfl]
    refine SC.wp_seq (SC.wp_reg (ops_mv (ops_mv (opsw_none rfl (opw_and7 (m := n) ?_ (opsw_none rfl (opw_or7 (m := (n) % 128) ?_ ?_ (opsw_none rfl (opw_conv8 hU hU8 (m := (n) % 128 + 128) ?_ ?_ (ops_mv (opsw_none rfl (opw_shrN (n := 7) (m := n) ?_ (by decide) (opsw_none rfl (opw_and7 (m := n / 2 ^ 7) ?_ (opsw_none rfl (opw_or7 (m := (n / 2 ^ 7) % 128) ?_ ?_ (opsw_none rfl (opw_conv8 hU hU8 (m := (n / 2 ^ 7) % 128 + 128) ?_ ?_ (ops_mv (opsw_none rfl (opw_shrN (n := 14) (m := n) ?_ (by decide) (opsw_none rfl (opw_and7 (m := n / 2 ^ 14) ?_ (opsw_none rfl (opw_or7 (m := (n / 2 ^ 14) % 128) ?_ ?_ (opsw_none rfl (opw_conv8 hU hU8 (m := (n / 2 ^ 14) % 128 + 128) ?_ ?_ (ops_mv (opsw_none rfl (opw_shrN (n := 21) (m := n) ?_ (by decide) (opsw_none rfl (opw_conv8 hU hU8 (m := n / 2 ^ 21) ?_ ?_ (ops_retBytes (B := B) (dv := dv) (xs := xs) (bs := uvarint n) hT ?_ (by decide) (by decide) ?_ ho hB hl ?_ (by decide) (by simp only [size_put]; omega) ?_ (by simp only [size_put]; omega))))))))))))))))))))))))))))))))))
    · simp (disch := first | omega | (simp only [size_put]; omega)) [eval_tmp, getT_put, getT_put_ne]
      exact hx
    · simp (disch := first | omega | (simp only [size_put]; omega)) [eval_tmp, getT_put, getT_put_ne]
    · omega
    · simp (disch := first | omega | (simp only [size_put]; omega)) [eval_tmp, getT_put, getT_put_ne]
    · omega
    · simp (disch := first | omega | (simp only [size_put]; omega)) [eval_tmp, getT_put, getT_put_ne]
      exact hx
    · simp (disch := first | omega | (simp only [size_put]; omega)) [eval_tmp, getT_put, getT_put_ne]
    · simp (disch := first | omega | (simp only [size_put]; omega)) [eval_tmp, getT_put, getT_put_ne]
    · omega
    · simp (disch := first | omega | (simp only [size_put]; omega)) [eval_tmp, getT_put, getT_put_ne]
    · omega
    · simp (disch := first | omega | (simp only [size_put]; omega)) [eval_tmp, getT_put, getT_put_ne]
      exact hx
    · simp (disch := first | omega | (simp only [size_put]; omega)) [eval_tmp, getT_put, getT_put_ne]
    · simp (disch := first | omega | (simp only [size_put]; omega)) [eval_tmp, getT_put, getT_put_ne]
    · omega
    · simp (disch := first | omega | (simp only [size_put]; omega)) [eval_tmp, getT_put, getT_put_ne]
    · omega
    · simp (disch := first | omega | (simp only [size_put]; omega)) [eval_tmp, getT_put, getT_put_ne]
      exact hx
    · simp (disch := first | omega | (simp only [size_put]; omega)) [eval_tmp, getT_put, getT_put_ne]
    · omega
    · rw [huv]; rfl
    · rw [hcell, hulen]
      simp (disch := first | omega | (simp only [size_put]; omega)) [eval_tmp, getT_put, getT_put_ne, List.range']
    · simp (disch := first | omega | (simp only [size_put]; omega)) [getT_put, getT_put_ne, hd0]
    · intro dv' w2 a' q1 q2 q3 q4 q5 q6
      refine SC.wp_ret ?_
      simp only [Exit.then, Exit.inBlock]
      exact hfin dv' w2 a' q1 q2 q3 (by rw [q5]; simp [defers_put, hd]) q6
  · rw [hk] at h6
    have huv : uvarint n = [UInt8.ofNat (n % 128 + 128), UInt8.ofNat ((n / 2 ^ 7) % 128 + 128), UInt8.ofNat ((n / 2 ^ 14) % 128 + 128), UInt8.ofNat ((n / 2 ^ 21) % 128 + 128), UInt8.ofNat (n / 2 ^ 28)] := by
        rw [uvarint_ge (by omega), uvarint_ge (by omega), uvarint_ge (by omega), uvarint_ge (by omega), uvarint_lt (by omega)]
        try simp [Nat.div_div_eq_div_mul]
    have hcell : cellsOf (uvarint n) = [.int .u8 ((n % 128 + 128 : Nat) : Int), .int .u8 (((n / 2 ^ 7) % 128 + 128 : Nat) : Int), .int .u8 (((n / 2 ^ 14) % 128 + 128 : Nat) : Int), .int .u8 (((n / 2 ^ 21) % 128 + 128 : Nat) : Int), .int .u8 ((n / 2 ^ 28 : Nat) : Int)] := by
      rw [huv]
      simp only [cellsOf, List.map_cons, List.map_nil]
      rw [cell_ofNat (by omega), cell_ofNat (by omega), cell_ofNat (by omega), cell_ofNat (by omega), cell_ofNat (by omega)]
    have hulen : (uvarint n).length = 5 := by rw [huv]; rfl
    refine SC.wp_block (SC.wp_seq (SC.wp_reg (opsw_none rfl (opw_cmp (op := .eql) (k := .i64) (m := 5) (n := 5) (r := true) ?_ rfl (by decide) (ops_asg (ops_nil ?_))))))
    · simp (disch := first | omega | (simp only [size_put]; omega)) [eval_tmp, getT_put, getT_put_ne, h6]
    refine SC.wp_cond (t := true) (by simp (disch := first | omega | (simp only [size_put]; omega)) [eval_tmp, getT_put]) ?_
    rw [if_pos rfl]
    refine SC.wp_seq (SC.wp_reg (ops_mv (ops_mv (opsw_none rfl (opw_and7 (m := n) ?_ (opsw_none rfl (opw_or7 (m := (n) % 128) ?_ ?_ (opsw_none rfl (opw_conv8 hU hU8 (m := (n) % 128 + 128) ?_ ?_ (ops_mv (opsw_none rfl (opw_shrN (n := 7) (m := n) ?_ (by decide) (opsw_none rfl (opw_and7 (m := n / 2 ^ 7) ?_ (opsw_none rfl (opw_or7 (m := (n / 2 ^ 7) % 128) ?_ ?_ (opsw_none rfl (opw_conv8 hU hU8 (m := (n / 2 ^ 7) % 128 + 128) ?_ ?_ (ops_mv (opsw_none rfl (opw_shrN (n := 14) (m := n) ?_ (by decide) (opsw_none rfl (opw_and7 (m := n / 2 ^ 14) ?_ (opsw_none rfl (opw_or7 (m := (n / 2 ^ 14) % 128) ?_ ?_ (opsw_none rfl (opw_conv8 hU hU8 (m := (n / 2 ^ 14) % 128 + 128) ?_ ?_ (ops_mv (opsw_none rfl (opw_shrN (n := 21) (m := n) ?_ (by decide) (opsw_none rfl (opw_and7 (m := n / 2 ^ 21) ?_ (opsw_none rfl (opw_or7 (m := (n / 2 ^ 21) % 128) ?_ ?_ (opsw_none rfl (opw_conv8 hU hU8 (m := (n / 2 ^ 21) % 128 + 128) ?_ ?_ (ops_mv (opsw_none rfl (opw_shrN (n := 28) (m := n) ?_ (by decide) (opsw_none rfl (opw_conv8 hU hU8 (m := n / 2 ^ 28) ?_ ?_ (ops_retBytes (B := B) (dv := dv) (xs := xs) (bs := uvarint n) hT ?_ (by decide) (by decide) ?_ ho hB hl ?_ (by decide) (by simp only [size_put]; omega) ?_ (by simp only [size_put]; omega)))))))))))))))))))))))))))))))))))))))))))
    · simp (disch := first | omega | (simp only [size_put]; omega)) [eval_tmp, getT_put, getT_put_ne]
      exact hx
    · simp (disch := first | omega | (simp only [size_put]; omega)) [eval_tmp, getT_put, getT_put_ne]
    · omega
    · simp (disch := first | omega | (simp only [size_put]; omega)) [eval_tmp, getT_put, getT_put_ne]
    · omega
    · simp (disch := first | omega | (simp only [size_put]; omega)) [eval_tmp, getT_put, getT_put_ne]
      exact hx
    · simp (disch := first | omega | (simp only [size_put]; omega)) [eval_tmp, getT_put, getT_put_ne]
    · simp (disch := first | omega | (simp only [size_put]; omega)) [eval_tmp, getT_put, getT_put_ne]
    · omega
    · simp (disch := first | omega | (simp only [size_put]; omega)) [eval_tmp, getT_put, getT_put_ne]
    · omega
    · simp (disch := first | omega | (simp only [size_put]; omega)) [eval_tmp, getT_put, getT_put_ne]
      exact hx
    · simp (disch := first | omega | (simp only [size_put]; omega)) [eval_tmp, getT_put, getT_put_ne]
    · simp (disch := first | omega | (simp only [size_put]; omega)) [eval_tmp, getT_put, getT_put_ne]
    · omega
    · simp (disch := first | omega | (simp only [size_put]; omega)) [eval_tmp, getT_put, getT_put_ne]
    · omega
    · simp (disch := first | omega | (simp only [size_put]; omega)) [eval_tmp, getT_put, getT_put_ne]
      exact hx
    · simp (disch := first | omega | (simp only [size_put]; omega)) [eval_tmp, getT_put, getT_put_ne]
    · simp (disch := first | omega | (simp only [size_put]; omega)) [eval_tmp, getT_put, getT_put_ne]
    · omega
    · simp (disch := first | omega | (simp only [size_put]; omega)) [eval_tmp, getT_put, getT_put_ne]
    · omega
    · simp (disch := first | omega | (simp only [size_put]; omega)) [eval_tmp, getT_put, getT_put_ne]
      exact hx
    · simp (disch := first | omega | (simp only [size_put]; omega)) [eval_tmp, getT_put, getT_put_ne]
    · omega
    · rw [huv]; rfl
    · rw [hcell, hulen]
      simp (disch := first | omega | (simp only [size_put]; omega)) [eval_tmp, getT_put, getT_put_ne, List.range']
    · simp (disch := first | omega | (simp only [size_put]; omega)) [getT_put, getT_put_ne, hd0]
    · intro dv' w2 a' q1 q2 q3 q4 q5 q6
      refine SC.wp_ret ?_
      simp only [Exit.then, Exit.inBlock]
      exact hfin dv' w2 a' q1 q2 q3 (by rw [q5]; simp [defers_put, hd]) q6
end

end Go.Proofs.Ytioodpjcpadkoaa.K
