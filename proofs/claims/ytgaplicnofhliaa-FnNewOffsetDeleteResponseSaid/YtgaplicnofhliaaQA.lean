/- What this seat's program is: the functions that write. No condition. -/
import Derived.Test.YtgaplicnofhliaaQX
import Derived.Test.YtgaplicnofhliaaM5
namespace Go.Proofs.Ytgaplicnofhliaa.K
open Go Go.RowKit Go.Proofs Go.Proofs.Ytgaplicnofhliaa.T
set_option linter.unusedVariables false
def ids : Ids := { tI16 := 47, tInt := 3, tU32 := 74, tI8 := 0, tU8s := 35, tI32 := 21, tBool := 4, aBool := 0, aI8 := 0, aI16 := 25, aI32 := 26, aI64 := 0, aU16 := 37, aUuid := 0, aStr := 28, aCStr := 0, aNStr := 0, aCNStr := 0, aBytes := 0, aCBytes := 0, aNBytes := 0, aCNBytes := 0, aArr := 27, aCArr := 0, aNArr := 0, aCNArr := 0, aUvar := 0, tagsLen := 0, tagsEach := 0 }
theorem b37 : (Go.Proofs.Try.f37).body.map strip = some (sc_AppendUint16 83 91 5 35) := by kernel_rfl
theorem apU16 (n : Int) : AP PP X.U8 37 #[.int .u16 n] (fun _ _ => True) (fixed n 2) := appendU16_ok Go.Proofs.Try.func37 b37 (by kernel_rfl) (by kernel_rfl) (by kernel_rfl) (by kernel_rfl) (by kernel_rfl) (by kernel_rfl) n
theorem b38 : (Go.Proofs.Try.f38).body.map strip = some (sc_AppendUint32 74 91 5 35) := by kernel_rfl
theorem apU32 (n : Int) : AP PP X.U8 38 #[.int .u32 n] (fun _ _ => True) (fixed n 4) := appendU32_ok Go.Proofs.Try.func38 b38 (by kernel_rfl) (by kernel_rfl) (by kernel_rfl) (by kernel_rfl) (by kernel_rfl) (by kernel_rfl) n
theorem b25 : (Go.Proofs.Try.f25).body.map strip = some (sc_AppendInt16 47 83 37) := by kernel_rfl
theorem apI16 (n : Int) : AP PP X.U8 25 #[.int .i16 n] (fun _ _ => True) (fixed n 2) := appendI16_ok Go.Proofs.Try.func25 b25 (by kernel_rfl) (by kernel_rfl) (by kernel_rfl) (by kernel_rfl) (by kernel_rfl) apU16 n
theorem b26 : (Go.Proofs.Try.f26).body.map strip = some (sc_AppendInt32 21 74 38) := by kernel_rfl
theorem apI32 (n : Int) : AP PP X.U8 26 #[.int .i32 n] (fun _ _ => True) (fixed n 4) := appendI32_ok Go.Proofs.Try.func26 b26 (by kernel_rfl) (by kernel_rfl) (by kernel_rfl) (by kernel_rfl) (by kernel_rfl) apU32 n
theorem b28 : (Go.Proofs.Try.f28).body.map strip = some (sc_AppendString 9 3 47 35 25) := by kernel_rfl
theorem apStr (s : ByteArray) (h : s.data.toList.length ≤ most) : AP PP X.U8 28 #[.string s] (fun _ _ => True) (counted false false s.data.toList.length 2 ++ s.data.toList) := appendString_ok Go.Proofs.Try.func28 b28 (by kernel_rfl) (by kernel_rfl) (by kernel_rfl) (by kernel_rfl) (by kernel_rfl) (by kernel_rfl) (by kernel_rfl) apI16 s h
theorem b27 : (Go.Proofs.Try.f27).body.map strip = some (sc_AppendArrayLen 3 21 26) := by kernel_rfl
theorem apArr (n : Nat) (h : n ≤ most) : AP PP X.U8 27 #[.int .i64 n] (fun _ _ => True) (counted false false n 4) := appendArrayLen_ok Go.Proofs.Try.func27 b27 (by kernel_rfl) (by kernel_rfl) (by kernel_rfl) (by kernel_rfl) (by kernel_rfl) apI32 n h
theorem ka : KA G0 PP ids X.U8 where
  bool := fun h => absurd rfl h
  i8 := fun h => absurd rfl h
  i16 := fun _ => apI16
  i32 := fun _ => apI32
  i64 := fun h => absurd rfl h
  u16 := fun _ => apU16
  uuid := fun h => absurd rfl h
  str := fun _ => apStr
  cstr := fun h => absurd rfl h
  nstr0 := fun h => absurd rfl h
  nstr := fun h => absurd rfl h
  cnstr0 := fun h => absurd rfl h
  cnstr := fun h => absurd rfl h
  bytes := fun h => absurd rfl h
  cbytes := fun h => absurd rfl h
  nbytes := fun h => absurd rfl h
  nbytes0 := fun h => absurd rfl h
  cnbytes := fun h => absurd rfl h
  cnbytes0 := fun h => absurd rfl h
  arr := fun _ => apArr
  carr := fun h => absurd rfl h
  narr := fun h => absurd rfl h
  cnarr := fun h => absurd rfl h
  uvar := fun h => absurd rfl h
  tagsLen := fun h => absurd rfl h
  tagsEach := fun h => absurd rfl h
end Go.Proofs.Ytgaplicnofhliaa.K
