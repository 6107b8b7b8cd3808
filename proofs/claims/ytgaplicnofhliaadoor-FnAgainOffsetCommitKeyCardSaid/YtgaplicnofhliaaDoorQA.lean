/- What this seat's program is: the functions that write. No condition. -/
import Derived.Test.YtgaplicnofhliaaDoorQX
import Derived.Test.YtgaplicnofhliaaDoorM10
namespace Go.Proofs.YtgaplicnofhliaaDoor.K
open Go Go.RowKit Go.Proofs Go.Proofs.YtgaplicnofhliaaDoor.T
set_option linter.unusedVariables false
def ids : Ids := { tI16 := 64, tInt := 3, tU32 := 102, tI8 := 121, tU8s := 22, tI32 := 21, tBool := 4, aBool := 0, aI8 := 0, aI16 := 69, aI32 := 70, aI64 := 0, aU16 := 86, aUuid := 0, aStr := 61, aCStr := 0, aNStr := 0, aCNStr := 0, aBytes := 0, aCBytes := 0, aNBytes := 0, aCNBytes := 0, aArr := 0, aCArr := 0, aNArr := 0, aCNArr := 0, aUvar := 0, tagsLen := 0, tagsEach := 0 }
theorem b86 : (Go.Proofs.Tryd.f86).body.map strip = some (sc_AppendUint16 42 122 5 22) := by kernel_rfl
theorem apU16 (n : Int) : AP PP X.U8 86 #[.int .u16 n] (fun _ _ => True) (fixed n 2) := appendU16_ok Go.Proofs.Tryd.func86 b86 (by kernel_rfl) (by kernel_rfl) (by kernel_rfl) (by kernel_rfl) (by kernel_rfl) (by kernel_rfl) n
theorem b87 : (Go.Proofs.Tryd.f87).body.map strip = some (sc_AppendUint32 102 122 5 22) := by kernel_rfl
theorem apU32 (n : Int) : AP PP X.U8 87 #[.int .u32 n] (fun _ _ => True) (fixed n 4) := appendU32_ok Go.Proofs.Tryd.func87 b87 (by kernel_rfl) (by kernel_rfl) (by kernel_rfl) (by kernel_rfl) (by kernel_rfl) (by kernel_rfl) n
theorem b69 : (Go.Proofs.Tryd.f69).body.map strip = some (sc_AppendInt16 64 42 86) := by kernel_rfl
theorem apI16 (n : Int) : AP PP X.U8 69 #[.int .i16 n] (fun _ _ => True) (fixed n 2) := appendI16_ok Go.Proofs.Tryd.func69 b69 (by kernel_rfl) (by kernel_rfl) (by kernel_rfl) (by kernel_rfl) (by kernel_rfl) apU16 n
theorem b70 : (Go.Proofs.Tryd.f70).body.map strip = some (sc_AppendInt32 21 102 87) := by kernel_rfl
theorem apI32 (n : Int) : AP PP X.U8 70 #[.int .i32 n] (fun _ _ => True) (fixed n 4) := appendI32_ok Go.Proofs.Tryd.func70 b70 (by kernel_rfl) (by kernel_rfl) (by kernel_rfl) (by kernel_rfl) (by kernel_rfl) apU32 n
theorem b61 : (Go.Proofs.Tryd.f61).body.map strip = some (sc_AppendString 9 3 64 22 69) := by kernel_rfl
theorem apStr (s : ByteArray) (h : s.data.toList.length ≤ most) : AP PP X.U8 61 #[.string s] (fun _ _ => True) (counted false false s.data.toList.length 2 ++ s.data.toList) := appendString_ok Go.Proofs.Tryd.func61 b61 (by kernel_rfl) (by kernel_rfl) (by kernel_rfl) (by kernel_rfl) (by kernel_rfl) (by kernel_rfl) (by kernel_rfl) apI16 s h
theorem ka : KA G0 PP ids X.U8 where
  bool := fun h => absurd rfl h
  i8 := fun h => absurd rfl h
  i16 := fun _ => apI16
  i32 := fun _ => apI32
  i64 := fun h => absurd rfl h
  u16 := fun _ => apU16
  uuid := fun h => absurd rfl h
  str := fun _ => apStr
  cstr := fun h => absurd rfl h
  nstr0 := fun h => absurd rfl h
  nstr := fun h => absurd rfl h
  cnstr0 := fun h => absurd rfl h
  cnstr := fun h => absurd rfl h
  bytes := fun h => absurd rfl h
  cbytes := fun h => absurd rfl h
  nbytes := fun h => absurd rfl h
  nbytes0 := fun h => absurd rfl h
  cnbytes := fun h => absurd rfl h
  cnbytes0 := fun h => absurd rfl h
  arr := fun h => absurd rfl h
  carr := fun h => absurd rfl h
  narr := fun h => absurd rfl h
  cnarr := fun h => absurd rfl h
  uvar := fun h => absurd rfl h
  tagsLen := fun h => absurd rfl h
  tagsEach := fun h => absurd rfl h
end Go.Proofs.YtgaplicnofhliaaDoor.K
