/- What this seat's program is: the functions that write. No condition. -/
import Derived.Test.YtgaplicnofhliabDoorQX
import Derived.Test.YtgaplicnofhliabDoorM10
namespace Go.Proofs.YtgaplicnofhliabDoor.K
open Go Go.RowKit Go.Proofs Go.Proofs.YtgaplicnofhliabDoor.T
set_option linter.unusedVariables false
def ids : Ids := { tI16 := 41, tInt := 3, tU32 := 49, tI8 := 0, tU8s := 22, tI32 := 21, tBool := 4, aBool := 0, aI8 := 0, aI16 := 18, aI32 := 38, aI64 := 20, aU16 := 36, aUuid := 0, aStr := 19, aCStr := 0, aNStr := 0, aCNStr := 0, aBytes := 39, aCBytes := 0, aNBytes := 21, aCNBytes := 0, aArr := 0, aCArr := 0, aNArr := 0, aCNArr := 0, aUvar := 0, tagsLen := 0, tagsEach := 0 }
theorem b36 : (Go.Proofs.Tryd.f36).body.map strip = some (sc_AppendUint16 27 84 5 22) := by kernel_rfl
theorem apU16 (n : Int) : AP PP X.U8 36 #[.int .u16 n] (fun _ _ => True) (fixed n 2) := appendU16_ok Go.Proofs.Tryd.func36 b36 (by kernel_rfl) (by kernel_rfl) (by kernel_rfl) (by kernel_rfl) (by kernel_rfl) (by kernel_rfl) n
theorem b51 : (Go.Proofs.Tryd.f51).body.map strip = some (sc_AppendUint32 49 84 5 22) := by kernel_rfl
theorem apU32 (n : Int) : AP PP X.U8 51 #[.int .u32 n] (fun _ _ => True) (fixed n 4) := appendU32_ok Go.Proofs.Tryd.func51 b51 (by kernel_rfl) (by kernel_rfl) (by kernel_rfl) (by kernel_rfl) (by kernel_rfl) (by kernel_rfl) n
theorem b37 : (Go.Proofs.Tryd.f37).body.map strip = some (sc_appendUint64 66 84 5 22) := by kernel_rfl
theorem apU64 (n : Int) : AP PP X.U8 37 #[.int .u64 n] (fun _ _ => True) (fixed n 8) := appendU64_ok Go.Proofs.Tryd.func37 b37 (by kernel_rfl) (by kernel_rfl) (by kernel_rfl) (by kernel_rfl) (by kernel_rfl) (by kernel_rfl) n
theorem b18 : (Go.Proofs.Tryd.f18).body.map strip = some (sc_AppendInt16 41 27 36) := by kernel_rfl
theorem apI16 (n : Int) : AP PP X.U8 18 #[.int .i16 n] (fun _ _ => True) (fixed n 2) := appendI16_ok Go.Proofs.Tryd.func18 b18 (by kernel_rfl) (by kernel_rfl) (by kernel_rfl) (by kernel_rfl) (by kernel_rfl) apU16 n
theorem b38 : (Go.Proofs.Tryd.f38).body.map strip = some (sc_AppendInt32 21 49 51) := by kernel_rfl
theorem apI32 (n : Int) : AP PP X.U8 38 #[.int .i32 n] (fun _ _ => True) (fixed n 4) := appendI32_ok Go.Proofs.Tryd.func38 b38 (by kernel_rfl) (by kernel_rfl) (by kernel_rfl) (by kernel_rfl) (by kernel_rfl) apU32 n
theorem b20 : (Go.Proofs.Tryd.f20).body.map strip = some (sc_AppendInt64 2 66 37) := by kernel_rfl
theorem apI64 (n : Int) : AP PP X.U8 20 #[.int .i64 n] (fun _ _ => True) (fixed n 8) := appendI64_ok Go.Proofs.Tryd.func20 b20 (by kernel_rfl) (by kernel_rfl) (by kernel_rfl) (by kernel_rfl) (by kernel_rfl) apU64 n
theorem b19 : (Go.Proofs.Tryd.f19).body.map strip = some (sc_AppendString 9 3 41 22 18) := by kernel_rfl
theorem apStr (s : ByteArray) (h : s.data.toList.length ≤ most) : AP PP X.U8 19 #[.string s] (fun _ _ => True) (counted false false s.data.toList.length 2 ++ s.data.toList) := appendString_ok Go.Proofs.Tryd.func19 b19 (by kernel_rfl) (by kernel_rfl) (by kernel_rfl) (by kernel_rfl) (by kernel_rfl) (by kernel_rfl) (by kernel_rfl) apI16 s h
theorem b39 : (Go.Proofs.Tryd.f39).body.map strip = some (sc_AppendBytes 22 3 21 38) := by kernel_rfl
theorem apBytes (base : Option Addr) (cap : Nat) (bs : Bytes) (h : bs.length ≤ most) : AP PP X.U8 39 #[.slice base bs.length cap] (fun w B => BytesAt w (· < B) base bs) (counted false false bs.length 4 ++ bs) := appendBytes_ok Go.Proofs.Tryd.func39 b39 (by kernel_rfl) (by kernel_rfl) (by kernel_rfl) (by kernel_rfl) (by kernel_rfl) (by kernel_rfl) (by kernel_rfl) apI32 base cap bs h
theorem b21 : (Go.Proofs.Tryd.f21).body.map strip = some (sc_AppendNullableBytes 22 38 39) := by kernel_rfl
theorem apNBytes0 (cap : Nat) : AP PP X.U8 21 #[.slice none 0 cap] (fun _ _ => True) (counted false true 0 4) := appendNullBytes0_ok (E := X.U8) (n := 1) Go.Proofs.Tryd.func21 b21 (by kernel_rfl) (by kernel_rfl) (by kernel_rfl) (by kernel_rfl) (apI32 (-1)) cap
theorem apNBytes (base : Option Addr) (cap : Nat) (bs : Bytes) (h : bs.length ≤ most) (hn : base ≠ none) : AP PP X.U8 21 #[.slice base bs.length cap] (fun w B => BytesAt w (· < B) base bs) (counted false false bs.length 4 ++ bs) := appendNullBytes_ok (E := X.U8) (n := 1) Go.Proofs.Tryd.func21 b21 (by kernel_rfl) (by kernel_rfl) (by kernel_rfl) (by kernel_rfl) (apBytes base cap bs h) hn
theorem ka : KA G0 PP ids X.U8 where
  bool := fun h => absurd rfl h
  i8 := fun h => absurd rfl h
  i16 := fun _ => apI16
  i32 := fun _ => apI32
  i64 := fun _ => apI64
  u16 := fun _ => apU16
  uuid := fun h => absurd rfl h
  str := fun _ => apStr
  cstr := fun h => absurd rfl h
  nstr0 := fun h => absurd rfl h
  nstr := fun h => absurd rfl h
  cnstr0 := fun h => absurd rfl h
  cnstr := fun h => absurd rfl h
  bytes := fun _ => apBytes
  cbytes := fun h => absurd rfl h
  nbytes := fun _ b c bs h hn => apNBytes b c bs h hn
  nbytes0 := fun _ c => apNBytes0 c
  cnbytes := fun h => absurd rfl h
  cnbytes0 := fun h => absurd rfl h
  arr := fun h => absurd rfl h
  carr := fun h => absurd rfl h
  narr := fun h => absurd rfl h
  cnarr := fun h => absurd rfl h
  uvar := fun h => absurd rfl h
  tagsLen := fun h => absurd rfl h
  tagsEach := fun h => absurd rfl h
end Go.Proofs.YtgaplicnofhliabDoor.K
