/- Generic texts: R5 R6 R7 R8 R9 R10. No condition. -/
import Derived.Test.YtjbbohfaihkolaaN5
namespace Go.Proofs.Ytjbbohfaihkolaa.K
open Go Go.RowKit Go.Proofs.Ytjbbohfaihkolaa.T
set_option linter.unusedVariables false
set_option linter.unusedSimpArgs false
section
variable {X:RX} {a a':Act} {w w':World} {st:Option Bytes} {Q:Exit→Act→World→Prop}
theorem RInv.only {st':Option Bytes} (hX:X.ok) (h:RInv X a w st) (ho:Only X.rb w w') (hr:RdAt X.TR w' X.S X.rb st'):RInv X a w' st' :=
  ⟨h.size,h.defers,h.uns,h.rd,h.ver,h.flex,hr,fun sb hsb=>⟨(h.src sb hsb).1,Nat.lt_of_lt_of_le (h.src sb hsb).2 ho.size⟩,h.below.trans (ho.below hX.hB h.heap),Nat.le_trans h.heap ho.size⟩
def okRP (I:RIds) (c:Ctx) (nul:Bool) (k:PK):Bool :=
  match k with
  | .str=>if nul then (c.never || I.rCNStr != 0) && I.rNStr != 0 else (c.never || I.rCStr != 0) && I.rStr != 0
  | .bytes=>if nul then c.never && I.rNBytes != 0 else (c.never || I.rCBytes != 0) && I.rBytes != 0
  | .uuid=>!nul && I.rUuid != 0
  | k=>!nul && rNum I k != 0
end
end Go.Proofs.Ytjbbohfaihkolaa.K
namespace Go.Proofs.Ytjbbohfaihkolaa.K
open Go Go.RowKit Go.Proofs.Ytjbbohfaihkolaa.T
set_option linter.unusedVariables false
set_option linter.unusedSimpArgs false
def zOK (P:Program) (E size:Nat) (chk:(Nat→Option Value)→Bool):Bool :=
  match P.info? E with
  | some i=>match i.zero with
    | some z=>z.cells.size == size && i.size == size && decide (0 < size) && decide (i.bytes≤131072) && chk (fun j=>z.cells[j]?)
    | none=>false
  | none=>false
def okRTags (P:Program) (I:RIds) (c:Ctx) (S:Nat):Option (Nat × Nat)→Bool
  | none=>c.never
  | some (f,off)=>!c.never && fieldB P S f off && aggB P I.tTags 1 && I.rTags != 0
mutual
def okRElem (P:Program) (I:RIds) (c:Ctx) (T E size:Nat):Ty→Bool
  | .prim k=>if k=.uuid then size == 16 && arrB P E 16 && I.rUuid != 0 && zOK P E size (fun _=>true) else size == 1 && oneB P E && okRP I c false k && zOK P E size (fun _=>true)
  | .list _ _ _ _=>false
  | .struct S sz _ tags fs=>sz == size && zOK P E size (fun g=>frFsB g fs 0) && okRTags P I c S tags && okRFs P I c S fs
def okRVal (P:Program) (I:RIds) (c:Ctx) (h:Hd):Ty→Bool
  | .prim k =>
    if k=.uuid then !h.enum && !nuOf h && arrB P h.typ 16 && I.rUuid != 0
    else if h.enum then k == .i8 && !nuOf h && oneB P h.typ && I.rI8 != 0
    else oneB P h.typ && okRP I c (nuOf h) k
  | .list T E size of=>!h.enum && oneB P T && sliceB P T E size && (c.never || I.rCArr != 0) && I.rArr != 0 && I.rOk != 0 && (intK P I.tI32 == some .i32) && okRElem P I c T E size of
  | .struct S size _ tags fs=>!h.enum && (!nuOf h || (oneB P h.typ && I.rI8 != 0 && I.rOk != 0 && zOK P S size (fun g=>frFsB g fs 0))) && okRTags P I c S tags && okRFs P I c S fs
def okRFs (P:Program) (I:RIds) (c:Ctx) (S:Nat):Fs→Bool
  | .nil=>true
  | .cons h ty r=>fieldB P S h.idx h.off && (decide (h.null < 0) || decide (h.null≤h.from_)) && okRVal P I c h ty && okRFs P I c S r
end
section
variable {X:RX}
end
end Go.Proofs.Ytjbbohfaihkolaa.K
namespace Go.Proofs.Ytjbbohfaihkolaa.K
open Go Go.RowKit Go.Proofs.Ytjbbohfaihkolaa.T
set_option linter.unusedVariables false
set_option linter.unusedSimpArgs false
section
variable {X:RX}
end
end Go.Proofs.Ytjbbohfaihkolaa.K
namespace Go.Proofs.Ytjbbohfaihkolaa.K
open Go Go.RowKit Go.Proofs.Ytjbbohfaihkolaa.T
set_option linter.unusedVariables false
set_option linter.unusedSimpArgs false
section
variable {X:RX}
end
end Go.Proofs.Ytjbbohfaihkolaa.K
namespace Go.Proofs.Ytjbbohfaihkolaa.K
open Go Go.RowKit Go.Proofs.Ytjbbohfaihkolaa.T
set_option linter.unusedVariables false
set_option linter.unusedSimpArgs false
section
variable {X:RX}
end
end Go.Proofs.Ytjbbohfaihkolaa.K
namespace Go.Proofs.Ytjbbohfaihkolaa.K
open Go Go.RowKit Go.Proofs.Ytjbbohfaihkolaa.T
set_option linter.unusedVariables false
set_option linter.unusedSimpArgs false
section
variable {X:RX}
end
end Go.Proofs.Ytjbbohfaihkolaa.K
