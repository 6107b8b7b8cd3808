/- Generic texts: R6 R7 R8 R9 R10 R11. No condition. -/
import Derived.Test.YtoiipagmhmohdaaDoorN5
namespace Go.Proofs.YtoiipagmhmohdaaDoor.K
open Go Go.RowKit Go.Proofs.YtoiipagmhmohdaaDoor.T
set_option linter.unusedVariables false
set_option linter.unusedSimpArgs false
def zOK (P:Program) (E size:Nat) (chk:(Nat→Option Value)→Bool):Bool :=
  match P.info? E with
  | some i=>match i.zero with
    | some z=>z.cells.size == size && i.size == size && decide (0 < size) && decide (i.bytes≤131072) && chk (fun j=>z.cells[j]?)
    | none=>false
  | none=>false
def okRTags (P:Program) (I:RIds) (c:Ctx) (S:Nat):Option (Nat × Nat)→Bool
  | none=>c.never
  | some (f,off)=>!c.never && fieldB P S f off && aggB P I.tTags 1 && I.rTags != 0
mutual
def okRElem (P:Program) (I:RIds) (c:Ctx) (T E size:Nat):Ty→Bool
  | .prim k=>if k=.uuid then size == 16 && arrB P E 16 && I.rUuid != 0 && zOK P E size (fun _=>true) else size == 1 && oneB P E && okRP I c false k && zOK P E size (fun _=>true)
  | .list _ _ _ _=>false
  | .struct S sz _ tags fs=>sz == size && zOK P E size (fun g=>frFsB g fs 0) && okRTags P I c S tags && okRFs P I c S fs
def okRVal (P:Program) (I:RIds) (c:Ctx) (h:Hd):Ty→Bool
  | .prim k =>
    if k=.uuid then !h.enum && !nuOf h && arrB P h.typ 16 && I.rUuid != 0
    else if h.enum then k == .i8 && !nuOf h && oneB P h.typ && I.rI8 != 0
    else oneB P h.typ && okRP I c (nuOf h) k
  | .list T E size of=>!h.enum && oneB P T && sliceB P T E size && (c.never || I.rCArr != 0) && I.rArr != 0 && I.rOk != 0 && (intK P I.tI32 == some .i32) && okRElem P I c T E size of
  | .struct S size _ tags fs=>!h.enum && (!nuOf h || (oneB P h.typ && I.rI8 != 0 && I.rOk != 0 && zOK P S size (fun g=>frFsB g fs 0))) && okRTags P I c S tags && okRFs P I c S fs
def okRFs (P:Program) (I:RIds) (c:Ctx) (S:Nat):Fs→Bool
  | .nil=>true
  | .cons h ty r=>fieldB P S h.idx h.off && (decide (h.null < 0) || decide (h.null≤h.from_)) && okRVal P I c h ty && okRFs P I c S r
end
section
variable {X:RX}
end
end Go.Proofs.YtoiipagmhmohdaaDoor.K
namespace Go.Proofs.YtoiipagmhmohdaaDoor.K
open Go Go.RowKit Go.Proofs.YtoiipagmhmohdaaDoor.T
set_option linter.unusedVariables false
set_option linter.unusedSimpArgs false
section
variable {X:RX}
end
end Go.Proofs.YtoiipagmhmohdaaDoor.K
namespace Go.Proofs.YtoiipagmhmohdaaDoor.K
open Go Go.RowKit Go.Proofs.YtoiipagmhmohdaaDoor.T
set_option linter.unusedVariables false
set_option linter.unusedSimpArgs false
section
variable {X:RX}
end
end Go.Proofs.YtoiipagmhmohdaaDoor.K
namespace Go.Proofs.YtoiipagmhmohdaaDoor.K
open Go Go.RowKit Go.Proofs.YtoiipagmhmohdaaDoor.T
set_option linter.unusedVariables false
set_option linter.unusedSimpArgs false
section
variable {X:RX}
end
end Go.Proofs.YtoiipagmhmohdaaDoor.K
namespace Go.Proofs.YtoiipagmhmohdaaDoor.K
open Go Go.RowKit Go.Proofs.YtoiipagmhmohdaaDoor.T
set_option linter.unusedVariables false
set_option linter.unusedSimpArgs false
theorem pMany_succ {α:Type} (p:Rd α):∀ (k:Nat) (b:Bytes),pMany p (k+1) b=(pMany p k b).bind fun z=>(p z.2).map fun y=>(z.1 ++ [y.1],y.2)
  | 0,b=>by
    simp only [pMany,rThen,rOk,Option.bind_some,List.nil_append]
    cases p b <;> rfl
  | k+1,b=>by
    rw [pMany]
    simp only [rThen]
    cases hp:p b with
    | none=>simp [pMany,rThen,hp]
    | some z =>
      have ih:=pMany_succ p k z.2
      simp only [Option.bind_some]
      rw [ih]
      rw [show pMany p (k+1) b=(pMany p k z.2).bind fun y=>some (z.1 :: y.1,y.2) by simp only [pMany,rThen,hp,Option.bind_some,rOk]]
      cases pMany p k z.2 with
      | none=>rfl
      | some y =>
        simp only [Option.bind_some,rOk]
        cases p y.2 <;> rfl
theorem pMany_length {α:Type} (p:Rd α):∀ (k:Nat) (b r:Bytes) (xs:List α),pMany p k b=some (xs,r)→xs.length=k
  | 0,b,r,xs,h=>by
    obtain ⟨rfl,_⟩:=rOk_some h
    rfl
  | k+1,b,r,xs,h=>by
    obtain ⟨x,r1,h1,h⟩:=rThen_some h
    obtain ⟨ys,r2,h2,h⟩:=rThen_some h
    obtain ⟨rfl,_⟩:=rOk_some h
    simp [pMany_length p k r1 r2 ys h2]
theorem after_many_succ {α:Type} (p:Rd α) (k:Nat) (st:Option Bytes):after st (pMany p (k+1))=after (after st (pMany p k)) p:=by
  cases st with
  | none=>rfl
  | some b =>
    simp only [after,Option.bind_some]
    rw [pMany_succ]
    cases pMany p k b with
    | none=>rfl
    | some z =>
      simp only [Option.bind_some,Option.map_some]
      cases p z.2 <;> rfl
theorem pLen_lt {flex:Bool} {b r:Bytes} {n:Int} (h:pLen flex b=some (n,r)):n < 2147483648:=by
  unfold pLen at h
  obtain ⟨x,r1,h1,h2⟩:=rThen_some h
  split at h2
  · simp at h2
  · simp only [Option.some.injEq,Prod.mk.injEq] at h2
    obtain ⟨rfl,rfl⟩:=h2
    cases flex with
    | true =>
      rw [if_pos rfl] at h1
      obtain ⟨m,r2,q1,q2⟩:=rThen_some h1
      obtain ⟨rfl,_⟩:=rOk_some q2
      have:=(pUv_facts q1).1
      split
      · decide
      · split <;> omega
    | false =>
      rw [if_neg (by simp)] at h1
      unfold pInt at h1
      obtain ⟨m,r2,q1,q2⟩:=rThen_some h1
      obtain ⟨rfl,_⟩:=rOk_some q2
      have hlt:∀ (l:Bytes),unfix l < 256 ^ l.length:=by
        intro l
        induction l with
        | nil=>simp [unfix]
        | cons u l ih =>
          simp only [unfix,List.length_cons,Nat.pow_succ]
          have hu:u.toNat≤255:=by have:=u.toNat_lt;omega
          have:u.toNat * 256 ^ l.length≤255 * 256 ^ l.length:=Nat.mul_le_mul_right _ hu
          omega
      obtain ⟨e1,e2,e3⟩:=pFix_facts q1
      have h4:m < 256 ^ 4:=by
        have:=hlt (b.take 4)
        rw [show (b.take 4).length=4 by simp;omega] at this
        rw [e2]
        exact this
      simp only [sgn]
      split <;> simp at * <;> omega
theorem zeroCells_get {z:Array Value} {n j r:Nat} (hj:j < n) (hr:r < z.size) (rest:Array Value):(Builtin.zeroCells z n ++ rest)[j * z.size+r]?=z[r]?:=by
  have hlt:j * z.size+r < n * z.size:=by
    have:(j+1) * z.size≤n * z.size:=Nat.mul_le_mul_right _ hj
    rw [Nat.add_mul] at this
    omega
  rw [Array.getElem?_append_left (by simp [Builtin.zeroCells];exact hlt)]
  unfold Builtin.zeroCells
  rw [Array.getElem?_map,Array.getElem?_range,if_pos hlt]
  simp only [Option.map_some]
  rw [show (j * z.size+r) % z.size=r by rw [Nat.mul_comm,Nat.mul_add_mod];exact Nat.mod_eq_of_lt hr]
  rw [getElem!_pos z r hr,Array.getElem?_eq_getElem hr]
section
variable {X:RX}
end
end Go.Proofs.YtoiipagmhmohdaaDoor.K
namespace Go.Proofs.YtoiipagmhmohdaaDoor.K
open Go Go.RowKit Go.Proofs.YtoiipagmhmohdaaDoor.T
set_option linter.unusedVariables false
set_option linter.unusedSimpArgs false
section
variable {X:RX}
end
end Go.Proofs.YtoiipagmhmohdaaDoor.K
