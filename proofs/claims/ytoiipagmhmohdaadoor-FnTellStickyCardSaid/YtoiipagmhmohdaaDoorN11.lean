/- Generic texts: R31 G3 H6 H5 H7 H8 H9. No condition. -/
import Derived.Test.YtoiipagmhmohdaaDoorN10
namespace Go.Proofs.YtoiipagmhmohdaaDoor.K
open Go Go.RowKit Go.Proofs.YtoiipagmhmohdaaDoor.T
attribute [local simp] eTm eCo pNo gTp gTn qv qcall vop iop
set_option linter.unusedVariables false
set_option linter.unusedSimpArgs false
set_option maxHeartbeats 4000000
section
variable {G:List (Nat × Bytes)→Prop} {P:Program} {X:STy} {f:FuncId} {fn:Func}
theorem own_src2 {tU8:Nat} {w:World} {B:Nat} {dv:Value} {xs:Bytes} (h:Own tU8 w B dv xs):∃ S base cap,dv=.slice base xs.length cap∧xs.length≤cap∧SrcAt w S base xs∧∀ sb,S=some sb→B≤sb∧sb < w.heap.size:=by
  obtain ⟨S,base,cap,rfl,q1,q2⟩:=own_src h
  refine ⟨S,base,cap,rfl,?_,q1,q2⟩
  obtain ⟨-,⟨e1,e2⟩ | ⟨g,c3,cur,e1,e2,e3,e4,-⟩⟩:=h
  · rw [e2];exact Nat.zero_le _
  · cases e1;exact e4
end
end Go.Proofs.YtoiipagmhmohdaaDoor.K
namespace Go.Proofs.YtoiipagmhmohdaaDoor.K
open Go Go.RowKit Go.Proofs.YtoiipagmhmohdaaDoor.T
attribute [local simp] eTm eCo pNo gTp gTn qv qcall vop iop
set_option linter.unusedVariables false
set_option linter.unusedSimpArgs false
set_option maxHeartbeats 4000000
section
variable {G:List (Nat × Bytes)→Prop} {P:Program} {X:STy} {f:FuncId} {fn:Func}
end
end Go.Proofs.YtoiipagmhmohdaaDoor.K
namespace Go.Proofs.YtoiipagmhmohdaaDoor.K
open Go Go.RowKit Go.Proofs.YtoiipagmhmohdaaDoor.T
attribute [local simp] eTm eCo pNo gTp gTn qv qcall vop iop
set_option linter.unusedSimpArgs false
set_option linter.unusedVariables false
set_option maxHeartbeats 4000000
section
variable {P:Program} {X:STy} {f:FuncId} {fn:Func}
end
end Go.Proofs.YtoiipagmhmohdaaDoor.K
namespace Go.Proofs.YtoiipagmhmohdaaDoor.K
open Go Go.RowKit Go.Proofs.YtoiipagmhmohdaaDoor.T
attribute [local simp] eTm eCo pNo gTp gTn qv qcall vop iop
set_option linter.unusedSimpArgs false
set_option linter.unusedVariables false
set_option maxHeartbeats 4000000
section
variable {P:Program} {f:FuncId} {fn:Func}
theorem res_ct {a:Act} {w:World} {r1 r2 T b:Nat} {cs:List Value} {v2:Value} (hr:fn.results=#[.cell r1 T,.tmp r2]) (hT:aggB P T cs.length=true) (hx:getT a r1=.pointer (some ⟨b,0,none⟩)) (hc:∀ j v,cs[j]?=some v→w.cell? ⟨b,j,none⟩=some v) (h2:getT a r2=v2) :
    (results fn a.tmps).run P w=.ok (.tuple #[.agg cs.toArray,v2]) w:=by
  obtain ⟨i,hi,hs,ha⟩:=agg_of (w:=w) hT
  have hl:=run_loadCells_list (P:=P) w ⟨b,0,none⟩ cs (fun j v hj=>by rw [add_none,Nat.zero_add];exact hc j v hj)
  have hx':a.tmps[r1]?.getD undef=.pointer (some ⟨b,0,none⟩):=by simpa [getT,Array.getD_eq_getD_getElem?] using hx
  have h2':a.tmps[r2]?.getD undef=v2:=by simpa [getT,Array.getD_eq_getD_getElem?] using h2
  simp [results,hr,hx',h2',asAddr,loadVar,ha,sizeOf,typeInfo,hi,hs,hl]
theorem dr_S {a:Act} {w:World} {K:Act→World→Prop} {S:World→Prop} {ok:Nat→Bool} {w0:World} {i d:Nat} {op:Op} {ops:List SOp} {v:Value} {r:List (Nat × Bool)} (hS:∀ w',S w'→∀ b o,ok b=true→w'.cell? ⟨b,o,none⟩=w0.cell? ⟨b,o,none⟩) (hs:ops[i]?=some ⟨some d,op,none⟩) (h:qv ok P w0 a op=some v)
    (hk:dregw P S ops r K (a.put (some d) v) w):dregw P S ops ((i,true) :: r) K a w:=by
  unfold dregw
  exact ⟨_,hs,by simpa only [if_true] using ⟨v,(fun o ho w' hS'=>qv_sound (hS w' hS') h o (congrArg SOp.op ho):opq P S ⟨some d,op,none⟩ a v),hk⟩⟩
end
end Go.Proofs.YtoiipagmhmohdaaDoor.K
namespace Go.Proofs.YtoiipagmhmohdaaDoor.K
open Go Go.RowKit Go.Proofs.YtoiipagmhmohdaaDoor.T
attribute [local simp] eTm eCo pNo gTp gTn qv qcall vop iop
set_option linter.unusedSimpArgs false
set_option linter.unusedVariables false
set_option maxHeartbeats 4000000
section
variable {P:Program} {X:STy} {f:FuncId} {fn:Func}
end
end Go.Proofs.YtoiipagmhmohdaaDoor.K
namespace Go.Proofs.YtoiipagmhmohdaaDoor.K
open Go Go.RowKit Go.Proofs.YtoiipagmhmohdaaDoor.T
attribute [local simp] eTm eCo pNo gTp gTn qv qcall vop iop
set_option linter.unusedSimpArgs false
set_option linter.unusedVariables false
set_option maxHeartbeats 4000000
section
variable {P:Program} {a:Act} {w:World} {K:Act→World→Prop} {d:Option Tmp} {g:Option (Nat × Bool)}
end
section
variable {P:Program} {f:FuncId} {fn:Func}
def AsksF (p:Prop) (w:World) (e:Ending) (w':World):Prop:=(∃ b:Bool,e=.returned (.bool b)∧(b=true→p))∧Below w.heap.size w w'
end
end Go.Proofs.YtoiipagmhmohdaaDoor.K
namespace Go.Proofs.YtoiipagmhmohdaaDoor.K
open Go Go.RowKit Go.Proofs.YtoiipagmhmohdaaDoor.T
attribute [local simp] eTm eCo pNo gTp gTn qv qcall vop iop
set_option linter.unusedSimpArgs false
set_option linter.unusedVariables false
set_option maxHeartbeats 4000000
section
variable {P:Program} {f:FuncId} {fn:Func}
end
end Go.Proofs.YtoiipagmhmohdaaDoor.K
