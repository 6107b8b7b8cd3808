/- Generic texts: H2 H3 H4 G1 G2 R29 R31 G3. No condition. -/
import Derived.Test.YtcchakpiemhpeaaDoorN10
namespace Go.Proofs.YtcchakpiemhpeaaDoor.K
open Go Go.RowKit Go.Proofs.YtcchakpiemhpeaaDoor.T
attribute [local simp] eTm eCo pNo gTp gTn qv qcall vop iop
set_option linter.unusedSimpArgs false
set_option linter.unusedVariables false
set_option maxHeartbeats 4000000
section
variable {P:Program} {f:FuncId} {fn:Func}
end
end Go.Proofs.YtcchakpiemhpeaaDoor.K
namespace Go.Proofs.YtcchakpiemhpeaaDoor.K
open Go Go.RowKit Go.Proofs.YtcchakpiemhpeaaDoor.T
attribute [local simp] eTm eCo pNo gTp gTn qv qcall vop iop
set_option linter.unusedSimpArgs false
set_option linter.unusedVariables false
set_option maxHeartbeats 4000000
section
variable {P:Program} {f:FuncId} {fn:Func}
end
end Go.Proofs.YtcchakpiemhpeaaDoor.K
namespace Go.Proofs.YtcchakpiemhpeaaDoor.K
open Go Go.RowKit Go.Proofs.YtcchakpiemhpeaaDoor.T
attribute [local simp] eTm eCo pNo gTp gTn qv qcall vop iop
set_option linter.unusedSimpArgs false
set_option linter.unusedVariables false
set_option maxHeartbeats 4000000
section
variable {P:Program} {f:FuncId} {fn:Func}
end
end Go.Proofs.YtcchakpiemhpeaaDoor.K
namespace Go.Proofs.YtcchakpiemhpeaaDoor.K
open Go Go.RowKit Go.Proofs.YtcchakpiemhpeaaDoor.T
attribute [local simp] eTm eCo pNo gTp gTn qv qcall vop iop
set_option linter.unusedVariables false
set_option linter.unusedSimpArgs false
set_option maxHeartbeats 2000000
structure KTop where
  S:Nat
  size:Nat
  d:Nat
  t:Nat
  N:Nat
  fs:Fs
def KTop.chk (P:Program) (I:RIds) (M:KTop):Bool :=
  okRFs P I (rCtx none) M.S M.fs && layFs 1 M.size M.fs && decide (1≤M.size∧10+rVs M.fs≤M.t∧M.t+14+rFT (rCtx none) M.fs+1≤M.N) && fieldB P M.S 0 0 && intB P I.tI16 .i16 && oneB P I.tI16 && rdNew P I.tRd
section
variable {P:Program} {I:RIds} {M:KTop} {B:Nat} {G:List (Nat × Bytes)→Prop} {err:Value} {Gl:World→Prop} {gb:Nat} {f:FuncId} {fn:Func} {w0:World}
end
end Go.Proofs.YtcchakpiemhpeaaDoor.K
namespace Go.Proofs.YtcchakpiemhpeaaDoor.K
open Go Go.RowKit Go.Proofs.YtcchakpiemhpeaaDoor.T
attribute [local simp] eTm eCo pNo gTp gTn qv qcall vop iop
set_option linter.unusedVariables false
set_option linter.unusedSimpArgs false
set_option maxHeartbeats 4000000
def sc_NewV (T0 F0:Nat):SC:=.seq (.reg [⟨some 0,.alloc T0,none⟩]) (.seq (.reg [⟨some 1,.alloc T0,none⟩]) (.seq (.reg [cal 2 F0 [1]]) (.seq (.reg [ld 3 T0 1,⟨none,.store T0 (.tmp 0) (.tmp 3),none⟩]) (.ret))))
def sc_AgainK (T0 T1 T2 F0 F1 F2:Nat):SC:=.seq (.reg [⟨some 2,.assign (.const (.slice none 0 0)),none⟩,⟨some 3,.assign (.const (.bool false)),none⟩]) (.seq (.reg [cal 5 F0 [],⟨some 4,.alloc T0,none⟩,⟨none,.store T0 (.tmp 4) (.tmp 5),none⟩]) (.seq (.seq (.reg [mv 6 0,⟨some 7,.call ⟨.builtin .append,#[(.const (.slice none 0 0)),(.tmp 6)],#[T1,T1]⟩,none⟩,cal 8 F1 [4,7],⟨some 9,.binOp .neq T2 (.tmp 8) (.const .nilIface) T2,none⟩]) (.cond (.tmp 9) (.seq (.reg [⟨some 2,.assign (.const (.slice none 0 0)),none⟩,⟨some 3,.assign (.const (.bool false)),none⟩]) (.ret)) (.skip))) (.seq (.reg [⟨some 10,.call ⟨.value (.func F2),#[(.tmp 4),(.const (.slice none 0 0))],#[]⟩,none⟩,asg 2 10,⟨some 3,.assign (.const (.bool true)),none⟩]) (.ret))))
section
variable {P:Program} {f:FuncId} {fn:Func}
theorem newV_ok {T fDef n:Nat} {cs0 cs:Array Value} (hT:∃ i z,P.info? T=some i∧i.zero=some z∧z.cells=cs0) (hA:aggB P T n=true) (h0:cs0.size=n) (h1:cs.size=n) (hone:∀ v ∈ cs.toList,v.oneCell'=true) (hD:DefFn P fDef T cs0 cs) (hf:P.funcs[f]?=some fn) (hb:fn.body.map strip=some (sc_NewV T fDef)) (hn:fn.ntmps=4) (hr:fn.results=#[.cell 0 T]) (w:World) :
    Calls P f #[] w fun e w'=>e=.returned (.agg cs.toList.toArray)∧Below w.heap.size w w':=by
  obtain ⟨i,z,hi,hz,rfl⟩:=hT
  refine fCa hf hb hn (by simp) fun a0 hs hd ha=>?_
  refine SC.wp_seq (SC.wp_reg (oNo rfl (opw_alloc hi hz (oNi ?_))))
  simp only [Exit.then]
  refine SC.wp_seq (SC.wp_reg (oNo rfl (opw_alloc hi hz (oNi ?_))))
  simp only [Exit.then]
  have hn1:=heap_alloc_new w (.cells z.cells T)
  have hb1:Below w.heap.size w (w.alloc (.cells z.cells T)):=(Below.refl _ _).alloc (Nat.le_refl _) _
  have hs1:(w.alloc (.cells z.cells T)).heap.size=w.heap.size+1:=by simp
  generalize w.alloc (.cells z.cells T)=w1 at hn1 hb1 hs1 ⊢
  have hn2:=heap_alloc_new w1 (.cells z.cells T)
  have hn1':(w1.alloc (.cells z.cells T)).heap[w.heap.size]?=some (.cells z.cells T (0,0)):=by rw [Below.heap_alloc _ _ _ (by omega)];exact hn1
  have hb2:Below w.heap.size w (w1.alloc (.cells z.cells T)):=hb1.alloc (by omega) _
  have hs2:(w1.alloc (.cells z.cells T)).heap.size=w.heap.size+2:=by simp;omega
  generalize w1.alloc (.cells z.cells T)=w2 at hn2 hn1' hb2 hs2 ⊢
  refine SC.wp_seq (SC.wp_reg (ops_cal hD.1 (R:=fun e w'=>e=.returned (.tuple #[])∧w'=w2.setRow w1.heap.size cs) ?_ ?_))
  · refine Eq.mp (congrArg (fun z=>Calls P fDef z w2 _) ?_) (hD.2 w2 w1.heap.size hn2)
    simp (disch:=(try simp only [sPu]);omega)
  rintro e w3 ⟨rfl,hw3⟩
  refine ⟨_,rfl,oNi ?_⟩
  simp only [Exit.then]
  have hn3:w3.heap[w1.heap.size]?=some (.cells cs T (0,0)):=by rw [hw3];exact setRow_heap _ _ _ _ _ _ hn2
  have hn3':w3.heap[w.heap.size]?=some (.cells z.cells T (0,0)):=by rw [hw3,setRow_other _ _ _ _ (by omega)];exact hn1'
  have hb3:Below w.heap.size w w3:=by rw [hw3];exact hb2.trans ⟨rfl,rfl,rfl,by simp,fun k hk=>setRow_other _ _ _ _ (by omega)⟩
  have hlen:cs.toList.length=n:=by simpa using h1
  refine SC.wp_seq (SC.wp_reg ?_)
  refine oNo rfl (opw_load_agg (cs:=cs.toList) (b:=w1.heap.size) (o:=0) (by rw [hlen];exact hA) (by simp (disch:=(try simp only [sPu]);omega)) (fun j v hj=>by rw [Nat.zero_add,cell_of_row _ _ _ _ _ _ hn3];simpa using hj) ?_)
  refine oNo rfl (opw_store_agg (cs:=cs.toList) (cur:=z.cells) (b:=w.heap.size) (E:=T) (by rw [hlen];exact hA) (by simp (disch:=(try simp only [sPu]);omega)) (by simp (disch:=(try simp only [sPu]);omega)) hn3' (by rw [hlen];exact h0) hone (oNi ?_))
  simp only [Exit.then,pNo]
  have hn4:=setRow_heap w3 w.heap.size z.cells cs.toList.toArray T (0,0) hn3'
  refine SC.wp_ret ?_
  refine ret_cellAgg (cs:=cs.toList) hr (by rw [hlen];exact hA) (b:=w.heap.size) (by simp (disch:=(try simp only [sPu]);omega)) (fun j v hj=>by rw [cell_of_row _ _ _ _ _ _ hn4];simpa using hj) (by simp [dPu,hd]) ⟨rfl,hb3.trans ⟨rfl,rfl,rfl,by simp,fun k hk=>setRow_other _ _ _ _ (by omega)⟩⟩
def hdV (T16:Nat):Hd:=⟨0,-1,-1,0,0,0,T16,false⟩
end
end Go.Proofs.YtcchakpiemhpeaaDoor.K
namespace Go.Proofs.YtcchakpiemhpeaaDoor.K
open Go Go.RowKit Go.Proofs.YtcchakpiemhpeaaDoor.T
attribute [local simp] eTm eCo pNo gTp gTn qv qcall vop iop
set_option linter.unusedVariables false
set_option linter.unusedSimpArgs false
set_option maxHeartbeats 4000000
section
variable {G:List (Nat × Bytes)→Prop} {P:Program} {X:STy} {f:FuncId} {fn:Func}
end
end Go.Proofs.YtcchakpiemhpeaaDoor.K
namespace Go.Proofs.YtcchakpiemhpeaaDoor.K
open Go Go.RowKit Go.Proofs.YtcchakpiemhpeaaDoor.T
attribute [local simp] eTm eCo pNo gTp gTn qv qcall vop iop
set_option linter.unusedVariables false
set_option linter.unusedSimpArgs false
set_option maxHeartbeats 4000000
section
variable {G:List (Nat × Bytes)→Prop} {P:Program} {X:STy} {f:FuncId} {fn:Func}
theorem own_src2 {tU8:Nat} {w:World} {B:Nat} {dv:Value} {xs:Bytes} (h:Own tU8 w B dv xs):∃ S base cap,dv=.slice base xs.length cap∧xs.length≤cap∧SrcAt w S base xs∧∀ sb,S=some sb→B≤sb∧sb < w.heap.size:=by
  obtain ⟨S,base,cap,rfl,q1,q2⟩:=own_src h
  refine ⟨S,base,cap,rfl,?_,q1,q2⟩
  obtain ⟨-,⟨e1,e2⟩ | ⟨g,c3,cur,e1,e2,e3,e4,-⟩⟩:=h
  · rw [e2];exact Nat.zero_le _
  · cases e1;exact e4
end
end Go.Proofs.YtcchakpiemhpeaaDoor.K
namespace Go.Proofs.YtcchakpiemhpeaaDoor.K
open Go Go.RowKit Go.Proofs.YtcchakpiemhpeaaDoor.T
attribute [local simp] eTm eCo pNo gTp gTn qv qcall vop iop
set_option linter.unusedVariables false
set_option linter.unusedSimpArgs false
set_option maxHeartbeats 4000000
def sc_Kept (T0 T1 T2 F0 F1:Nat):SC:=.seq (.reg [⟨some 3,.box T0 (.tmp 0),none⟩,⟨some 5,.box T1 (.tmp 2),none⟩,⟨some 6,.assign (.const (.slice none 0 0)),none⟩]) (.seq (.dreg [mv 7 1,⟨some 8,.call ⟨.value (.func F0),#[(.tmp 7),(.const (.int .i64 2))],#[]⟩,none⟩,ld 9 T0 3,mv 10 1,ld 11 T1 5,cal 12 F1 [9,10,11],⟨some 13,.call ⟨.builtin .append,#[(.tmp 8),(.tmp 12)],#[T2,T2]⟩,none⟩,asg 6 13] [[],[0],[],[],[],[2,3,4,1],[1,5,5],[6,6,0,1,2,3,4,5,6]]) (.ret))
section
variable {G:List (Nat × Bytes)→Prop} {P:Program} {X:STy} {f:FuncId} {fn:Func}
end
end Go.Proofs.YtcchakpiemhpeaaDoor.K
