/- Generic texts: S12 S18 R24 Z3 P1 P2 P3 P4 P5 P6. No condition. -/
import Derived.Test.YtecdefhecaeclaaDoorN8
import Derived.WideShapes
import Derived.Laws.PanicsMore
import Derived.Laws.Strings2
import Derived.Lib.Space
import Derived.Lib.Case
namespace Go.Proofs.YtecdefhecaeclaaDoor.K
open Go Go.RowKit Go.Proofs.YtecdefhecaeclaaDoor.T
attribute [local simp] eTm eCo pNo gTp gTn qv qcall vop iop
set_option linter.unusedSimpArgs false
set_option linter.unusedVariables false
set_option maxHeartbeats 4000000
mutual
def smallTy:Ty→Bool
  | .prim _=>true
  | .struct _ _ _ _ fs=>decide (Fs.len fs < 4294967296) && smallFs fs
  | .list _ _ _ of=>smallTy of
def smallFs:Fs→Bool
  | .nil=>true
  | .cons _ ty r=>smallTy ty && smallFs r
end
section
variable {G:List (Nat × Bytes)→Prop} {P:Program} {X:STy} {f:FuncId} {fn:Func} {fPart:FuncId}
mutual
theorem subC_all {C:Fs→Prop} (hC:∀ fs,Fs.len fs < 4294967296→SubsC C fs→C fs):∀ ty,smallTy ty=true→SubC C ty
  | .prim _,_=>by simp [SubC]
  | .struct _ _ _ _ fs,h=>by
    simp only [smallTy,Bool.and_eq_true,decide_eq_true_eq] at h
    simp only [SubC]
    exact hC fs h.1 (subsC_all hC fs h.2)
  | .list _ _ _ of,h=>by
    simp only [smallTy] at h
    simp only [SubC]
    exact subC_all hC of h
theorem subsC_all {C:Fs→Prop} (hC:∀ fs,Fs.len fs < 4294967296→SubsC C fs→C fs):∀ fs,smallFs fs=true→SubsC C fs
  | .nil,_=>by simp [SubsC]
  | .cons h ty r,hh=>by
    simp only [smallFs,Bool.and_eq_true] at hh
    simp only [SubsC]
    exact ⟨subC_all hC ty hh.1,subsC_all hC r hh.2⟩
end
def msgV (fv:Value) (flex:Int):Value:=.agg #[fv,.int .i64 flex]
theorem write_ok (hX:stOK P X=true) (oP:FnOK P fPart) (hf:P.funcs[f]?=some fn) (hb:fn.body.map strip=some (sc_Write X.M X.T X.Fs X.I fPart)) (hn:fn.ntmps=21) (hr:fn.results=#[.tmp 6])
    (fs:Fs) (cP:PartC G P X fPart fs) (w:World) (fv:Value) (mflex ver:Int) (t:Tree) (tv:Value) (hfv:FsV w (· < w.heap.size) fs fv) (ht:TV G w (· < w.heap.size) t tv)
    (hl:(wFs ver (decide (0≤mflex) && decide (mflex≤ver)) fs t.l ++ wTags (decide (0≤mflex) && decide (mflex≤ver)) t.u).length≤lim) :
    Calls P f #[msgV fv mflex,.int .i64 ver,tv] w (RetOwn X.U8 w (wFs ver (decide (0≤mflex) && decide (mflex≤ver)) fs t.l ++ wTags (decide (0≤mflex) && decide (mflex≤ver)) t.u)):=by
  have hst:=st_facts hX
  refine fCa hf hb hn (by simp) fun a0 hs hd ha=>?_
  have h0:=ha 0 _ rfl
  have h1:=ha 1 _ rfl
  have h2:=ha 2 _ rfl
  simp only [List.getElem_toArray,List.getElem_cons_zero,List.getElem_cons_succ] at h0 h1 h2
  have ht0:=ht
  cases ht with
  | mk n s tnull l u sb lb ub sc lc uc b o cs hs1 hsc hlc huc hll hrr htt hG hu =>
  refine SC.wp_seq (SC.wp_reg (ops_box (B:=w.heap.size) (w0:=w) (by rw [eTm,h0];rfl) (Nat.le_refl _) (Below.refl _ _) fun w1 q1 q2 q3 hc q5=>?_))
  refine ops_box (B:=w.heap.size) (w0:=w) (cs:=#[.int .i64 n,.slice sb s.length sc,.bool tnull,.slice lb l.length lc,.slice ub u.length uc]) (by simp (disch:=(try simp only [sPu]);omega) [h2,treV]) (by omega) q2 fun w2 r1 r2 r3 hd2 r5=>?_
  repeat (first | (apply ops_1;(focus (simp (disch:=(try simp only [sPu]);omega) ;try rfl))) | (apply ops_y;(focus rfl);(focus ((try simp only [sPu]);omega));(focus (simp (disch:=(try simp only [sPu]);omega);done));(focus (simp (disch:=(try simp only [sPu]);omega) ;try rfl))) | (apply ops_n;(focus rfl);(focus ((try simp only [sPu]);omega));(focus (first | (left;simp (disch:=(try simp only [sPu]);omega);done) | (right;simp (disch:=(try simp only [sPu]);omega);done)))))
  refine oNi ?_
  have hc2:∀ j,w2.cell? ⟨w.heap.size,j,none⟩=#[fv,.int .i64 mflex][j]?:=fun j=>by rw [r1.cell (by show w.heap.size < w1.heap.size;omega)];exact hc j
  have hsz2:w2.heap.size=w.heap.size+2:=by omega
  rw [q3] at hd2 ⊢
  clear hc q1 q2 q3 q5 r1 r3 r5 w1
  have hT5:rangeV w2 (w.heap.size+1) 0 5=some [.int .i64 n,.slice sb s.length sc,.bool tnull,.slice lb l.length lc,.slice ub u.length uc]:=by simp [rangeV,hd2]
  refine SC.wp_seq (SC.wp_reg ?_)
  have fin:∀ (flex:Bool) (a:Act),a.defers=[]→getT a 8=fv→getT a 9=.int .i64 ver→getT a 18=.bool flex→getT a 5=.pointer (some ⟨w.heap.size+1,0,none⟩)→a.tmps.size=21→(decide (0≤mflex) && decide (mflex≤ver))=flex→∀ all,opsw P all [ld 19 X.T 5,cal 20 fPart [8,9,18,19],asg 6 20] (Exit.then (SC.wp P .ret (bodyPost P fn (RetOwn X.U8 w (wFs ver (decide (0≤mflex) && decide (mflex≤ver)) fs (Tree.mk n s tnull l u).l ++ wTags (decide (0≤mflex) && decide (mflex≤ver)) (Tree.mk n s tnull l u).u)))) (bodyPost P fn (RetOwn X.U8 w (wFs ver (decide (0≤mflex) && decide (mflex≤ver)) fs (Tree.mk n s tnull l u).l ++ wTags (decide (0≤mflex) && decide (mflex≤ver)) (Tree.mk n s tnull l u).u))) .normal) a w2:=by
    intro flex a pd p8 p9 p18 p5 ps hfl all
    rw [hfl] at hl ⊢
    iterate 1 (first | (apply ops_1;(focus (simp (disch:=(try simp only [sPu]);omega) [hst,p5,hT5];try rfl))) | (apply ops_y;(focus rfl);(focus ((try simp only [sPu]);omega));(focus (simp (disch:=(try simp only [sPu]);omega) [hst,p5,hT5];done));(focus (simp (disch:=(try simp only [sPu]);omega) [hst,p5,hT5];try rfl))) | (apply ops_n;(focus rfl);(focus ((try simp only [sPu]);omega));(focus (first | (left;simp (disch:=(try simp only [sPu]);omega) [hst,p5,hT5];done) | (right;simp (disch:=(try simp only [sPu]);omega);done)))))
    refine ops_call oP (cP w2 fv ver flex _ _ (FsV.down r2 (by omega) hfv) (TV.down r2 (by omega) ht0) hl) (by simp (disch:=(try simp only [sPu]);omega) [p8,p9,p18,treV]) ?_
    rintro e w3 ⟨v,rfl,o1,b1⟩
    refine ⟨v,rfl,?_⟩
    repeat (first | (apply ops_1;(focus (simp (disch:=(try simp only [sPu]);omega) ;try rfl))) | (apply ops_y;(focus rfl);(focus ((try simp only [sPu]);omega));(focus (simp (disch:=(try simp only [sPu]);omega);done));(focus (simp (disch:=(try simp only [sPu]);omega) ;try rfl))) | (apply ops_n;(focus rfl);(focus ((try simp only [sPu]);omega));(focus (first | (left;simp (disch:=(try simp only [sPu]);omega);done) | (right;simp (disch:=(try simp only [sPu]);omega);done)))))
    refine oNi ?_
    simp only [Exit.then]
    refine SC.wp_ret (ret_tmp hr (by simp [dPu,pd]) ⟨v,?_,own_down o1 (by omega),r2.trans (b1.mono (by omega))⟩)
    simp (disch:=(try simp only [sPu]);omega)
  cases e1:decide (0≤mflex)
  · rw [e1] at fin
    iterate 12 (first | (apply ops_1;(focus (simp (disch:=(try simp only [sPu]);omega) [hst,hc2,hT5,h1,e1];try rfl))) | (apply ops_y;(focus rfl);(focus ((try simp only [sPu]);omega));(focus (simp (disch:=(try simp only [sPu]);omega) [hst,hc2,hT5,h1,e1];done));(focus (simp (disch:=(try simp only [sPu]);omega) [hst,hc2,hT5,h1,e1];try rfl))) | (apply ops_n;(focus rfl);(focus ((try simp only [sPu]);omega));(focus (first | (left;simp (disch:=(try simp only [sPu]);omega) [hst,hc2,hT5,h1,e1];done) | (right;simp (disch:=(try simp only [sPu]);omega);done)))))
    refine fin false _ (by simp [dPu,hd]) (by simp (disch:=(try simp only [sPu]);omega)) (by simp (disch:=(try simp only [sPu]);omega)) (by simp (disch:=(try simp only [sPu]);omega)) (by simp (disch:=(try simp only [sPu]);omega)) (by simp [sPu,hs]) (by simp) _
  · cases e2:decide (mflex≤ver)
    · rw [e1,e2] at fin
      iterate 12 (first | (apply ops_1;(focus (simp (disch:=(try simp only [sPu]);omega) [hst,hc2,hT5,h1,e1,e2];try rfl))) | (apply ops_y;(focus rfl);(focus ((try simp only [sPu]);omega));(focus (simp (disch:=(try simp only [sPu]);omega) [hst,hc2,hT5,h1,e1,e2];done));(focus (simp (disch:=(try simp only [sPu]);omega) [hst,hc2,hT5,h1,e1,e2];try rfl))) | (apply ops_n;(focus rfl);(focus ((try simp only [sPu]);omega));(focus (first | (left;simp (disch:=(try simp only [sPu]);omega) [hst,hc2,hT5,h1,e1,e2];done) | (right;simp (disch:=(try simp only [sPu]);omega);done)))))
      refine fin false _ (by simp [dPu,hd]) (by simp (disch:=(try simp only [sPu]);omega)) (by simp (disch:=(try simp only [sPu]);omega)) (by simp (disch:=(try simp only [sPu]);omega)) (by simp (disch:=(try simp only [sPu]);omega)) (by simp [sPu,hs]) (by simp) _
    · rw [e1,e2] at fin
      iterate 12 (first | (apply ops_1;(focus (simp (disch:=(try simp only [sPu]);omega) [hst,hc2,hT5,h1,e1,e2];try rfl))) | (apply ops_y;(focus rfl);(focus ((try simp only [sPu]);omega));(focus (simp (disch:=(try simp only [sPu]);omega) [hst,hc2,hT5,h1,e1,e2];done));(focus (simp (disch:=(try simp only [sPu]);omega) [hst,hc2,hT5,h1,e1,e2];try rfl))) | (apply ops_n;(focus rfl);(focus ((try simp only [sPu]);omega));(focus (first | (left;simp (disch:=(try simp only [sPu]);omega) [hst,hc2,hT5,h1,e1,e2];done) | (right;simp (disch:=(try simp only [sPu]);omega);done)))))
      refine fin true _ (by simp [dPu,hd]) (by simp (disch:=(try simp only [sPu]);omega)) (by simp (disch:=(try simp only [sPu]);omega)) (by simp (disch:=(try simp only [sPu]);omega)) (by simp (disch:=(try simp only [sPu]);omega)) (by simp [sPu,hs]) (by simp) _
theorem own_bytesAt {tU8:Nat} {w:World} {B:Nat} {v:Value} {xs:Bytes} (h:Own tU8 w B v xs):∃ base cap,v=.slice base xs.length cap∧BytesAt w (fun k=>k < w.heap.size) base xs:=by
  rcases h.2 with ⟨rfl,h0⟩ | ⟨g,cap,cur,rfl,hBg,hg,_⟩
  · have:xs=[]:=List.eq_nil_of_length_eq_zero h0
    subst this
    exact ⟨none,0,rfl,.inl rfl⟩
  · refine ⟨some ⟨g,0,none⟩,cap,rfl,.inr ⟨g,0,rfl,(Array.getElem?_eq_some_iff.1 hg).1,fun j u hu=>?_⟩⟩
    have hc:∀ j u,(cellsOf xs)[j]?=some u→w.cell? ((⟨g,0,none⟩:Addr).add j)=some u:=World.ownsRow.cells h rfl
    rw [← add_none]
    exact hc j _ (by simp [cellsOf,hu])
def sOK (P:Program) (X:STy):Bool :=
  intK P X.I == some .i64 && intK P X.U8 == some .u8 && oneB P X.I && oneB P X.U8 && oneB P X.Bs && u8sB P X.Bs X.U8 && sliceN P X.Bs == some 1
theorem s_facts {P:Program} {X:STy} (h:sOK P X=true):(intK P X.I=some .i64∧intK P X.U8=some .u8)∧(oneB P X.I=true∧oneB P X.U8=true∧oneB P X.Bs=true)∧u8sB P X.Bs X.U8=true∧sliceN P X.Bs=some 1:=by
  simp only [sOK,Bool.and_eq_true,beq_iff_eq] at h
  simp only [h,and_self]
theorem same_ok (hX:sOK P X=true) (hm:P.follows .mixedOrders=true) (hf:P.funcs[f]?=some fn) (hb:fn.body.map strip=some (sc_Same X.Bs X.I X.U8)) (hn:fn.ntmps=26) (hr:fn.results=#[.tmp 4])
    (w:World) (xs:Bytes) (b1 b2:Option Addr) (c1 c2:Nat) (h1:BytesAt w (fun k=>k < w.heap.size) b1 xs) (h2:BytesAt w (fun k=>k < w.heap.size) b2 xs) (hl:xs.length≤lim) :
    Calls P f #[.slice b1 xs.length c1,.slice b2 xs.length c2] w fun e w'=>e=.returned (.bool true)∧Below w.heap.size w w':=by
  have hst:=s_facts hX
  have hlim:lim=70368744177664:=rfl
  refine fCa hf hb hn (by simp) fun a0 hs hd ha=>?_
  have k0:=ha 0 _ rfl
  have k1:=ha 1 _ rfl
  simp only [List.getElem_toArray,List.getElem_cons_zero,List.getElem_cons_succ] at k0 k1
  refine SC.wp_seq (SC.wp_reg ?_)
  repeat (apply ops_1;(focus (simp (disch:=(try simp only [sPu]);omega) ;try rfl)))
  refine oNi (SC.wp_seq (SC.wp_seq (SC.wp_reg ?_)))
  repeat (apply ops_1;(focus (simp (disch:=(try simp only [sPu]);omega) [hst,k0,k1];try rfl)))
  refine oNi (SC.wp_cond (t:=false) (by simp (disch:=(try simp only [sPu]);omega)) ?_)
  rw [if_neg (by simp)]
  refine SC.wp_skip ?_
  simp only [Exit.then]
  refine SC.wp_seq (SC.wp_seq (SC.wp_reg ?_))
  repeat (apply ops_1;(focus (simp (disch:=(try simp only [sPu]);omega) [hst,k0,k1];try rfl)))
  refine oNi ?_
  simp only [Exit.then]
  refine SC.wp_block (SC.wp_loop (fun a4 w5=>∃ (j:Nat),a4.tmps.size=26∧a4.defers=[]∧getT a4 0=.slice b1 xs.length c1∧getT a4 1=.slice b2 xs.length c2∧getT a4 12=.int .i64 (xs.length:Int)∧getT a4 13=.int .i64 (j:Int)∧j≤xs.length∧Below w.heap.size w w5)
    (fun a4 _=>match getT a4 13 with | .int _ m=>(xs.length - m).toNat | _=>0) ⟨0,by simp [sPu,hs],by simp [dPu,hd],by simp (disch:=(try simp only [sPu]);omega) [k0],by simp (disch:=(try simp only [sPu]);omega) [k1],by simp (disch:=(try simp only [sPu]);omega),by simp (disch:=(try simp only [sPu]);omega),by omega,Below.refl _ _⟩ ?_)
  rintro a4 w5 ⟨j,q,qd,q0,q1,q12,q13,hj,hb5⟩
  refine SC.wp_seq (SC.wp_reg ?_)
  repeat (apply ops_1;(focus (simp (disch:=(try simp only [sPu]);omega) [hst,q12,q13];try rfl)))
  refine oNi ?_
  simp only [Exit.then]
  refine SC.wp_seq (SC.wp_cond (t:=decide ((j:Int) < (xs.length:Int))) (by simp (disch:=(try simp only [sPu]);omega)) ?_)
  cases e1:decide ((j:Int) < (xs.length:Int))
  · rw [if_neg (by simp)]
    refine SC.wp_exit ?_
    simp only [Exit.then,Exit.inBlock,if_true]
    refine SC.wp_seq (SC.wp_reg ?_)
    repeat (apply ops_1;(focus (simp (disch:=(try simp only [sPu]);omega) ;try rfl)))
    refine oNi (SC.wp_ret (ret_tmp hr (by simp [dPu,qd]) ⟨?_,hb5⟩))
    simp (disch:=(try simp only [sPu]);omega)
  · have hjl:j < xs.length:=by simp at e1;omega
    rw [if_pos rfl]
    refine SC.wp_skip ?_
    simp only [Exit.then]
    rcases h1 with e | ⟨g1,o1,rfl,hg1,hc1⟩
    · subst e;simp at hjl
    rcases h2 with e | ⟨g2,o2,rfl,hg2,hc2⟩
    · subst e;simp at hjl
    have hx:=List.getElem?_eq_getElem hjl
    have hd1:w5.drew.cell? ⟨g1,o1+j,none⟩=some (cell xs[j]):=(World.cell?_of_block (w:=w) (w':=w5.drew) (a:=⟨g1,o1+j,none⟩) (hb5.block g1 hg1)).trans (hc1 j _ hx)
    have hd2:w5.drew.cell? ⟨g2,o2+j,none⟩=some (cell xs[j]):=(World.cell?_of_block (w:=w) (w':=w5.drew) (a:=⟨g2,o2+j,none⟩) (hb5.block g2 hg2)).trans (hc2 j _ hx)
    have ej:(0:Int)≤(j:Int)∧(j:Int) < (xs.length:Int):=by omega
    have hcell:cell xs[j]=.int .u8 (xs[j].toNat:Int):=rfl
    rw [hcell] at hd1 hd2
    generalize xs[j].toNat=cj at *
    refine SC.wp_seq (SC.wp_block (SC.wp_seq (SC.wp_reg ?_)))
    repeat (apply ops_1;(focus (simp (disch:=(try simp only [sPu]);omega) [q13];try rfl)))
    refine oNi ?_
    simp only [Exit.then]
    refine SC.wp_seq (SC.wp_dreg hm (Below w.heap.size w5.drew) [(0,true),(1,true),(2,true),(3,true),(4,true),(5,true),(6,true),(7,true),(8,true)] (by rfl) (by rfl) (by decide) (Below.refl _ _) ?_)
    repeat (apply dr_1;(focus rfl);(focus (simp (disch:=(try simp only [sPu]);omega) [hst,q0,q1,ej,hd1,hd2,hg1,hg2,hjl];try rfl)))
    refine dreg_nil ?_
    simp only [Exit.then]
    refine SC.wp_cond (t:=false) (by simp (disch:=(try simp only [sPu]);omega)) ?_
    rw [if_neg (by simp)]
    refine SC.wp_skip ?_
    simp only [Exit.inBlock,Exit.then]
    have ew:IntKind.i64.wrap ((j:Int)+1)=((j+1:Nat):Int):=by rw [wrap_i64'];split <;> omega
    refine SC.wp_reg ?_
    repeat (apply ops_1;(focus (simp (disch:=(try simp only [sPu]);omega) [q13,ew];try rfl)))
    refine oNi ?_
    refine ⟨⟨j+1,by simp [sPu,q],by simp [dPu,qd],by simp (disch:=(try simp only [sPu]);omega) [q0],by simp (disch:=(try simp only [sPu]);omega) [q1],by simp (disch:=(try simp only [sPu]);omega) [q12],by simp (disch:=(try simp only [sPu]);omega),by omega,hb5.drew⟩,?_⟩
    rw [q13]
    simp (disch:=(try simp only [sPu]);omega);omega
theorem opw_rem {a:Act} {w:World} {K:Act→World→Prop} {d:Option Tmp} {g:Option (Nat × Bool)} {T T':TypeId} {x y:Operand} {m n:Nat} (hx:a.eval x=.int .i64 (m:Int)) (hy:a.eval y=.int .i64 (n:Int)) (hn:0 < n) (h:K (a.put d (.int .i64 ((m % n:Nat):Int))) w) :
    opw P ⟨d,.binOp .rem T x y T',g⟩ a w K:=by
  refine oVa (by simp) (fun p hp=>?_) h
  have hne:¬ n=0:=by omega
  simp [execOp,hp,hx,hy,run_eqGuard_int,binOp,Op.intDiv,hne]
  exact Int.tmod_eq_emod_of_nonneg (by omega)
theorem version_ok (hX:sOK P X=true) (hf:P.funcs[f]?=some fn) (hb:fn.body.map strip=some (sc_version X.U8 X.I)) (hn:fn.ntmps=10) (hr:fn.results=#[.tmp 4]) (w:World) (n m:Nat) (hn8:n < 256) (hm16:m < 65536) :
    Calls P f #[.int .u8 (n:Int),.int .i64 (m:Int)] w fun e w'=>e=.returned (.int .i64 ((n % (m+1):Nat):Int))∧w=w':=by
  have hst:=s_facts hX
  refine fCa hf hb hn (by simp) fun a0 hs hd ha=>?_
  have k0:=ha 0 _ rfl
  have k1:=ha 1 _ rfl
  simp only [List.getElem_toArray,List.getElem_cons_zero,List.getElem_cons_succ] at k0 k1
  have e1:IntKind.i64.wrap (n:Int)=(n:Int):=by rw [wrap_i64'];split <;> omega
  have e2:IntKind.i64.wrap ((m:Int)+1)=((m+1:Nat):Int):=by rw [wrap_i64'];split <;> omega
  refine SC.wp_seq (SC.wp_reg ?_)
  repeat (apply ops_1;(focus (simp (disch:=(try simp only [sPu]);omega) ;try rfl)))
  refine oNi (SC.wp_seq (SC.wp_reg ?_))
  iterate 4 (apply ops_1;(focus (simp (disch:=(try simp only [sPu]);omega) [hst,k0,k1,e1,e2];try rfl)))
  refine oNo rfl (opw_rem (m:=n) (n:=m+1) (by simp (disch:=(try simp only [sPu]);omega)) (by simp (disch:=(try simp only [sPu]);omega)) (by omega) ?_)
  repeat (apply ops_1;(focus (simp (disch:=(try simp only [sPu]);omega) ;try rfl)))
  refine oNi (SC.wp_ret (ret_tmp hr (by simp [dPu,hd]) ⟨?_,rfl⟩))
  simp (disch:=(try simp only [sPu]);omega)
end
end Go.Proofs.YtecdefhecaeclaaDoor.K
namespace Go.Proofs.YtecdefhecaeclaaDoor.K
open Go Go.RowKit Go.Proofs.YtecdefhecaeclaaDoor.T
attribute [local simp] eTm eCo pNo gTp gTn qv qcall vop iop
set_option linter.unusedSimpArgs false
set_option linter.unusedVariables false
set_option maxHeartbeats 4000000
def sc_NewPtr (T fDef:Nat):SC:=.seq (.reg [⟨some 0,.assign (.const (.pointer none)),none⟩]) (.seq (.reg [⟨some 1,.alloc T,none⟩]) (.seq (.reg [cal 2 fDef [1]]) (.seq (.reg [asg 0 1]) .ret)))
def sc_MaxV (n:Int):SC:=.seq (.reg [⟨some 2,.assign (.const (.int .i16 0)),none⟩]) (.seq (.reg [⟨some 2,.assign (.const (.int .i16 n)),none⟩]) .ret)
def sc_SetV (T T16:Nat):SC:=.reg [mv 4 0,mv 5 1,nilc 6 4,fa 7 T 6 0,⟨none,.store T16 (.tmp 7) (.tmp 5),none⟩]
def sc_Max (fNP fMV T16 TI:Nat):SC:=.seq (.reg [⟨some 0,.assign (.const (.int .i64 0)),none⟩]) (.seq (.reg [cal 1 fNP [],cal 2 fMV [1],⟨some 3,.convert T16 TI (.tmp 2),none⟩,asg 0 3]) .ret)
def sc_New (fNP fSV fAT TI T16:Nat):SC:=.seq (.reg [⟨some 2,.assign (.const (.slice none 0 0)),none⟩]) (.seq (.reg [cal 4 fNP [],asg 3 4]) (.seq (.reg [mv 5 3,mv 6 0,⟨some 7,.convert TI T16 (.tmp 6),none⟩,cal 8 fSV [5,7]]) (.seq (.reg [mv 9 3,⟨some 10,.call ⟨.value (.func fAT),#[.tmp 9,.const (.slice none 0 0)],#[]⟩,none⟩,asg 2 10]) .ret)))
section
variable {P:Program} {X:STy} {f:FuncId} {fn:Func}
def DefFn (P:Program) (f T:Nat) (cs0 cs:Array Value):Prop :=
  FnOK P f∧∀ (w:World) (b:Nat),w.heap[b]?=some (.cells cs0 T (0,0))→Calls P f #[.pointer (some ⟨b,0,none⟩)] w fun e w'=>e=.returned (.tuple #[])∧w'=w.setRow b cs
theorem newPtr_ok {T fDef:Nat} {cs0 cs:Array Value} (hT:∃ i z,P.info? T=some i∧i.zero=some z∧z.cells=cs0) (hD:DefFn P fDef T cs0 cs) (hf:P.funcs[f]?=some fn) (hb:fn.body.map strip=some (sc_NewPtr T fDef)) (hn:fn.ntmps=3) (hr:fn.results=#[.tmp 0]) (w:World) :
    Calls P f #[] w fun e w'=>∃ b,e=.returned (.pointer (some ⟨b,0,none⟩))∧w.heap.size≤b∧w'.heap[b]?=some (.cells cs T (0,0))∧Below w.heap.size w w':=by
  obtain ⟨i,z,hi,hz,rfl⟩:=hT
  refine fCa hf hb hn (by simp) fun a0 hs hd ha=>?_
  refine SC.wp_seq (SC.wp_reg ?_)
  repeat (apply ops_1;(focus (simp (disch:=(try simp only [sPu]);omega) ;try rfl)))
  refine oNi (SC.wp_seq (SC.wp_reg (oNo rfl (opw_alloc hi hz (oNi ?_)))))
  have hnew:=heap_alloc_new w (.cells z.cells T)
  have hbn:Below w.heap.size w (w.alloc (.cells z.cells T)):=(Below.refl _ _).alloc (Nat.le_refl _) _
  generalize w.alloc (.cells z.cells T)=w1 at *
  simp only [Exit.then]
  refine SC.wp_seq (SC.wp_reg (ops_cal hD.1 (R:=fun e w'=>e=.returned (.tuple #[])∧w'=w1.setRow w.heap.size cs) ?_ ?_))
  · refine Eq.mp (congrArg (fun z=>Calls P fDef z w1 _) ?_) (hD.2 w1 w.heap.size hnew)
    simp (disch:=(try simp only [sPu]);omega)
  rintro e w2 ⟨rfl,rfl⟩
  refine ⟨_,rfl,oNi ?_⟩
  simp only [Exit.then]
  refine SC.wp_seq (SC.wp_reg ?_)
  repeat (apply ops_1;(focus (simp (disch:=(try simp only [sPu]);omega) ;try rfl)))
  refine oNi (SC.wp_ret (ret_tmp hr (by simp [dPu,hd]) ⟨w.heap.size,?_,Nat.le_refl _,setRow_heap w1 _ _ cs _ _ hnew,below_setRow hbn (Nat.le_refl _) _⟩))
  simp (disch:=(try simp only [sPu]);omega)
theorem maxV_ok {n:Int} (hf:P.funcs[f]?=some fn) (hb:fn.body.map strip=some (sc_MaxV n)) (hn:fn.ntmps=3) (hr:fn.results=#[.tmp 2]) (w:World) (v:Value) :
    Calls P f #[v] w fun e w'=>e=.returned (.int .i16 n)∧w'=w:=by
  refine fCa hf hb hn (by simp) fun a0 hs hd ha=>?_
  refine SC.wp_seq (SC.wp_reg ?_)
  repeat (apply ops_1;(focus (simp (disch:=(try simp only [sPu]);omega) ;try rfl)))
  refine oNi (SC.wp_seq (SC.wp_reg ?_))
  repeat (apply ops_1;(focus (simp (disch:=(try simp only [sPu]);omega) ;try rfl)))
  refine oNi (SC.wp_ret (ret_tmp hr (by simp [dPu,hd]) ⟨?_,rfl⟩))
  simp (disch:=(try simp only [sPu]);omega)
theorem max_ok {fNP fMV T16 TI T:Nat} {n:Nat} {cs:Array Value} (h16:intK P T16=some .i16) (hI:intK P TI=some .i64) (hn16:n < 32768) (oNP:FnOK P fNP) (cNP:∀ w:World,Calls P fNP #[] w fun e w'=>∃ b,e=.returned (.pointer (some ⟨b,0,none⟩))∧w.heap.size≤b∧w'.heap[b]?=some (.cells cs T (0,0))∧Below w.heap.size w w')
    (oMV:FnOK P fMV) (cMV:∀ (w:World) (v:Value),Calls P fMV #[v] w fun e w'=>e=.returned (.int .i16 (n:Int))∧w'=w)
    (hf:P.funcs[f]?=some fn) (hb:fn.body.map strip=some (sc_Max fNP fMV T16 TI)) (hn:fn.ntmps=4) (hr:fn.results=#[.tmp 0]) (w:World) :
    Calls P f #[] w fun e w'=>e=.returned (.int .i64 (n:Int))∧Below w.heap.size w w':=by
  refine fCa hf hb hn (by simp) fun a0 hs hd ha=>?_
  have ew:IntKind.i64.wrap (n:Int)=(n:Int):=by rw [wrap_i64'];split <;> omega
  refine SC.wp_seq (SC.wp_reg ?_)
  repeat (apply ops_1;(focus (simp (disch:=(try simp only [sPu]);omega) ;try rfl)))
  refine oNi (SC.wp_seq (SC.wp_reg (ops_cal oNP (cNP w) ?_)))
  rintro e w1 ⟨b,rfl,hb,hc,hbw⟩
  refine ⟨_,rfl,ops_cal oMV (R:=fun e w'=>e=.returned (.int .i16 (n:Int))∧w'=w1) ?_ ?_⟩
  · refine Eq.mp (congrArg (fun z=>Calls P fMV z w1 _) ?_) (cMV w1 (.pointer (some ⟨b,0,none⟩)))
    simp (disch:=(try simp only [sPu]);omega)
  rintro e w2 ⟨rfl,rfl⟩
  refine ⟨_,rfl,?_⟩
  repeat (apply ops_1;(focus (simp (disch:=(try simp only [sPu]);omega) [h16,hI,ew];try rfl)))
  refine oNi (SC.wp_ret (ret_tmp hr (by simp [dPu,hd]) ⟨?_,hbw⟩))
  simp (disch:=(try simp only [sPu]);omega)
theorem setV_ok {T T16:Nat} (h0:fieldOff P T 0=some 0) (h1:oneB P T16=true) (hf:P.funcs[f]?=some fn) (hb:fn.body.map strip=some (sc_SetV T T16)) (hn:fn.ntmps=8) (hr:fn.results=#[]) (w:World) (b:Nat) (cs:Array Value) (E:TypeId) (hc:w.heap[b]?=some (.cells cs E (0,0))) (hcs:0 < cs.size) (n:Int) :
    Calls P f #[.pointer (some ⟨b,0,none⟩),.int .i16 n] w fun e w'=>e=.returned (.tuple #[])∧w'=w.setRow b (cs.setIfInBounds 0 (.int .i16 n)):=by
  refine fCa hf hb hn (by simp) fun a0 hs hd ha=>?_
  have k0:=ha 0 _ rfl
  have k1:=ha 1 _ rfl
  simp only [List.getElem_toArray,List.getElem_cons_zero,List.getElem_cons_succ] at k0 k1
  refine SC.wp_reg ?_
  iterate 4 (apply ops_1;(focus (simp (disch:=(try simp only [sPu]);omega) [k0,k1,h0];try rfl)))
  refine oNo rfl (opw_store_one (ad:=⟨b,0,none⟩) (v:=.int .i16 n) (v0:=cs[0]) h1 (by simp (disch:=(try simp only [sPu]);omega)) (by simp (disch:=(try simp only [sPu]);omega)) rfl (by rw [cell_of_row _ _ _ _ _ _ hc];exact Array.getElem?_eq_getElem hcs) (by simp [World.frozen?,hc]) (oNi ?_))
  refine ⟨by simp [dPu,pNo,hd],.tuple #[],by simp [results,hr],rfl,setCell_eq_setRow _ _ _ _ _ _ _ hc⟩
theorem new_ok {fNP fSV fAT TI T16 T tU8:Nat} {cs:Array Value} {out:Int→Bytes} (h16:intK P T16=some .i16) (hI:intK P TI=some .i64) (oNP:FnOK P fNP) (cNP:∀ w:World,Calls P fNP #[] w fun e w'=>∃ b,e=.returned (.pointer (some ⟨b,0,none⟩))∧w.heap.size≤b∧w'.heap[b]?=some (.cells cs T (0,0))∧Below w.heap.size w w')
    (oSV:FnOK P fSV) (cSV:∀ (w:World) (b:Nat),w.heap[b]?=some (.cells cs T (0,0))→∀ n:Int,Calls P fSV #[.pointer (some ⟨b,0,none⟩),.int .i16 n] w fun e w'=>e=.returned (.tuple #[])∧w'=w.setRow b (cs.setIfInBounds 0 (.int .i16 n)))
    (oAT:FnOK P fAT) (cAT:∀ (w:World) (b:Nat) (n:Int),w.heap[b]?=some (.cells (cs.setIfInBounds 0 (.int .i16 n)) T (0,0))→0≤n→n < 32768→Calls P fAT #[.pointer (some ⟨b,0,none⟩),.slice none 0 0] w fun e w'=>∃ dv,e=.returned dv∧Own tU8 w' w.heap.size dv (out n)∧Below w.heap.size w w')
    (hf:P.funcs[f]?=some fn) (hb:fn.body.map strip=some (sc_New fNP fSV fAT TI T16)) (hn:fn.ntmps=11) (hr:fn.results=#[.tmp 2]) (w:World) (ver:Nat) (hv:ver < 32768) :
    Calls P f #[.int .i64 (ver:Int)] w (RetOwn tU8 w (out ver)):=by
  refine fCa hf hb hn (by simp) fun a0 hs hd ha=>?_
  have k0:=ha 0 _ rfl
  simp only [List.getElem_toArray,List.getElem_cons_zero,List.getElem_cons_succ] at k0
  have ew:IntKind.i16.wrap (ver:Int)=(ver:Int):=by rw [wrap_i16'];split <;> omega
  refine SC.wp_seq (SC.wp_reg ?_)
  repeat (apply ops_1;(focus (simp (disch:=(try simp only [sPu]);omega) ;try rfl)))
  refine oNi (SC.wp_seq (SC.wp_reg (ops_cal oNP (cNP w) ?_)))
  rintro e w1 ⟨b,rfl,hb,hc,hbw⟩
  refine ⟨_,rfl,?_⟩
  have hsw:w.heap.size≤w1.heap.size:=hbw.size
  repeat (apply ops_1;(focus (simp (disch:=(try simp only [sPu]);omega) ;try rfl)))
  refine oNi ?_
  simp only [Exit.then]
  refine SC.wp_seq (SC.wp_reg ?_)
  iterate 3 (apply ops_1;(focus (simp (disch:=(try simp only [sPu]);omega) [h16,hI,k0,ew];try rfl)))
  refine ops_cal oSV (R:=fun e w'=>e=.returned (.tuple #[])∧w'=w1.setRow b (cs.setIfInBounds 0 (.int .i16 (ver:Int)))) ?_ ?_
  · refine Eq.mp (congrArg (fun z=>Calls P fSV z w1 _) ?_) (cSV w1 b hc (ver:Int))
    simp (disch:=(try simp only [sPu]);omega)
  rintro e w2 ⟨rfl,rfl⟩
  refine ⟨_,rfl,oNi ?_⟩
  have hc2:=setRow_heap w1 b _ (cs.setIfInBounds 0 (.int .i16 (ver:Int))) _ _ hc
  have hb2:Below w.heap.size w (w1.setRow b (cs.setIfInBounds 0 (.int .i16 (ver:Int)))):=below_setRow hbw hb _
  have hs2:(w1.setRow b (cs.setIfInBounds 0 (.int .i16 (ver:Int)))).heap.size=w1.heap.size:=by simp
  generalize w1.setRow b (cs.setIfInBounds 0 (.int .i16 (ver:Int)))=w3 at *
  simp only [Exit.then]
  refine SC.wp_seq (SC.wp_reg ?_)
  iterate 1 (apply ops_1;(focus (simp (disch:=(try simp only [sPu]);omega) ;try rfl)))
  refine ops_call oAT (cAT w3 b ver hc2 (by omega) (by omega)) (by simp (disch:=(try simp only [sPu]);omega)) ?_
  rintro e w4 ⟨dv,rfl,ho,hb4⟩
  refine ⟨dv,rfl,?_⟩
  repeat (apply ops_1;(focus (simp (disch:=(try simp only [sPu]);omega) ;try rfl)))
  refine oNi (SC.wp_ret (ret_tmp hr (by simp [dPu,hd]) ⟨dv,?_,own_down ho (by omega),hb2.trans (hb4.mono (by omega))⟩))
  simp (disch:=(try simp only [sPu]);omega)
def sc_LawNew (fMax fSp fVer fNew fDef fWr fSame TI M Fs_:Nat):SC:=.seq (.reg [⟨some 2,.assign (.const (.bool false)),none⟩]) (.seq (.reg [cal 5 fMax [],asg 3 5]) (.seq (.seq (.reg [mv 6 3,⟨some 7,.binOp .lss TI (.tmp 6) (.const (.int .i64 0)) TI,none⟩]) (.cond (.tmp 7) (.seq (.reg [⟨some 2,.assign (.const (.bool false)),none⟩]) .ret) .skip)) (.seq (.reg [cal 8 fSp [],⟨some 4,.alloc M,none⟩,⟨none,.store M (.tmp 4) (.tmp 8),none⟩]) (.seq (.dreg [mv 9 0,mv 10 3,cal 11 fVer [9,10],cal 12 fNew [11],ld 13 M 4,mv 14 0,mv 15 3,cal 16 fVer [14,15],fa 17 M 4 0,ld 18 Fs_ 17,cal 19 fDef [18],cal 20 fWr [13,16,19],cal 21 fSame [12,20],asg 2 21] [[],[],[0,1],[2,2],[],[],[],[5,6,3],[],[8],[9,7],[4,7,10,10],[3,11,11],[12,12,0,1,2,3,4,5,6,7,8,9,10,11,12]]) .ret))))
end
end Go.Proofs.YtecdefhecaeclaaDoor.K
namespace Go.Proofs.YtecdefhecaeclaaDoor.K
open Go Go.RowKit Go.Proofs.YtecdefhecaeclaaDoor.T
attribute [local simp] eTm eCo pNo gTp gTn qv qcall vop iop
set_option linter.unusedVariables false
set_option linter.unusedSimpArgs false
set_option maxHeartbeats 2000000
def sc_ReadFromW (F0:Nat):SC:=.seq (.reg [⟨some 4,.assign (.const .nilIface),none⟩]) (.seq (.reg [mv 5 0,mv 6 1,⟨some 7,.call ⟨.value (.func F0),#[(.tmp 5),(.tmp 6),(.const (.bool false))],#[]⟩,none⟩,asg 4 7]) (.ret))
def sc_Again (T0 T1 T2 T3 F0 F1 F2 F3:Nat):SC:=.seq (.reg [⟨some 4,.assign (.const (.slice none 0 0)),none⟩,⟨some 5,.assign (.const (.bool false)),none⟩]) (.seq (.reg [cal 7 F0 [],asg 6 7]) (.seq (.reg [mv 8 6,mv 9 0,⟨some 10,.convert T0 T1 (.tmp 9),none⟩,cal 11 F1 [8,10]]) (.seq (.seq (.reg [mv 12 6,mv 13 1,⟨some 14,.call ⟨.builtin .append,#[(.const (.slice none 0 0)),(.tmp 13)],#[T2,T2]⟩,none⟩,cal 15 F2 [12,14],⟨some 16,.binOp .neq T3 (.tmp 15) (.const .nilIface) T3,none⟩]) (.cond (.tmp 16) (.seq (.reg [⟨some 4,.assign (.const (.slice none 0 0)),none⟩,⟨some 5,.assign (.const (.bool false)),none⟩]) (.ret)) (.skip))) (.seq (.reg [mv 17 6,⟨some 18,.call ⟨.value (.func F3),#[(.tmp 17),(.const (.slice none 0 0))],#[]⟩,none⟩,asg 4 18,⟨some 5,.assign (.const (.bool true)),none⟩]) (.ret)))))
section
variable {P:Program} {f:FuncId} {fn:Func}
theorem readFromW_ok {F0:Nat} (oF:FnOK P F0) (hf:P.funcs[f]?=some fn) (hb:fn.body.map strip=some (sc_ReadFromW F0)) (hn:fn.ntmps=8) (hr:fn.results=#[.tmp 4]) (w:World) (x y:Value) (R:Ending→World→Prop)
    (hc:Calls P F0 #[x,y,.bool false] w fun e w'=>∃ v,e=.returned v∧R e w'):Calls P f #[x,y] w R:=by
  refine fCa hf hb hn (by simp) fun a0 hs hd ha=>?_
  have h0:=ha 0 _ rfl
  have h1:=ha 1 _ rfl
  simp only [List.getElem_toArray,List.getElem_cons_zero,List.getElem_cons_succ] at h0 h1
  refine SC.wp_seq (SC.wp_reg ?_)
  repeat (apply ops_1;(focus (simp (disch:=(try simp only [sPu]);omega) ;try rfl)))
  refine oNi (SC.wp_seq (SC.wp_reg ?_))
  iterate 2 (apply ops_1;(focus (simp (disch:=(try simp only [sPu]);omega) [h0,h1];try rfl)))
  refine ops_call oF hc (by simp (disch:=(try simp only [sPu]);omega) [h0,h1]) ?_
  rintro e w1 ⟨v,rfl,hR⟩
  refine ⟨_,rfl,?_⟩
  repeat (apply ops_1;(focus (simp (disch:=(try simp only [sPu]);omega) ;try rfl)))
  refine oNi (SC.wp_ret (ret_tmp hr (by simp [dPu,hd]) ?_))
  simp (disch:=(try simp only [sPu]);omega)
  exact hR
def isErr:Value→Bool
  | .iface _ _=>true
  | _=>false
def ifaceT (P:Program) (T:Nat):Bool:=match P.underlying T with
  | some (.interface _)=>true
  | _=>false
theorem opw_isErr {a:Act} {w:World} {K:Act→World→Prop} {d:Option Tmp} {g:Option (Nat × Bool)} {T T':Nat} {x:Operand} {v:Value} (hT:ifaceT P T=true) (hx:a.eval x=v) (hv:v=.nilIface∨∃ t y,v=.iface t y) (h:K (a.put d (.bool (isErr v))) w) :
    opw P ⟨d,.binOp .neq T x (.const .nilIface) T',g⟩ a w K:=by
  unfold ifaceT at hT
  split at hT <;> try (simp at hT;done)
  rename_i ms hu
  refine oVa (v:=.bool (isErr v)) (by simp) (fun p hp=>?_) h
  have he:(Op.equal T v .nilIface).run P w=.ok (!isErr v) w:=by
    have hd:∀ d,(Op.equalIn (d+1) T v .nilIface).run P w=.ok (!isErr v) w:=fun d=>by
      rcases hv with rfl | ⟨t,y,rfl⟩ <;> simp [Op.equalIn,run_underlying hu,isErr]
    exact hd 9999
  rcases hv with rfl | ⟨t,y,rfl⟩ <;> simp [execOp,hp,hx,eCo,eqGuard,binOp,he,isErr]
def AgC (P:Program) (tU8:Nat) (flex:Option Int) (fs:Fs) (gb m:Nat) (Gl:World→Prop) (F:FuncId):Prop:=FnOK P F∧∀ (w:World) (S:Option Nat) (base:Option Addr) (src:Bytes) (cap v:Nat),v≤m→gb < w.heap.size→(∀ w',Below w.heap.size w w'→Gl w')→SrcAt w S base src→(∀ sb,S=some sb→sb < w.heap.size)→src.length≤lim →
  (∀ xs u r,pMsg v (flexAt flex v) fs src=some ((xs,u),r)→FitFs v fs xs∧FitTags u∧(wMsg v (flexAt flex v) fs xs u).length≤lim) →
  Calls P F #[.int .i64 (v:Int),.slice base src.length cap] w fun e w'=>Below w.heap.size w w' ∧
    match pMsg v (flexAt flex v) fs src with
    | none=>e=.returned (.tuple #[.slice none 0 0,.bool false])
    | some ((xs,u),r)=>∃ dv,e=.returned (.tuple #[dv,.bool true])∧Own tU8 w' w.heap.size dv (wMsg v (flexAt flex v) fs xs u)
theorem res2 {a:Act} {w:World} {r1 r2:Nat} {v1 v2:Value} (hr:fn.results=#[.tmp r1,.tmp r2]) (h1:getT a r1=v1) (h2:getT a r2=v2):(results fn a.tmps).run P w=.ok (.tuple #[v1,v2]) w:=by
  have e1:a.tmps.getD r1 undef=v1:=h1
  have e2:a.tmps.getD r2 undef=v2:=h2
  simp only [Array.getD_eq_getD_getElem?] at e1 e2
  simp [results,hr,e1,e2]
theorem own_base {tU8:Nat} {w:World} {B B':Nat} {dv:Value} {xs:Bytes} (h:Own tU8 w B dv xs) (hB:B'≤B):Own tU8 w B' dv xs:=by
  obtain ⟨h1,h2 | ⟨g,cap,cur,e1,e2,e3⟩⟩:=h
  · exact ⟨h1,.inl h2⟩
  · exact ⟨h1,.inr ⟨g,cap,cur,e1,Nat.le_trans hB e2,e3⟩⟩
theorem pMsg_body {ver:Int} {flex:Bool} {fs:Fs} {b:Bytes}:pMsg ver flex fs b=(pBody ver flex fs b).map fun z=>((z.1.l,z.1.u),z.2):=by
  simp only [pMsg,pBody,rThen]
  cases h1:pFs ver flex fs b with
  | none=>rfl
  | some z =>
    obtain ⟨xs,r⟩:=z
    simp only [Option.bind_some]
    cases h2:pTags flex r with
    | none=>rfl
    | some z2=>rfl
theorem again_ok {I:RIds} {M:RTop} {tU8 gb m T0 T1 T2 T3 F0 F1 F2 F3 FR:Nat} {G:List (Nat × Bytes)→Prop} {Gl:World→Prop} {err:Value} {cs:Array Value} {T:TypeId}
    (h0k:intK P T0=some .i64) (h1k:intK P T1=some .i16) (hT2:u8sB P T2 tU8=true) (hT3:ifaceT P T3=true) (hm:m < 32768) (herr:∃ t y,err=.iface t y)
    (oNP:FnOK P F0) (cNP:∀ w:World,Calls P F0 #[] w fun e w'=>∃ b,e=.returned (.pointer (some ⟨b,0,none⟩))∧w.heap.size≤b∧w'.heap[b]?=some (.cells cs T (0,0))∧Below w.heap.size w w')
    (oSV:FnOK P F1) (cSV:∀ (w:World) (b:Nat) (cs:Array Value) (E:TypeId),w.heap[b]?=some (.cells cs E (0,0))→0 < cs.size→∀ n:Int,Calls P F1 #[.pointer (some ⟨b,0,none⟩),.int .i16 n] w fun e w'=>e=.returned (.tuple #[])∧w'=w.setRow b (cs.setIfInBounds 0 (.int .i16 n)))
    (oRF:FnOK P F2) (cRF:∀ (w:World) (x y:Value) (R:Ending→World→Prop),(Calls P FR #[x,y,.bool false] w fun e w'=>∃ v,e=.returned v∧R e w')→Calls P F2 #[x,y] w R)
    (cR:∀ (B:Nat) (w0:World),gb < B→(∀ w',Below B w0 w'→Gl w')→ReadC P I M B G err FR w0)
    (oAT:FnOK P F3) (cAT:∀ (w:World) (b:Nat) (ver:Int) (ts:List Tree) (u:List (Nat × Bytes)),b < w.heap.size→w.cell? ⟨b,0,none⟩=some (.int .i16 ver)→0≤ver→HFs G w (· < w.heap.size) ver (flexAt M.flex ver) M.fs b 0 ts→TagsAt G w (· < w.heap.size) (flexAt M.flex ver) b 0 M.tags u →
      (wFs ver (flexAt M.flex ver) M.fs ts ++ wTags (flexAt M.flex ver) u).length≤lim→Calls P F3 #[.pointer (some ⟨b,0,none⟩),.slice none 0 0] w fun e w'=>∃ dv,e=.returned dv∧Own tU8 w' w.heap.size dv (wFs ver (flexAt M.flex ver) M.fs ts ++ wTags (flexAt M.flex ver) u)∧Below w.heap.size w w')
    (hsz:M.size≤cs.size) (hs1:1≤M.size) (hlay:layFs 1 (topEnd M.size M.tags) M.fs=true) (hfr:frFsB (fun j=>cs[j]?) M.fs 0=true)
    (hf : P.funcs[f]? = some fn) (hb : fn.body.map strip = some (sc_Again T0 T1 T2 T3 F0 F1 F2 F3)) (hnm : (fn.name == "runtime.NumGoroutine") = false) (hn : fn.ntmps = 19) (hr : fn.results = #[.tmp 4, .tmp 5]) : AgC P tU8 M.flex M.fs gb m Gl f := by
  refine ⟨fnOK_of hf hb hnm,fun w S base src cap v hv hgb hgl hsr hS hlen hfit=>?_⟩
  refine fCa hf hb hn (by simp) fun a0 hs hd ha=>?_
  have h0:=ha 0 _ rfl
  have h1:=ha 1 _ rfl
  simp only [List.getElem_toArray,List.getElem_cons_zero,List.getElem_cons_succ] at h0 h1
  refine SC.wp_seq (SC.wp_reg ?_)
  repeat (apply ops_1;(focus (simp (disch:=(try simp only [sPu]);omega) ;try rfl)))
  refine oNi (SC.wp_seq (SC.wp_reg ?_))
  refine ops_call oNP (cNP w) (by simp (disch:=(try simp only [sPu]);omega)) ?_
  rintro e w1 ⟨b,rfl,hbw,hrow,hb1⟩
  refine ⟨_,rfl,?_⟩
  have hbl1:b < w1.heap.size:=(Array.getElem?_eq_some_iff.1 hrow).1
  repeat (apply ops_1;(focus (simp (disch:=(try simp only [sPu]);omega) ;try rfl)))
  refine oNi (SC.wp_seq (SC.wp_reg ?_))
  have hwv:IntKind.i16.wrap (v:Int)=(v:Int):=by
    simp only [IntKind.wrap,IntKind.bits,IntKind.signed]
    simp
    split <;> omega
  iterate 3 (apply ops_1;(focus (simp (disch:=(try simp only [sPu]);omega) [h0,h0k,h1k,hwv];try rfl)))
  refine ops_call oSV (cSV w1 b cs T hrow (by omega) (v:Int)) (by simp (disch:=(try simp only [sPu]);omega)) ?_
  rintro e w2 ⟨rfl,hw2⟩
  refine ⟨_,rfl,oNi ?_⟩
  simp only [Exit.then]
  have hrow2:w2.heap[b]?=some (.cells (cs.setIfInBounds 0 (.int .i16 v)) T (0,0)):=by rw [hw2];exact setRow_heap _ _ _ _ _ _ hrow
  have hb2:Below w.heap.size w w2:=by rw [hw2];exact hb1.trans ⟨rfl,rfl,rfl,by simp,fun k hk=>setRow_other _ _ _ _ (by omega)⟩
  have hsz2:w2.heap.size=w1.heap.size:=by rw [hw2];simp
  refine SC.wp_seq (SC.wp_seq (SC.wp_reg ?_))
  iterate 2 (apply ops_1;(focus (simp (disch:=(try simp only [sPu]);omega) [h1];try rfl)))
  have hS2:SrcAt w2 S base src:=hsr.frame fun sb h=>hb2.block sb (hS sb h)
  have hu8:=(u8s_of hT2).1
  have hsrc:Src P 1 T2 (.slice base src.length cap) src.length (cellsOf src) w2:=by
    cases S with
    | none =>
      obtain ⟨rfl,rfl⟩:=hS2
      exact Src.ofNil w2 hu8 _
    | some sb =>
      obtain ⟨o,rfl,hc⟩:=hS2
      refine Src.ofSlice w2 hu8 ⟨sb,o,none⟩ src.length cap (cellsOf src) (by simp [cLen]) (fun j u hj=>?_) (fun u hu=>?_)
      · rw [add_none]
        simp only [cellsOf,List.getElem?_map,Option.map_eq_some_iff] at hj
        obtain ⟨u',hu',rfl⟩:=hj
        exact hc j u' hu'
      · simp only [cellsOf,List.mem_map] at hu
        obtain ⟨u',_,rfl⟩:=hu
        rfl
  refine oNo rfl (opw_appendU8 (B:=w2.heap.size) (xs:=[]) (bs:=src) (dv:=.slice none 0 0) (xv:=.slice base src.length cap) hT2 (eCo _ _) (by simp (disch:=(try simp only [sPu]);omega)) rfl (World.ownsRow_nil _ _ _ _) (Nat.le_refl _) hsrc (by simpa using hlen) fun dv w3 ho hb3 hbs3 _=>?_)
  rw [List.nil_append] at ho
  have hrow3:w3.heap[b]?=some (.cells (cs.setIfInBounds 0 (.int .i16 v)) T (0,0)):=by rw [hb3.block b (by omega)];exact hrow2
  have hb3':Below w.heap.size w w3:=hb2.trans ⟨hb3.os,hb3.tape,hb3.output,hb3.size,fun k hk=>hb3.block k (by have:=hb2.size;omega)⟩
  obtain ⟨S3,base3,cap3,rfl,hcap3,hsr3,hS3⟩:∃ S3 base3 cap3,dv=.slice base3 src.length cap3∧src.length≤cap3∧SrcAt w3 S3 base3 src∧∀ sb,S3=some sb→sb ≠ b∧sb < w3.heap.size:=by
    obtain ⟨ho1,⟨e1,e2⟩ | ⟨g,c3,cur,e1,e2,e3,e4,e5,e6,e7⟩⟩:=ho
    · have hnil:src=[]:=List.length_eq_zero_iff.1 e2
      subst hnil
      exact ⟨none,none,0,e1,Nat.le_refl _,⟨rfl,rfl⟩,fun sb h=>by cases h⟩
    · refine ⟨some g,some ⟨g,0,none⟩,c3,e1,e4,⟨0,rfl,fun j u hu=>?_⟩,fun sb h=>by cases h;exact ⟨by omega,(Array.getElem?_eq_some_iff.1 e3).1⟩⟩
      rw [cell_of_row _ _ _ _ _ _ e3,Nat.zero_add]
      have hj:(cellsOf src)[j]?=some (cell u):=by simp [cellsOf,hu]
      rw [← e7,List.getElem?_take] at hj
      split at hj
      · rwa [Array.getElem?_toList] at hj
      · cases hj
  have hfr1:FrFs w1 b M.fs 0:=by
    have:=frFsB_ok (w:=w1) (b:=b) (q:=0) (get:=fun j=>cs[j]?) (fun j v hj=>by rw [Nat.zero_add,cell_of_row _ _ _ _ _ _ hrow];exact hj) M.fs 0 hfr
    simpa using this
  have hfr3:FrFs w3 b M.fs 0:=by
    refine frFs_frame (w:=w1) M.fs 1 (topEnd M.size M.tags) 0 hlay (fun j h1 h2=>?_) hfr1
    rw [cell_of_row _ _ _ _ _ _ hrow,cell_of_row _ _ _ _ _ _ hrow3]
    exact Array.getElem?_setIfInBounds_ne (by omega)
  have hcr:=cR w.heap.size w3 hgb (fun w' h=>hgl w' (hb3'.trans h)) S3 b _ T base3 src cap3 (v:Int) (by omega) hbw (by have:=hb3'.size;omega) hrow3 (by rw [Array.size_setIfInBounds];exact hsz) (by simp [show 0 < cs.size by omega]) hfr3 hcap3 hsr3 hS3
  obtain ⟨R,hR⟩:∃ R:Ending→World→Prop,R=fun e w'=>∃ v',e=.returned v'∧((v'=.nilIface∨∃ t y,v'=.iface t y)∧Below w.heap.size w3 w'∧w.heap.size≤w'.heap.size ∧
      match pMsg v (flexAt M.flex v) M.fs src with
      | none=>v'=err
      | some ((xs,u),r)=>v'=.nilIface∧b < w'.heap.size∧w'.cell? ⟨b,0,none⟩=some (.int .i16 v)∧HFs G w' (· < w'.heap.size) v (flexAt M.flex v) M.fs b 0 xs∧TagsAt G w' (· < w'.heap.size) (flexAt M.flex v) b 0 M.tags u):=⟨_,rfl⟩
  refine ops_call oRF (cRF w3 (.pointer (some ⟨b,0,none⟩)) (.slice base3 src.length cap3) R (hcr.mono fun e w' h=>?_)) (by simp (disch:=(try simp only [sPu]);omega)) ?_
  · obtain ⟨z1,z2,z3⟩:=h
    rw [hR]
    simp only [pMsg_body]
    cases hp:pBody v (flexAt M.flex v) M.fs src with
    | none =>
      rw [hp] at z3
      simp only at z3
      subst z3
      exact ⟨_,rfl,_,rfl,.inr herr,z1,z2,rfl⟩
    | some zz =>
      obtain ⟨x,r⟩:=zz
      rw [hp] at z3
      obtain ⟨rfl,y1,y2,y3⟩:=z3
      have hft:=hfit x.l x.u r (by rw [pMsg_body,hp];rfl)
      obtain ⟨F,hF,q1,q2⟩:=y3 hft.1 hft.2.1
      refine ⟨_,rfl,_,rfl,.inl rfl,z1,z2,rfl,y1,y2,?_,?_⟩
      · exact hFs_frame (fun k hk=>⟨hF k hk,rfl⟩) _ _ M.fs 1 (topEnd M.size M.tags) b 0 x.l hlay (fun _ _ _=>rfl) q1
      · cases ht:M.tags with
        | none=>rw [ht] at q2;exact q2
        | some z =>
          rw [ht] at q2
          exact fun hfl=>hTags_frame (fun k hk=>⟨hF k hk,rfl⟩) rfl (q2 hfl)
  rw [hR]
  rintro e w4 ⟨v',rfl,hv',hb4,hs4,hpost⟩
  refine ⟨_,rfl,?_⟩
  refine oNo rfl (opw_isErr (v:=v') hT3 (by simp (disch:=(try simp only [sPu]);omega)) hv' (oNi ?_))
  simp only [Exit.then]
  refine SC.wp_cond (t:=isErr v') (by simp (disch:=(try simp only [sPu]);omega)) ?_
  have hb4':Below w.heap.size w w4:=hb3'.trans hb4
  cases hp:pMsg v (flexAt M.flex v) M.fs src with
  | none =>
    rw [hp] at hpost
    simp only at hpost
    subst hpost
    obtain ⟨t,y,rfl⟩:=herr
    simp only [isErr,if_true]
    refine SC.wp_seq (SC.wp_reg ?_)
    repeat (apply ops_1;(focus (simp (disch:=(try simp only [sPu]);omega) ;try rfl)))
    refine oNi (SC.wp_ret ?_)
    try simp only [Exit.then]
    exact bodyPost_ret_by (v:=.tuple #[.slice none 0 0,.bool false]) (res2 hr (by simp (disch:=(try simp only [sPu]);omega)) (by simp (disch:=(try simp only [sPu]);omega))) (by simp [dPu,hd]) ⟨hb4',rfl⟩
  | some zz =>
    obtain ⟨⟨xs,u⟩,r⟩:=zz
    rw [hp] at hpost
    obtain ⟨rfl,y1,y2,y3,y4⟩:=hpost
    simp only [isErr,Bool.false_eq_true,if_false]
    refine SC.wp_skip ?_
    simp only [Exit.then]
    refine SC.wp_seq (SC.wp_reg ?_)
    iterate 1 (apply ops_1;(focus (simp (disch:=(try simp only [sPu]);omega) ;try rfl)))
    refine ops_call oAT (cAT w4 b v xs u y1 y2 (by omega) y3 y4 (hfit xs u r hp).2.2) (by simp (disch:=(try simp only [sPu]);omega)) ?_
    rintro e w5 ⟨dv5,rfl,ho5,hb5⟩
    refine ⟨_,rfl,?_⟩
    repeat (apply ops_1;(focus (simp (disch:=(try simp only [sPu]);omega) ;try rfl)))
    refine oNi (SC.wp_ret ?_)
    try simp only [Exit.then]
    exact bodyPost_ret_by (v:=.tuple #[dv5,.bool true]) (res2 hr (by simp (disch:=(try simp only [sPu]);omega)) (by simp (disch:=(try simp only [sPu]);omega))) (by simp [dPu,hd]) ⟨hb4'.trans ⟨hb5.os,hb5.tape,hb5.output,hb5.size,fun k hk=>hb5.block k (by omega)⟩,dv5,rfl,own_base ho5 (by omega)⟩
end
end Go.Proofs.YtecdefhecaeclaaDoor.K
namespace Go.Proofs.YtecdefhecaeclaaDoor.K
open Go Go.RowKit Go.Proofs.YtecdefhecaeclaaDoor.T
set_option linter.unusedSimpArgs false
set_option linter.unusedVariables false
section
variable {P:Program} {f:FuncId} {fn:Func}
theorem ops_callg {all:List SOp} {a:Act} {w:World} {t g j dj:Nat} {want:Bool} {args:Array Operand} {argsV:Array Value} {r:List SOp} {K:Act→World→Prop} {R:Ending→World→Prop} (hj:(all[j]?).bind (·.dst)=some dj) (hlt:dj < a.tmps.size) (hb:getT a dj=.bool want) (hf:FnOK P g) (hc:Calls P g argsV w R) (hargs:args.map a.eval=argsV)
    (hR:∀ e w',R e w'→∃ v,e=.returned v∧opsw P all r K (a.put (some t) v) w'):opsw P all (⟨some t,.call ⟨.value (.func g),args,#[]⟩,some (j,want)⟩ :: r) K a w:=by
  obtain ⟨fn,h1,h2,h3⟩:=hf
  refine ⟨dj,want,hj,hlt,.inl hb,?_⟩
  rw [if_pos rfl]
  exact opw_call (R:=R) h1 h2 h3 (by rw [hargs];exact hc) hR
theorem own_src {tU8:Nat} {w:World} {B:Nat} {dv:Value} {xs:Bytes} (h:Own tU8 w B dv xs):∃ S base cap,dv=.slice base xs.length cap∧SrcAt w S base xs∧∀ sb,S=some sb→B≤sb∧sb < w.heap.size:=by
  obtain ⟨ho1,⟨e1,e2⟩ | ⟨g,c3,cur,e1,e2,e3,e4,e5,e6,e7⟩⟩:=h
  · have hnil:xs=[]:=List.length_eq_zero_iff.1 e2
    subst hnil
    exact ⟨none,none,0,e1,⟨rfl,rfl⟩,fun sb h=>by cases h⟩
  · refine ⟨some g,some ⟨g,0,none⟩,c3,e1,⟨0,rfl,fun j u hu=>?_⟩,fun sb h=>by cases h;exact ⟨e2,(Array.getElem?_eq_some_iff.1 e3).1⟩⟩
    rw [cell_of_row _ _ _ _ _ _ e3,Nat.zero_add]
    have hj:(cellsOf xs)[j]?=some (cell u):=by simp [cellsOf,hu]
    rw [← e7,List.getElem?_take] at hj
    split at hj
    · rwa [Array.getElem?_toList] at hj
    · cases hj
end
end Go.Proofs.YtecdefhecaeclaaDoor.K
namespace Go.Proofs.YtecdefhecaeclaaDoor.K
open Go Go.RowKit Go.Proofs.YtecdefhecaeclaaDoor.T
set_option linter.unusedSimpArgs false
set_option linter.unusedVariables false
section
variable {P:Program} {a:Act} {w:World} {K:Act→World→Prop} {d:Option Tmp} {g:Option (Nat × Bool)}
theorem opw_sidx {T:TypeId} {x y:Operand} {k:IntKind} {l:Bytes} {j:Nat} {b:UInt8} (hT:strB P T=true) (hx:a.eval x=.string ⟨l.toArray⟩) (hy:a.eval y=.int k (j:Int)) (hj:l[j]?=some b) (h:K (a.put d (.int .u8 (b.toNat:Int))) w):opw P ⟨d,.index T x y,g⟩ a w K:=by
  refine oVa (by simp) (fun p hp=>?_) h
  have hu:=str_of hT
  obtain ⟨hj1,hj2⟩:=List.getElem?_eq_some_iff.1 hj
  have e:(⟨l.toArray⟩:ByteArray)[j]?=some b:=by
    rw [getElem?_pos (⟨l.toArray⟩:ByteArray) j (by show j < l.toArray.size;simpa using hj1)]
    show some (l.toArray[j]'_)=some b
    simpa using hj2
  simp [execOp,hp,hx,hy,Instr.index,asIntOf,run_underlying hu,e]
theorem streq_iff (l m:Bytes):(((⟨l.toArray⟩:ByteArray).toList == (⟨m.toArray⟩:ByteArray).toList):Bool)=decide (l=m):=by
  rw [ByteArray.toList_mk,ByteArray.toList_mk]
  by_cases h:l=m
  · simp [h]
  · simp [h]
theorem opw_streq {T T':TypeId} {x y:Operand} {l m:Bytes} (hx:a.eval x=.string ⟨l.toArray⟩) (hy:a.eval y=.string ⟨m.toArray⟩) (h:K (a.put d (.bool (decide (l=m)))) w):opw P ⟨d,.binOp .eql T x y T',g⟩ a w K:=by
  refine oVa (by simp) (fun p hp=>?_) h
  have e:(eqGuard .eql T x y (.string ⟨l.toArray⟩) (.string ⟨m.toArray⟩)).run P w=.ok () w:=by unfold eqGuard;split <;> rfl
  have e2:(Op.stringOp .eql ⟨l.toArray⟩ ⟨m.toArray⟩).run P w=.ok (.bool (decide (l=m))) w:=by
    show (pure (Value.bool ((⟨l.toArray⟩:ByteArray).toList == (⟨m.toArray⟩:ByteArray).toList)):Sem Value).run P w=_
    rw [streq_iff]
    rfl
  simp only [execOp,hp,hx,hy]
  simp [e,binOp,e2]
theorem opw_sslice {T:TypeId} {x:Operand} {lo hi:Option Operand} {l:Bytes} {i j:Nat} (hT:strB P T=true) (hx:a.eval x=.string ⟨l.toArray⟩) (hlo:(lo=none∧i=0)∨∃ o k,lo=some o∧a.eval o=.int k (i:Int)) (hhi:(hi=none∧j=l.length)∨∃ o k,hi=some o∧a.eval o=.int k (j:Int)) (hij:i≤j) (hj:j≤l.length)
    (h:K (a.put d (.string ⟨((l.take j).drop i).toArray⟩)) w):opw P ⟨d,.slice T x lo hi none,g⟩ a w K:=by
  refine oVa (by simp) (fun p hp=>?_) h
  have hu:=str_of hT
  have hsz:(⟨l.toArray⟩:ByteArray).size=l.length:=by show l.toArray.size=_;simp
  have e:((⟨l.toArray⟩:ByteArray).extract i j)=⟨((l.take j).drop i).toArray⟩:=by
    rw [ByteArray.extract_mk,List.drop_take]
  rcases hlo with ⟨rfl,rfl⟩ | ⟨o1,k1,rfl,h1⟩ <;> rcases hhi with ⟨rfl,rfl⟩ | ⟨o2,k2,rfl,h2⟩
  all_goals
    simp only [execOp,hp]
    simp [*,hx,Instr.sliceAt,Instr.slice,Instr.sliceBounds,run_underlying hu,hsz,run_sliceBound,hij,hj]
end
end Go.Proofs.YtecdefhecaeclaaDoor.K
namespace Go.Proofs.YtecdefhecaeclaaDoor.K
open Go Go.RowKit Go.Proofs.YtecdefhecaeclaaDoor.T
attribute [local simp] eTm eCo pNo gTp gTn qv qcall vop iop
set_option linter.unusedSimpArgs false
set_option linter.unusedVariables false
set_option maxHeartbeats 2000000
def sc_blank (T0:Nat):SC:=.seq (.reg [⟨some 2,.assign (.const (.bool false)),none⟩]) (.seq (.reg [mv 3 0,⟨some 4,.binOp .eql T0 (.tmp 3) (.const (.int .u8 32)) T0,none⟩,mv 5 4,⟨some 6,.move (.tmp 0),some (2,false)⟩,⟨some 7,.binOp .geq T0 (.tmp 6) (.const (.int .u8 9)) T0,some (2,false)⟩,⟨some 8,.move (.tmp 7),some (2,false)⟩,⟨some 9,.move (.tmp 0),some (5,true)⟩,⟨some 10,.binOp .leq T0 (.tmp 9) (.const (.int .u8 13)) T0,some (5,true)⟩,⟨some 11,.pick (.tmp 8) (.tmp 10) (.const (.bool false)),some (2,false)⟩,⟨some 12,.pick (.tmp 5) (.const (.bool true)) (.tmp 11),none⟩,asg 2 12]) (.ret))
def blankB (n:Nat):Bool:=n == 32 || (decide (9≤n) && decide (n≤13))
section
variable {P:Program} {f:FuncId} {fn:Func}
theorem blank_ok {T0:Nat} (hf:P.funcs[f]?=some fn) (hb:fn.body.map strip=some (sc_blank T0)) (hn:fn.ntmps=13) (hr:fn.results=#[.tmp 2]) (w:World) (n:Nat):Calls P f #[.int .u8 (n:Int)] w fun e w'=>e=.returned (.bool (blankB n))∧w'=w:=by
  refine fCa hf hb hn (by simp) fun a0 hs hd ha=>?_
  have h0:=ha 0 _ rfl
  simp only [List.getElem_toArray,List.getElem_cons_zero,List.getElem_cons_succ] at h0
  refine SC.wp_seq (SC.wp_reg ?_)
  repeat (first | (apply ops_1;(focus (simp (disch:=(try simp only [sPu]);omega) ;try rfl))) | (apply ops_y;(focus rfl);(focus ((try simp only [sPu]);omega));(focus (simp (disch:=(try simp only [sPu]);omega);done));(focus (simp (disch:=(try simp only [sPu]);omega) ;try rfl))) | (apply ops_n;(focus rfl);(focus ((try simp only [sPu]);omega));(focus (first | (left;simp (disch:=(try simp only [sPu]);omega);done) | (right;simp (disch:=(try simp only [sPu]);omega);done)))))
  refine oNi (SC.wp_seq (SC.wp_reg ?_))
  by_cases h32:n=32
  · have e1:(((n:Int) == 32):Bool)=true:=by subst h32;rfl
    have eb:blankB n=true:=by simp [blankB,h32]
    rw [eb]
    repeat (first | (apply ops_1;(focus (simp (disch:=(try simp only [sPu]);omega) [h0,e1];try rfl))) | (apply ops_y;(focus rfl);(focus ((try simp only [sPu]);omega));(focus (simp (disch:=(try simp only [sPu]);omega) [h0,e1];done));(focus (simp (disch:=(try simp only [sPu]);omega) [h0,e1];try rfl))) | (apply ops_n;(focus rfl);(focus ((try simp only [sPu]);omega));(focus (first | (left;simp (disch:=(try simp only [sPu]);omega) [h0,e1];done) | (right;simp (disch:=(try simp only [sPu]);omega);done)))))
    refine oNi (SC.wp_ret ?_)
    try simp only [Exit.then]
    exact ret_tmp hr (by simp [dPu,hd]) ⟨by simp (disch:=(try simp only [sPu]);omega),rfl⟩
  · have e1:(((n:Int) == 32):Bool)=false:=by simp;omega
    by_cases h9:9≤n
    · by_cases h13:n≤13
      · have eb:blankB n=true:=by simp [blankB,h9,h13]
        rw [eb]
        have i9:(9:Int)≤(n:Int):=by omega
        have i13:(n:Int)≤13:=by omega
        repeat (first | (apply ops_1;(focus (simp (disch:=(try simp only [sPu]);omega) [h0,e1,i9,i13,h9,h13];try rfl))) | (apply ops_y;(focus rfl);(focus ((try simp only [sPu]);omega));(focus (simp (disch:=(try simp only [sPu]);omega) [h0,e1,i9,i13,h9,h13];done));(focus (simp (disch:=(try simp only [sPu]);omega) [h0,e1,i9,i13,h9,h13];try rfl))) | (apply ops_n;(focus rfl);(focus ((try simp only [sPu]);omega));(focus (first | (left;simp (disch:=(try simp only [sPu]);omega) [h0,e1,i9,i13,h9,h13];done) | (right;simp (disch:=(try simp only [sPu]);omega);done)))))
        refine oNi (SC.wp_ret ?_)
        try simp only [Exit.then]
        exact ret_tmp hr (by simp [dPu,hd]) ⟨by simp (disch:=(try simp only [sPu]);omega),rfl⟩
      · have eb:blankB n=false:=by simp [blankB,h32,h9,h13]
        rw [eb]
        have i9:(9:Int)≤(n:Int):=by omega
        have i13:¬ (n:Int)≤13:=by omega
        repeat (first | (apply ops_1;(focus (simp (disch:=(try simp only [sPu]);omega) [h0,e1,i9,i13,h9,h13];try rfl))) | (apply ops_y;(focus rfl);(focus ((try simp only [sPu]);omega));(focus (simp (disch:=(try simp only [sPu]);omega) [h0,e1,i9,i13,h9,h13];done));(focus (simp (disch:=(try simp only [sPu]);omega) [h0,e1,i9,i13,h9,h13];try rfl))) | (apply ops_n;(focus rfl);(focus ((try simp only [sPu]);omega));(focus (first | (left;simp (disch:=(try simp only [sPu]);omega) [h0,e1,i9,i13,h9,h13];done) | (right;simp (disch:=(try simp only [sPu]);omega);done)))))
        refine oNi (SC.wp_ret ?_)
        try simp only [Exit.then]
        exact ret_tmp hr (by simp [dPu,hd]) ⟨by simp (disch:=(try simp only [sPu]);omega),rfl⟩
    · have eb:blankB n=false:=by simp [blankB,h32,h9]
      rw [eb]
      have i9:¬ (9:Int)≤(n:Int):=by omega
      repeat (first | (apply ops_1;(focus (simp (disch:=(try simp only [sPu]);omega) [h0,e1,i9,h9];try rfl))) | (apply ops_y;(focus rfl);(focus ((try simp only [sPu]);omega));(focus (simp (disch:=(try simp only [sPu]);omega) [h0,e1,i9,h9];done));(focus (simp (disch:=(try simp only [sPu]);omega) [h0,e1,i9,h9];try rfl))) | (apply ops_n;(focus rfl);(focus ((try simp only [sPu]);omega));(focus (first | (left;simp (disch:=(try simp only [sPu]);omega) [h0,e1,i9,h9];done) | (right;simp (disch:=(try simp only [sPu]);omega);done)))))
      refine oNi (SC.wp_ret ?_)
      try simp only [Exit.then]
      exact ret_tmp hr (by simp [dPu,hd]) ⟨by simp (disch:=(try simp only [sPu]);omega),rfl⟩
end
end Go.Proofs.YtecdefhecaeclaaDoor.K
namespace Go.Proofs.YtecdefhecaeclaaDoor.K
open Go Go.RowKit Go.Proofs.YtecdefhecaeclaaDoor.T
attribute [local simp] eTm eCo pNo gTp gTn qv qcall vop iop
set_option linter.unusedSimpArgs false
set_option linter.unusedVariables false
set_option maxHeartbeats 2000000
def sc_zzIndex (T0 T1:Nat):SC:=.seq (.reg [⟨some 4,.assign (.const (.int .i64 0)),none⟩]) (.seq (.seq (.reg [⟨some 5,.assign (.const (.int .i64 0)),none⟩]) (.block 0 (.loop (.seq (.seq (.reg [mv 6 5,mv 7 1,lenOp 8 T0 7,⟨some 9,.binOp .add T1 (.tmp 6) (.tmp 8) T1,none⟩,mv 10 0,lenOp 11 T0 10,⟨some 12,.binOp .leq T1 (.tmp 9) (.tmp 11) T1,none⟩]) (.cond (.tmp 12) (.skip) (.exit 0))) (.seq (.block 1 (.seq (.reg [mv 15 0,mv 16 5,mv 17 5,mv 18 1,lenOp 19 T0 18,⟨some 20,.binOp .add T1 (.tmp 17) (.tmp 19) T1,none⟩,⟨some 21,.slice T0 (.tmp 15) (some (.tmp 16)) (some (.tmp 20)) none,none⟩,mv 22 1,⟨some 23,.binOp .eql T0 (.tmp 21) (.tmp 22) T0,none⟩]) (.cond (.tmp 23) (.seq (.reg [mv 24 5,asg 4 24]) (.ret)) (.skip)))) (.reg [mv 13 5,⟨some 14,.binOp .add T1 (.tmp 13) (.const (.int .i64 1)) T1,none⟩,asg 5 14])))))) (.seq (.reg [⟨some 4,.assign (.const (.int .i64 (-1))),none⟩]) (.ret)))
def FirstAt (l:Bytes) (c:UInt8) (r:Int):Prop:=(r=-1∧c ∉ l)∨∃ i:Nat,r=(i:Int)∧i < l.length∧l[i]?=some c∧c ∉ l.take i
theorem one_at {l:Bytes} {j:Nat} (hj:j < l.length):(l.take (j+1)).drop j=[l[j]]:=by
  rw [List.drop_take,show j+1 - j=1 by omega,List.drop_eq_getElem_cons hj]
  rfl
section
variable {P:Program} {f:FuncId} {fn:Func}
theorem zzIndex_ok {T0 T1:Nat} (hst:strB P T0=true) (hf:P.funcs[f]?=some fn) (hb:fn.body.map strip=some (sc_zzIndex T0 T1)) (hn:fn.ntmps=25) (hr:fn.results=#[.tmp 4]) (w:World) (l:Bytes) (c:UInt8) (hl:l.length≤lim) :
    Calls P f #[.string ⟨l.toArray⟩,.string ⟨#[c]⟩] w fun e w'=>(∃ r,e=.returned (.int .i64 r)∧FirstAt l c r)∧w'=w:=by
  have hlim:lim=70368744177664:=rfl
  refine fCa hf hb hn (by simp) fun a0 hs hd ha=>?_
  have u0:=ha 0 _ rfl
  have u1:=ha 1 _ rfl
  simp only [List.getElem_toArray,List.getElem_cons_zero,List.getElem_cons_succ] at u0 u1
  refine SC.wp_seq (SC.wp_reg ?_)
  repeat (apply ops_1;(focus (simp (disch:=(try simp only [sPu]);omega) ;try rfl)))
  refine oNi (SC.wp_seq (SC.wp_seq (SC.wp_reg ?_)))
  repeat (apply ops_1;(focus (simp (disch:=(try simp only [sPu]);omega) ;try rfl)))
  refine oNi ?_
  simp only [Exit.then]
  refine SC.wp_block (SC.wp_loop (fun a4 w5=>∃ (j:Nat),a4.tmps.size=25∧a4.defers=[]∧getT a4 0=.string ⟨l.toArray⟩∧getT a4 1=.string ⟨#[c]⟩∧getT a4 5=.int .i64 (j:Int)∧j≤l.length∧c ∉ l.take j∧w5=w)
    (fun a4 _=>match getT a4 5 with | .int _ m=>(l.length - m).toNat | _=>0) ⟨0,by simp [sPu,hs],by simp [dPu,hd],by simp (disch:=(try simp only [sPu]);omega) [u0],by simp (disch:=(try simp only [sPu]);omega) [u1],by simp (disch:=(try simp only [sPu]);omega),by omega,by simp,rfl⟩ ?_)
  rintro a4 w5 ⟨j,q,qd,q0,q1,q5,hj,hnc,rfl⟩
  have ew:IntKind.i64.wrap ((j:Int)+1)=((j:Int)+1):=by rw [wrap_i64'];split <;> omega
  refine SC.wp_seq (SC.wp_seq (SC.wp_reg ?_))
  repeat (apply ops_1;(focus (simp (disch:=(try simp only [sPu]);omega) [q0,q1,q5,hst,ew];try rfl)))
  refine oNi ?_
  simp only [Exit.then]
  refine SC.wp_cond (t:=decide ((j:Int)+1≤(l.length:Int))) (by simp (disch:=(try simp only [sPu]);omega)) ?_
  by_cases hjl:j < l.length
  · have e1:decide ((j:Int)+1≤(l.length:Int))=true:=by simp;omega
    rw [e1,if_pos rfl]
    refine SC.wp_skip ?_
    simp only [Exit.then]
    refine SC.wp_seq (SC.wp_block (SC.wp_seq (SC.wp_reg ?_)))
    iterate 6 (apply ops_1;(focus (simp (disch:=(try simp only [sPu]);omega) [q0,q1,q5,hst,ew];try rfl)))
    refine oNo rfl (opw_sslice (l:=l) (i:=j) (j:=j+1) hst (by simp (disch:=(try simp only [sPu]);omega) [q0]) (.inr ⟨_,.i64,rfl,by simp (disch:=(try simp only [sPu]);omega) [q5]⟩) (.inr ⟨_,.i64,rfl,by simp (disch:=(try simp only [sPu]);omega)⟩) (by omega) (by omega) ?_)
    rw [one_at hjl]
    iterate 1 (apply ops_1;(focus (simp (disch:=(try simp only [sPu]);omega) [q1];try rfl)))
    refine oNo rfl (opw_streq (l:=[l[j]]) (m:=[c]) (by simp (disch:=(try simp only [sPu]);omega)) (by simp (disch:=(try simp only [sPu]);omega)) (oNi ?_))
    simp only [Exit.then]
    refine SC.wp_cond (t:=decide ([l[j]]=[c])) (by simp (disch:=(try simp only [sPu]);omega)) ?_
    by_cases hc:l[j]=c
    · have e2:decide ([l[j]]=[c])=true:=by simp [hc]
      rw [e2,if_pos rfl]
      refine SC.wp_seq (SC.wp_reg ?_)
      repeat (apply ops_1;(focus (simp (disch:=(try simp only [sPu]);omega) [q5];try rfl)))
      refine oNi (SC.wp_ret ?_)
      simp only [Exit.then,Exit.inBlock]
      exact ret_tmp hr (by simp [dPu,qd]) ⟨⟨(j:Int),by simp (disch:=(try simp only [sPu]);omega),.inr ⟨j,rfl,hjl,by rw [List.getElem?_eq_getElem hjl,hc],hnc⟩⟩,rfl⟩
    · have e2:decide ([l[j]]=[c])=false:=by simp [hc]
      rw [e2,if_neg (by simp)]
      refine SC.wp_skip ?_
      simp only [Exit.inBlock,Exit.then]
      refine SC.wp_reg ?_
      repeat (apply ops_1;(focus (simp (disch:=(try simp only [sPu]);omega) [q5,ew];try rfl)))
      refine oNi ?_
      refine ⟨⟨j+1,by simp [sPu,q],by simp [dPu,qd],by simp (disch:=(try simp only [sPu]);omega) [q0],by simp (disch:=(try simp only [sPu]);omega) [q1],by simp (disch:=(try simp only [sPu]);omega),by omega,?_,rfl⟩,?_⟩
      · intro hm
        rw [List.take_add_one,List.getElem?_eq_getElem hjl,List.mem_append] at hm
        rcases hm with hm | hm
        · exact hnc hm
        · rw [Option.toList_some,List.mem_singleton] at hm
          exact hc hm.symm
      · rw [q5]
        simp (disch:=(try simp only [sPu]);omega)
        omega
  · have e1:decide ((j:Int)+1≤(l.length:Int))=false:=by simp;omega
    rw [e1,if_neg (by simp)]
    refine SC.wp_exit ?_
    simp only [Exit.then,Exit.inBlock,if_true]
    refine SC.wp_seq (SC.wp_reg ?_)
    repeat (apply ops_1;(focus (simp (disch:=(try simp only [sPu]);omega) ;try rfl)))
    refine oNi (SC.wp_ret ?_)
    try simp only [Exit.then]
    have:j=l.length:=by omega
    subst this
    rw [List.take_length] at hnc
    exact ret_tmp hr (by simp [dPu,qd]) ⟨⟨-1,by simp (disch:=(try simp only [sPu]);omega),.inl ⟨rfl,hnc⟩⟩,rfl⟩
end
end Go.Proofs.YtecdefhecaeclaaDoor.K
namespace Go.Proofs.YtecdefhecaeclaaDoor.K
open Go Go.RowKit Go.Proofs.YtecdefhecaeclaaDoor.T
attribute [local simp] eTm eCo pNo gTp gTn qv qcall vop iop
set_option linter.unusedSimpArgs false
set_option linter.unusedVariables false
set_option maxHeartbeats 2000000
def sc_zzReplace (T0 T1 T2 F0:Nat):SC:=.seq (.reg [⟨some 6,.assign (.const (.string ⟨#[]⟩)),none⟩]) (.seq (.reg [⟨some 7,.assign (.const (.slice none 0 0)),none⟩]) (.seq (.seq (.reg [mv 11 1,lenOp 12 T0 11,⟨some 13,.binOp .eql T1 (.tmp 12) (.const (.int .i64 0)) T1,none⟩]) (.cond (.tmp 13) (.seq (.reg [mv 14 7,mv 15 2,⟨some 16,.call ⟨.builtin .append,#[(.tmp 14),(.tmp 15)],#[T2,T0]⟩,none⟩,asg 7 16]) (.seq (.reg [⟨some 8,.assign (.const (.int .i64 0)),none⟩]) (.seq (.seq (.reg [mv 17 0,⟨some 18,.range T0 (.tmp 17),none⟩]) (.block 0 (.loop (.seq (.reg [⟨some 19,.next (.tmp 18) true,none⟩,⟨some 20,.extract (.tmp 19) 0,none⟩]) (.seq (.cond (.tmp 20) (.skip) (.exit 0)) (.block 1 (.seq (.reg [⟨some 21,.extract (.tmp 19) 1,none⟩,asg 9 21]) (.seq (.reg [mv 22 9,⟨some 23,.binOp .gtr T1 (.tmp 22) (.const (.int .i64 0)) T1,none⟩]) (.cond (.tmp 23) (.seq (.reg [mv 24 7,mv 25 0,mv 26 8,mv 27 9,⟨some 28,.slice T0 (.tmp 25) (some (.tmp 26)) (some (.tmp 27)) none,none⟩,⟨some 29,.call ⟨.builtin .append,#[(.tmp 24),(.tmp 28)],#[T2,T0]⟩,none⟩,mv 30 2,⟨some 31,.call ⟨.builtin .append,#[(.tmp 29),(.tmp 30)],#[T2,T0]⟩,none⟩,asg 7 31]) (.reg [mv 32 9,asg 8 32])) (.skip)))))))))) (.seq (.seq (.reg [mv 33 0,lenOp 34 T0 33,⟨some 35,.binOp .gtr T1 (.tmp 34) (.const (.int .i64 0)) T1,none⟩]) (.cond (.tmp 35) (.reg [mv 36 7,mv 37 0,mv 38 8,⟨some 39,.slice T0 (.tmp 37) (some (.tmp 38)) none none,none⟩,⟨some 40,.call ⟨.builtin .append,#[(.tmp 36),(.tmp 39)],#[T2,T0]⟩,none⟩,mv 41 2,⟨some 42,.call ⟨.builtin .append,#[(.tmp 40),(.tmp 41)],#[T2,T0]⟩,none⟩,asg 7 42]) (.skip))) (.seq (.reg [mv 43 7,⟨some 44,.convert T2 T0 (.tmp 43),none⟩,asg 6 44]) (.ret)))))) (.skip))) (.block 2 (.loop (.block 3 (.seq (.reg [mv 45 0,mv 46 1,cal 47 F0 [45,46],asg 10 47]) (.seq (.seq (.reg [mv 48 10,⟨some 49,.binOp .lss T1 (.tmp 48) (.const (.int .i64 0)) T1,none⟩]) (.cond (.tmp 49) (.seq (.reg [mv 50 7,mv 51 0,⟨some 52,.call ⟨.builtin .append,#[(.tmp 50),(.tmp 51)],#[T2,T0]⟩,none⟩,⟨some 53,.convert T2 T0 (.tmp 52),none⟩,asg 6 53]) (.ret)) (.skip))) (.seq (.reg [mv 54 7,mv 55 0,mv 56 10,⟨some 57,.slice T0 (.tmp 55) none (some (.tmp 56)) none,none⟩,⟨some 58,.call ⟨.builtin .append,#[(.tmp 54),(.tmp 57)],#[T2,T0]⟩,none⟩,mv 59 2,⟨some 60,.call ⟨.builtin .append,#[(.tmp 58),(.tmp 59)],#[T2,T0]⟩,none⟩,asg 7 60]) (.reg [mv 61 0,mv 62 10,mv 63 1,lenOp 64 T0 63,⟨some 65,.binOp .add T1 (.tmp 62) (.tmp 64) T1,none⟩,⟨some 66,.slice T0 (.tmp 61) (some (.tmp 65)) none none,none⟩,asg 0 66])))))))))
def without (c:UInt8) (l:Bytes):Bytes:=l.filter (fun u=>!(u == c))
theorem without_none {c:UInt8} {l:Bytes} (h:c ∉ l):without c l=l:=by
  unfold without
  rw [List.filter_eq_self]
  intro u hu
  have:u ≠ c:=fun e=>h (e ▸ hu)
  simp [this]
theorem without_at {c:UInt8} {l:Bytes} {i:Nat} (hi:i < l.length) (h1:l[i]?=some c) (h2:c ∉ l.take i):without c l=l.take i ++ without c (l.drop (i+1)):=by
  have e:l=l.take i ++ c :: l.drop (i+1):=by
    have h3:l[i]=c:=by rw [List.getElem?_eq_getElem hi] at h1;simpa using h1
    rw [← h3,← List.drop_eq_getElem_cons hi,List.take_append_drop]
  have e2:without c l=without c (l.take i ++ c :: l.drop (i+1)):=by rw [← e]
  rw [e2]
  show (l.take i ++ c :: l.drop (i+1)).filter _=_
  rw [List.filter_append]
  have:=without_none h2
  unfold without at this
  rw [this]
  simp [without]
section
variable {P:Program} {f:FuncId} {fn:Func}
theorem src_strL {T:TypeId} (hst:strB P T=true) (l:Bytes) (w:World):Src P 1 T (.string ⟨l.toArray⟩) l.length (cellsOf l) w:=by
  simpa using src_str hst ⟨l.toArray⟩ w
def IdxC (P:Program) (F:FuncId):Prop:=FnOK P F∧∀ (w:World) (l:Bytes) (c:UInt8),l.length≤lim→Calls P F #[.string ⟨l.toArray⟩,.string ⟨#[c]⟩] w fun e w'=>(∃ r,e=.returned (.int .i64 r)∧FirstAt l c r)∧w'=w
theorem zzReplace_ok {T0 T1 T2 F0 tU8:Nat} (hst:strB P T0=true) (h2:u8sB P T2 tU8=true) (hbs:bstrB P T2 T0=true) (cI:IdxC P F0) (hf:P.funcs[f]?=some fn) (hb:fn.body.map strip=some (sc_zzReplace T0 T1 T2 F0)) (hn:fn.ntmps=67) (hr:fn.results=#[.tmp 6]) (w:World) (l:Bytes) (c:UInt8) (hl:l.length≤1048576) :
    Calls P f #[.string ⟨l.toArray⟩,.string ⟨#[c]⟩,.string ⟨#[]⟩] w fun e w'=>e=.returned (.string ⟨(without c l).toArray⟩)∧Below w.heap.size w w':=by
  have hlim:lim=70368744177664:=rfl
  refine fCa hf hb hn (by simp) fun a0 hs hd ha=>?_
  have u0:=ha 0 _ rfl
  have u1:=ha 1 _ rfl
  have u2:=ha 2 _ rfl
  simp only [List.getElem_toArray,List.getElem_cons_zero,List.getElem_cons_succ] at u0 u1 u2
  refine SC.wp_seq (SC.wp_reg ?_)
  repeat (apply ops_1;(focus (simp (disch:=(try simp only [sPu]);omega) ;try rfl)))
  refine oNi (SC.wp_seq (SC.wp_reg ?_))
  repeat (apply ops_1;(focus (simp (disch:=(try simp only [sPu]);omega) ;try rfl)))
  refine oNi (SC.wp_seq (SC.wp_seq (SC.wp_reg ?_)))
  repeat (apply ops_1;(focus (simp (disch:=(try simp only [sPu]);omega) [u1,hst];try rfl)))
  refine oNi (SC.wp_cond (t:=false) (by simp (disch:=(try simp only [sPu]);omega)) ?_)
  rw [if_neg (by simp)]
  refine SC.wp_skip ?_
  simp only [Exit.then]
  refine SC.wp_block (SC.wp_loop (fun a4 w5=>∃ (xs r:Bytes),a4.tmps.size=67∧a4.defers=[]∧getT a4 0=.string ⟨r.toArray⟩∧getT a4 1=.string ⟨#[c]⟩∧getT a4 2=.string ⟨#[]⟩∧Own tU8 w5 w.heap.size (getT a4 7) xs∧xs ++ without c r=without c l∧xs.length+r.length≤l.length∧Below w.heap.size w w5)
    (fun a4 _=>match getT a4 0 with | .string s=>s.data.toList.length | _=>0) ⟨[],l,by simp [sPu,hs],by simp [dPu,hd],by simp (disch:=(try simp only [sPu]);omega) [u0],by simp (disch:=(try simp only [sPu]);omega) [u1],by simp (disch:=(try simp only [sPu]);omega) [u2],by simp (disch:=(try simp only [sPu]);omega);exact own_nil _ _ _,rfl,by simp,Below.refl _ _⟩ ?_)
  rintro a4 w5 ⟨xs,r,q,qd,q0,q1,q2,ho,hx,hlen,hb5⟩
  have hs5:=hb5.size
  refine SC.wp_block (SC.wp_seq (SC.wp_reg ?_))
  iterate 2 (apply ops_1;(focus (simp (disch:=(try simp only [sPu]);omega) [q0,q1];try rfl)))
  refine ops_call cI.1 (cI.2 w5 r c (by omega)) (by simp (disch:=(try simp only [sPu]);omega)) ?_
  rintro e w6 ⟨⟨x,rfl,hx1⟩,rfl⟩
  refine ⟨_,rfl,?_⟩
  repeat (apply ops_1;(focus (simp (disch:=(try simp only [sPu]);omega) ;try rfl)))
  refine oNi (SC.wp_seq (SC.wp_seq (SC.wp_reg ?_)))
  repeat (apply ops_1;(focus (simp (disch:=(try simp only [sPu]);omega) ;try rfl)))
  rcases hx1 with ⟨rfl,hnc⟩ | ⟨i,rfl,hi,hic,hnc⟩
  · refine oNi (SC.wp_cond (t:=true) (by simp (disch:=(try simp only [sPu]);omega)) ?_)
    rw [if_pos rfl]
    refine SC.wp_seq (SC.wp_reg ?_)
    iterate 2 (apply ops_1;(focus (simp (disch:=(try simp only [sPu]);omega) [q0];try rfl)))
    refine oNo rfl (opw_appendU8 (B:=w.heap.size) (xs:=xs) (bs:=r) (dv:=getT a4 7) (xv:=.string ⟨r.toArray⟩) h2 (by simp (disch:=(try simp only [sPu]);omega)) (by simp (disch:=(try simp only [sPu]);omega)) rfl ho (by omega) (src_strL hst r w6) (by omega) fun dv7 w7 ho7 hb7 hs7 _=>?_)
    obtain ⟨S,base,cap,rfl,hsr,_⟩:=own_src ho7
    refine oNo rfl (opw_str (bs:=xs ++ r) (cap:=cap) (S:=S) hbs (by simp (disch:=(try simp only [sPu]);omega)) hsr ?_)
    repeat (apply ops_1;(focus (simp (disch:=(try simp only [sPu]);omega) ;try rfl)))
    refine oNi (SC.wp_ret ?_)
    try simp only [Exit.then,Exit.inBlock]
    rw [without_none hnc] at hx
    refine ret_tmp hr (by simp [dPu,qd]) ⟨?_,hb5.trans hb7⟩
    rw [← hx]
    simp (disch:=(try simp only [sPu]);omega)
  · refine oNi (SC.wp_cond (t:=false) (by simp (disch:=(try simp only [sPu]);omega)) ?_)
    rw [if_neg (by simp)]
    refine SC.wp_skip ?_
    simp only [Exit.then]
    refine SC.wp_seq (SC.wp_reg ?_)
    iterate 3 (apply ops_1;(focus (simp (disch:=(try simp only [sPu]);omega) [q0];try rfl)))
    refine oNo rfl (opw_sslice (l:=r) (i:=0) (j:=i) hst (by simp (disch:=(try simp only [sPu]);omega)) (.inl ⟨rfl,rfl⟩) (.inr ⟨_,.i64,rfl,by simp (disch:=(try simp only [sPu]);omega)⟩) (by omega) (by omega) ?_)
    rw [List.drop_zero]
    have lt:(r.take i).length=i:=by rw [List.length_take];omega
    refine oNo rfl (opw_appendU8 (B:=w.heap.size) (xs:=xs) (bs:=r.take i) (dv:=getT a4 7) (xv:=.string ⟨(r.take i).toArray⟩) h2 (by simp (disch:=(try simp only [sPu]);omega)) (by simp (disch:=(try simp only [sPu]);omega)) rfl ho (by omega) (src_strL hst (r.take i) w6) (by omega) fun dv7 w7 ho7 hb7 hs7 _=>?_)
    iterate 1 (apply ops_1;(focus (simp (disch:=(try simp only [sPu]);omega) [q2];try rfl)))
    refine oNo rfl (opw_appendU8 (B:=w.heap.size) (xs:=xs ++ r.take i) (bs:=[]) (dv:=dv7) (xv:=.string ⟨#[]⟩) h2 (by simp (disch:=(try simp only [sPu]);omega)) (by simp (disch:=(try simp only [sPu]);omega) [q2]) rfl ho7 (by omega) (src_strL hst [] w7) (by rw [List.length_append];simp;omega) fun dv8 w8 ho8 hb8 hs8 _=>?_)
    repeat (apply ops_1;(focus (simp (disch:=(try simp only [sPu]);omega) ;try rfl)))
    refine oNi ?_
    simp only [Exit.then]
    have ew:IntKind.i64.wrap ((i:Int)+1)=(i:Int)+1:=by rw [wrap_i64'];split <;> omega
    refine SC.wp_reg ?_
    iterate 5 (apply ops_1;(focus (simp (disch:=(try simp only [sPu]);omega) [q0,q1,hst,ew];try rfl)))
    refine oNo rfl (opw_sslice (l:=r) (i:=i+1) (j:=r.length) hst (by simp (disch:=(try simp only [sPu]);omega) [q0]) (.inr ⟨_,.i64,rfl,by simp (disch:=(try simp only [sPu]);omega)⟩) (.inl ⟨rfl,rfl⟩) (by omega) (by omega) ?_)
    rw [List.take_length]
    repeat (apply ops_1;(focus (simp (disch:=(try simp only [sPu]);omega) ;try rfl)))
    refine oNi ?_
    simp only [Exit.inBlock,Exit.then]
    refine ⟨⟨xs ++ r.take i,r.drop (i+1),by simp [sPu,q],by simp [dPu,qd],by simp (disch:=(try simp only [sPu]);omega),by simp (disch:=(try simp only [sPu]);omega) [q1],by simp (disch:=(try simp only [sPu]);omega) [q2],by simp (disch:=(try simp only [sPu]);omega);simpa using ho8,?_,?_,(hb5.trans hb7).trans hb8⟩,?_⟩
    · rw [← hx,without_at hi hic hnc,List.append_assoc]
    · rw [List.length_append,lt,List.length_drop];omega
    · rw [q0]
      simp (disch:=(try simp only [sPu]);omega)
      omega
end
end Go.Proofs.YtecdefhecaeclaaDoor.K
namespace Go.Proofs.YtecdefhecaeclaaDoor.K
open Go Go.RowKit Go.Proofs.YtecdefhecaeclaaDoor.T
attribute [local simp] eTm eCo pNo gTp gTn qv qcall vop iop
set_option linter.unusedSimpArgs false
set_option linter.unusedVariables false
set_option maxHeartbeats 2000000
def sc_Normal (T0 T1 T2 T3 F0:Nat):SC:=.seq (.reg [⟨some 2,.assign (.const (.string ⟨#[]⟩)),none⟩]) (.seq (.reg [⟨some 3,.assign (.const (.slice none 0 0)),none⟩]) (.seq (.seq (.reg [⟨some 4,.assign (.const (.int .i64 0)),none⟩]) (.block 0 (.loop (.seq (.seq (.reg [mv 6 4,mv 7 0,lenOp 8 T0 7,⟨some 9,.binOp .lss T1 (.tmp 6) (.tmp 8) T1,none⟩]) (.cond (.tmp 9) (.skip) (.exit 0))) (.seq (.block 1 (.seq (.reg [mv 12 0,mv 13 4,⟨some 14,.index T0 (.tmp 12) (.tmp 13),none⟩,asg 5 14]) (.seq (.seq (.reg [mv 15 5,⟨some 16,.binOp .geq T2 (.tmp 15) (.const (.int .u8 65)) T2,none⟩,mv 17 16,⟨some 18,.move (.tmp 5),some (2,true)⟩,⟨some 19,.binOp .leq T2 (.tmp 18) (.const (.int .u8 90)) T2,some (2,true)⟩,⟨some 20,.pick (.tmp 17) (.tmp 19) (.const (.bool false)),none⟩]) (.cond (.tmp 20) (.reg [mv 21 5,⟨some 22,.binOp .add T2 (.tmp 21) (.const (.int .u8 32)) T2,none⟩,asg 5 22]) (.skip))) (.seq (.reg [mv 23 5,⟨some 24,.binOp .neq T2 (.tmp 23) (.const (.int .u8 46)) T2,none⟩,mv 25 24,⟨some 26,.move (.tmp 5),some (2,true)⟩,⟨some 27,.binOp .neq T2 (.tmp 26) (.const (.int .u8 95)) T2,some (2,true)⟩,⟨some 28,.pick (.tmp 25) (.tmp 27) (.const (.bool false)),none⟩,mv 29 28,⟨some 30,.move (.tmp 5),some (6,true)⟩,⟨some 31,.binOp .neq T2 (.tmp 30) (.const (.int .u8 45)) T2,some (6,true)⟩,⟨some 32,.pick (.tmp 29) (.tmp 31) (.const (.bool false)),none⟩]) (.cond (.tmp 32) (.reg [mv 33 3,mv 34 5,⟨some 35,.buildSlice T3 1 #[(0,(.tmp 34))],none⟩,⟨some 36,.call ⟨.builtin .append,#[(.tmp 33),(.tmp 35)],#[T3,T3]⟩,none⟩,asg 3 36]) (.skip)))))) (.reg [mv 10 4,⟨some 11,.binOp .add T1 (.tmp 10) (.const (.int .i64 1)) T1,none⟩,asg 4 11])))))) (.seq (.block 2 (.loop (.seq (.seq (.reg [mv 37 3,lenOp 38 T3 37,⟨some 39,.binOp .gtr T1 (.tmp 38) (.const (.int .i64 0)) T1,none⟩,mv 40 39,⟨some 41,.move (.tmp 3),some (3,true)⟩,⟨some 42,.indexAddr T3 (.tmp 41) (.const (.int .i64 0)),some (3,true)⟩,⟨some 43,.load T2 (.tmp 42),some (3,true)⟩,⟨some 44,.call ⟨.value (.func F0),#[(.tmp 43)],#[]⟩,some (3,true)⟩,⟨some 45,.pick (.tmp 40) (.tmp 44) (.const (.bool false)),none⟩]) (.cond (.tmp 45) (.skip) (.exit 2))) (.block 3 (.reg [mv 46 3,⟨some 47,.slice T3 (.tmp 46) (some (.const (.int .i64 1))) none none,none⟩,asg 3 47]))))) (.seq (.block 4 (.loop (.seq (.seq (.reg [mv 48 3,lenOp 49 T3 48,⟨some 50,.binOp .gtr T1 (.tmp 49) (.const (.int .i64 0)) T1,none⟩,mv 51 50,⟨some 52,.move (.tmp 3),some (3,true)⟩,⟨some 53,.move (.tmp 3),some (3,true)⟩,⟨some 54,.call ⟨.builtin .len,#[(.tmp 53)],#[T3]⟩,some (3,true)⟩,⟨some 55,.binOp .sub T1 (.tmp 54) (.const (.int .i64 1)) T1,some (3,true)⟩,⟨some 56,.indexAddr T3 (.tmp 52) (.tmp 55),some (3,true)⟩,⟨some 57,.load T2 (.tmp 56),some (3,true)⟩,⟨some 58,.call ⟨.value (.func F0),#[(.tmp 57)],#[]⟩,some (3,true)⟩,⟨some 59,.pick (.tmp 51) (.tmp 58) (.const (.bool false)),none⟩]) (.cond (.tmp 59) (.skip) (.exit 4))) (.block 5 (.reg [mv 60 3,mv 61 3,lenOp 62 T3 61,⟨some 63,.binOp .sub T1 (.tmp 62) (.const (.int .i64 1)) T1,none⟩,⟨some 64,.slice T3 (.tmp 60) none (some (.tmp 63)) none,none⟩,asg 3 64]))))) (.seq (.reg [mv 65 3,⟨some 66,.convert T3 T0 (.tmp 65),none⟩,asg 2 66]) (.ret))))))
def keepB (c:UInt8):Bool:=c != 46 && (c != 95 && c != 45)
def squeeze (l:Bytes):Bytes:=(l.map Lib.lowerB).filter keepB
def normal (l:Bytes):Bytes:=Lib.trimSpace (squeeze l)
theorem blank_sp (c:UInt8):blankB c.toNat=Lib.isSp c:=by
  have h:∀ i:Fin 256,blankB i.val=Lib.isSp (UInt8.ofNat i.val):=by decide +kernel
  have:=h ⟨c.toNat,c.toNat_lt⟩
  simpa using this
theorem lower_eq (c:UInt8):(Lib.lowerB c).toNat=if 65≤c.toNat∧c.toNat≤90 then c.toNat+32 else c.toNat:=by
  have h:∀ i:Fin 256,(Lib.lowerB (UInt8.ofNat i.val)).toNat=if 65≤i.val∧i.val≤90 then i.val+32 else i.val:=by decide +kernel
  have:=h ⟨c.toNat,c.toNat_lt⟩
  simpa using this
theorem keep_eq (c:UInt8):keepB c=(decide (c.toNat ≠ 46) && (decide (c.toNat ≠ 95) && decide (c.toNat ≠ 45))):=by
  have h:∀ i:Fin 256,keepB (UInt8.ofNat i.val)=(decide (i.val ≠ 46) && (decide (i.val ≠ 95) && decide (i.val ≠ 45))):=by decide +kernel
  have:=h ⟨c.toNat,c.toNat_lt⟩
  simpa using this
section
variable {P:Program} {f:FuncId} {fn:Func}
theorem lowPiece {T2:Nat} {a:Act} {w:World} {Q:Exit→Act→World→Prop} {c:UInt8} (hs:a.tmps.size=67) (h5:getT a 5=.int .u8 (c.toNat:Int))
    (h:∀ a':Act,a'.tmps.size=67→a'.defers=a.defers→(∀ s,s < 5→getT a' s=getT a s)→getT a' 5=.int .u8 ((Lib.lowerB c).toNat:Int)→Q .normal a' w) :
    (SC.seq (.reg [mv 15 5,⟨some 16,.binOp .geq T2 (.tmp 15) (.const (.int .u8 65)) T2,none⟩,mv 17 16,⟨some 18,.move (.tmp 5),some (2,true)⟩,⟨some 19,.binOp .leq T2 (.tmp 18) (.const (.int .u8 90)) T2,some (2,true)⟩,⟨some 20,.pick (.tmp 17) (.tmp 19) (.const (.bool false)),none⟩]) (.cond (.tmp 20) (.reg [mv 21 5,⟨some 22,.binOp .add T2 (.tmp 21) (.const (.int .u8 32)) T2,none⟩,asg 5 22]) (.skip))).wp P Q a w:=by
  have hlt:=c.toNat_lt
  have hle:=lower_eq c
  generalize c.toNat=n at *
  refine SC.wp_seq (SC.wp_reg ?_)
  by_cases h65:65≤n
  · have i65:(65:Int)≤(n:Int):=by omega
    by_cases h90:n≤90
    · have i90:(n:Int)≤90:=by omega
      have ew:IntKind.u8.wrap ((n:Int)+32)=(n:Int)+32:=by rw [wrap_u8];omega
      repeat (first | (apply ops_1;(focus (simp (disch:=(try simp only [sPu]);omega) [h5,i65,i90,h65,h90];try rfl))) | (apply ops_y;(focus rfl);(focus ((try simp only [sPu]);omega));(focus (simp (disch:=(try simp only [sPu]);omega) [h5,i65,i90,h65,h90];done));(focus (simp (disch:=(try simp only [sPu]);omega) [h5,i65,i90,h65,h90];try rfl))) | (apply ops_n;(focus rfl);(focus ((try simp only [sPu]);omega));(focus (first | (left;simp (disch:=(try simp only [sPu]);omega) [h5,i65,i90,h65,h90];done) | (right;simp (disch:=(try simp only [sPu]);omega);done)))))
      refine oNi (SC.wp_cond (t:=true) (by simp (disch:=(try simp only [sPu]);omega)) ?_)
      rw [if_pos rfl]
      refine SC.wp_reg ?_
      repeat (first | (apply ops_1;(focus (simp (disch:=(try simp only [sPu]);omega) [h5,ew];try rfl))) | (apply ops_y;(focus rfl);(focus ((try simp only [sPu]);omega));(focus (simp (disch:=(try simp only [sPu]);omega) [h5,ew];done));(focus (simp (disch:=(try simp only [sPu]);omega) [h5,ew];try rfl))) | (apply ops_n;(focus rfl);(focus ((try simp only [sPu]);omega));(focus (first | (left;simp (disch:=(try simp only [sPu]);omega) [h5,ew];done) | (right;simp (disch:=(try simp only [sPu]);omega);done)))))
      refine oNi (h _ (by simp [sPu,hs]) (by simp [dPu]) (fun s hs'=>by simp (disch:=(try simp only [sPu]);omega)) ?_)
      rw [hle,if_pos ⟨h65,h90⟩]
      simp (disch:=(try simp only [sPu]);omega)
    · have i90:¬ (n:Int)≤90:=by omega
      repeat (first | (apply ops_1;(focus (simp (disch:=(try simp only [sPu]);omega) [h5,i65,i90,h65,h90];try rfl))) | (apply ops_y;(focus rfl);(focus ((try simp only [sPu]);omega));(focus (simp (disch:=(try simp only [sPu]);omega) [h5,i65,i90,h65,h90];done));(focus (simp (disch:=(try simp only [sPu]);omega) [h5,i65,i90,h65,h90];try rfl))) | (apply ops_n;(focus rfl);(focus ((try simp only [sPu]);omega));(focus (first | (left;simp (disch:=(try simp only [sPu]);omega) [h5,i65,i90,h65,h90];done) | (right;simp (disch:=(try simp only [sPu]);omega);done)))))
      refine oNi (SC.wp_cond (t:=false) (by simp (disch:=(try simp only [sPu]);omega)) ?_)
      rw [if_neg (by simp)]
      refine SC.wp_skip (h _ (by simp [sPu,hs]) (by simp [dPu]) (fun s hs'=>by simp (disch:=(try simp only [sPu]);omega)) ?_)
      rw [hle,if_neg (by omega)]
      simp (disch:=(try simp only [sPu]);omega) [h5]
  · have i65:¬ (65:Int)≤(n:Int):=by omega
    repeat (first | (apply ops_1;(focus (simp (disch:=(try simp only [sPu]);omega) [h5,i65,h65];try rfl))) | (apply ops_y;(focus rfl);(focus ((try simp only [sPu]);omega));(focus (simp (disch:=(try simp only [sPu]);omega) [h5,i65,h65];done));(focus (simp (disch:=(try simp only [sPu]);omega) [h5,i65,h65];try rfl))) | (apply ops_n;(focus rfl);(focus ((try simp only [sPu]);omega));(focus (first | (left;simp (disch:=(try simp only [sPu]);omega) [h5,i65,h65];done) | (right;simp (disch:=(try simp only [sPu]);omega);done)))))
    refine oNi (SC.wp_cond (t:=false) (by simp (disch:=(try simp only [sPu]);omega)) ?_)
    rw [if_neg (by simp)]
    refine SC.wp_skip (h _ (by simp [sPu,hs]) (by simp [dPu]) (fun s hs'=>by simp (disch:=(try simp only [sPu]);omega)) ?_)
    rw [hle,if_neg (by omega)]
    simp (disch:=(try simp only [sPu]);omega) [h5]
end
end Go.Proofs.YtecdefhecaeclaaDoor.K
namespace Go.Proofs.YtecdefhecaeclaaDoor.K
open Go Go.RowKit Go.Proofs.YtecdefhecaeclaaDoor.T
attribute [local simp] eTm eCo pNo gTp gTn qv qcall vop iop
set_option linter.unusedSimpArgs false
set_option linter.unusedVariables false
set_option maxHeartbeats 2000000
def Tr (w:World) (S:Option Nat) (v:Value) (xs:Bytes):Prop:=∃ base cap,v=.slice base xs.length cap∧xs.length≤cap∧SrcAt w S base xs
def BlankC (P:Program) (F:FuncId):Prop:=FnOK P F∧∀ (w:World) (n:Nat),Calls P F #[.int .u8 (n:Int)] w fun e w'=>e=.returned (.bool (blankB n))∧w'=w
theorem squeeze_step {l:Bytes} {j:Nat} (hj:j < l.length):squeeze (l.take (j+1))=squeeze (l.take j) ++ (if keepB (Lib.lowerB l[j])=true then [Lib.lowerB l[j]] else []):=by
  unfold squeeze
  rw [List.take_add_one,List.getElem?_eq_getElem hj,List.map_append,List.filter_append]
  congr 1
  simp only [Option.toList_some,List.map_cons,List.map_nil]
  cases h:keepB (Lib.lowerB l[j]) <;> simp [h]
theorem squeeze_len (l:Bytes):(squeeze l).length≤l.length:=by
  unfold squeeze
  exact Nat.le_trans (List.length_filter_le _ _) (by rw [List.length_map];exact Nat.le_refl _)
section
variable {P:Program} {f:FuncId} {fn:Func}
theorem keepPiece {T2:Nat} {a:Act} {w:World} {A B:SC} {Q:Exit→Act→World→Prop} {c:UInt8} (hs:a.tmps.size=67) (h5:getT a 5=.int .u8 (c.toNat:Int))
    (h:∀ a':Act,a'.tmps.size=67→a'.defers=a.defers→(∀ s,s < 6→getT a' s=getT a s)→(if keepB c=true then A else B).wp P Q a' w) :
    (SC.seq (.reg [mv 23 5,⟨some 24,.binOp .neq T2 (.tmp 23) (.const (.int .u8 46)) T2,none⟩,mv 25 24,⟨some 26,.move (.tmp 5),some (2,true)⟩,⟨some 27,.binOp .neq T2 (.tmp 26) (.const (.int .u8 95)) T2,some (2,true)⟩,⟨some 28,.pick (.tmp 25) (.tmp 27) (.const (.bool false)),none⟩,mv 29 28,⟨some 30,.move (.tmp 5),some (6,true)⟩,⟨some 31,.binOp .neq T2 (.tmp 30) (.const (.int .u8 45)) T2,some (6,true)⟩,⟨some 32,.pick (.tmp 29) (.tmp 31) (.const (.bool false)),none⟩]) (.cond (.tmp 32) A B)).wp P Q a w:=by
  have hlt:=c.toNat_lt
  have hle:=keep_eq c
  generalize c.toNat=n at *
  refine SC.wp_seq (SC.wp_reg ?_)
  by_cases h1:n=46
  · have e1:(((n:Int) != 46):Bool)=false:=by subst h1;rfl
    have ek:keepB c=false:=by rw [hle];simp [h1]
    rw [ek] at h
    repeat (first | (apply ops_1;(focus (simp (disch:=(try simp only [sPu]);omega) [h5,e1];try rfl))) | (apply ops_y;(focus rfl);(focus ((try simp only [sPu]);omega));(focus (simp (disch:=(try simp only [sPu]);omega) [h5,e1];done));(focus (simp (disch:=(try simp only [sPu]);omega) [h5,e1];try rfl))) | (apply ops_n;(focus rfl);(focus ((try simp only [sPu]);omega));(focus (first | (left;simp (disch:=(try simp only [sPu]);omega) [h5,e1];done) | (right;simp (disch:=(try simp only [sPu]);omega);done)))))
    refine oNi (SC.wp_cond (t:=false) (by simp (disch:=(try simp only [sPu]);omega)) ?_)
    exact h _ (by simp [sPu,hs]) (by simp [dPu]) (fun s hs'=>by simp (disch:=(try simp only [sPu]);omega))
  · have e1:(((n:Int) != 46):Bool)=true:=by simp;omega
    by_cases h2:n=95
    · have e2:(((n:Int) != 95):Bool)=false:=by subst h2;rfl
      have ek:keepB c=false:=by rw [hle];simp [h1,h2]
      rw [ek] at h
      repeat (first | (apply ops_1;(focus (simp (disch:=(try simp only [sPu]);omega) [h5,e1,e2];try rfl))) | (apply ops_y;(focus rfl);(focus ((try simp only [sPu]);omega));(focus (simp (disch:=(try simp only [sPu]);omega) [h5,e1,e2];done));(focus (simp (disch:=(try simp only [sPu]);omega) [h5,e1,e2];try rfl))) | (apply ops_n;(focus rfl);(focus ((try simp only [sPu]);omega));(focus (first | (left;simp (disch:=(try simp only [sPu]);omega) [h5,e1,e2];done) | (right;simp (disch:=(try simp only [sPu]);omega);done)))))
      refine oNi (SC.wp_cond (t:=false) (by simp (disch:=(try simp only [sPu]);omega)) ?_)
      exact h _ (by simp [sPu,hs]) (by simp [dPu]) (fun s hs'=>by simp (disch:=(try simp only [sPu]);omega))
    · have e2:(((n:Int) != 95):Bool)=true:=by simp;omega
      have e3:(((n:Int) != 45):Bool)=keepB c:=by
        rw [hle,Bool.eq_iff_iff]
        simp only [Bool.and_eq_true,decide_eq_true_eq,bne_iff_ne,ne_eq]
        omega
      repeat (first | (apply ops_1;(focus (simp (disch:=(try simp only [sPu]);omega) [h5,e1,e2,e3];try rfl))) | (apply ops_y;(focus rfl);(focus ((try simp only [sPu]);omega));(focus (simp (disch:=(try simp only [sPu]);omega) [h5,e1,e2,e3];done));(focus (simp (disch:=(try simp only [sPu]);omega) [h5,e1,e2,e3];try rfl))) | (apply ops_n;(focus rfl);(focus ((try simp only [sPu]);omega));(focus (first | (left;simp (disch:=(try simp only [sPu]);omega) [h5,e1,e2,e3];done) | (right;simp (disch:=(try simp only [sPu]);omega);done)))))
      refine oNi (SC.wp_cond (t:=keepB c) (by simp (disch:=(try simp only [sPu]);omega)) ?_)
      exact h _ (by simp [sPu,hs]) (by simp [dPu]) (fun s hs'=>by simp (disch:=(try simp only [sPu]);omega))
theorem Tr.cons {w:World} {S:Option Nat} {v:Value} {c:UInt8} {r:Bytes} (h:Tr w S v (c :: r)):∃ sb o cap,v=.slice (some ⟨sb,o,none⟩) (r.length+1) cap∧w.cell? ⟨sb,o,none⟩=some (cell c)∧Tr w S (sliceLo (some ⟨sb,o,none⟩) (r.length+1) cap 1) r:=by
  obtain ⟨base,cap,rfl,hc,hs⟩:=h
  have hd:=hs.drop (n:=1) (by simp) hc
  cases S with
  | none =>
    obtain ⟨_,h⟩:=hs
    cases h
  | some sb =>
    obtain ⟨o,rfl,hs⟩:=hs
    refine ⟨sb,o,cap,rfl,hs 0 c rfl,_,cap - 1,rfl,?_,hd⟩
    rw [List.length_cons] at hc
    omega
theorem Tr.last {w:World} {S:Option Nat} {v:Value} {c:UInt8} {r:Bytes} (h:Tr w S v (r ++ [c])):∃ sb o cap,v=.slice (some ⟨sb,o,none⟩) (r.length+1) cap∧r.length+1≤cap∧w.cell? ⟨sb,o+r.length,none⟩=some (cell c)∧Tr w S (.slice (some ⟨sb,o,none⟩) r.length cap) r:=by
  obtain ⟨base,cap,rfl,hc,hs⟩:=h
  rw [List.length_append,List.length_singleton] at hc ⊢
  cases S with
  | none =>
    obtain ⟨_,h⟩:=hs
    simp at h
  | some sb =>
    obtain ⟨o,rfl,hs⟩:=hs
    refine ⟨sb,o,cap,rfl,hc,hs r.length c (by simp),_,cap,rfl,by omega,o,rfl,fun j u hu=>hs j u ?_⟩
    rw [List.getElem?_append_left (by exact (List.getElem?_eq_some_iff.1 hu).1)]
    exact hu
theorem own_src3 {tU8:Nat} {w:World} {B:Nat} {dv:Value} {xs:Bytes} (h:Own tU8 w B dv xs):∃ S base cap,dv=.slice base xs.length cap∧xs.length≤cap∧SrcAt w S base xs∧∀ sb,S=some sb→B≤sb∧sb < w.heap.size:=by
  obtain ⟨S,base,cap,rfl,q1,q2⟩:=own_src h
  refine ⟨S,base,cap,rfl,?_,q1,q2⟩
  obtain ⟨-,⟨e1,e2⟩ | ⟨g,c3,cur,e1,e2,e3,e4,-⟩⟩:=h
  · rw [e2];exact Nat.zero_le _
  · cases e1;exact e4
theorem Tr.of_own {tU8:Nat} {w:World} {B:Nat} {v:Value} {xs:Bytes} (h:Own tU8 w B v xs):∃ S,Tr w S v xs:=by
  obtain ⟨S,base,cap,rfl,hc,hs,_⟩:=own_src3 h
  exact ⟨S,base,cap,rfl,hc,hs⟩
theorem headLoop {T1 T2 T3 F0:Nat} (h1:oneB P T2=true) (hN:sliceN P T3=some 1) (cB:BlankC P F0) {a:Act} {w:World} {Q:Exit→Act→World→Prop} {S:Option Nat} {xs:Bytes} (hs:a.tmps.size=67) (hd:a.defers=[]) (hx:Tr w S (getT a 3) xs) (hl:xs.length≤lim)
    (h:∀ a':Act,a'.tmps.size=67→a'.defers=[]→Tr w S (getT a' 3) (xs.dropWhile Lib.isSp)→Q .normal a' w) :
    (SC.block 2 (.loop (.seq (.seq (.reg [mv 37 3,lenOp 38 T3 37,⟨some 39,.binOp .gtr T1 (.tmp 38) (.const (.int .i64 0)) T1,none⟩,mv 40 39,⟨some 41,.move (.tmp 3),some (3,true)⟩,⟨some 42,.indexAddr T3 (.tmp 41) (.const (.int .i64 0)),some (3,true)⟩,⟨some 43,.load T2 (.tmp 42),some (3,true)⟩,⟨some 44,.call ⟨.value (.func F0),#[(.tmp 43)],#[]⟩,some (3,true)⟩,⟨some 45,.pick (.tmp 40) (.tmp 44) (.const (.bool false)),none⟩]) (.cond (.tmp 45) (.skip) (.exit 2))) (.block 3 (.reg [mv 46 3,⟨some 47,.slice T3 (.tmp 46) (some (.const (.int .i64 1))) none none,none⟩,asg 3 47]))))).wp P Q a w:=by
  have hlim:lim=70368744177664:=rfl
  refine SC.wp_block (SC.wp_loop (fun a4 w5=>∃ ys:Bytes,a4.tmps.size=67∧a4.defers=[]∧Tr w S (getT a4 3) ys∧ys.dropWhile Lib.isSp=xs.dropWhile Lib.isSp∧ys.length≤xs.length∧w5=w)
    (fun a4 _=>match getT a4 3 with | .slice _ n _=>n | _=>0) ⟨xs,hs,hd,hx,rfl,Nat.le_refl _,rfl⟩ ?_)
  rintro a4 w5 ⟨ys,q,qd,qx,qe,ql,rfl⟩
  refine SC.wp_seq (SC.wp_seq (SC.wp_reg ?_))
  cases ys with
  | nil =>
    have qx':=qx
    obtain ⟨base,cap,q3,_,_⟩:=qx'
    simp only [List.length_nil] at q3
    repeat (first | (apply ops_1;(focus (simp (disch:=(try simp only [sPu]);omega) [q3,hN];try rfl))) | (apply ops_y;(focus rfl);(focus ((try simp only [sPu]);omega));(focus (simp (disch:=(try simp only [sPu]);omega) [q3,hN];done));(focus (simp (disch:=(try simp only [sPu]);omega) [q3,hN];try rfl))) | (apply ops_n;(focus rfl);(focus ((try simp only [sPu]);omega));(focus (first | (left;simp (disch:=(try simp only [sPu]);omega) [q3,hN];done) | (right;simp (disch:=(try simp only [sPu]);omega);done)))))
    refine oNi (SC.wp_cond (t:=false) (by simp (disch:=(try simp only [sPu]);omega)) ?_)
    rw [if_neg (by simp)]
    refine SC.wp_exit ?_
    simp only [Exit.then,Exit.inBlock,if_true]
    refine h _ (by simp [sPu,q]) (by simp [dPu,qd]) ?_
    rw [← qe]
    simp (disch:=(try simp only [sPu]);omega)
    exact qx
  | cons c r =>
    have qx':=qx
    obtain ⟨sb,o,cap,q3,hc,htr⟩:=qx.cons
    rw [List.length_cons] at ql
    have e1:(0:Int) < (r.length:Int)+1:=by omega
    have e2:0 < r.length+1:=by omega
    iterate 7 (first | (apply ops_1;(focus (simp (disch:=(try simp only [sPu]);omega) [q3,hN,e1,e2,h1,hc];try rfl))) | (apply ops_y;(focus rfl);(focus ((try simp only [sPu]);omega));(focus (simp (disch:=(try simp only [sPu]);omega) [q3,hN,e1,e2,h1,hc];done));(focus (simp (disch:=(try simp only [sPu]);omega) [q3,hN,e1,e2,h1,hc];try rfl))) | (apply ops_n;(focus rfl);(focus ((try simp only [sPu]);omega));(focus (first | (left;simp (disch:=(try simp only [sPu]);omega) [q3,hN,e1,e2,h1,hc];done) | (right;simp (disch:=(try simp only [sPu]);omega);done)))))
    refine ops_callg (dj:=40) rfl (by (try simp only [sPu]);omega) (by simp (disch:=(try simp only [sPu]);omega)) cB.1 (cB.2 w5 c.toNat) (by simp (disch:=(try simp only [sPu]);omega) [cell]) ?_
    rintro e w6 ⟨rfl,rfl⟩
    refine ⟨_,rfl,?_⟩
    repeat (first | (apply ops_1;(focus (simp (disch:=(try simp only [sPu]);omega) ;try rfl))) | (apply ops_y;(focus rfl);(focus ((try simp only [sPu]);omega));(focus (simp (disch:=(try simp only [sPu]);omega);done));(focus (simp (disch:=(try simp only [sPu]);omega) ;try rfl))) | (apply ops_n;(focus rfl);(focus ((try simp only [sPu]);omega));(focus (first | (left;simp (disch:=(try simp only [sPu]);omega);done) | (right;simp (disch:=(try simp only [sPu]);omega);done)))))
    refine oNi (SC.wp_cond (t:=blankB c.toNat) (by simp (disch:=(try simp only [sPu]);omega)) ?_)
    rw [blank_sp]
    cases hsp:Lib.isSp c
    · rw [if_neg (by simp)]
      refine SC.wp_exit ?_
      simp only [Exit.then,Exit.inBlock,if_true]
      refine h _ (by simp [sPu,q]) (by simp [dPu,qd]) ?_
      rw [← qe]
      have e3:(c :: r).dropWhile Lib.isSp=c :: r:=by simp [List.dropWhile,hsp]
      rw [e3]
      simp (disch:=(try simp only [sPu]);omega)
      exact qx
    · rw [if_pos rfl]
      refine SC.wp_skip ?_
      simp only [Exit.then]
      refine SC.wp_block (SC.wp_reg ?_)
      iterate 1 (first | (apply ops_1;(focus (simp (disch:=(try simp only [sPu]);omega) [q3];try rfl))) | (apply ops_y;(focus rfl);(focus ((try simp only [sPu]);omega));(focus (simp (disch:=(try simp only [sPu]);omega) [q3];done));(focus (simp (disch:=(try simp only [sPu]);omega) [q3];try rfl))) | (apply ops_n;(focus rfl);(focus ((try simp only [sPu]);omega));(focus (first | (left;simp (disch:=(try simp only [sPu]);omega) [q3];done) | (right;simp (disch:=(try simp only [sPu]);omega);done)))))
      refine oNo rfl (opw_sliceLo (n:=1) (len:=r.length+1) (cap:=cap) (base:=some ⟨sb,o,none⟩) (k:=.i64) hN (by simp (disch:=(try simp only [sPu]);omega) [q3]) (by simp (disch:=(try simp only [sPu]);omega)) (by omega) ?_)
      repeat (first | (apply ops_1;(focus (simp (disch:=(try simp only [sPu]);omega) ;try rfl))) | (apply ops_y;(focus rfl);(focus ((try simp only [sPu]);omega));(focus (simp (disch:=(try simp only [sPu]);omega);done));(focus (simp (disch:=(try simp only [sPu]);omega) ;try rfl))) | (apply ops_n;(focus rfl);(focus ((try simp only [sPu]);omega));(focus (first | (left;simp (disch:=(try simp only [sPu]);omega);done) | (right;simp (disch:=(try simp only [sPu]);omega);done)))))
      refine oNi ?_
      simp only [Exit.inBlock,Exit.then]
      refine ⟨⟨r,by simp [sPu,q],by simp [dPu,qd],by simp (disch:=(try simp only [sPu]);omega);exact htr,by rw [← qe];simp [List.dropWhile,hsp],by omega,by first | rfl | trivial⟩,?_⟩
      rw [q3]
      simp (disch:=(try simp only [sPu]);omega) [sliceLo]
theorem tailLoop {T1 T2 T3 F0:Nat} (h1:oneB P T2=true) (hN:sliceN P T3=some 1) (cB:BlankC P F0) {a:Act} {w:World} {Q:Exit→Act→World→Prop} {S:Option Nat} {xs:Bytes} (hs:a.tmps.size=67) (hd:a.defers=[]) (hx:Tr w S (getT a 3) xs) (hl:xs.length≤lim)
    (h:∀ a':Act,a'.tmps.size=67→a'.defers=[]→Tr w S (getT a' 3) (xs.reverse.dropWhile Lib.isSp).reverse→Q .normal a' w) :
    (SC.block 4 (.loop (.seq (.seq (.reg [mv 48 3,lenOp 49 T3 48,⟨some 50,.binOp .gtr T1 (.tmp 49) (.const (.int .i64 0)) T1,none⟩,mv 51 50,⟨some 52,.move (.tmp 3),some (3,true)⟩,⟨some 53,.move (.tmp 3),some (3,true)⟩,⟨some 54,.call ⟨.builtin .len,#[(.tmp 53)],#[T3]⟩,some (3,true)⟩,⟨some 55,.binOp .sub T1 (.tmp 54) (.const (.int .i64 1)) T1,some (3,true)⟩,⟨some 56,.indexAddr T3 (.tmp 52) (.tmp 55),some (3,true)⟩,⟨some 57,.load T2 (.tmp 56),some (3,true)⟩,⟨some 58,.call ⟨.value (.func F0),#[(.tmp 57)],#[]⟩,some (3,true)⟩,⟨some 59,.pick (.tmp 51) (.tmp 58) (.const (.bool false)),none⟩]) (.cond (.tmp 59) (.skip) (.exit 4))) (.block 5 (.reg [mv 60 3,mv 61 3,lenOp 62 T3 61,⟨some 63,.binOp .sub T1 (.tmp 62) (.const (.int .i64 1)) T1,none⟩,⟨some 64,.slice T3 (.tmp 60) none (some (.tmp 63)) none,none⟩,asg 3 64]))))).wp P Q a w:=by
  have hlim:lim=70368744177664:=rfl
  refine SC.wp_block (SC.wp_loop (fun a4 w5=>∃ ys:Bytes,a4.tmps.size=67∧a4.defers=[]∧Tr w S (getT a4 3) ys∧ys.reverse.dropWhile Lib.isSp=xs.reverse.dropWhile Lib.isSp∧ys.length≤xs.length∧w5=w)
    (fun a4 _=>match getT a4 3 with | .slice _ n _=>n | _=>0) ⟨xs,hs,hd,hx,rfl,Nat.le_refl _,rfl⟩ ?_)
  rintro a4 w5 ⟨ys,q,qd,qx,qe,ql,rfl⟩
  refine SC.wp_seq (SC.wp_seq (SC.wp_reg ?_))
  rcases List.eq_nil_or_concat ys with rfl | ⟨r,c,rfl⟩
  · have qx':=qx
    obtain ⟨base,cap,q3,_,_⟩:=qx'
    simp only [List.length_nil] at q3
    repeat (first | (apply ops_1;(focus (simp (disch:=(try simp only [sPu]);omega) [q3,hN];try rfl))) | (apply ops_y;(focus rfl);(focus ((try simp only [sPu]);omega));(focus (simp (disch:=(try simp only [sPu]);omega) [q3,hN];done));(focus (simp (disch:=(try simp only [sPu]);omega) [q3,hN];try rfl))) | (apply ops_n;(focus rfl);(focus ((try simp only [sPu]);omega));(focus (first | (left;simp (disch:=(try simp only [sPu]);omega) [q3,hN];done) | (right;simp (disch:=(try simp only [sPu]);omega);done)))))
    refine oNi (SC.wp_cond (t:=false) (by simp (disch:=(try simp only [sPu]);omega)) ?_)
    rw [if_neg (by simp)]
    refine SC.wp_exit ?_
    simp only [Exit.then,Exit.inBlock,if_true]
    refine h _ (by simp [sPu,q]) (by simp [dPu,qd]) ?_
    rw [← qe]
    simp (disch:=(try simp only [sPu]);omega)
    exact qx
  · rw [List.concat_eq_append] at *
    obtain ⟨sb,o,cap,q3,hcap,hc,htr⟩:=qx.last
    rw [List.length_append,List.length_singleton] at ql
    have e1:(0:Int) < (r.length:Int)+1:=by omega
    have e2:r.length < r.length+1:=by omega
    have ew:IntKind.i64.wrap ((r.length:Int))=(r.length:Int):=by rw [wrap_i64'];split <;> omega
    have ec:((r.length:Int)+1 - 1)=(r.length:Int):=by omega
    have ei:(r.length:Int) < (r.length:Int)+1:=by omega
    iterate 10 (first | (apply ops_1;(focus (simp (disch:=(try simp only [sPu]);omega) [q3,hN,e1,e2,ec,ew,h1,hc,ei];try rfl))) | (apply ops_y;(focus rfl);(focus ((try simp only [sPu]);omega));(focus (simp (disch:=(try simp only [sPu]);omega) [q3,hN,e1,e2,ec,ew,h1,hc,ei];done));(focus (simp (disch:=(try simp only [sPu]);omega) [q3,hN,e1,e2,ec,ew,h1,hc,ei];try rfl))) | (apply ops_n;(focus rfl);(focus ((try simp only [sPu]);omega));(focus (first | (left;simp (disch:=(try simp only [sPu]);omega) [q3,hN,e1,e2,ec,ew,h1,hc,ei];done) | (right;simp (disch:=(try simp only [sPu]);omega);done)))))
    refine ops_callg (dj:=51) rfl (by (try simp only [sPu]);omega) (by simp (disch:=(try simp only [sPu]);omega)) cB.1 (cB.2 w5 c.toNat) (by simp (disch:=(try simp only [sPu]);omega) [cell]) ?_
    rintro e w6 ⟨rfl,rfl⟩
    refine ⟨_,rfl,?_⟩
    repeat (first | (apply ops_1;(focus (simp (disch:=(try simp only [sPu]);omega) ;try rfl))) | (apply ops_y;(focus rfl);(focus ((try simp only [sPu]);omega));(focus (simp (disch:=(try simp only [sPu]);omega);done));(focus (simp (disch:=(try simp only [sPu]);omega) ;try rfl))) | (apply ops_n;(focus rfl);(focus ((try simp only [sPu]);omega));(focus (first | (left;simp (disch:=(try simp only [sPu]);omega);done) | (right;simp (disch:=(try simp only [sPu]);omega);done)))))
    refine oNi (SC.wp_cond (t:=blankB c.toNat) (by simp (disch:=(try simp only [sPu]);omega)) ?_)
    rw [blank_sp]
    cases hsp:Lib.isSp c
    · rw [if_neg (by simp)]
      refine SC.wp_exit ?_
      simp only [Exit.then,Exit.inBlock,if_true]
      refine h _ (by simp [sPu,q]) (by simp [dPu,qd]) ?_
      rw [← qe]
      have e3:(r ++ [c]).reverse.dropWhile Lib.isSp=(r ++ [c]).reverse:=by simp [List.dropWhile,hsp]
      rw [e3,List.reverse_reverse]
      simp (disch:=(try simp only [sPu]);omega)
      exact qx
    · rw [if_pos rfl]
      refine SC.wp_skip ?_
      simp only [Exit.then]
      refine SC.wp_block (SC.wp_reg ?_)
      have ecap:(r.length:Int)≤(cap:Int):=by omega
      have ecap2:r.length≤cap:=by omega
      repeat (first | (apply ops_1;(focus (simp (disch:=(try simp only [sPu]);omega) [q3,hN,ec,ew,ecap,ecap2];try rfl))) | (apply ops_y;(focus rfl);(focus ((try simp only [sPu]);omega));(focus (simp (disch:=(try simp only [sPu]);omega) [q3,hN,ec,ew,ecap,ecap2];done));(focus (simp (disch:=(try simp only [sPu]);omega) [q3,hN,ec,ew,ecap,ecap2];try rfl))) | (apply ops_n;(focus rfl);(focus ((try simp only [sPu]);omega));(focus (first | (left;simp (disch:=(try simp only [sPu]);omega) [q3,hN,ec,ew,ecap,ecap2];done) | (right;simp (disch:=(try simp only [sPu]);omega);done)))))
      refine oNi ?_
      simp only [Exit.inBlock,Exit.then]
      refine ⟨⟨r,by simp [sPu,q],by simp [dPu,qd],by simp (disch:=(try simp only [sPu]);omega);exact htr,by rw [← qe];simp [List.dropWhile,hsp],by omega,by first | rfl | trivial⟩,?_⟩
      rw [q3]
      simp (disch:=(try simp only [sPu]);omega)
theorem normal_ok {T0 T1 T2 T3 F0:Nat} (hst:strB P T0=true) (h1:oneB P T2=true) (h2:u8sB P T3 T2=true) (hN:sliceN P T3=some 1) (hbs:bstrB P T3 T0=true) (cB:BlankC P F0) (hf:P.funcs[f]?=some fn) (hb:fn.body.map strip=some (sc_Normal T0 T1 T2 T3 F0)) (hn:fn.ntmps=67) (hr:fn.results=#[.tmp 2]) (w:World) (l:Bytes) (hl:l.length≤1048576) :
    Calls P f #[.string ⟨l.toArray⟩] w fun e w'=>e=.returned (.string ⟨(normal l).toArray⟩)∧Below w.heap.size w w':=by
  have hlim:lim=70368744177664:=rfl
  refine fCa hf hb hn (by simp) fun a0 hs hd ha=>?_
  have u0:=ha 0 _ rfl
  simp only [List.getElem_toArray,List.getElem_cons_zero,List.getElem_cons_succ] at u0
  refine SC.wp_seq (SC.wp_reg ?_)
  repeat (first | (apply ops_1;(focus (simp (disch:=(try simp only [sPu]);omega) ;try rfl))) | (apply ops_y;(focus rfl);(focus ((try simp only [sPu]);omega));(focus (simp (disch:=(try simp only [sPu]);omega);done));(focus (simp (disch:=(try simp only [sPu]);omega) ;try rfl))) | (apply ops_n;(focus rfl);(focus ((try simp only [sPu]);omega));(focus (first | (left;simp (disch:=(try simp only [sPu]);omega);done) | (right;simp (disch:=(try simp only [sPu]);omega);done)))))
  refine oNi (SC.wp_seq (SC.wp_reg ?_))
  repeat (first | (apply ops_1;(focus (simp (disch:=(try simp only [sPu]);omega) ;try rfl))) | (apply ops_y;(focus rfl);(focus ((try simp only [sPu]);omega));(focus (simp (disch:=(try simp only [sPu]);omega);done));(focus (simp (disch:=(try simp only [sPu]);omega) ;try rfl))) | (apply ops_n;(focus rfl);(focus ((try simp only [sPu]);omega));(focus (first | (left;simp (disch:=(try simp only [sPu]);omega);done) | (right;simp (disch:=(try simp only [sPu]);omega);done)))))
  refine oNi (SC.wp_seq (SC.wp_seq (SC.wp_reg ?_)))
  repeat (first | (apply ops_1;(focus (simp (disch:=(try simp only [sPu]);omega) ;try rfl))) | (apply ops_y;(focus rfl);(focus ((try simp only [sPu]);omega));(focus (simp (disch:=(try simp only [sPu]);omega);done));(focus (simp (disch:=(try simp only [sPu]);omega) ;try rfl))) | (apply ops_n;(focus rfl);(focus ((try simp only [sPu]);omega));(focus (first | (left;simp (disch:=(try simp only [sPu]);omega);done) | (right;simp (disch:=(try simp only [sPu]);omega);done)))))
  refine oNi ?_
  simp only [Exit.then]
  refine SC.wp_block (SC.wp_loop (fun a4 w5=>∃ j:Nat,a4.tmps.size=67∧a4.defers=[]∧getT a4 0=.string ⟨l.toArray⟩∧getT a4 4=.int .i64 (j:Int)∧j≤l.length∧Own T2 w5 w.heap.size (getT a4 3) (squeeze (l.take j))∧Below w.heap.size w w5)
    (fun a4 _=>match getT a4 4 with | .int _ m=>(l.length - m).toNat | _=>0) ⟨0,by simp [sPu,hs],by simp [dPu,hd],by simp (disch:=(try simp only [sPu]);omega) [u0],by simp (disch:=(try simp only [sPu]);omega),by omega,by simp (disch:=(try simp only [sPu]);omega);exact own_nil _ _ _,Below.refl _ _⟩ ?_)
  rintro a4 w5 ⟨j,q,qd,q0,q4,hj,ho,hb5⟩
  have hs5:=hb5.size
  have ew:IntKind.i64.wrap ((j:Int)+1)=((j:Int)+1):=by rw [wrap_i64'];split <;> omega
  refine SC.wp_seq (SC.wp_seq (SC.wp_reg ?_))
  repeat (first | (apply ops_1;(focus (simp (disch:=(try simp only [sPu]);omega) [q0,q4,hst];try rfl))) | (apply ops_y;(focus rfl);(focus ((try simp only [sPu]);omega));(focus (simp (disch:=(try simp only [sPu]);omega) [q0,q4,hst];done));(focus (simp (disch:=(try simp only [sPu]);omega) [q0,q4,hst];try rfl))) | (apply ops_n;(focus rfl);(focus ((try simp only [sPu]);omega));(focus (first | (left;simp (disch:=(try simp only [sPu]);omega) [q0,q4,hst];done) | (right;simp (disch:=(try simp only [sPu]);omega);done)))))
  refine oNi (SC.wp_cond (t:=decide ((j:Int) < (l.length:Int))) (by simp (disch:=(try simp only [sPu]);omega)) ?_)
  by_cases hjl:j < l.length
  · have e1:decide ((j:Int) < (l.length:Int))=true:=by simp;omega
    rw [e1,if_pos rfl]
    refine SC.wp_skip ?_
    simp only [Exit.then]
    refine SC.wp_seq (SC.wp_block (SC.wp_seq (SC.wp_reg ?_)))
    iterate 2 (first | (apply ops_1;(focus (simp (disch:=(try simp only [sPu]);omega) [q0,q4];try rfl))) | (apply ops_y;(focus rfl);(focus ((try simp only [sPu]);omega));(focus (simp (disch:=(try simp only [sPu]);omega) [q0,q4];done));(focus (simp (disch:=(try simp only [sPu]);omega) [q0,q4];try rfl))) | (apply ops_n;(focus rfl);(focus ((try simp only [sPu]);omega));(focus (first | (left;simp (disch:=(try simp only [sPu]);omega) [q0,q4];done) | (right;simp (disch:=(try simp only [sPu]);omega);done)))))
    refine oNo rfl (opw_sidx (l:=l) (j:=j) (k:=.i64) hst (by simp (disch:=(try simp only [sPu]);omega) [q0]) (by simp (disch:=(try simp only [sPu]);omega) [q4]) (List.getElem?_eq_getElem hjl) ?_)
    repeat (first | (apply ops_1;(focus (simp (disch:=(try simp only [sPu]);omega) ;try rfl))) | (apply ops_y;(focus rfl);(focus ((try simp only [sPu]);omega));(focus (simp (disch:=(try simp only [sPu]);omega);done));(focus (simp (disch:=(try simp only [sPu]);omega) ;try rfl))) | (apply ops_n;(focus rfl);(focus ((try simp only [sPu]);omega));(focus (first | (left;simp (disch:=(try simp only [sPu]);omega);done) | (right;simp (disch:=(try simp only [sPu]);omega);done)))))
    refine oNi ?_
    simp only [Exit.then]
    refine SC.wp_seq (lowPiece (c:=l[j]) (by simp [sPu,q]) (by simp (disch:=(try simp only [sPu]);omega)) fun a6 e6 ed6 ek6 e65=>?_)
    have g0:getT a6 0=.string ⟨l.toArray⟩:=by rw [ek6 0 (by omega)];simp (disch:=(try simp only [sPu]);omega) [q0]
    have g4:getT a6 4=.int .i64 (j:Int):=by rw [ek6 4 (by omega)];simp (disch:=(try simp only [sPu]);omega) [q4]
    have g3:getT a6 3=getT a4 3:=by rw [ek6 3 (by omega)];simp (disch:=(try simp only [sPu]);omega)
    have gd:a6.defers=[]:=by rw [ed6];simp [dPu,qd]
    simp only [Exit.then]
    refine keepPiece (c:=Lib.lowerB l[j]) e6 e65 fun a7 e7 ed7 ek7=>?_
    have m0:getT a7 0=.string ⟨l.toArray⟩:=by rw [ek7 0 (by omega)];exact g0
    have m4:getT a7 4=.int .i64 (j:Int):=by rw [ek7 4 (by omega)];exact g4
    have m3:getT a7 3=getT a4 3:=by rw [ek7 3 (by omega)];exact g3
    have m5:getT a7 5=.int .u8 ((Lib.lowerB l[j]).toNat:Int):=by rw [ek7 5 (by omega)];exact e65
    have md:a7.defers=[]:=by rw [ed7];exact gd
    have hst2:=squeeze_step hjl
    have hql:=squeeze_len (l.take j)
    rw [List.length_take] at hql
    cases hk:keepB (Lib.lowerB l[j])
    · rw [hk] at hst2
      rw [if_neg (by simp)]
      rw [if_neg (by simp),List.append_nil] at hst2
      refine SC.wp_skip ?_
      simp only [Exit.then,Exit.inBlock]
      refine SC.wp_reg ?_
      repeat (first | (apply ops_1;(focus (simp (disch:=(try simp only [sPu]);omega) [m4,ew];try rfl))) | (apply ops_y;(focus rfl);(focus ((try simp only [sPu]);omega));(focus (simp (disch:=(try simp only [sPu]);omega) [m4,ew];done));(focus (simp (disch:=(try simp only [sPu]);omega) [m4,ew];try rfl))) | (apply ops_n;(focus rfl);(focus ((try simp only [sPu]);omega));(focus (first | (left;simp (disch:=(try simp only [sPu]);omega) [m4,ew];done) | (right;simp (disch:=(try simp only [sPu]);omega);done)))))
      refine oNi ?_
      refine ⟨⟨j+1,by simp [sPu,e7],by simp [dPu,md],by simp (disch:=(try simp only [sPu]);omega) [m0],by simp (disch:=(try simp only [sPu]);omega),by omega,?_,hb5⟩,?_⟩
      · rw [hst2]
        simp (disch:=(try simp only [sPu]);omega) [m3]
        exact ho
      · rw [q4]
        simp (disch:=(try simp only [sPu]);omega)
        omega
    · rw [hk] at hst2
      rw [if_pos rfl]
      rw [if_pos rfl] at hst2
      refine SC.wp_reg ?_
      iterate 2 (first | (apply ops_1;(focus (simp (disch:=(try simp only [sPu]);omega) [m3,m5];try rfl))) | (apply ops_y;(focus rfl);(focus ((try simp only [sPu]);omega));(focus (simp (disch:=(try simp only [sPu]);omega) [m3,m5];done));(focus (simp (disch:=(try simp only [sPu]);omega) [m3,m5];try rfl))) | (apply ops_n;(focus rfl);(focus ((try simp only [sPu]);omega));(focus (first | (left;simp (disch:=(try simp only [sPu]);omega) [m3,m5];done) | (right;simp (disch:=(try simp only [sPu]);omega);done)))))
      refine ops_u8app (B:=w.heap.size) (dv:=getT a4 3) (xs:=squeeze (l.take j)) (bs:=[Lib.lowerB l[j]]) h2 rfl (by decide) (by decide) ?_ ho hs5 (by simp;omega) ?_ (by decide) (by (try simp only [sPu]);omega) ?_
      · simp only [cellsOf,List.map_cons,List.map_nil]
        simp (disch:=(try simp only [sPu]);omega) [List.range',cell,m5]
      · simp (disch:=(try simp only [sPu]);omega) [m3]
      intro dv' w7 v1 q1 q2 q3
      repeat (first | (apply ops_1;(focus (simp (disch:=(try simp only [sPu]);omega) ;try rfl))) | (apply ops_y;(focus rfl);(focus ((try simp only [sPu]);omega));(focus (simp (disch:=(try simp only [sPu]);omega);done));(focus (simp (disch:=(try simp only [sPu]);omega) ;try rfl))) | (apply ops_n;(focus rfl);(focus ((try simp only [sPu]);omega));(focus (first | (left;simp (disch:=(try simp only [sPu]);omega);done) | (right;simp (disch:=(try simp only [sPu]);omega);done)))))
      refine oNi ?_
      simp only [Exit.then,Exit.inBlock]
      refine SC.wp_reg ?_
      repeat (first | (apply ops_1;(focus (simp (disch:=(try simp only [sPu]);omega) [m4,ew];try rfl))) | (apply ops_y;(focus rfl);(focus ((try simp only [sPu]);omega));(focus (simp (disch:=(try simp only [sPu]);omega) [m4,ew];done));(focus (simp (disch:=(try simp only [sPu]);omega) [m4,ew];try rfl))) | (apply ops_n;(focus rfl);(focus ((try simp only [sPu]);omega));(focus (first | (left;simp (disch:=(try simp only [sPu]);omega) [m4,ew];done) | (right;simp (disch:=(try simp only [sPu]);omega);done)))))
      refine oNi ?_
      refine ⟨⟨j+1,by simp [sPu,e7],by simp [dPu,md],by simp (disch:=(try simp only [sPu]);omega) [m0],by simp (disch:=(try simp only [sPu]);omega),by omega,?_,hb5.trans q2⟩,?_⟩
      · rw [hst2]
        simp (disch:=(try simp only [sPu]);omega)
        exact q1
      · rw [q4]
        simp (disch:=(try simp only [sPu]);omega)
        omega
  · have e1:decide ((j:Int) < (l.length:Int))=false:=by simp;omega
    rw [e1,if_neg (by simp)]
    have:j=l.length:=by omega
    subst this
    rw [List.take_length] at ho
    have hql:=squeeze_len l
    obtain ⟨S,htr⟩:=Tr.of_own ho
    refine SC.wp_exit ?_
    simp only [Exit.then,Exit.inBlock,if_true]
    refine SC.wp_seq (headLoop (S:=S) (xs:=squeeze l) h1 hN cB (by simp [sPu,q]) (by simp [dPu,qd]) (by simp (disch:=(try simp only [sPu]);omega);exact htr) (by omega) fun a6 e6 ed6 h6=>?_)
    simp only [Exit.then]
    have hdl:((squeeze l).dropWhile Lib.isSp).length≤(squeeze l).length:=(List.dropWhile_sublist _).length_le
    refine SC.wp_seq (tailLoop (S:=S) (xs:=(squeeze l).dropWhile Lib.isSp) h1 hN cB e6 ed6 h6 (by omega) fun a7 e7 ed7 h7=>?_)
    simp only [Exit.then]
    obtain ⟨base,cap,g3,_,hsr⟩:=h7
    refine SC.wp_seq (SC.wp_reg ?_)
    iterate 1 (first | (apply ops_1;(focus (simp (disch:=(try simp only [sPu]);omega) [g3];try rfl))) | (apply ops_y;(focus rfl);(focus ((try simp only [sPu]);omega));(focus (simp (disch:=(try simp only [sPu]);omega) [g3];done));(focus (simp (disch:=(try simp only [sPu]);omega) [g3];try rfl))) | (apply ops_n;(focus rfl);(focus ((try simp only [sPu]);omega));(focus (first | (left;simp (disch:=(try simp only [sPu]);omega) [g3];done) | (right;simp (disch:=(try simp only [sPu]);omega);done)))))
    refine oNo rfl (opw_str (bs:=(((squeeze l).dropWhile Lib.isSp).reverse.dropWhile Lib.isSp).reverse) (cap:=cap) (S:=S) hbs (by simp (disch:=(try simp only [sPu]);omega) [g3]) hsr ?_)
    repeat (first | (apply ops_1;(focus (simp (disch:=(try simp only [sPu]);omega) ;try rfl))) | (apply ops_y;(focus rfl);(focus ((try simp only [sPu]);omega));(focus (simp (disch:=(try simp only [sPu]);omega);done));(focus (simp (disch:=(try simp only [sPu]);omega) ;try rfl))) | (apply ops_n;(focus rfl);(focus ((try simp only [sPu]);omega));(focus (first | (left;simp (disch:=(try simp only [sPu]);omega);done) | (right;simp (disch:=(try simp only [sPu]);omega);done)))))
    refine oNi (SC.wp_ret ?_)
    try simp only [Exit.then]
    exact ret_tmp hr (by simp [dPu,ed7]) ⟨by simp (disch:=(try simp only [sPu]);omega);rfl,hb5⟩
end
end Go.Proofs.YtecdefhecaeclaaDoor.K
