/- Generic texts: V3 V4 V5 V6. No condition. -/
import Derived.Test.YtjbbohfaihkolaaN11
namespace Go.Proofs.Ytjbbohfaihkolaa.K
open Go Go.RowKit Go.Proofs.Ytjbbohfaihkolaa.T
attribute [local simp] eTm eCo pNo gTp gTn qv qcall vop iop
set_option linter.unusedSimpArgs false
set_option linter.unusedVariables false
set_option maxHeartbeats 4000000
def knT:Fs→List Int→Nat
  | .nil,_=>0
  | .cons _ _ r,tg=>max (if 0≤tg.headD (-1) then (tg.headD (-1)).toNat+1 else 0) (knT r tg.tail)
def KnownTC (P:Program) (f:FuncId):Prop :=
  ∀ (w:World) (fs:Fs) (tg:List Int) (fv:Value),TgOK tg→FsVT w (· < w.heap.size) fs tg fv→Fs.len fs < 4294967296→Calls P f #[fv] w fun e w'=>e=.returned (.int .u32 (knT fs tg:Int))∧Below w.heap.size w w'
def UnkTC (P:Program) (f:FuncId):Prop :=
  ∀ (w:World) (fs:Fs) (tg:List Int) (fv:Value) (ub:Option Addr) (uc:Nat),TgOK tg→FsVT w (· < w.heap.size) fs tg fv→Fs.len fs < 4294967296 →
    Calls P f #[fv,.slice ub ([]:List (Nat × Bytes)).length uc] w fun e w'=>∃ ub' uc',e=.returned (.slice ub' 0 uc')∧Below w.heap.size w w'
def UsualLC (P:Program) (f:FuncId):Prop:=FnOK P f∧∀ (w:World) (fr to nu tg df of_ n:Int) (sub s u:Value) (null:Bool) (lb:Option Addr) (lc:Nat),
  Calls P f #[fldV 11 fr to nu tg df of_ sub,treV n s null (.slice lb 0 lc) u] w fun e w'=>e=.returned (.bool true)∧Below w.heap.size w w'
def sc_usualL (T0 T1 T2 T7:Nat) (B0 B1 B2 B3 R:SC):SC:=.seq (.reg [⟨some 2,.box T0 (.tmp 0),none⟩,⟨some 3,.box T1 (.tmp 1),none⟩,⟨some 4,.assign (.const (.bool false)),none⟩]) (.seq (.seq (.reg [fa 9 T0 2 0,ld 10 T2 9]) (.block 0 (.seq (.reg [⟨some 12,.binOp .eql T2 (.tmp 10) (.const (.int .i64 0)) T2,none⟩,asg 11 12]) (.cond (.tmp 11) B0 (.seq (.reg [⟨some 20,.binOp .eql T2 (.tmp 10) (.const (.int .i64 7)) T2,none⟩,asg 19 20]) (.cond (.tmp 19) B1 (.seq (.seq (.reg [⟨some 37,.binOp .eql T2 (.tmp 10) (.const (.int .i64 8)) T2,none⟩,asg 36 37]) (.cond (.tmp 36) (.skip) (.reg [⟨some 38,.binOp .eql T2 (.tmp 10) (.const (.int .i64 9)) T2,none⟩,asg 36 38]))) (.cond (.tmp 36) B2 (.seq (.reg [⟨some 49,.binOp .eql T2 (.tmp 10) (.const (.int .i64 11)) T2,none⟩,asg 48 49]) (.cond (.tmp 48) (.seq (.reg [fa 50 T1 3 3,ld 51 T7 50,lenOp 52 T7 51,⟨some 53,.binOp .eql T2 (.tmp 52) (.const (.int .i64 0)) T2,none⟩,asg 4 53]) (.ret)) B3)))))))))) R)
section
variable {P:Program} {X:STy} {f:FuncId} {fn:Func} {fKn:FuncId}
theorem knownT_ok (hX:stOK P X=true) (hTF:arrB P X.F 8=true) (hf:P.funcs[f]?=some fn) (hb:fn.body.map strip=some (sc_known X.Fs X.I X.F X.U32)) (hn:fn.ntmps=23) (hr:fn.results=#[.tmp 2]):KnownTC P f:=by
  intro w fs tg fv htg hfs hlen63
  have hst:=st_facts hX
  obtain ⟨hTF1,iF,zF,hiF,hzF,hzFs⟩:=arr_of hTF
  obtain ⟨fb,fcap,rfl,hfs⟩:=hfs
  refine fCa hf hb hn (by simp) fun a0 hs hd ha=>?_
  have h0:=ha 0 _ rfl
  simp only [List.getElem_toArray,List.getElem_cons_zero,List.getElem_cons_succ] at h0
  refine SC.wp_seq (SC.wp_reg ?_)
  repeat (apply ops_1;(focus (simp (disch:=(try simp only [sPu]);omega) ;try rfl)))
  refine oNi (SC.wp_seq (SC.wp_reg ?_))
  repeat (apply ops_1;(focus (simp (disch:=(try simp only [sPu]);omega) ;try rfl)))
  refine oNi (SC.wp_seq (SC.wp_seq (SC.wp_reg ?_)))
  repeat (apply ops_1;(focus (simp (disch:=(try simp only [sPu]);omega) [hst,h0];try rfl)))
  refine oNi ?_
  simp only [Exit.then]
  refine SC.wp_block (SC.wp_loop (fun a4 w5=>∃ (j:Nat),a4.tmps.size=23∧a4.defers=[]∧getT a4 6=.slice fb (Fs.len fs) fcap∧getT a4 7=.int .i64 (Fs.len fs:Int)∧getT a4 8=.int .i64 (j:Int)∧j≤Fs.len fs∧(∃ m:Nat,getT a4 3=.int .u32 (m:Int)∧max m (knT (Fs.drop j fs) (tg.drop j))=knT fs tg)∧Below w.heap.size w w5)
    (fun a4 _=>match getT a4 8 with | .int _ m=>(Fs.len fs - m).toNat | _=>0) ⟨0,by simp [sPu,hs],by simp [dPu,hd],by simp (disch:=(try simp only [sPu]);omega),by simp (disch:=(try simp only [sPu]);omega),by simp (disch:=(try simp only [sPu]);omega),by omega,⟨0,by simp (disch:=(try simp only [sPu]);omega),by simp [Fs.drop]⟩,Below.refl _ _⟩ ?_)
  rintro a4 w5 ⟨j,q,qd,q6,q7,q8,hj,⟨m,q3,hm3⟩,hb5⟩
  have hsz5:w.heap.size≤w5.heap.size:=hb5.size
  refine SC.wp_seq (SC.wp_reg ?_)
  repeat (apply ops_1;(focus (simp (disch:=(try simp only [sPu]);omega) [hst,q7,q8];try rfl)))
  refine oNi ?_
  simp only [Exit.then]
  refine SC.wp_seq (SC.wp_cond (t:=decide ((j:Int) < (Fs.len fs:Int))) (by simp (disch:=(try simp only [sPu]);omega)) ?_)
  cases e1:decide ((j:Int) < (Fs.len fs:Int))
  · have hje:j=Fs.len fs:=by simp at e1;omega
    subst hje
    rw [drop_len] at hm3
    have hm4:m=knT fs tg:=by rw [← hm3];simp [knT]
    rw [if_neg (by simp)]
    refine SC.wp_exit ?_
    simp only [Exit.then,Exit.inBlock,if_true]
    refine SC.wp_seq (SC.wp_reg ?_)
    repeat (apply ops_1;(focus (simp (disch:=(try simp only [sPu]);omega) [q3];try rfl)))
    refine oNi (SC.wp_ret (ret_tmp hr (by simp [dPu,qd]) ⟨?_,hb5⟩))
    rw [← hm4]
    simp (disch:=(try simp only [sPu]);omega)
  · have hjl:j < Fs.len fs:=by simp at e1;omega
    rw [if_pos rfl]
    refine SC.wp_skip ?_
    simp only [Exit.then]
    obtain ⟨h,ty,hdrop⟩:=drop_cons j fs hjl
    rcases hfs with hfs | ⟨b,o,rfl,hbF,hfs⟩
    · omega
    have hfj:=fsAtT_drop j fs tg b o hfs
    rw [hdrop] at hfj hm3
    simp only [FsAtT] at hfj
    obtain ⟨⟨of_,sub,hr8,h1c,hof,hsub⟩,_⟩:=hfj
    simp only [knT,tail_drop] at hm3
    have htj:=htg.at j
    obtain ⟨tj,etj⟩:∃ tj,tj=(tg.drop j).headD (-1):=⟨_,rfl⟩
    rw [← etj] at htj hr8 hm3
    have hr8':=(rangeV_mono (w:=w5) (hb5.block b hbF) 8 (o+j * 8)).trans hr8
    have ej:(0:Int)≤(j:Int)∧(j:Int) < (Fs.len fs:Int):=by omega
    refine SC.wp_seq (SC.wp_block (SC.wp_seq (SC.wp_reg ?_)))
    iterate 2 (apply ops_1;(focus (simp (disch:=(try simp only [sPu]);omega) [hst,q6,q8,ej,hr8',hjl];try rfl)))
    refine oNo rfl (opw_alloc hiF hzF ?_)
    refine oNo rfl (opw_store_agg (b:=w5.heap.size) (cs:=[.int .i64 (kindOf ty),.int .i64 h.from_,.int .i64 h.to,.int .i64 h.null,.int .i64 tj,.int .i64 h.dflt,.int .i64 of_,sub]) hTF1 (by simp (disch:=(try simp only [sPu]);omega)) (by simp (disch:=(try simp only [sPu]);omega)) (heap_alloc_new w5 _) (by simp [hzFs]) (by
      intro v hv
      simp only [List.mem_cons,List.not_mem_nil,or_false] at hv
      rcases hv with rfl | rfl | rfl | rfl | rfl | rfl | rfl | rfl <;> first | rfl | exact h1c) (oNi ?_))
    have hnew:((w5.alloc (.cells zF.cells X.F)).setRow w5.heap.size #[.int .i64 (kindOf ty),.int .i64 h.from_,.int .i64 h.to,.int .i64 h.null,.int .i64 tj,.int .i64 h.dflt,.int .i64 of_,sub]).heap[w5.heap.size]?=some (.cells #[.int .i64 (kindOf ty),.int .i64 h.from_,.int .i64 h.to,.int .i64 h.null,.int .i64 tj,.int .i64 h.dflt,.int .i64 of_,sub] X.F (0,0)):=setRow_heap _ _ _ _ _ _ (heap_alloc_new w5 _)
    have hb6:Below w5.heap.size w5 ((w5.alloc (.cells zF.cells X.F)).setRow w5.heap.size #[.int .i64 (kindOf ty),.int .i64 h.from_,.int .i64 h.to,.int .i64 h.null,.int .i64 tj,.int .i64 h.dflt,.int .i64 of_,sub]):=below_setRow ((Below.refl _ _).alloc (Nat.le_refl _) _) (Nat.le_refl _) _
    simp only [Exit.then,pNo]
    generalize ((w5.alloc (.cells zF.cells X.F)).setRow w5.heap.size #[.int .i64 (kindOf ty),.int .i64 h.from_,.int .i64 h.to,.int .i64 h.null,.int .i64 tj,.int .i64 h.dflt,.int .i64 of_,sub])=w6 at *
    have hc6:∀ i,w6.cell? ⟨w5.heap.size,i,none⟩=#[Value.int .i64 (kindOf ty),.int .i64 h.from_,.int .i64 h.to,.int .i64 h.null,.int .i64 tj,.int .i64 h.dflt,.int .i64 of_,sub][i]?:=fun i=>cell_of_row _ _ _ _ _ _ hnew
    have ew:IntKind.i64.wrap ((j:Int)+1)=((j+1:Nat):Int):=by rw [wrap_i64'];split <;> omega
    have next:∀ (a':Act) (m':Nat) (Q':Exit→Act→World→Prop),a'.tmps.size=23→a'.defers=[]→getT a' 6=.slice (some ⟨b,o,none⟩) (Fs.len fs) fcap→getT a' 7=.int .i64 (Fs.len fs:Int)→getT a' 8=.int .i64 (j:Int)→getT a' 3=.int .u32 (m':Int)→max m' (knT (Fs.drop (j+1) fs) (tg.drop (j+1)))=knT fs tg →
        (∀ a'',(∃ (j:Nat),a''.tmps.size=23∧a''.defers=[]∧getT a'' 6=.slice (some ⟨b,o,none⟩) (Fs.len fs) fcap∧getT a'' 7=.int .i64 (Fs.len fs:Int)∧getT a'' 8=.int .i64 (j:Int)∧j≤Fs.len fs∧(∃ m:Nat,getT a'' 3=.int .u32 (m:Int)∧max m (knT (Fs.drop j fs) (tg.drop j))=knT fs tg)∧Below w.heap.size w w6)→(match getT a'' 8 with | .int _ m=>(Fs.len fs - m).toNat | _=>0) < (Fs.len fs - (j:Int)).toNat→Q' .normal a'' w6) →
        SC.wp P (.reg [⟨some 21,.binOp .add X.I (.tmp 8) (.const (.int .i64 1)) X.I,none⟩,mv 8 21]) Q' a' w6:=by
      intro a' m' Q' z zd z6 z7 z8 z3 hm' hq
      refine SC.wp_reg ?_
      repeat (apply ops_1;(focus (simp (disch:=(try simp only [sPu]);omega) [z8,ew];try rfl)))
      refine oNi (hq _ ⟨j+1,by simp [sPu,z],by simp [dPu,zd],by simp (disch:=(try simp only [sPu]);omega) [z6],by simp (disch:=(try simp only [sPu]);omega) [z7],by simp (disch:=(try simp only [sPu]);omega),by omega,⟨m',by simp (disch:=(try simp only [sPu]);omega) [z3],hm'⟩,hb5.trans (hb6.mono hsz5)⟩ ?_)
      simp (disch:=(try simp only [sPu]);omega);omega
    rcases (Classical.em (tj=-1)).symm with hneg | hneg
    · have htj0:0≤tj∧tj < 1000:=by omega
      obtain ⟨k,rfl⟩:∃ k:Nat,tj=(k:Int):=⟨tj.toNat,by omega⟩
      have hge:decide ((k:Int) ≥ 0)=true:=decide_eq_true (by omega)
      have e1:IntKind.u32.wrap (k:Int)=(k:Int):=by rw [wrap_u32];omega
      have e2:IntKind.u32.wrap ((k:Int)+1)=((k+1:Nat):Int):=by rw [wrap_u32];omega
      refine SC.wp_seq (SC.wp_reg ?_)
      repeat (apply ops_1;(focus (simp (disch:=(try simp only [sPu]);omega) [hst,hc6,hge];try rfl)))
      refine oNi (SC.wp_cond (t:=true) (by simp (disch:=(try simp only [sPu]);omega)) ?_)
      rw [if_pos rfl]
      refine SC.wp_reg ?_
      iterate 5 (apply ops_1;(focus (simp (disch:=(try simp only [sPu]);omega) [hst,hc6,e1,e2];try rfl)))
      refine oNo rfl (opw_max (k:=.u32) (m:=(m:Int)) (n:=((k+1:Nat):Int)) (by simp (disch:=(try simp only [sPu]);omega) [q3]) (by simp (disch:=(try simp only [sPu]);omega) [e2]) ?_)
      repeat (apply ops_1;(focus (simp (disch:=(try simp only [sPu]);omega) ;try rfl)))
      refine oNi ?_
      simp only [Exit.inBlock,Exit.then]
      refine next _ (max m (k+1)) _ (by simp [sPu,q]) (by simp [dPu,qd]) (by simp (disch:=(try simp only [sPu]);omega) [q6]) (by simp (disch:=(try simp only [sPu]);omega) [q7]) (by simp (disch:=(try simp only [sPu]);omega) [q8]) ?_ ?_ fun a'' hI hlt=>⟨hI,by rw [q8];exact hlt⟩
      · simp (disch:=(try simp only [sPu]);omega)
        try omega
      · rw [← hm3,if_pos (by omega)]
        simp only [Int.toNat_natCast]
        omega
    · subst hneg
      refine SC.wp_seq (SC.wp_reg ?_)
      repeat (apply ops_1;(focus (simp (disch:=(try simp only [sPu]);omega) [hst,hc6];try rfl)))
      refine oNi (SC.wp_cond (t:=false) (by simp (disch:=(try simp only [sPu]);omega)) ?_)
      rw [if_neg (by simp)]
      refine SC.wp_skip ?_
      simp only [Exit.inBlock,Exit.then]
      refine next _ m _ (by simp [sPu,q]) (by simp [dPu,qd]) (by simp (disch:=(try simp only [sPu]);omega) [q6]) (by simp (disch:=(try simp only [sPu]);omega) [q7]) (by simp (disch:=(try simp only [sPu]);omega) [q8]) (by simp (disch:=(try simp only [sPu]);omega) [q3]) ?_ fun a'' hI hlt=>⟨hI,by rw [q8];exact hlt⟩
      rw [← hm3,if_neg (by decide)]
      omega
theorem unkNilT_ok (hX:stOK P X=true) (oK:FnOK P fKn) (cK:KnownTC P fKn) (hf:P.funcs[f]?=some fn) (hb:fn.body.map strip=some (sc_unknown X.Tgs X.I X.Tg X.U32 fKn)) (hn:fn.ntmps=85) (hr:fn.results=#[.tmp 4]):UnkTC P f:=by
  intro w fs tg fv ub uc htg hfs hlen63
  have hst:=st_facts hX
  refine fCa hf hb hn (by simp) fun a0 hs hd ha=>?_
  have h0:=ha 0 _ rfl
  have h1:=ha 1 _ rfl
  simp only [List.getElem_toArray,List.getElem_cons_zero,List.getElem_cons_succ] at h0 h1
  refine SC.wp_seq (SC.wp_reg ?_)
  repeat (first | (apply ops_1;(focus (simp (disch:=(try simp only [sPu]);omega) ;try rfl))) | (apply ops_y;(focus rfl);(focus ((try simp only [sPu]);omega));(focus (simp (disch:=(try simp only [sPu]);omega);done));(focus (simp (disch:=(try simp only [sPu]);omega) ;try rfl))) | (apply ops_n;(focus rfl);(focus ((try simp only [sPu]);omega));(focus (first | (left;simp (disch:=(try simp only [sPu]);omega);done) | (right;simp (disch:=(try simp only [sPu]);omega);done)))))
  refine oNi (SC.wp_seq (SC.wp_reg ?_))
  iterate 1 (first | (apply ops_1;(focus (simp (disch:=(try simp only [sPu]);omega) [h0];try rfl))) | (apply ops_y;(focus rfl);(focus ((try simp only [sPu]);omega));(focus (simp (disch:=(try simp only [sPu]);omega) [h0];done));(focus (simp (disch:=(try simp only [sPu]);omega) [h0];try rfl))) | (apply ops_n;(focus rfl);(focus ((try simp only [sPu]);omega));(focus (first | (left;simp (disch:=(try simp only [sPu]);omega) [h0];done) | (right;simp (disch:=(try simp only [sPu]);omega);done)))))
  refine ops_call oK (cK w fs tg fv htg hfs hlen63) (by simp (disch:=(try simp only [sPu]);omega)) ?_
  rintro e w2 ⟨rfl,hb2⟩
  refine ⟨_,rfl,?_⟩
  repeat (first | (apply ops_1;(focus (simp (disch:=(try simp only [sPu]);omega) ;try rfl))) | (apply ops_y;(focus rfl);(focus ((try simp only [sPu]);omega));(focus (simp (disch:=(try simp only [sPu]);omega);done));(focus (simp (disch:=(try simp only [sPu]);omega) ;try rfl))) | (apply ops_n;(focus rfl);(focus ((try simp only [sPu]);omega));(focus (first | (left;simp (disch:=(try simp only [sPu]);omega);done) | (right;simp (disch:=(try simp only [sPu]);omega);done)))))
  refine oNi (SC.wp_seq (SC.wp_reg ?_))
  repeat (first | (apply ops_1;(focus (simp (disch:=(try simp only [sPu]);omega) ;try rfl))) | (apply ops_y;(focus rfl);(focus ((try simp only [sPu]);omega));(focus (simp (disch:=(try simp only [sPu]);omega);done));(focus (simp (disch:=(try simp only [sPu]);omega) ;try rfl))) | (apply ops_n;(focus rfl);(focus ((try simp only [sPu]);omega));(focus (first | (left;simp (disch:=(try simp only [sPu]);omega);done) | (right;simp (disch:=(try simp only [sPu]);omega);done)))))
  refine oNi (SC.wp_seq (SC.wp_seq (SC.wp_reg ?_)))
  repeat (first | (apply ops_1;(focus (simp (disch:=(try simp only [sPu]);omega) [hst,h1];try rfl))) | (apply ops_y;(focus rfl);(focus ((try simp only [sPu]);omega));(focus (simp (disch:=(try simp only [sPu]);omega) [hst,h1];done));(focus (simp (disch:=(try simp only [sPu]);omega) [hst,h1];try rfl))) | (apply ops_n;(focus rfl);(focus ((try simp only [sPu]);omega));(focus (first | (left;simp (disch:=(try simp only [sPu]);omega) [hst,h1];done) | (right;simp (disch:=(try simp only [sPu]);omega);done)))))
  refine oNi ?_
  simp only [Exit.then]
  refine gen_act (fun a6=>a6.tmps.size=85∧a6.defers=[]∧getT a6 6=.slice none 0 0∧getT a6 18=.int .i64 0∧getT a6 19=.int .i64 0)
    ⟨by simp [sPu,hs],by simp [dPu,hd],by simp (disch:=(try simp only [sPu]);omega),by simp (disch:=(try simp only [sPu]);omega),by simp (disch:=(try simp only [sPu]);omega)⟩ ?_
  rintro a6 ⟨p,pd,p6,p18,p19⟩
  refine SC.wp_block (SC.wp_loop (fun a' w'=>a'=a6∧w'=w2) (fun _ _=>0) ⟨rfl,rfl⟩ ?_)
  rintro _ _ ⟨rfl,rfl⟩
  refine SC.wp_seq (SC.wp_reg ?_)
  repeat (first | (apply ops_1;(focus (simp (disch:=(try simp only [sPu]);omega) [p18,p19];try rfl))) | (apply ops_y;(focus rfl);(focus ((try simp only [sPu]);omega));(focus (simp (disch:=(try simp only [sPu]);omega) [p18,p19];done));(focus (simp (disch:=(try simp only [sPu]);omega) [p18,p19];try rfl))) | (apply ops_n;(focus rfl);(focus ((try simp only [sPu]);omega));(focus (first | (left;simp (disch:=(try simp only [sPu]);omega) [p18,p19];done) | (right;simp (disch:=(try simp only [sPu]);omega);done)))))
  refine oNi ?_
  simp only [Exit.then]
  refine SC.wp_seq (SC.wp_cond (t:=false) (by simp (disch:=(try simp only [sPu]);omega)) ?_)
  rw [if_neg (by simp)]
  refine SC.wp_exit ?_
  simp only [Exit.then,Exit.inBlock,if_true]
  refine SC.wp_seq (SC.wp_reg ?_)
  repeat (first | (apply ops_1;(focus (simp (disch:=(try simp only [sPu]);omega) [p6];try rfl))) | (apply ops_y;(focus rfl);(focus ((try simp only [sPu]);omega));(focus (simp (disch:=(try simp only [sPu]);omega) [p6];done));(focus (simp (disch:=(try simp only [sPu]);omega) [p6];try rfl))) | (apply ops_n;(focus rfl);(focus ((try simp only [sPu]);omega));(focus (first | (left;simp (disch:=(try simp only [sPu]);omega) [p6];done) | (right;simp (disch:=(try simp only [sPu]);omega);done)))))
  refine oNi (SC.wp_ret (ret_tmp hr (by simp [dPu,pd]) ⟨none,0,?_,hb2⟩))
  simp (disch:=(try simp only [sPu]);omega)
theorem usualL_ok {B0 B1 B2 B3 R : SC} (hX : stOK P X = true) (hf : P.funcs[f]? = some fn) (hb : fn.body.map strip = some (sc_usualL X.F X.T X.I X.Ts B0 B1 B2 B3 R)) (hnm : (fn.name == "runtime.NumGoroutine") = false) (hn : fn.ntmps = 91) (hr : fn.results = #[.tmp 4]) : UsualLC P f := by
  refine ⟨fnOK_of hf hb hnm,fun w fr to nu tg df of_ n sub s u null lb lc=>?_⟩
  have hst:=st_facts hX
  refine fCa hf hb hn (by simp) fun a0 hs hd ha=>?_
  have h0:=ha 0 _ rfl
  have h1:=ha 1 _ rfl
  simp only [List.getElem_toArray,List.getElem_cons_zero,List.getElem_cons_succ] at h0 h1
  refine SC.wp_seq (SC.wp_reg (ops_box (B:=w.heap.size) (w0:=w) (by rw [eTm,h0];rfl) (Nat.le_refl _) (Below.refl _ _) fun w1 q1 q2 q3 hc q5=>?_))
  refine ops_box (B:=w.heap.size) (w0:=w) (cs:=#[.int .i64 n,s,.bool null,.slice lb 0 lc,u]) (by simp (disch:=(try simp only [sPu]);omega) [h1,treV]) (by omega) q2 fun w2 r1 r2 r3 hd2 r5=>?_
  repeat (apply ops_1;(focus (simp (disch:=(try simp only [sPu]);omega) ;try rfl)))
  refine oNi ?_
  simp only [Exit.then]
  have hc2:∀ j,w2.cell? ⟨w.heap.size,j,none⟩=#[Value.int .i64 11,.int .i64 fr,.int .i64 to,.int .i64 nu,.int .i64 tg,.int .i64 df,.int .i64 of_,sub][j]?:=fun j=>by rw [r1.cell (by show w.heap.size < w1.heap.size;omega)];exact hc j
  rw [q3] at hd2 ⊢
  refine SC.wp_seq (SC.wp_seq (SC.wp_reg ?_))
  repeat (apply ops_1;(focus (simp (disch:=(try simp only [sPu]);omega) [hst,hc2];try rfl)))
  refine oNi (SC.wp_block (SC.wp_seq (SC.wp_reg ?_)))
  repeat (apply ops_1;(focus (simp (disch:=(try simp only [sPu]);omega) ;try rfl)))
  refine oNi (SC.wp_cond (t:=false) (by simp (disch:=(try simp only [sPu]);omega)) ?_)
  rw [if_neg (by simp)]
  refine SC.wp_seq (SC.wp_reg ?_)
  repeat (apply ops_1;(focus (simp (disch:=(try simp only [sPu]);omega) ;try rfl)))
  refine oNi (SC.wp_cond (t:=false) (by simp (disch:=(try simp only [sPu]);omega)) ?_)
  rw [if_neg (by simp)]
  refine SC.wp_seq (SC.wp_seq (SC.wp_reg ?_))
  repeat (apply ops_1;(focus (simp (disch:=(try simp only [sPu]);omega) ;try rfl)))
  refine oNi (SC.wp_cond (t:=false) (by simp (disch:=(try simp only [sPu]);omega)) ?_)
  rw [if_neg (by simp)]
  refine SC.wp_reg ?_
  repeat (apply ops_1;(focus (simp (disch:=(try simp only [sPu]);omega) ;try rfl)))
  refine oNi ?_
  simp only [Exit.then]
  refine SC.wp_cond (t:=false) (by simp (disch:=(try simp only [sPu]);omega)) ?_
  rw [if_neg (by simp)]
  refine SC.wp_seq (SC.wp_reg ?_)
  repeat (apply ops_1;(focus (simp (disch:=(try simp only [sPu]);omega) ;try rfl)))
  refine oNi (SC.wp_cond (t:=true) (by simp (disch:=(try simp only [sPu]);omega)) ?_)
  rw [if_pos rfl]
  refine SC.wp_seq (SC.wp_reg ?_)
  repeat (apply ops_1;(focus (simp (disch:=(try simp only [sPu]);omega) [hst,hd2];try rfl)))
  refine oNi (SC.wp_ret ?_)
  simp only [Exit.then,Exit.inBlock]
  exact ret_tmp hr (by simp [dPu,hd]) ⟨by simp (disch:=(try simp only [sPu]);omega),r2⟩
end
end Go.Proofs.Ytjbbohfaihkolaa.K
namespace Go.Proofs.Ytjbbohfaihkolaa.K
open Go Go.RowKit Go.Proofs.Ytjbbohfaihkolaa.T
attribute [local simp] eTm eCo pNo gTp gTn qv qcall vop iop
set_option linter.unusedSimpArgs false
set_option linter.unusedVariables false
set_option maxHeartbeats 4000000
def PartTC (G:List (Nat × Bytes)→Prop) (P:Program) (X:STy) (f:FuncId) (fs:Fs) (tg:List Int):Prop :=
  ∀ (w:World) (fv:Value) (ver:Int) (flex:Bool) (tv:Value) (t:Tree),FsVT w (· < w.heap.size) fs tg fv→TV G w (· < w.heap.size) t tv→t.u=[] →
    (∀ j h ty r,Fs.drop j fs=.cons h ty r→0≤(tg.drop j).headD (-1)→kindOf ty=11∧((t.l.drop j).headD Tree.zero).l=[])→(wFsT ver flex fs tg t.l ++ (if flex then uvarint 0 else [])).length≤lim →
    Calls P f #[fv,.int .i64 ver,.bool flex,tv] w (RetOwn X.U8 w (wFsT ver flex fs tg t.l ++ (if flex then uvarint 0 else [])))
theorem knT_lt {tg:List Int} (h:TgOK tg) (fs:Fs) (hl:Fs.len fs < 4294967296):knT fs tg≤1000:=by
  clear hl
  induction fs using Fs.rec (motive_1:=fun _=>True) generalizing tg with
  | nil=>simp [knT]
  | cons hd ty r _ ih =>
    simp only [knT]
    have h1:=ih (tg:=tg.tail) (fun x hx=>h x (List.mem_of_mem_tail hx))
    have h2:=h.at 0
    rw [List.drop_zero] at h2
    split <;> omega
  | prim=>trivial
  | list=>trivial
  | struct=>trivial
section
variable {G:List (Nat × Bytes)→Prop} {P:Program} {X:STy} {f:FuncId} {fn:Func} {fW fTh fC fWi fF fU fHas fNull fAt fPart fVal fFld fKn fUs fUnk:FuncId}
theorem partT_ok (hX:stOK P X=true) (hTF:arrB P X.F 8=true) (hTg:arrB P X.Tg 2=true) (S:SmallC P X fW fTh fC fWi fF fU fHas fNull fAt G) (hm:P.follows .mixedOrders=true) (oF:FnOK P fFld) (cFd:FieldC G P X fFld fPart)
    (oK:FnOK P fKn) (cK:KnownTC P fKn) (oUnk:FnOK P fUnk) (cUnk:UnkTC P fUnk) (cUs:UsualLC P fUs)
    (hf:P.funcs[f]?=some fn) (hb:fn.body.map strip=some (sc_part X.T X.Fs X.I X.F X.Bs X.B X.U32 X.U64 X.Tgs X.Tg fHas fAt fFld fKn fUs fU fUnk fW)) (hn:fn.ntmps=132) (hr:fn.results=#[.tmp 8])
    (fs:Fs) (hlen63:Fs.len fs < 4294967296) (cP:SubsC (PartC G P X fPart) fs) (tg:List Int) (htg:TgOK tg):PartTC G P X f fs tg:=by
  intro w fv ver flex tv t hfv ht hu0 hus hl
  have hst:=st_facts hX
  have hU8s:=hst.2.2.1.1
  have hlim:lim=70368744177664:=rfl
  obtain ⟨hTF1,iF,zF,hiF,hzF,hzFs⟩:=arr_of hTF
  have hmost:most=32767:=rfl
  refine fCa hf hb hn (by simp) fun a0 hs hd ha=>?_
  have h0:=ha 0 _ rfl
  have h1:=ha 1 _ rfl
  have h2:=ha 2 _ rfl
  have h3:=ha 3 _ rfl
  simp only [List.getElem_toArray,List.getElem_cons_zero,List.getElem_cons_succ] at h0 h1 h2 h3
  have ht0:=ht
  have hfv0:=hfv
  cases ht with
  | mk n s tnull l u sb lb ub sc lc uc b o cs hs1 hsc hlc huc hll hrr htt hG hu =>
  obtain ⟨fb,fcap,rfl,hfs⟩:=hfv
  have hu00:u=[]:=hu0
  subst hu00
  clear hu0
  refine SC.wp_seq (SC.wp_reg (ops_box (B:=w.heap.size) (w0:=w) (by rw [eTm,h3];rfl) (Nat.le_refl _) (Below.refl _ _) fun w1 q1 q2 q3 hc q5=>?_))
  repeat (first | (apply ops_1;(focus (simp (disch:=(try simp only [sPu]);omega) ;try rfl))) | (apply ops_y;(focus rfl);(focus ((try simp only [sPu]);omega));(focus (simp (disch:=(try simp only [sPu]);omega);done));(focus (simp (disch:=(try simp only [sPu]);omega) ;try rfl))) | (apply ops_n;(focus rfl);(focus ((try simp only [sPu]);omega));(focus (first | (left;simp (disch:=(try simp only [sPu]);omega);done) | (right;simp (disch:=(try simp only [sPu]);omega);done)))))
  refine oNi (SC.wp_seq (SC.wp_reg ?_))
  repeat (first | (apply ops_1;(focus (simp (disch:=(try simp only [sPu]);omega) ;try rfl))) | (apply ops_y;(focus rfl);(focus ((try simp only [sPu]);omega));(focus (simp (disch:=(try simp only [sPu]);omega);done));(focus (simp (disch:=(try simp only [sPu]);omega) ;try rfl))) | (apply ops_n;(focus rfl);(focus ((try simp only [sPu]);omega));(focus (first | (left;simp (disch:=(try simp only [sPu]);omega);done) | (right;simp (disch:=(try simp only [sPu]);omega);done)))))
  refine oNi (SC.wp_seq (SC.wp_reg ?_))
  repeat (first | (apply ops_1;(focus (simp (disch:=(try simp only [sPu]);omega) ;try rfl))) | (apply ops_y;(focus rfl);(focus ((try simp only [sPu]);omega));(focus (simp (disch:=(try simp only [sPu]);omega);done));(focus (simp (disch:=(try simp only [sPu]);omega) ;try rfl))) | (apply ops_n;(focus rfl);(focus ((try simp only [sPu]);omega));(focus (first | (left;simp (disch:=(try simp only [sPu]);omega);done) | (right;simp (disch:=(try simp only [sPu]);omega);done)))))
  refine oNi ?_
  simp only [Exit.then]
  clear q1 q5
  have hT5:rangeV w1 w.heap.size 0 5=some [.int .i64 n,.slice sb s.length sc,.bool tnull,.slice lb l.length lc,.slice ub 0 uc]:=by simp [rangeV,hc]
  have hlF:(wFsT ver flex fs tg (Tree.mk n s tnull l []).l).length≤lim:=by rw [List.length_append] at hl;omega
  have fin:∀ (a:Act) (w':World) (v:Value) (out:Bytes),a.defers=[]→getT a 8=v→Own X.U8 w' w.heap.size v out→Below w.heap.size w w'→out=wFsT ver flex fs tg (Tree.mk n s tnull l []).l ++ (if flex then uvarint 0 else []) →
      bodyPost P fn (RetOwn X.U8 w (wFsT ver flex fs tg (Tree.mk n s tnull l []).l ++ (if flex then uvarint 0 else []))) .ret a w':=by
    intro a w' v out p1 p2 p3 p4 p5
    subst p5
    exact ret_tmp hr p1 ⟨v,by rw [p2],p3,p4⟩
  refine SC.wp_seq (fieldsT_loop hX hTF S hm oF cFd (w:=w) fs tg htg fb fcap cP hfs hlen63 ver flex _ n _ _ _ tnull ht0 q2 (by omega) hT5 (by simp [sPu,hs]) (by simp (disch:=(try simp only [sPu]);omega) [h0]) (by simp (disch:=(try simp only [sPu]);omega) [h1]) (by simp (disch:=(try simp only [sPu]);omega) [h2]) (by simp (disch:=(try simp only [sPu]);omega)) (by simp (disch:=(try simp only [sPu]);omega)) hlF ?_)
  intro a2 w2 p pd ps po hb2
  have k0:getT a2 0=.slice fb (Fs.len fs) fcap:=by rw [ps 0 (by decide) (by decide)];simp (disch:=(try simp only [sPu]);omega) [h0]
  have k2:getT a2 2=.bool flex:=by rw [ps 2 (by decide) (by decide)];simp (disch:=(try simp only [sPu]);omega) [h2]
  have k7:getT a2 7=.pointer (some ⟨w.heap.size,0,none⟩):=by rw [ps 7 (by decide) (by decide)];simp (disch:=(try simp only [sPu]);omega)
  have k10:getT a2 10=.slice none 0 0:=by rw [ps 10 (by decide) (by decide)];simp (disch:=(try simp only [sPu]);omega)
  have k11:getT a2 11=.int .i64 0:=by rw [ps 11 (by decide) (by decide)];simp (disch:=(try simp only [sPu]);omega)
  have pd2:a2.defers=[]:=by rw [pd];simp [dPu,hd]
  have hsz2:w.heap.size+1≤w2.heap.size:=by have:=hb2.size;omega
  have hbw2:Below w.heap.size w w2:=q2.trans (hb2.mono (by omega))
  clear ps pd hs hd h0 h1 h2 h3 ha
  simp only [Exit.then]
  refine SC.wp_seq (SC.wp_seq (SC.wp_reg ?_))
  repeat (first | (apply ops_1;(focus (simp (disch:=(try simp only [sPu]);omega) [k2];try rfl))) | (apply ops_y;(focus rfl);(focus ((try simp only [sPu]);omega));(focus (simp (disch:=(try simp only [sPu]);omega) [k2];done));(focus (simp (disch:=(try simp only [sPu]);omega) [k2];try rfl))) | (apply ops_n;(focus rfl);(focus ((try simp only [sPu]);omega));(focus (first | (left;simp (disch:=(try simp only [sPu]);omega) [k2];done) | (right;simp (disch:=(try simp only [sPu]);omega);done)))))
  refine oNi ?_
  simp only [Exit.then]
  refine SC.wp_cond (t:=!flex) (by simp (disch:=(try simp only [sPu]);omega)) ?_
  cases flex
  · rw [if_pos (by rfl)]
    refine SC.wp_seq (SC.wp_reg ?_)
    repeat (first | (apply ops_1;(focus (simp (disch:=(try simp only [sPu]);omega) ;try rfl))) | (apply ops_y;(focus rfl);(focus ((try simp only [sPu]);omega));(focus (simp (disch:=(try simp only [sPu]);omega);done));(focus (simp (disch:=(try simp only [sPu]);omega) ;try rfl))) | (apply ops_n;(focus rfl);(focus ((try simp only [sPu]);omega));(focus (first | (left;simp (disch:=(try simp only [sPu]);omega);done) | (right;simp (disch:=(try simp only [sPu]);omega);done)))))
    refine oNi (SC.wp_ret ?_)
    simp only [Exit.then]
    refine fin _ _ (getT a2 9) _ (by simp [dPu,pd2]) (by simp (disch:=(try simp only [sPu]);omega)) (own_down po (by omega)) hbw2 (by simp)
  · rw [if_neg (by simp)]
    refine SC.wp_skip ?_
    simp only [Exit.then]
    refine SC.wp_seq (SC.wp_seq (SC.wp_reg ?_))
    iterate 1 (first | (apply ops_1;(focus (simp (disch:=(try simp only [sPu]);omega) [k0];try rfl))) | (apply ops_y;(focus rfl);(focus ((try simp only [sPu]);omega));(focus (simp (disch:=(try simp only [sPu]);omega) [k0];done));(focus (simp (disch:=(try simp only [sPu]);omega) [k0];try rfl))) | (apply ops_n;(focus rfl);(focus ((try simp only [sPu]);omega));(focus (first | (left;simp (disch:=(try simp only [sPu]);omega) [k0];done) | (right;simp (disch:=(try simp only [sPu]);omega);done)))))
    refine ops_call oK (cK w2 fs tg _ htg (FsVT.down hbw2 (by omega) hfv0) hlen63) (by simp (disch:=(try simp only [sPu]);omega)) ?_
    rintro e w3 ⟨rfl,hb3⟩
    refine ⟨_,rfl,?_⟩
    have hkn:=knT_lt htg fs hlen63
    generalize knT fs tg=kn at *
    have ewk:IntKind.i64.wrap (kn:Int)=(kn:Int):=by rw [wrap_i64'];split <;> omega
    repeat (first | (apply ops_1;(focus (simp (disch:=(try simp only [sPu]);omega) [hst,ewk];try rfl))) | (apply ops_y;(focus rfl);(focus ((try simp only [sPu]);omega));(focus (simp (disch:=(try simp only [sPu]);omega) [hst,ewk];done));(focus (simp (disch:=(try simp only [sPu]);omega) [hst,ewk];try rfl))) | (apply ops_n;(focus rfl);(focus ((try simp only [sPu]);omega));(focus (first | (left;simp (disch:=(try simp only [sPu]);omega) [hst,ewk];done) | (right;simp (disch:=(try simp only [sPu]);omega);done)))))
    refine oNi ?_
    simp only [Exit.then]
    have hsz3:w2.heap.size≤w3.heap.size:=hb3.size
    have hbw3:Below w.heap.size w w3:=hbw2.trans (hb3.mono (by omega))
    have hc3:∀ j,w3.cell? ⟨w.heap.size,j,none⟩=#[Value.int .i64 n,.slice sb s.length sc,.bool tnull,.slice lb l.length lc,.slice ub 0 uc][j]?:=fun j =>
      (World.cell?_of_block (w:=w1) (w':=w3) (a:=⟨w.heap.size,j,none⟩) ((hb3.block w.heap.size (by omega)).trans (hb2.block w.heap.size (by omega)))).trans (hc j)
    obtain ⟨C,hC⟩:∃ C:Act→Prop,C=fun a'=>a'.tmps.size=132∧a'.defers=[]∧getT a' 0=.slice fb (Fs.len fs) fcap∧getT a' 7=.pointer (some ⟨w.heap.size,0,none⟩)∧getT a' 9=getT a2 9∧getT a' 10=.slice none 0 0∧getT a' 11=.int .i64 0∧getT a' 51=.int .i64 (kn:Int):=⟨_,rfl⟩
    refine SC.wp_block (SC.wp_loop (fun a' w'=>C a'∧(∃ k:Nat,getT a' 52=.int .i64 (k:Int)∧k≤kn)∧Below w3.heap.size w3 w') (fun a' _=>match getT a' 52 with | .int _ m=>(kn - m).toNat | _=>0)
      ⟨by rw [hC];exact ⟨by simp [sPu,p],by simp [dPu,pd2],by simp (disch:=(try simp only [sPu]);omega) [k0],by simp (disch:=(try simp only [sPu]);omega) [k7],by simp (disch:=(try simp only [sPu]);omega),by simp (disch:=(try simp only [sPu]);omega) [k10],by simp (disch:=(try simp only [sPu]);omega) [k11],by simp (disch:=(try simp only [sPu]);omega)⟩,⟨0,by simp (disch:=(try simp only [sPu]);omega),by omega⟩,Below.refl _ _⟩ ?_)
    rintro a6 w6 ⟨hC6,⟨k,z52,hk⟩,hb6⟩
    have hC6':=hC6
    rw [hC] at hC6'
    obtain ⟨z,zd,z0,z7,z9,z10,z11,z51⟩:=hC6'
    have hsz6:=hb6.size
    refine SC.wp_seq (SC.wp_reg ?_)
    repeat (first | (apply ops_1;(focus (simp (disch:=(try simp only [sPu]);omega) [z51,z52];try rfl))) | (apply ops_y;(focus rfl);(focus ((try simp only [sPu]);omega));(focus (simp (disch:=(try simp only [sPu]);omega) [z51,z52];done));(focus (simp (disch:=(try simp only [sPu]);omega) [z51,z52];try rfl))) | (apply ops_n;(focus rfl);(focus ((try simp only [sPu]);omega));(focus (first | (left;simp (disch:=(try simp only [sPu]);omega) [z51,z52];done) | (right;simp (disch:=(try simp only [sPu]);omega);done)))))
    refine oNi ?_
    simp only [Exit.then]
    refine SC.wp_seq (SC.wp_cond (t:=decide ((k:Int) < (kn:Int))) (by simp (disch:=(try simp only [sPu]);omega)) ?_)
    have ewk1:IntKind.i64.wrap ((k:Int)+1)=((k+1:Nat):Int):=by rw [wrap_i64'];split <;> omega
    cases e1:decide ((k:Int) < (kn:Int))
    · rw [if_neg (by simp)]
      refine SC.wp_exit ?_
      simp only [Exit.then,Exit.inBlock,if_true]
      have hbw6:Below w.heap.size w w6:=hbw3.trans (hb6.mono (by omega))
      have hc6:∀ j,w6.cell? ⟨w.heap.size,j,none⟩=#[Value.int .i64 n,.slice sb s.length sc,.bool tnull,.slice lb l.length lc,.slice ub 0 uc][j]?:=fun j=>by rw [hb6.cell (by show w.heap.size < w3.heap.size;omega)];exact hc3 j
      refine SC.wp_seq (SC.wp_seq (SC.wp_reg ?_))
      iterate 3 (first | (apply ops_1;(focus (simp (disch:=(try simp only [sPu]);omega) [hst,z0,z7,hc6];try rfl))) | (apply ops_y;(focus rfl);(focus ((try simp only [sPu]);omega));(focus (simp (disch:=(try simp only [sPu]);omega) [hst,z0,z7,hc6];done));(focus (simp (disch:=(try simp only [sPu]);omega) [hst,z0,z7,hc6];try rfl))) | (apply ops_n;(focus rfl);(focus ((try simp only [sPu]);omega));(focus (first | (left;simp (disch:=(try simp only [sPu]);omega) [hst,z0,z7,hc6];done) | (right;simp (disch:=(try simp only [sPu]);omega);done)))))
      refine ops_call oUnk (cUnk w6 fs tg _ ub uc htg (FsVT.down hbw6 (by omega) hfv0) hlen63) (by simp (disch:=(try simp only [sPu]);omega)) ?_
      rintro e w7 ⟨ub',uc',rfl,hb7⟩
      refine ⟨_,rfl,?_⟩
      have hsz7:=hb7.size
      repeat (first | (apply ops_1;(focus (simp (disch:=(try simp only [sPu]);omega) [hst];try rfl))) | (apply ops_y;(focus rfl);(focus ((try simp only [sPu]);omega));(focus (simp (disch:=(try simp only [sPu]);omega) [hst];done));(focus (simp (disch:=(try simp only [sPu]);omega) [hst];try rfl))) | (apply ops_n;(focus rfl);(focus ((try simp only [sPu]);omega));(focus (first | (left;simp (disch:=(try simp only [sPu]);omega) [hst];done) | (right;simp (disch:=(try simp only [sPu]);omega);done)))))
      refine oNi ?_
      simp only [Exit.then]
      refine gen_act (fun a=>a.tmps.size=132∧a.defers=[]∧getT a 9=getT a2 9∧getT a 10=.slice none 0 0∧getT a 11=.int .i64 0∧getT a 101=.int .i64 0∧getT a 102=.int .i64 0) ⟨by simp [sPu,z],by simp [dPu,zd],by simp (disch:=(try simp only [sPu]);omega) [z9],by simp (disch:=(try simp only [sPu]);omega) [z10],by simp (disch:=(try simp only [sPu]);omega) [z11],by simp (disch:=(try simp only [sPu]);omega),by simp (disch:=(try simp only [sPu]);omega)⟩ ?_
      rintro a7 ⟨y,yd,y9,y10,y11,y101,y102⟩
      refine SC.wp_block (SC.wp_loop (fun a' w'=>a'=a7∧w'=w7) (fun _ _=>0) ⟨rfl,rfl⟩ ?_)
      rintro _ _ ⟨rfl,rfl⟩
      rename_i a7 w7
      refine SC.wp_seq (SC.wp_reg ?_)
      repeat (first | (apply ops_1;(focus (simp (disch:=(try simp only [sPu]);omega) [y101,y102];try rfl))) | (apply ops_y;(focus rfl);(focus ((try simp only [sPu]);omega));(focus (simp (disch:=(try simp only [sPu]);omega) [y101,y102];done));(focus (simp (disch:=(try simp only [sPu]);omega) [y101,y102];try rfl))) | (apply ops_n;(focus rfl);(focus ((try simp only [sPu]);omega));(focus (first | (left;simp (disch:=(try simp only [sPu]);omega) [y101,y102];done) | (right;simp (disch:=(try simp only [sPu]);omega);done)))))
      refine oNi ?_
      simp only [Exit.then]
      refine SC.wp_seq (SC.wp_cond (t:=false) (by simp (disch:=(try simp only [sPu]);omega)) ?_)
      rw [if_neg (by simp)]
      refine SC.wp_exit ?_
      simp only [Exit.then,Exit.inBlock,if_true]
      refine SC.wp_seq (SC.wp_reg ?_)
      have ew00:IntKind.u64.wrap 0=0:=rfl
      iterate 3 (first | (apply ops_1;(focus (simp (disch:=(try simp only [sPu]);omega) [hst,y9,y11,ew00];try rfl))) | (apply ops_y;(focus rfl);(focus ((try simp only [sPu]);omega));(focus (simp (disch:=(try simp only [sPu]);omega) [hst,y9,y11,ew00];done));(focus (simp (disch:=(try simp only [sPu]);omega) [hst,y9,y11,ew00];try rfl))) | (apply ops_n;(focus rfl);(focus ((try simp only [sPu]);omega));(focus (first | (left;simp (disch:=(try simp only [sPu]);omega) [hst,y9,y11,ew00];done) | (right;simp (disch:=(try simp only [sPu]);omega);done)))))
      refine ops_call S.oU (S.cU w7 0 (by omega)) (by simp (disch:=(try simp only [sPu]);omega)) ?_
      rintro e w8 ⟨v1,rfl,o1,b1⟩
      refine ⟨v1,rfl,?_⟩
      have hsz8:w7.heap.size≤w8.heap.size:=b1.size
      have hb28:Below w2.heap.size w2 w8:=hb3.trans ((hb6.mono hsz3).trans ((hb7.mono (by omega)).trans (b1.mono (by omega))))
      have po8:Own X.U8 w8 (w.heap.size+1) (getT a2 9) (wFsT ver true fs tg l):=own_keep po hb28
      have hll:(wFsT ver true fs tg l).length+(uvarint 0).length≤lim:=by
        simp only [if_true,List.length_append,Tree.l] at hl
        exact hl
      refine oNo rfl (opw_appendU8 (B:=w.heap.size+1) (dv:=getT a2 9) (xv:=v1) (xs:=wFsT ver true fs tg l) (bs:=uvarint 0) hU8s (by simp (disch:=(try simp only [sPu]);omega)) (by simp (disch:=(try simp only [sPu]);omega)) rfl po8 (by omega) (src_own hU8s o1) hll ?_)
      intro v2 w9 o2 b2 s9 g9
      iterate 1 (first | (apply ops_1;(focus (simp (disch:=(try simp only [sPu]);omega) [y10];try rfl))) | (apply ops_y;(focus rfl);(focus ((try simp only [sPu]);omega));(focus (simp (disch:=(try simp only [sPu]);omega) [y10];done));(focus (simp (disch:=(try simp only [sPu]);omega) [y10];try rfl))) | (apply ops_n;(focus rfl);(focus ((try simp only [sPu]);omega));(focus (first | (left;simp (disch:=(try simp only [sPu]);omega) [y10];done) | (right;simp (disch:=(try simp only [sPu]);omega);done)))))
      refine oNo rfl (opw_appendU8 (B:=w.heap.size+1) (dv:=v2) (xv:=.slice none 0 0) (xs:=wFsT ver true fs tg l ++ uvarint 0) (bs:=[]) hU8s (by simp (disch:=(try simp only [sPu]);omega)) (by simp (disch:=(try simp only [sPu]);omega)) rfl o2 s9 (src_own hU8s (own_nil X.U8 w9 0)) (by rw [List.length_append];simpa using hll) ?_)
      intro v3 w10 o3 b3 s10 _
      repeat (first | (apply ops_1;(focus (simp (disch:=(try simp only [sPu]);omega) ;try rfl))) | (apply ops_y;(focus rfl);(focus ((try simp only [sPu]);omega));(focus (simp (disch:=(try simp only [sPu]);omega);done));(focus (simp (disch:=(try simp only [sPu]);omega) ;try rfl))) | (apply ops_n;(focus rfl);(focus ((try simp only [sPu]);omega));(focus (first | (left;simp (disch:=(try simp only [sPu]);omega);done) | (right;simp (disch:=(try simp only [sPu]);omega);done)))))
      refine oNi (SC.wp_ret ?_)
      try simp only [Exit.then]
      refine fin _ _ v3 _ (by simp [dPu,yd]) (by simp (disch:=(try simp only [sPu]);omega)) (own_down o3 (by omega)) (hbw2.trans ((hb28.mono (by omega)).trans ((b2.mono (by omega)).trans (b3.mono (by omega))))) (by simp [Tree.l])
    · have hkl:k < kn:=by simp at e1;omega
      rw [if_pos rfl]
      refine SC.wp_skip ?_
      simp only [Exit.then]
      refine SC.wp_seq (SC.wp_block (SC.wp_seq (SC.wp_reg ?_)))
      repeat (first | (apply ops_1;(focus (simp (disch:=(try simp only [sPu]);omega) [z52];try rfl))) | (apply ops_y;(focus rfl);(focus ((try simp only [sPu]);omega));(focus (simp (disch:=(try simp only [sPu]);omega) [z52];done));(focus (simp (disch:=(try simp only [sPu]);omega) [z52];try rfl))) | (apply ops_n;(focus rfl);(focus ((try simp only [sPu]);omega));(focus (first | (left;simp (disch:=(try simp only [sPu]);omega) [z52];done) | (right;simp (disch:=(try simp only [sPu]);omega);done)))))
      refine oNi (SC.wp_seq (SC.wp_reg ?_))
      repeat (first | (apply ops_1;(focus (simp (disch:=(try simp only [sPu]);omega) [hst,z0];try rfl))) | (apply ops_y;(focus rfl);(focus ((try simp only [sPu]);omega));(focus (simp (disch:=(try simp only [sPu]);omega) [hst,z0];done));(focus (simp (disch:=(try simp only [sPu]);omega) [hst,z0];try rfl))) | (apply ops_n;(focus rfl);(focus ((try simp only [sPu]);omega));(focus (first | (left;simp (disch:=(try simp only [sPu]);omega) [hst,z0];done) | (right;simp (disch:=(try simp only [sPu]);omega);done)))))
      refine oNi ?_
      simp only [Exit.then]
      refine SC.wp_block (SC.wp_loop (fun a' w'=>C a'∧getT a' 52=.int .i64 (k:Int)∧getT a' 14=.int .i64 (k:Int)∧getT a' 55=.slice fb (Fs.len fs) fcap∧getT a' 56=.int .i64 (Fs.len fs:Int)∧(∃ j:Nat,getT a' 57=.int .i64 (j:Int)∧j≤Fs.len fs)∧Below w3.heap.size w3 w') (fun a' _=>match getT a' 57 with | .int _ m=>(Fs.len fs - m).toNat | _=>0)
        ⟨by rw [hC];exact ⟨by simp [sPu,z],by simp [dPu,zd],by simp (disch:=(try simp only [sPu]);omega) [z0],by simp (disch:=(try simp only [sPu]);omega) [z7],by simp (disch:=(try simp only [sPu]);omega) [z9],by simp (disch:=(try simp only [sPu]);omega) [z10],by simp (disch:=(try simp only [sPu]);omega) [z11],by simp (disch:=(try simp only [sPu]);omega) [z51]⟩,by simp (disch:=(try simp only [sPu]);omega) [z52],by simp (disch:=(try simp only [sPu]);omega),by simp (disch:=(try simp only [sPu]);omega),by simp (disch:=(try simp only [sPu]);omega),⟨0,by simp (disch:=(try simp only [sPu]);omega),by omega⟩,hb6⟩ ?_)
      rintro a8 w8 ⟨hC8,x52,x14,x55,x56,⟨j,x57,hj⟩,hb8⟩
      rw [hC] at hC8
      obtain ⟨x,xd,x0,x7,x9,x10,x11,x51⟩:=hC8
      have hsz8:=hb8.size
      refine SC.wp_seq (SC.wp_reg ?_)
      repeat (first | (apply ops_1;(focus (simp (disch:=(try simp only [sPu]);omega) [x56,x57];try rfl))) | (apply ops_y;(focus rfl);(focus ((try simp only [sPu]);omega));(focus (simp (disch:=(try simp only [sPu]);omega) [x56,x57];done));(focus (simp (disch:=(try simp only [sPu]);omega) [x56,x57];try rfl))) | (apply ops_n;(focus rfl);(focus ((try simp only [sPu]);omega));(focus (first | (left;simp (disch:=(try simp only [sPu]);omega) [x56,x57];done) | (right;simp (disch:=(try simp only [sPu]);omega);done)))))
      refine oNi ?_
      simp only [Exit.then]
      refine SC.wp_seq (SC.wp_cond (t:=decide ((j:Int) < (Fs.len fs:Int))) (by simp (disch:=(try simp only [sPu]);omega)) ?_)
      cases e2:decide ((j:Int) < (Fs.len fs:Int))
      · rw [if_neg (by simp)]
        refine SC.wp_exit ?_
        simp only [Exit.then,Exit.inBlock,if_true]
        refine SC.wp_reg ?_
        repeat (first | (apply ops_1;(focus (simp (disch:=(try simp only [sPu]);omega) [x52,ewk1];try rfl))) | (apply ops_y;(focus rfl);(focus ((try simp only [sPu]);omega));(focus (simp (disch:=(try simp only [sPu]);omega) [x52,ewk1];done));(focus (simp (disch:=(try simp only [sPu]);omega) [x52,ewk1];try rfl))) | (apply ops_n;(focus rfl);(focus ((try simp only [sPu]);omega));(focus (first | (left;simp (disch:=(try simp only [sPu]);omega) [x52,ewk1];done) | (right;simp (disch:=(try simp only [sPu]);omega);done)))))
        refine oNi ⟨⟨by rw [hC];exact ⟨by simp [sPu,x],by simp [dPu,xd],by simp (disch:=(try simp only [sPu]);omega) [x0],by simp (disch:=(try simp only [sPu]);omega) [x7],by simp (disch:=(try simp only [sPu]);omega) [x9],by simp (disch:=(try simp only [sPu]);omega) [x10],by simp (disch:=(try simp only [sPu]);omega) [x11],by simp (disch:=(try simp only [sPu]);omega) [x51]⟩,⟨k+1,by simp (disch:=(try simp only [sPu]);omega),by omega⟩,hb8⟩,?_⟩
        rw [z52]
        simp (disch:=(try simp only [sPu]);omega);omega
      · have hjl:j < Fs.len fs:=by simp at e2;omega
        rw [if_pos rfl]
        refine SC.wp_skip ?_
        simp only [Exit.then]
        obtain ⟨h,ty,hdrop⟩:=drop_cons j fs hjl
        rcases hfs with hfs | ⟨b,o,rfl,hbF,hfs⟩
        · omega
        have hfj:=fsAtT_drop j fs tg b o hfs
        rw [hdrop] at hfj
        simp only [FsAtT] at hfj
        obtain ⟨⟨of_,sub,hr8,h1c,hof,hsub⟩,_⟩:=hfj
        have htj:=htg.at j
        have husj:=hus j h ty (Fs.drop (j+1) fs) hdrop
        obtain ⟨tj,etj⟩:∃ tj,tj=(tg.drop j).headD (-1):=⟨_,rfl⟩
        rw [← etj] at htj hr8 husj
        have hbw8:Below w.heap.size w w8:=hbw3.trans (hb8.mono (by omega))
        have hr8':=(rangeV_mono (w:=w8) (hbw8.block b hbF) 8 (o+j * 8)).trans hr8
        have ej:(0:Int)≤(j:Int)∧(j:Int) < (Fs.len fs:Int):=by omega
        have ewj:IntKind.i64.wrap ((j:Int)+1)=((j+1:Nat):Int):=by rw [wrap_i64'];split <;> omega
        refine SC.wp_seq (SC.wp_block (SC.wp_seq (SC.wp_reg ?_)))
        iterate 3 (first | (apply ops_1;(focus (simp (disch:=(try simp only [sPu]);omega) [hst,x55,x57,ej,hr8',hjl];try rfl))) | (apply ops_y;(focus rfl);(focus ((try simp only [sPu]);omega));(focus (simp (disch:=(try simp only [sPu]);omega) [hst,x55,x57,ej,hr8',hjl];done));(focus (simp (disch:=(try simp only [sPu]);omega) [hst,x55,x57,ej,hr8',hjl];try rfl))) | (apply ops_n;(focus rfl);(focus ((try simp only [sPu]);omega));(focus (first | (left;simp (disch:=(try simp only [sPu]);omega) [hst,x55,x57,ej,hr8',hjl];done) | (right;simp (disch:=(try simp only [sPu]);omega);done)))))
        refine oNo rfl (opw_alloc hiF hzF ?_)
        iterate 1 (first | (apply ops_1;(focus (simp (disch:=(try simp only [sPu]);omega) ;try rfl))) | (apply ops_y;(focus rfl);(focus ((try simp only [sPu]);omega));(focus (simp (disch:=(try simp only [sPu]);omega);done));(focus (simp (disch:=(try simp only [sPu]);omega) ;try rfl))) | (apply ops_n;(focus rfl);(focus ((try simp only [sPu]);omega));(focus (first | (left;simp (disch:=(try simp only [sPu]);omega);done) | (right;simp (disch:=(try simp only [sPu]);omega);done)))))
        refine oNo rfl (opw_store_agg (b:=w8.heap.size) (cs:=[.int .i64 (kindOf ty),.int .i64 h.from_,.int .i64 h.to,.int .i64 h.null,.int .i64 tj,.int .i64 h.dflt,.int .i64 of_,sub]) hTF1 (by simp (disch:=(try simp only [sPu]);omega)) (by simp (disch:=(try simp only [sPu]);omega)) (heap_alloc_new w8 _) (by simp [hzFs]) (by
          intro v hv
          simp only [List.mem_cons,List.not_mem_nil,or_false] at hv
          rcases hv with rfl | rfl | rfl | rfl | rfl | rfl | rfl | rfl <;> first | rfl | exact h1c) (oNi ?_))
        have hnew:((w8.alloc (.cells zF.cells X.F)).setRow w8.heap.size #[.int .i64 (kindOf ty),.int .i64 h.from_,.int .i64 h.to,.int .i64 h.null,.int .i64 tj,.int .i64 h.dflt,.int .i64 of_,sub]).heap[w8.heap.size]?=some (.cells #[.int .i64 (kindOf ty),.int .i64 h.from_,.int .i64 h.to,.int .i64 h.null,.int .i64 tj,.int .i64 h.dflt,.int .i64 of_,sub] X.F (0,0)):=setRow_heap _ _ _ _ _ _ (heap_alloc_new w8 _)
        have hb9:Below w8.heap.size w8 ((w8.alloc (.cells zF.cells X.F)).setRow w8.heap.size #[.int .i64 (kindOf ty),.int .i64 h.from_,.int .i64 h.to,.int .i64 h.null,.int .i64 tj,.int .i64 h.dflt,.int .i64 of_,sub]):=below_setRow ((Below.refl _ _).alloc (Nat.le_refl _) _) (Nat.le_refl _) _
        have hsz9:((w8.alloc (.cells zF.cells X.F)).setRow w8.heap.size #[.int .i64 (kindOf ty),.int .i64 h.from_,.int .i64 h.to,.int .i64 h.null,.int .i64 tj,.int .i64 h.dflt,.int .i64 of_,sub]).heap.size=w8.heap.size+1:=by simp
        simp only [Exit.then,pNo]
        generalize ((w8.alloc (.cells zF.cells X.F)).setRow w8.heap.size #[.int .i64 (kindOf ty),.int .i64 h.from_,.int .i64 h.to,.int .i64 h.null,.int .i64 tj,.int .i64 h.dflt,.int .i64 of_,sub])=w9 at *
        have hc9:∀ i,w9.cell? ⟨w8.heap.size,i,none⟩=#[Value.int .i64 (kindOf ty),.int .i64 h.from_,.int .i64 h.to,.int .i64 h.null,.int .i64 tj,.int .i64 h.dflt,.int .i64 of_,sub][i]?:=fun i=>cell_of_row _ _ _ _ _ _ hnew
        refine gen_act (fun a=>a.tmps.size=132∧a.defers=[]∧getT a 0=.slice (some ⟨b,o,none⟩) (Fs.len fs) fcap∧getT a 7=.pointer (some ⟨w.heap.size,0,none⟩)∧getT a 9=getT a2 9∧getT a 10=.slice none 0 0∧getT a 11=.int .i64 0∧getT a 51=.int .i64 (kn:Int)∧getT a 52=.int .i64 (k:Int)∧getT a 14=.int .i64 (k:Int)∧getT a 55=.slice (some ⟨b,o,none⟩) (Fs.len fs) fcap∧getT a 56=.int .i64 (Fs.len fs:Int)∧getT a 57=.int .i64 (j:Int)∧getT a 15=.int .i64 (j:Int)∧getT a 16=.pointer (some ⟨w8.heap.size,0,none⟩))
          ⟨by simp [sPu,x],by simp [dPu,xd],by simp (disch:=(try simp only [sPu]);omega) [x0],by simp (disch:=(try simp only [sPu]);omega) [x7],by simp (disch:=(try simp only [sPu]);omega) [x9],by simp (disch:=(try simp only [sPu]);omega) [x10],by simp (disch:=(try simp only [sPu]);omega) [x11],by simp (disch:=(try simp only [sPu]);omega) [x51],by simp (disch:=(try simp only [sPu]);omega) [x52],by simp (disch:=(try simp only [sPu]);omega) [x14],by simp (disch:=(try simp only [sPu]);omega) [x55],by simp (disch:=(try simp only [sPu]);omega) [x56],by simp (disch:=(try simp only [sPu]);omega) [x57],by simp (disch:=(try simp only [sPu]);omega),by simp (disch:=(try simp only [sPu]);omega)⟩ ?_
        clear x xd x0 x7 x9 x10 x11 x51 x52 x14 x55 x56
        rintro a9 ⟨x,xd,x0,x7,x9,x10,x11,x51,x52,x14,x55,x56,x57',x15,x16⟩
        have next:∀ (a':Act) (w':World) (Q':Exit→Act→World→Prop),a'.tmps.size=132→a'.defers=[]→(∀ s,s < 62→getT a' s=getT a9 s)→Below w8.heap.size w8 w' →
            (∀ a'',(C a''∧getT a'' 52=.int .i64 (k:Int)∧getT a'' 14=.int .i64 (k:Int)∧getT a'' 55=.slice (some ⟨b,o,none⟩) (Fs.len fs) fcap∧getT a'' 56=.int .i64 (Fs.len fs:Int)∧(∃ j:Nat,getT a'' 57=.int .i64 (j:Int)∧j≤Fs.len fs)∧Below w3.heap.size w3 w')→(match getT a'' 57 with | .int _ m=>(Fs.len fs - m).toNat | _=>0) < (Fs.len fs - (j:Int)).toNat→Q' .normal a'' w') →
            SC.wp P (.reg [⟨some 95,.binOp .add X.I (.tmp 57) (.const (.int .i64 1)) X.I,none⟩,mv 57 95]) Q' a' w':=by
          intro a' w' Q' y yd ys yb hq
          have y57:=(ys 57 (by omega)).trans x57'
          refine SC.wp_reg ?_
          repeat (first | (apply ops_1;(focus (simp (disch:=(try simp only [sPu]);omega) [y57,ewj];try rfl))) | (apply ops_y;(focus rfl);(focus ((try simp only [sPu]);omega));(focus (simp (disch:=(try simp only [sPu]);omega) [y57,ewj];done));(focus (simp (disch:=(try simp only [sPu]);omega) [y57,ewj];try rfl))) | (apply ops_n;(focus rfl);(focus ((try simp only [sPu]);omega));(focus (first | (left;simp (disch:=(try simp only [sPu]);omega) [y57,ewj];done) | (right;simp (disch:=(try simp only [sPu]);omega);done)))))
          refine oNi (hq _ ⟨?_,?_,?_,?_,?_,⟨j+1,by simp (disch:=(try simp only [sPu]);omega),by omega⟩,hb8.trans (yb.mono hsz8)⟩ ?_)
          · rw [hC]
            exact ⟨by simp [sPu,y],by simp [dPu,yd],by simp (disch:=(try simp only [sPu]);omega) [ys 0 (by omega),x0],by simp (disch:=(try simp only [sPu]);omega) [ys 7 (by omega),x7],by simp (disch:=(try simp only [sPu]);omega) [ys 9 (by omega),x9],by simp (disch:=(try simp only [sPu]);omega) [ys 10 (by omega),x10],by simp (disch:=(try simp only [sPu]);omega) [ys 11 (by omega),x11],by simp (disch:=(try simp only [sPu]);omega) [ys 51 (by omega),x51]⟩
          · simp (disch:=(try simp only [sPu]);omega) [ys 52 (by omega),x52]
          · simp (disch:=(try simp only [sPu]);omega) [ys 14 (by omega),x14]
          · simp (disch:=(try simp only [sPu]);omega) [ys 55 (by omega),x55]
          · simp (disch:=(try simp only [sPu]);omega) [ys 56 (by omega),x56]
          · simp (disch:=(try simp only [sPu]);omega);omega
        have hF8:rangeV w9.drew w8.heap.size 0 8=some [.int .i64 (kindOf ty),.int .i64 h.from_,.int .i64 h.to,.int .i64 h.null,.int .i64 tj,.int .i64 h.dflt,.int .i64 of_,sub]:=by
          have:rangeV w9 w8.heap.size 0 8=some [.int .i64 (kindOf ty),.int .i64 h.from_,.int .i64 h.to,.int .i64 h.null,.int .i64 tj,.int .i64 h.dflt,.int .i64 of_,sub]:=by simp [rangeV,hc9]
          exact this
        have hc9d:w9.drew.cell? ⟨w8.heap.size,4,none⟩=some (.int .i64 tj):=(hc9 4).trans rfl
        have hbw9:Below w.heap.size w w9:=hbw8.trans (hb9.mono (by omega))
        have hT59:rangeV w9.drew w.heap.size 0 5=some [.int .i64 n,.slice sb s.length sc,.bool tnull,.slice lb l.length lc,.slice ub 0 uc]:=by
          have:rangeV w9 w.heap.size 0 5=some [.int .i64 n,.slice sb s.length sc,.bool tnull,.slice lb l.length lc,.slice ub 0 uc]:=by
            have hcc:∀ i,w9.cell? ⟨w.heap.size,i,none⟩=#[Value.int .i64 n,.slice sb s.length sc,.bool tnull,.slice lb l.length lc,.slice ub 0 uc][i]?:=fun i=>by rw [hb9.cell (by show w.heap.size < w8.heap.size;omega),hb8.cell (by show w.heap.size < w3.heap.size;omega)];exact hc3 i
            simp [rangeV,hcc]
          exact this
        have hlt1:w.heap.size < w9.heap.size:=by omega
        have hlt2:w8.heap.size < w9.heap.size:=by omega
        refine SC.wp_seq (SC.wp_dreg hm (Below w9.heap.size w9.drew) [(0,true),(1,true),(2,true),(3,true),(4,true),(5,true),(6,true),(7,true),(8,false),(9,false),(10,true),(11,true)] (by rfl) (by rfl) (by decide) (Below.refl _ _) ?_)
        cases htk:decide (tj=(k:Int)) with
        | false =>
          have htb:(tj == (k:Int))=false:=by simpa using htk
          repeat (first | (apply dr_1;(focus rfl);(focus (simp (disch:=(try simp only [sPu]);omega) [hst,x16,x14,hc9d,hlt1,hlt2,htb];try rfl))) | (apply dr_y;(focus rfl);(focus rfl);(focus ((try simp only [sPu]);omega));(focus (simp (disch:=(try simp only [sPu]);omega) [hst,x16,x14,hc9d,hlt1,hlt2,htb];done));(focus (simp (disch:=(try simp only [sPu]);omega) [hst,x16,x14,hc9d,hlt1,hlt2,htb];try rfl))) | (apply dr_n;(focus rfl);(focus rfl);(focus ((try simp only [sPu]);omega));(focus (first | (left;simp (disch:=(try simp only [sPu]);omega) [hst,x16,x14,hc9d,hlt1,hlt2,htb];done) | (right;simp (disch:=(try simp only [sPu]);omega);done)))))
          refine dreg_nil ?_
          simp only [Exit.then]
          refine SC.wp_cond (t:=false) (by simp (disch:=(try simp only [sPu]);omega)) ?_
          rw [if_neg (by simp)]
          refine SC.wp_skip ?_
          simp only [Exit.inBlock,Exit.then]
          refine next _ _ _ (by simp [sPu,x]) (by simp [dPu,xd]) (fun s hs=>by simp (disch:=omega) [gTn]) hb9.drew fun a'' hI hlt=>⟨hI,by rw [x57];exact hlt⟩
        | true =>
          have htk':tj=(k:Int):=of_decide_eq_true htk
          have htb:(tj == (k:Int))=true:=by simpa using htk
          obtain ⟨hlist,hnil⟩:=husj (by omega)
          iterate 8 (first | (apply dr_1;(focus rfl);(focus (simp (disch:=(try simp only [sPu]);omega) [hst,x16,x14,x7,x15,hc9d,hF8,hT59,hlt1,hlt2,htb];try rfl))) | (apply dr_y;(focus rfl);(focus rfl);(focus ((try simp only [sPu]);omega));(focus (simp (disch:=(try simp only [sPu]);omega) [hst,x16,x14,x7,x15,hc9d,hF8,hT59,hlt1,hlt2,htb];done));(focus (simp (disch:=(try simp only [sPu]);omega) [hst,x16,x14,x7,x15,hc9d,hF8,hT59,hlt1,hlt2,htb];try rfl))) | (apply dr_n;(focus rfl);(focus rfl);(focus ((try simp only [sPu]);omega));(focus (first | (left;simp (disch:=(try simp only [sPu]);omega) [hst,x16,x14,x7,x15,hc9d,hF8,hT59,hlt1,hlt2,htb];done) | (right;simp (disch:=(try simp only [sPu]);omega);done)))))
          have hat:=S.cA w9.drew (Tree.mk n s tnull l []) (treV n (.slice sb s.length sc) tnull (.slice lb l.length lc) (.slice ub 0 uc)) j (TV.down hbw9.drew (by show w.heap.size≤w9.heap.size;omega) ht0)
          obtain ⟨fnA,hA1,hA2,hA3⟩:=S.oA
          refine dreg_yes rfl rfl rfl (by (try simp only [sPu]);omega) (by simp (disch:=(try simp only [sPu]);omega) [htb]) (opw_call hA1 hA2 hA3 (R:=fun e w'=>∃ v,e=.returned v∧TV G w9.drew (· < w9.drew.heap.size) (((Tree.mk n s tnull l []).l.drop j).headD Tree.zero) v∧Below w9.drew.heap.size w9.drew w') ?_ ?_)
          · refine Eq.mp (congrArg (fun z=>Calls P fAt z w9.drew _) ?_) hat
            simp (disch:=(try simp only [sPu]);omega) [treV]
          rintro e w10 ⟨v,rfl,htv,hb10⟩
          have hb10:Below w9.heap.size w9.drew w10:=hb10
          refine ⟨_,rfl,hb10,?_⟩
          generalize ((Tree.mk n s tnull l []).l.drop j).headD Tree.zero=tt at *
          cases htv with
          | mk n' s' tnull' l' u' sb' lb' ub' sc' lc' uc' b' o' cs' =>
          have hl':l'=[]:=hnil
          subst hl'
          obtain ⟨fnU,hU1,hU2,hU3⟩:=cUs.1
          refine dreg_yes rfl rfl rfl (by (try simp only [sPu]);omega) (by simp (disch:=(try simp only [sPu]);omega) [htb]) (opw_call hU1 hU2 hU3 (R:=fun e w'=>e=.returned (.bool true)∧Below w10.heap.size w10 w') ?_ ?_)
          · refine Eq.mp (congrArg (fun z=>Calls P fUs z w10 _) ?_) (cUs.2 w10 h.from_ h.to h.null tj h.dflt of_ n' sub (.slice sb' s'.length sc') (.slice ub' u'.length uc') tnull' lb' lc')
            rw [← hlist]
            simp (disch:=(try simp only [sPu]);omega) [treV,fldV]
          rintro e w11 ⟨rfl,hb11⟩
          have hsz10:w9.heap.size≤w10.heap.size:=hb10.size
          refine ⟨_,rfl,hb10.trans (hb11.mono hsz10),?_⟩
          repeat (first | (apply dr_1;(focus rfl);(focus (simp (disch:=(try simp only [sPu]);omega) [hst,htb];try rfl))) | (apply dr_y;(focus rfl);(focus rfl);(focus ((try simp only [sPu]);omega));(focus (simp (disch:=(try simp only [sPu]);omega) [hst,htb];done));(focus (simp (disch:=(try simp only [sPu]);omega) [hst,htb];try rfl))) | (apply dr_n;(focus rfl);(focus rfl);(focus ((try simp only [sPu]);omega));(focus (first | (left;simp (disch:=(try simp only [sPu]);omega) [hst,htb];done) | (right;simp (disch:=(try simp only [sPu]);omega);done)))))
          refine dreg_nil ?_
          simp only [Exit.then]
          refine SC.wp_cond (t:=false) (by simp (disch:=(try simp only [sPu]);omega)) ?_
          rw [if_neg (by simp)]
          refine SC.wp_skip ?_
          simp only [Exit.inBlock,Exit.then]
          have hb811:Below w8.heap.size w8 w11:=hb9.drew.trans ((hb10.mono (by omega)).trans (hb11.mono (by omega)))
          refine next _ _ _ (by simp [sPu,x]) (by simp [dPu,xd]) (fun s hs=>by simp (disch:=omega) [gTn]) hb811 fun a'' hI hlt=>⟨hI,by rw [x57];exact hlt⟩
end
end Go.Proofs.Ytjbbohfaihkolaa.K
namespace Go.Proofs.Ytjbbohfaihkolaa.K
open Go Go.RowKit Go.Proofs.Ytjbbohfaihkolaa.T
attribute [local simp] eTm eCo pNo gTp gTn qv qcall vop iop
set_option linter.unusedSimpArgs false
set_option linter.unusedVariables false
set_option maxHeartbeats 4000000
abbrev UsT (fs:Fs) (tg:List Int) (t:Tree):Prop:=∀ j h ty r,Fs.drop j fs=.cons h ty r→0≤(tg.drop j).headD (-1)→kindOf ty=11∧((t.l.drop j).headD Tree.zero).l=[]
def DefTC (G:List (Nat × Bytes)→Prop) (P:Program) (f:FuncId) (fs:Fs) (tg:List Int):Prop :=
  ∀ (w:World) (fv:Value),FsVT w (· < w.heap.size) fs tg fv→Calls P f #[fv] w fun e w'=>∃ v,e=.returned v∧TV G w' (fun k=>w.heap.size≤k∧k < w'.heap.size) (.mk 0 [] false (defL fs) []) v∧Below w.heap.size w w'
section
variable {G:List (Nat × Bytes)→Prop} {P:Program} {X:STy} {f:FuncId} {fn:Func} {fPart:FuncId}
theorem writeT_ok (hX:stOK P X=true) (oP:FnOK P fPart) (hf:P.funcs[f]?=some fn) (hb:fn.body.map strip=some (sc_Write X.M X.T X.Fs X.I fPart)) (hn:fn.ntmps=21) (hr:fn.results=#[.tmp 6])
    (fs:Fs) (tg:List Int) (cP:PartTC G P X fPart fs tg) (w:World) (fv:Value) (mflex ver:Int) (t:Tree) (tv:Value) (hfv:FsVT w (· < w.heap.size) fs tg fv) (ht:TV G w (· < w.heap.size) t tv) (hu0:t.u=[]) (hus:UsT fs tg t)
    (hl:(wFsT ver (decide (0≤mflex) && decide (mflex≤ver)) fs tg t.l ++ (if (decide (0≤mflex) && decide (mflex≤ver))=true then uvarint 0 else [])).length≤lim) :
    Calls P f #[msgV fv mflex,.int .i64 ver,tv] w (RetOwn X.U8 w (wFsT ver (decide (0≤mflex) && decide (mflex≤ver)) fs tg t.l ++ (if (decide (0≤mflex) && decide (mflex≤ver))=true then uvarint 0 else []))):=by
  have hst:=st_facts hX
  refine fCa hf hb hn (by simp) fun a0 hs hd ha=>?_
  have h0:=ha 0 _ rfl
  have h1:=ha 1 _ rfl
  have h2:=ha 2 _ rfl
  simp only [List.getElem_toArray,List.getElem_cons_zero,List.getElem_cons_succ] at h0 h1 h2
  have ht0:=ht
  cases ht with
  | mk n s tnull l u sb lb ub sc lc uc b o cs hs1 hsc hlc huc hll hrr htt hG hu =>
  refine SC.wp_seq (SC.wp_reg (ops_box (B:=w.heap.size) (w0:=w) (by rw [eTm,h0];rfl) (Nat.le_refl _) (Below.refl _ _) fun w1 q1 q2 q3 hc q5=>?_))
  refine ops_box (B:=w.heap.size) (w0:=w) (cs:=#[.int .i64 n,.slice sb s.length sc,.bool tnull,.slice lb l.length lc,.slice ub u.length uc]) (by simp (disch:=(try simp only [sPu]);omega) [h2,treV]) (by omega) q2 fun w2 r1 r2 r3 hd2 r5=>?_
  repeat (first | (apply ops_1;(focus (simp (disch:=(try simp only [sPu]);omega) ;try rfl))) | (apply ops_y;(focus rfl);(focus ((try simp only [sPu]);omega));(focus (simp (disch:=(try simp only [sPu]);omega);done));(focus (simp (disch:=(try simp only [sPu]);omega) ;try rfl))) | (apply ops_n;(focus rfl);(focus ((try simp only [sPu]);omega));(focus (first | (left;simp (disch:=(try simp only [sPu]);omega);done) | (right;simp (disch:=(try simp only [sPu]);omega);done)))))
  refine oNi ?_
  have hc2:∀ j,w2.cell? ⟨w.heap.size,j,none⟩=#[fv,.int .i64 mflex][j]?:=fun j=>by rw [r1.cell (by show w.heap.size < w1.heap.size;omega)];exact hc j
  have hsz2:w2.heap.size=w.heap.size+2:=by omega
  rw [q3] at hd2 ⊢
  clear hc q1 q2 q3 q5 r1 r3 r5 w1
  have hT5:rangeV w2 (w.heap.size+1) 0 5=some [.int .i64 n,.slice sb s.length sc,.bool tnull,.slice lb l.length lc,.slice ub u.length uc]:=by simp [rangeV,hd2]
  refine SC.wp_seq (SC.wp_reg ?_)
  have fin:∀ (flex:Bool) (a:Act),a.defers=[]→getT a 8=fv→getT a 9=.int .i64 ver→getT a 18=.bool flex→getT a 5=.pointer (some ⟨w.heap.size+1,0,none⟩)→a.tmps.size=21→(decide (0≤mflex) && decide (mflex≤ver))=flex→∀ all,opsw P all [ld 19 X.T 5,cal 20 fPart [8,9,18,19],asg 6 20] (Exit.then (SC.wp P .ret (bodyPost P fn (RetOwn X.U8 w (wFsT ver (decide (0≤mflex) && decide (mflex≤ver)) fs tg (Tree.mk n s tnull l u).l ++ (if (decide (0≤mflex) && decide (mflex≤ver))=true then uvarint 0 else []))))) (bodyPost P fn (RetOwn X.U8 w (wFsT ver (decide (0≤mflex) && decide (mflex≤ver)) fs tg (Tree.mk n s tnull l u).l ++ (if (decide (0≤mflex) && decide (mflex≤ver))=true then uvarint 0 else [])))) .normal) a w2:=by
    intro flex a pd p8 p9 p18 p5 ps hfl all
    rw [hfl] at hl ⊢
    iterate 1 (first | (apply ops_1;(focus (simp (disch:=(try simp only [sPu]);omega) [hst,p5,hT5];try rfl))) | (apply ops_y;(focus rfl);(focus ((try simp only [sPu]);omega));(focus (simp (disch:=(try simp only [sPu]);omega) [hst,p5,hT5];done));(focus (simp (disch:=(try simp only [sPu]);omega) [hst,p5,hT5];try rfl))) | (apply ops_n;(focus rfl);(focus ((try simp only [sPu]);omega));(focus (first | (left;simp (disch:=(try simp only [sPu]);omega) [hst,p5,hT5];done) | (right;simp (disch:=(try simp only [sPu]);omega);done)))))
    refine ops_call oP (cP w2 fv ver flex _ _ (FsVT.down r2 (by omega) hfv) (TV.down r2 (by omega) ht0) hu0 hus hl) (by simp (disch:=(try simp only [sPu]);omega) [p8,p9,p18,treV]) ?_
    rintro e w3 ⟨v,rfl,o1,b1⟩
    refine ⟨v,rfl,?_⟩
    repeat (first | (apply ops_1;(focus (simp (disch:=(try simp only [sPu]);omega) ;try rfl))) | (apply ops_y;(focus rfl);(focus ((try simp only [sPu]);omega));(focus (simp (disch:=(try simp only [sPu]);omega);done));(focus (simp (disch:=(try simp only [sPu]);omega) ;try rfl))) | (apply ops_n;(focus rfl);(focus ((try simp only [sPu]);omega));(focus (first | (left;simp (disch:=(try simp only [sPu]);omega);done) | (right;simp (disch:=(try simp only [sPu]);omega);done)))))
    refine oNi ?_
    simp only [Exit.then]
    refine SC.wp_ret (ret_tmp hr (by simp [dPu,pd]) ⟨v,?_,own_down o1 (by omega),r2.trans (b1.mono (by omega))⟩)
    simp (disch:=(try simp only [sPu]);omega)
  cases e1:decide (0≤mflex)
  · rw [e1] at fin
    iterate 12 (first | (apply ops_1;(focus (simp (disch:=(try simp only [sPu]);omega) [hst,hc2,hT5,h1,e1];try rfl))) | (apply ops_y;(focus rfl);(focus ((try simp only [sPu]);omega));(focus (simp (disch:=(try simp only [sPu]);omega) [hst,hc2,hT5,h1,e1];done));(focus (simp (disch:=(try simp only [sPu]);omega) [hst,hc2,hT5,h1,e1];try rfl))) | (apply ops_n;(focus rfl);(focus ((try simp only [sPu]);omega));(focus (first | (left;simp (disch:=(try simp only [sPu]);omega) [hst,hc2,hT5,h1,e1];done) | (right;simp (disch:=(try simp only [sPu]);omega);done)))))
    refine fin false _ (by simp [dPu,hd]) (by simp (disch:=(try simp only [sPu]);omega)) (by simp (disch:=(try simp only [sPu]);omega)) (by simp (disch:=(try simp only [sPu]);omega)) (by simp (disch:=(try simp only [sPu]);omega)) (by simp [sPu,hs]) (by simp) _
  · cases e2:decide (mflex≤ver)
    · rw [e1,e2] at fin
      iterate 12 (first | (apply ops_1;(focus (simp (disch:=(try simp only [sPu]);omega) [hst,hc2,hT5,h1,e1,e2];try rfl))) | (apply ops_y;(focus rfl);(focus ((try simp only [sPu]);omega));(focus (simp (disch:=(try simp only [sPu]);omega) [hst,hc2,hT5,h1,e1,e2];done));(focus (simp (disch:=(try simp only [sPu]);omega) [hst,hc2,hT5,h1,e1,e2];try rfl))) | (apply ops_n;(focus rfl);(focus ((try simp only [sPu]);omega));(focus (first | (left;simp (disch:=(try simp only [sPu]);omega) [hst,hc2,hT5,h1,e1,e2];done) | (right;simp (disch:=(try simp only [sPu]);omega);done)))))
      refine fin false _ (by simp [dPu,hd]) (by simp (disch:=(try simp only [sPu]);omega)) (by simp (disch:=(try simp only [sPu]);omega)) (by simp (disch:=(try simp only [sPu]);omega)) (by simp (disch:=(try simp only [sPu]);omega)) (by simp [sPu,hs]) (by simp) _
    · rw [e1,e2] at fin
      iterate 12 (first | (apply ops_1;(focus (simp (disch:=(try simp only [sPu]);omega) [hst,hc2,hT5,h1,e1,e2];try rfl))) | (apply ops_y;(focus rfl);(focus ((try simp only [sPu]);omega));(focus (simp (disch:=(try simp only [sPu]);omega) [hst,hc2,hT5,h1,e1,e2];done));(focus (simp (disch:=(try simp only [sPu]);omega) [hst,hc2,hT5,h1,e1,e2];try rfl))) | (apply ops_n;(focus rfl);(focus ((try simp only [sPu]);omega));(focus (first | (left;simp (disch:=(try simp only [sPu]);omega) [hst,hc2,hT5,h1,e1,e2];done) | (right;simp (disch:=(try simp only [sPu]);omega);done)))))
      refine fin true _ (by simp [dPu,hd]) (by simp (disch:=(try simp only [sPu]);omega)) (by simp (disch:=(try simp only [sPu]);omega)) (by simp (disch:=(try simp only [sPu]);omega)) (by simp (disch:=(try simp only [sPu]);omega)) (by simp [sPu,hs]) (by simp) _
theorem defaultT_ok (hX:stOK P X=true) (hTF:arrB P X.F 8=true) (hT:TreeT P X) (h0G:G []) (oD:FnOK P f) (hf:P.funcs[f]?=some fn) (hb:fn.body.map strip=some (sc_SDefault X.T X.Fs X.I X.F X.I64 X.Ts f)) (hn:fn.ntmps=35) (hr:fn.results=#[.cell 2 X.T])
    (fs:Fs) (hlen63:Fs.len fs < 4294967296) (cP:SubsD (DefC G P f) fs)  (tg:List Int):DefTC G P f fs tg:=by
  intro w fv hfv
  have hst:=st_facts hX
  obtain ⟨hTF1,iF,zF,hiF,hzF,hzFs⟩:=arr_of hTF
  obtain ⟨iT,hiT,hzT,hszT,hbyT⟩:=hT.info
  obtain ⟨fb,fcap,rfl,hfs⟩:=hfv
  refine fCa hf hb hn (by simp) fun a0 hs hd ha=>?_
  have h0:=ha 0 _ rfl
  simp only [List.getElem_toArray,List.getElem_cons_zero,List.getElem_cons_succ] at h0
  refine SC.wp_seq (SC.wp_reg (oNo rfl (opw_alloc hiT hzT (oNi ?_))))
  refine SC.wp_seq (SC.wp_reg (oNo rfl (opw_alloc hiT hzT (oNi ?_))))
  have hh2:((w.alloc (.cells zeroTV.cells X.T)).alloc (.cells zeroTV.cells X.T)).heap[w.heap.size]?=some (.cells #[.int .i64 0,.slice none 0 0,.bool false,.slice none 0 0,.slice none 0 0] X.T (0,0)):=by
    rw [Below.heap_alloc _ _ _ (by simp)];exact heap_alloc_new w _
  have hh3:((w.alloc (.cells zeroTV.cells X.T)).alloc (.cells zeroTV.cells X.T)).heap[w.heap.size+1]?=some (.cells #[.int .i64 0,.slice none 0 0,.bool false,.slice none 0 0,.slice none 0 0] X.T (0,0)):=by
    have:=heap_alloc_new (w.alloc (.cells zeroTV.cells X.T)) (.cells zeroTV.cells X.T)
    rw [show (w.alloc (.cells zeroTV.cells X.T)).heap.size=w.heap.size+1 by simp] at this
    exact this
  have hbw:Below w.heap.size w ((w.alloc (.cells zeroTV.cells X.T)).alloc (.cells zeroTV.cells X.T)):=((Below.refl _ _).alloc (Nat.le_refl _) _).alloc (by simp) _
  have hsz:((w.alloc (.cells zeroTV.cells X.T)).alloc (.cells zeroTV.cells X.T)).heap.size=w.heap.size+2:=by simp
  rw [show (w.alloc (.cells zeroTV.cells X.T)).heap.size=w.heap.size+1 by simp]
  generalize (w.alloc (.cells zeroTV.cells X.T)).alloc (.cells zeroTV.cells X.T)=w1 at *
  refine SC.wp_seq (SC.wp_seq (SC.wp_reg ?_))
  repeat (apply ops_1;(focus (simp (disch:=(try simp only [sPu]);omega) [hst,h0];try rfl)))
  refine oNi ?_
  simp only [Exit.then]
  refine SC.wp_block (SC.wp_loop (fun a4 w5=>∃ (j:Nat) (lv:Value),a4.tmps.size=35∧a4.defers=[]∧getT a4 2=.pointer (some ⟨w.heap.size,0,none⟩)∧getT a4 3=.pointer (some ⟨w.heap.size+1,0,none⟩)∧getT a4 7=.slice fb (Fs.len fs) fcap∧getT a4 8=.int .i64 (Fs.len fs:Int)∧getT a4 9=.int .i64 (j:Int)∧j≤Fs.len fs ∧
      w5.heap[w.heap.size]?=some (.cells #[.int .i64 0,.slice none 0 0,.bool false,.slice none 0 0,.slice none 0 0] X.T (0,0))∧w5.heap[w.heap.size+1]?=some (.cells #[.int .i64 0,.slice none 0 0,.bool false,lv,.slice none 0 0] X.T (0,0))∧Rows G X fs w w5 lv j∧Below w.heap.size w w5∧w.heap.size+2≤w5.heap.size)
    (fun a4 _=>match getT a4 9 with | .int _ m=>(Fs.len fs - m).toNat | _=>0) ⟨0,.slice none 0 0,by simp [sPu,hs],by simp [dPu,hd],by simp (disch:=(try simp only [sPu]);omega),by simp (disch:=(try simp only [sPu]);omega),by simp (disch:=(try simp only [sPu]);omega),by simp (disch:=(try simp only [sPu]);omega),by simp (disch:=(try simp only [sPu]);omega),by omega,hh2,hh3,⟨[],fun _=>False,World.ownsRow_nil _ _ _ _,rfl,by simp,by simp,fun k h=>h.elim⟩,hbw,by omega⟩ ?_)
  rintro a4 w5 ⟨j,lv,q,qd,q2,q3,q7,q8,q9,hj,p2,p3,hR,hb5,hsz5⟩
  refine SC.wp_seq (SC.wp_reg ?_)
  repeat (apply ops_1;(focus (simp (disch:=(try simp only [sPu]);omega) [hst,q8,q9];try rfl)))
  refine oNi ?_
  simp only [Exit.then]
  refine SC.wp_seq (SC.wp_cond (t:=decide ((j:Int) < (Fs.len fs:Int))) (by simp (disch:=(try simp only [sPu]);omega)) ?_)
  cases e1:decide ((j:Int) < (Fs.len fs:Int))
  · have hje:j=Fs.len fs:=by simp at e1;omega
    subst hje
    rw [if_neg (by simp)]
    refine SC.wp_exit ?_
    simp only [Exit.then,Exit.inBlock,if_true]
    have hc3:∀ i,w5.cell? ⟨w.heap.size+1,i,none⟩=#[Value.int .i64 0,.slice none 0 0,.bool false,lv,.slice none 0 0][i]?:=fun i=>cell_of_row _ _ _ _ _ _ p3
    have hT5:rangeV w5 (w.heap.size+1) 0 5=some [.int .i64 0,.slice none 0 0,.bool false,lv,.slice none 0 0]:=by simp [rangeV,hc3]
    refine SC.wp_seq (SC.wp_reg ?_)
    iterate 1 (apply ops_1;(focus (simp (disch:=(try simp only [sPu]);omega) [hst,q3,hT5];try rfl)))
    obtain ⟨rows,F,o1,o2,o3,o4,o5⟩:=hR
    have hlv1:lv.oneCell'=true:=by rcases o1.2 with ⟨rfl,_⟩ | ⟨g,cap,cur,rfl,_⟩ <;> rfl
    refine oNo rfl (opw_store_agg (b:=w.heap.size) (cs:=[.int .i64 0,.slice none 0 0,.bool false,lv,.slice none 0 0]) hT.agg (by simp (disch:=(try simp only [sPu]);omega) [q2]) (by simp (disch:=(try simp only [sPu]);omega)) p2 rfl (by
      intro v hv
      simp only [List.mem_cons,List.not_mem_nil,or_false] at hv
      rcases hv with rfl | rfl | rfl | rfl | rfl <;> first | rfl | exact hlv1) (oNi (SC.wp_ret ?_)))
    have hnew:=setRow_heap w5 w.heap.size _ #[.int .i64 0,.slice none 0 0,.bool false,lv,.slice none 0 0] _ _ p2
    have hbn:Below w.heap.size w (w5.setRow w.heap.size #[.int .i64 0,.slice none 0 0,.bool false,lv,.slice none 0 0]):=below_setRow hb5 (Nat.le_refl _) _
    have hoth:∀ k,w.heap.size < k→(w5.setRow w.heap.size #[.int .i64 0,.slice none 0 0,.bool false,lv,.slice none 0 0]).heap[k]?=w5.heap[k]?:=fun k hk=>setRow_other _ _ _ _ (by omega)
    have hsn:(w5.setRow w.heap.size #[.int .i64 0,.slice none 0 0,.bool false,lv,.slice none 0 0]).heap.size=w5.heap.size:=by simp
    have hpt:getT a4 2=.pointer (some ⟨w.heap.size,0,none⟩):=q2
    refine ret_cell hr (by simp [hst]) (b:=w.heap.size) (by simp (disch:=(try simp only [sPu]);omega) [q2]) hnew (by simp [dPu,qd]) ⟨_,rfl,?_,hbn⟩
    generalize (w5.setRow w.heap.size #[.int .i64 0,.slice none 0 0,.bool false,lv,.slice none 0 0])=w6 at *
    have hlen:=defL_len fs
    have hTVs:∀ (i:Nat) (x:Tree),(defL fs)[i]?=some x→∃ r:List Value,rows[i]?=some r∧TV G w6 (fun k=>w.heap.size≤k∧k < w6.heap.size) x (.agg r.toArray):=by
      intro i x hx
      have hi:i < rows.length:=by
        have:=(List.getElem?_eq_some_iff.1 hx).1
        omega
      refine ⟨rows[i],List.getElem?_eq_getElem hi,(o4 i _ x (List.getElem?_eq_getElem hi) hx).mono (fun k hk=>?_) (fun k hk=>hoth k ?_)⟩
      · have:=o5 k hk
        omega
      · have:=o5 k hk
        omega
    have main:∀ (base:Option Addr) (cap b:Nat),lv=.slice base (Fs.len fs) cap→Fs.len fs≤cap→(defL fs ≠ []→base=some ⟨b,0,none⟩∧(w.heap.size≤b∧b < w6.heap.size))→(∀ i,i < (defL fs).length→rangeV w6 b (0+i * 5) 5=some (rows.getD i [])) →
        TV G w6 (fun k=>w.heap.size≤k∧k < w6.heap.size) (.mk 0 [] false (defL fs) []) (.agg #[.int .i64 0,.slice none 0 0,.bool false,lv,.slice none 0 0]):=by
      intro base cap b z1 z2 z3 z4
      have:=TV.mk (G:=G) (w:=w6) (F:=fun k=>w.heap.size≤k∧k < w6.heap.size) 0 [] false (defL fs) [] none base none 0 cap 0 b 0 (fun i=>rows.getD i []) (.inl rfl) (Nat.le_refl _) (by rw [hlen];exact z2) (Nat.le_refl _) z3 z4 (fun i x hx=>by
        obtain ⟨r,hr1,hr2⟩:=hTVs i x hx
        have:rows.getD i []=r:=by simp [List.getD,hr1]
        show TV G w6 _ x (.agg (rows.getD i []).toArray)
        rw [this]
        exact hr2) h0G (.inl rfl)
      rw [hlen] at this
      rw [z1]
      exact this
    rcases o1.2 with ⟨hlv,h00⟩ | ⟨g,cap,cur,hlv,hBg,hg,hnc,hcm,hcs,htake⟩
    · rw [h00] at hlen
      have hnil:defL fs=[]:=List.eq_nil_of_length_eq_zero hlen
      exact main none 0 0 (by rw [hlv,h00]) (by omega) (fun h=>absurd hnil h) (fun i hi=>by rw [hnil] at hi;simp at hi)
    · refine main (some ⟨g,0,none⟩) cap g hlv hnc (fun _=>⟨rfl,by omega,?_⟩) (fun i hi=>?_)
      · have:=(Array.getElem?_eq_some_iff.1 hg).1
        omega
      · have hir:i < rows.length:=by omega
        have hri:rows.getD i []=rows[i]:=by simp [List.getD,List.getElem?_eq_getElem hir]
        have hr5:rows[i].length=5:=o3 _ (List.getElem_mem hir)
        rw [hri,← hr5]
        refine rangeV_of _ _ (fun k v hv=>?_)
        rw [World.cell?_of_block (w:=w5) (a:=⟨g,_,none⟩) (hoth g (by omega))]
        have hfl:=rows_get rows 5 o3 i _ (List.getElem?_eq_getElem hir) k v hv
        have hcl:=World.ownsRow.cells o1 (g:=g) (by rw [hlv];rfl) _ v hfl
        rw [add_none] at hcl
        rw [← hcl,hr5]
        simp
  · have hjl:j < Fs.len fs:=by simp at e1;omega
    rw [if_pos rfl]
    refine SC.wp_skip ?_
    simp only [Exit.then]
    obtain ⟨h,ty,hdrop⟩:=drop_cons j fs hjl
    rcases hfs with hfs | ⟨b,o,rfl,hbF,hfs⟩
    · omega
    have hdj:=defL_at j fs h ty _ hdrop
    have hfj:=fsAtT_drop j fs tg b o hfs
    have hcj:=subsD_drop j fs cP
    rw [hdrop] at hfj hcj
    simp only [FsAtT,SubsD] at hfj hcj
    obtain ⟨⟨of_,sub,hr8,h1c,hof,hsub⟩,_⟩:=hfj
    obtain ⟨tj,etj⟩:∃ tj,tj=(tg.drop j).headD (-1):=⟨_,rfl⟩
    rw [← etj] at hr8
    have hr8':=(rangeV_mono (w:=w5) (hb5.block b hbF) 8 (o+j * 8)).trans hr8
    have ej:(0:Int)≤(j:Int)∧(j:Int) < (Fs.len fs:Int):=by omega
    refine SC.wp_seq (SC.wp_block (SC.wp_seq (SC.wp_reg ?_)))
    iterate 2 (apply ops_1;(focus (simp (disch:=(try simp only [sPu]);omega) [hst,q7,q9,ej,hr8',hjl];try rfl)))
    refine oNo rfl (opw_alloc hiF hzF ?_)
    refine oNo rfl (opw_store_agg (b:=w5.heap.size) (cs:=[.int .i64 (kindOf ty),.int .i64 h.from_,.int .i64 h.to,.int .i64 h.null,.int .i64 tj,.int .i64 h.dflt,.int .i64 of_,sub]) hTF1 (by simp (disch:=(try simp only [sPu]);omega)) (by simp (disch:=(try simp only [sPu]);omega)) (heap_alloc_new w5 _) (by simp [hzFs]) (by
      intro v hv
      simp only [List.mem_cons,List.not_mem_nil,or_false] at hv
      rcases hv with rfl | rfl | rfl | rfl | rfl | rfl | rfl | rfl <;> first | rfl | exact h1c) (oNi ?_))
    have hnew:((w5.alloc (.cells zF.cells X.F)).setRow w5.heap.size #[.int .i64 (kindOf ty),.int .i64 h.from_,.int .i64 h.to,.int .i64 h.null,.int .i64 tj,.int .i64 h.dflt,.int .i64 of_,sub]).heap[w5.heap.size]?=some (.cells #[.int .i64 (kindOf ty),.int .i64 h.from_,.int .i64 h.to,.int .i64 h.null,.int .i64 tj,.int .i64 h.dflt,.int .i64 of_,sub] X.F (0,0)):=setRow_heap _ _ _ _ _ _ (heap_alloc_new w5 _)
    have hb6:Below w5.heap.size w5 ((w5.alloc (.cells zF.cells X.F)).setRow w5.heap.size #[.int .i64 (kindOf ty),.int .i64 h.from_,.int .i64 h.to,.int .i64 h.null,.int .i64 tj,.int .i64 h.dflt,.int .i64 of_,sub]):=below_setRow ((Below.refl _ _).alloc (Nat.le_refl _) _) (Nat.le_refl _) _
    have hsz6:((w5.alloc (.cells zF.cells X.F)).setRow w5.heap.size #[.int .i64 (kindOf ty),.int .i64 h.from_,.int .i64 h.to,.int .i64 h.null,.int .i64 tj,.int .i64 h.dflt,.int .i64 of_,sub]).heap.size=w5.heap.size+1:=by simp
    simp only [Exit.then,pNo]
    generalize ((w5.alloc (.cells zF.cells X.F)).setRow w5.heap.size #[.int .i64 (kindOf ty),.int .i64 h.from_,.int .i64 h.to,.int .i64 h.null,.int .i64 tj,.int .i64 h.dflt,.int .i64 of_,sub])=w6 at *
    have hc6:∀ i,w6.cell? ⟨w5.heap.size,i,none⟩=#[Value.int .i64 (kindOf ty),.int .i64 h.from_,.int .i64 h.to,.int .i64 h.null,.int .i64 tj,.int .i64 h.dflt,.int .i64 of_,sub][i]?:=fun i=>cell_of_row _ _ _ _ _ _ hnew
    refine SC.wp_seq (SC.wp_reg ?_)
    iterate 5 (apply ops_1;(focus (simp (disch:=(try simp only [sPu]);omega) [hst,hc6];try rfl)))
    refine oNo rfl (opw_build (cs:=#[.int .i64 h.dflt,.slice none 0 0,.bool (decide (0≤h.null)),.slice none 0 0,.slice none 0 0]) (by
      rw [← hT.built]
      congr 1
      simp (disch:=(try simp only [sPu]);omega)) ?_)
    refine oNo rfl (opw_alloc hiT hzT ?_)
    refine oNo rfl (opw_store_agg (b:=w6.heap.size) (cs:=[.int .i64 h.dflt,.slice none 0 0,.bool (decide (0≤h.null)),.slice none 0 0,.slice none 0 0]) hT.agg (by simp (disch:=(try simp only [sPu]);omega)) (by simp (disch:=(try simp only [sPu]);omega)) (heap_alloc_new w6 _) (by simp [zeroTV,treV,Value.cells]) (by
      intro v hv
      simp only [List.mem_cons,List.not_mem_nil,or_false] at hv
      rcases hv with rfl | rfl | rfl | rfl | rfl <;> rfl) (oNi ?_))
    have hnew7:((w6.alloc (.cells zeroTV.cells X.T)).setRow w6.heap.size #[.int .i64 h.dflt,.slice none 0 0,.bool (decide (0≤h.null)),.slice none 0 0,.slice none 0 0]).heap[w6.heap.size]?=some (.cells #[.int .i64 h.dflt,.slice none 0 0,.bool (decide (0≤h.null)),.slice none 0 0,.slice none 0 0] X.T (0,0)):=setRow_heap _ _ _ _ _ _ (heap_alloc_new w6 _)
    have hb7:Below w6.heap.size w6 ((w6.alloc (.cells zeroTV.cells X.T)).setRow w6.heap.size #[.int .i64 h.dflt,.slice none 0 0,.bool (decide (0≤h.null)),.slice none 0 0,.slice none 0 0]):=below_setRow ((Below.refl _ _).alloc (Nat.le_refl _) _) (Nat.le_refl _) _
    have hsz7:((w6.alloc (.cells zeroTV.cells X.T)).setRow w6.heap.size #[.int .i64 h.dflt,.slice none 0 0,.bool (decide (0≤h.null)),.slice none 0 0,.slice none 0 0]).heap.size=w6.heap.size+1:=by simp
    simp only [Exit.then,pNo]
    generalize ((w6.alloc (.cells zeroTV.cells X.T)).setRow w6.heap.size #[.int .i64 h.dflt,.slice none 0 0,.bool (decide (0≤h.null)),.slice none 0 0,.slice none 0 0])=w7 at *
    have hb57:Below w5.heap.size w5 w7:=hb6.trans (hb7.mono (by omega))
    have hc7:∀ i,w7.cell? ⟨w5.heap.size,i,none⟩=#[Value.int .i64 (kindOf ty),.int .i64 h.from_,.int .i64 h.to,.int .i64 h.null,.int .i64 tj,.int .i64 h.dflt,.int .i64 of_,sub][i]?:=fun i=>(World.cell?_of_block (w:=w6) (w':=w7) (a:=⟨w5.heap.size,i,none⟩) (hb7.block w5.heap.size (by omega))).trans (hc6 i)
    rw [hsz6] at hnew7 ⊢
    refine gen_act (fun a6=>a6.tmps.size=35∧a6.defers=[]∧getT a6 2=.pointer (some ⟨w.heap.size,0,none⟩)∧getT a6 3=.pointer (some ⟨w.heap.size+1,0,none⟩)∧getT a6 7=.slice (some ⟨b,o,none⟩) (Fs.len fs) fcap∧getT a6 8=.int .i64 (Fs.len fs:Int)∧getT a6 9=.int .i64 (j:Int)∧getT a6 5=.pointer (some ⟨w5.heap.size,0,none⟩)∧getT a6 6=.pointer (some ⟨w5.heap.size+1,0,none⟩))
      ⟨by simp [sPu,q],by simp [dPu,qd],by simp (disch:=(try simp only [sPu]);omega) [q2],by simp (disch:=(try simp only [sPu]);omega) [q3],by simp (disch:=(try simp only [sPu]);omega) [q7],by simp (disch:=(try simp only [sPu]);omega) [q8],by simp (disch:=(try simp only [sPu]);omega) [q9],by simp (disch:=(try simp only [sPu]);omega),by simp (disch:=(try simp only [sPu]);omega)⟩ ?_
    rintro a6 ⟨z,zd,z2,z3,z7,z8,z9,z5,z6⟩
    have tail:∀ (a8:Act) (w8:World) (ls:Value),a8.tmps.size=35→a8.defers=[]→getT a8 2=.pointer (some ⟨w.heap.size,0,none⟩)→getT a8 3=.pointer (some ⟨w.heap.size+1,0,none⟩)→getT a8 7=.slice (some ⟨b,o,none⟩) (Fs.len fs) fcap→getT a8 8=.int .i64 (Fs.len fs:Int)→getT a8 9=.int .i64 (j:Int)→getT a8 6=.pointer (some ⟨w5.heap.size+1,0,none⟩) →
        w8.heap[w5.heap.size+1]?=some (.cells #[.int .i64 h.dflt,.slice none 0 0,.bool (decide (0≤h.null)),ls,.slice none 0 0] X.T (0,0))→Below w5.heap.size w5 w8→w5.heap.size+2≤w8.heap.size→ls.oneCell'=true →
        TV G w8 (fun k=>w5.heap.size+2≤k∧k < w8.heap.size) (defT h ty) (.agg #[.int .i64 h.dflt,.slice none 0 0,.bool (decide (0≤h.null)),ls,.slice none 0 0]) →
        ∀ Q':Exit→Act→World→Prop,(∀ a' w' lv',a'.tmps.size=35→a'.defers=[]→getT a' 2=.pointer (some ⟨w.heap.size,0,none⟩)→getT a' 3=.pointer (some ⟨w.heap.size+1,0,none⟩)→getT a' 7=.slice (some ⟨b,o,none⟩) (Fs.len fs) fcap→getT a' 8=.int .i64 (Fs.len fs:Int)→getT a' 9=.int .i64 (j:Int) →
          w'.heap[w.heap.size]?=some (.cells #[.int .i64 0,.slice none 0 0,.bool false,.slice none 0 0,.slice none 0 0] X.T (0,0))→w'.heap[w.heap.size+1]?=some (.cells #[.int .i64 0,.slice none 0 0,.bool false,lv',.slice none 0 0] X.T (0,0))→Rows G X fs w w' lv' (j+1)→Below w.heap.size w w'→w.heap.size+2≤w'.heap.size→Q' .normal a' w') →
        SC.wp P (.reg [fa 27 X.T 3 3,ld 28 X.Ts 27,ld 29 X.T 6,⟨some 30,.buildSlice X.Ts 1 #[(0,(.tmp 29))],none⟩,⟨some 31,.call ⟨.builtin .append,#[(.tmp 28),(.tmp 30)],#[X.Ts,X.Ts]⟩,none⟩,fa 32 X.T 3 3,⟨none,.store X.Ts (.tmp 32) (.tmp 31),none⟩]) Q' a8 w8:=by
      intro a8 w8 ls y yd y2 y3 y7 y8 y9 y6 hn8 hb8 hs8 hls1 htv Q' hQ'
      have p2':w8.heap[w.heap.size]?=_:=(hb8.block w.heap.size (by omega)).trans p2
      have p3':w8.heap[w.heap.size+1]?=_:=(hb8.block (w.heap.size+1) (by omega)).trans p3
      have hc3:∀ i,w8.cell? ⟨w.heap.size+1,i,none⟩=#[Value.int .i64 0,.slice none 0 0,.bool false,lv,.slice none 0 0][i]?:=fun i=>cell_of_row _ _ _ _ _ _ p3'
      have hc8:∀ i,w8.cell? ⟨w5.heap.size+1,i,none⟩=#[Value.int .i64 h.dflt,.slice none 0 0,.bool (decide (0≤h.null)),ls,.slice none 0 0][i]?:=fun i=>cell_of_row _ _ _ _ _ _ hn8
      have hT5:rangeV w8 (w5.heap.size+1) 0 5=some [.int .i64 h.dflt,.slice none 0 0,.bool (decide (0≤h.null)),ls,.slice none 0 0]:=by simp [rangeV,hc8]
      have hR8:Rows G X fs w w8 lv j:=hR.keep (fun k h1 h2=>hb8.block k h2) hb8.size
      have hlvlt:∀ k,lv.ownBlock=some k→w.heap.size+2≤k∧k < w5.heap.size:=fun k hk=>by
        obtain ⟨rows,F,o1,_⟩:=hR
        exact o1.lt k hk
      refine SC.wp_reg ?_
      iterate 3 (apply ops_1;(focus (simp (disch:=(try simp only [sPu]);omega) [hst,y3,y6,hc3,hT5];try rfl)))
      refine oNo rfl (opw_buildT hT (n:=h.dflt) (s:=.slice none 0 0) (b:=decide (0≤h.null)) (l:=ls) (u:=.slice none 0 0) (by simp (disch:=(try simp only [sPu]);omega) [treV]) rfl hls1 rfl ?_)
      have hn9:=heap_alloc_new w8 (.cells #[.int .i64 h.dflt,.slice none 0 0,.bool (decide (0≤h.null)),ls,.slice none 0 0] X.T)
      have hb9:Below w8.heap.size w8 (w8.alloc (.cells #[.int .i64 h.dflt,.slice none 0 0,.bool (decide (0≤h.null)),ls,.slice none 0 0] X.T)):=(Below.refl _ _).alloc (Nat.le_refl _) _
      have hs9:(w8.alloc (.cells #[.int .i64 h.dflt,.slice none 0 0,.bool (decide (0≤h.null)),ls,.slice none 0 0] X.T)).heap.size=w8.heap.size+1:=by simp
      generalize (w8.alloc (.cells #[.int .i64 h.dflt,.slice none 0 0,.bool (decide (0≤h.null)),ls,.slice none 0 0] X.T))=w9 at *
      have hR9:Rows G X fs w w9 lv j:=hR8.keep (fun k h1 h2=>hb9.block k h2) hb9.size
      obtain ⟨rows,F,o1,o2,o3,o4,o5⟩:=hR9
      refine oNo rfl (opw_appendT hT (B:=w.heap.size+2) (j:=j) (lv:=lv) (cells:=rows.flatten) (r:=[.int .i64 h.dflt,.slice none 0 0,.bool (decide (0≤h.null)),ls,.slice none 0 0]) (ad:=⟨w8.heap.size,0,none⟩) rfl (by simp (disch:=(try simp only [sPu]);omega)) (by simp (disch:=(try simp only [sPu]);omega)) o1 (by omega) (by omega) rfl (fun i v hv=>by
        rw [add_none,cell_of_row _ _ _ _ _ _ hn9]
        simpa using hv) (by
        intro v hv
        simp only [List.mem_cons,List.not_mem_nil,or_false] at hv
        rcases hv with rfl | rfl | rfl | rfl | rfl <;> first | rfl | exact hls1) ?_)
      intro lv' w10 r1 r2 r3
      have hlv':lv'.oneCell'=true:=by rcases r1.2 with ⟨rfl,_⟩ | ⟨g,cap,cur,rfl,_⟩ <;> rfl
      have hs10:w9.heap.size≤w10.heap.size:=r2.size
      have hk10:∀ k,k < w9.heap.size→lv.ownBlock ≠ some k→w10.heap[k]?=w9.heap[k]?:=fun k h1 h2=>r2.block k h1 (fun e=>h2 e.symm)
      have hnot:∀ k,k < w.heap.size+2→lv.ownBlock ≠ some k:=fun k hk e=>by have:=hlvlt k e;omega
      have p2n:w10.heap[w.heap.size]?=_:=(hk10 _ (by omega) (hnot _ (by omega))).trans ((hb9.block _ (by omega)).trans p2')
      have p3n:w10.heap[w.heap.size+1]?=_:=(hk10 _ (by omega) (hnot _ (by omega))).trans ((hb9.block _ (by omega)).trans p3')
      iterate 1 (apply ops_1;(focus (simp (disch:=(try simp only [sPu]);omega) [hst,y3];try rfl)))
      refine oNo rfl (opw_store_one (ad:=⟨w.heap.size+1,3,none⟩) (v:=lv') (v0:=lv) hst.2.1.2.2.2.2.2.2.2.1 (by simp (disch:=(try simp only [sPu]);omega)) (by simp (disch:=(try simp only [sPu]);omega)) hlv' (by rw [cell_of_row _ _ _ _ _ _ p3n];rfl) (by simp [World.frozen?,p3n]) ?_)
      refine oNi ?_
      rw [setCell_eq_setRow _ _ _ _ _ _ _ p3n]
      have p3f:=setRow_heap w10 (w.heap.size+1) _ ((#[.int .i64 0,.slice none 0 0,.bool false,lv,.slice none 0 0]:Array Value).setIfInBounds 3 lv') _ _ p3n
      have hoth:∀ k,k ≠ w.heap.size+1→(w10.setRow (w.heap.size+1) ((#[.int .i64 0,.slice none 0 0,.bool false,lv,.slice none 0 0]:Array Value).setIfInBounds 3 lv')).heap[k]?=w10.heap[k]?:=fun k hk=>setRow_other _ _ _ _ hk
      have hsf:(w10.setRow (w.heap.size+1) ((#[.int .i64 0,.slice none 0 0,.bool false,lv,.slice none 0 0]:Array Value).setIfInBounds 3 lv')).heap.size=w10.heap.size:=by simp
      have hbf:Below w.heap.size w (w10.setRow (w.heap.size+1) ((#[.int .i64 0,.slice none 0 0,.bool false,lv,.slice none 0 0]:Array Value).setIfInBounds 3 lv')) :=
        below_setRow (((hb5.trans (hb8.mono (by omega))).trans (hb9.mono (by omega))).grown r2 (by omega) (fun k hk=>by have:=hlvlt k hk;omega)) (by omega) _
      generalize (w10.setRow (w.heap.size+1) ((#[.int .i64 0,.slice none 0 0,.bool false,lv,.slice none 0 0]:Array Value).setIfInBounds 3 lv'))=w11 at *
      refine hQ' _ w11 lv' (by simp [sPu,y]) (by simp [dPu,yd]) (by simp (disch:=(try simp only [sPu]);omega) [y2]) (by simp (disch:=(try simp only [sPu]);omega) [y3]) (by simp (disch:=(try simp only [sPu]);omega) [y7]) (by simp (disch:=(try simp only [sPu]);omega) [y8]) (by simp (disch:=(try simp only [sPu]);omega) [y9]) ((hoth _ (by omega)).trans p2n) p3f ?_ hbf (by omega)
      refine ⟨rows ++ [[.int .i64 h.dflt,.slice none 0 0,.bool (decide (0≤h.null)),ls,.slice none 0 0]],fun k=>F k∨(w5.heap.size+2≤k∧k < w8.heap.size),?_,by simp [o2],?_,?_,?_⟩
      · rw [List.flatten_append]
        simp only [List.flatten_cons,List.flatten_nil,List.append_nil]
        refine ⟨r1.1,r1.2.imp id ?_⟩
        rintro ⟨g,cap,cur,m1,m2,m3,m4⟩
        exact ⟨g,cap,cur,m1,m2,by rw [hoth g (by omega)];exact m3,m4⟩
      · intro r hr
        simp only [List.mem_append,List.mem_cons,List.not_mem_nil,or_false] at hr
        rcases hr with hr | rfl
        · exact o3 r hr
        · rfl
      · intro i r x hi hx
        rcases Nat.lt_or_ge i rows.length with hlt | hge
        · rw [List.getElem?_append_left hlt] at hi
          refine (o4 i r x hi hx).mono (fun k hk=>.inl hk) (fun k hk=>?_)
          have:=o5 k hk
          rw [hoth k (by omega),hk10 k (by omega) this.2.2]
        · have hij:i=rows.length:=by
            have:=(List.getElem?_eq_some_iff.1 hi).1
            simp at this
            omega
          subst hij
          rw [List.getElem?_append_right (Nat.le_refl _)] at hi
          simp at hi
          subst hi
          rw [o2,hdj] at hx
          cases hx
          refine htv.mono (fun k hk=>.inr hk) (fun k hk=>?_)
          rw [hoth k (by omega),hk10 k (by omega) (fun e=>by have:=hlvlt k e;omega),hb9.block k (by omega)]
      · intro k hk
        have hk':w.heap.size+2≤k∧k < w9.heap.size∧lv.ownBlock ≠ some k:=by
          rcases hk with hk | hk
          · exact o5 k hk
          · exact ⟨by omega,by omega,fun e=>by have:=hlvlt k e;omega⟩
        refine ⟨hk'.1,by omega,fun e=>?_⟩
        rcases r3 with r3 | ⟨bb,r3,r4⟩
        · exact hk'.2.2 (r3 ▸ e)
        · rw [r3] at e
          cases e
          omega
    have ew:IntKind.i64.wrap ((j:Int)+1)=((j+1:Nat):Int):=by rw [wrap_i64'];split <;> omega
    refine SC.wp_seq (SC.wp_seq (SC.wp_reg ?_))
    iterate 3 (apply ops_1;(focus (simp (disch:=(try simp only [sPu]);omega) [hst,hc7,z5];try rfl)))
    refine oNi (SC.wp_cond (t:=kindOf ty == 10) (by simp (disch:=(try simp only [sPu]);omega)) ?_)
    have htriv:(∀ typ size dflt tags fs',ty ≠ .struct typ size dflt tags fs')→TV G w7 (fun k=>w5.heap.size+2≤k∧k < w7.heap.size) (defT h ty) (.agg #[.int .i64 h.dflt,.slice none 0 0,.bool (decide (0≤h.null)),.slice none 0 0,.slice none 0 0]):=by
      intro hns
      have:defT h ty=.mk h.dflt [] (decide (0≤h.null)) [] []:=by
        cases ty with
        | struct typ size dflt tags fs'=>exact absurd rfl (hns typ size dflt tags fs')
        | prim k=>simp [defT]
        | list _ _ _ _=>simp [defT]
      rw [this]
      exact .mk h.dflt [] _ [] [] none none none 0 0 0 0 0 (fun _=>[]) (.inl rfl) (Nat.le_refl _) (Nat.le_refl _) (Nat.le_refl _) (fun h=>absurd rfl h) (fun i hi=>by simp at hi) (fun i x hx=>by simp at hx) h0G (.inl rfl)
    have close:∀ (a':Act) (w':World) (lv':Value) (Q1:Exit→Act→World→Prop),a'.tmps.size=35→a'.defers=[]→getT a' 2=.pointer (some ⟨w.heap.size,0,none⟩)→getT a' 3=.pointer (some ⟨w.heap.size+1,0,none⟩)→getT a' 7=.slice (some ⟨b,o,none⟩) (Fs.len fs) fcap→getT a' 8=.int .i64 (Fs.len fs:Int)→getT a' 9=.int .i64 (j:Int) →
        w'.heap[w.heap.size]?=some (.cells #[.int .i64 0,.slice none 0 0,.bool false,.slice none 0 0,.slice none 0 0] X.T (0,0))→w'.heap[w.heap.size+1]?=some (.cells #[.int .i64 0,.slice none 0 0,.bool false,lv',.slice none 0 0] X.T (0,0))→Rows G X fs w w' lv' (j+1)→Below w.heap.size w w'→w.heap.size+2≤w'.heap.size →
        (∀ a'' w'',((∃ (j:Nat) (lv:Value),a''.tmps.size=35∧a''.defers=[]∧getT a'' 2=.pointer (some ⟨w.heap.size,0,none⟩)∧getT a'' 3=.pointer (some ⟨w.heap.size+1,0,none⟩)∧getT a'' 7=.slice (some ⟨b,o,none⟩) (Fs.len fs) fcap∧getT a'' 8=.int .i64 (Fs.len fs:Int)∧getT a'' 9=.int .i64 (j:Int)∧j≤Fs.len fs ∧
          w''.heap[w.heap.size]?=some (.cells #[.int .i64 0,.slice none 0 0,.bool false,.slice none 0 0,.slice none 0 0] X.T (0,0))∧w''.heap[w.heap.size+1]?=some (.cells #[.int .i64 0,.slice none 0 0,.bool false,lv,.slice none 0 0] X.T (0,0))∧Rows G X fs w w'' lv j∧Below w.heap.size w w''∧w.heap.size+2≤w''.heap.size) ∧
          (match getT a'' 9 with | .int _ m=>(Fs.len fs - m).toNat | _=>0) < (match getT a4 9 with | .int _ m=>(Fs.len fs - m).toNat | _=>0))→Q1 .normal a'' w'') →
        SC.wp P (.reg [⟨some 33,.binOp .add X.I (.tmp 9) (.const (.int .i64 1)) X.I,none⟩,mv 9 33]) Q1 a' w':=by
      intro a' w' lv' Q1 x xd x2 x3 x7 x8 x9 m2 m3 m4 m5 m6 hq
      refine SC.wp_reg ?_
      repeat (apply ops_1;(focus (simp (disch:=(try simp only [sPu]);omega) [x9,ew];try rfl)))
      refine oNi (hq _ _ ⟨⟨j+1,lv',by simp [sPu,x],by simp [dPu,xd],by simp (disch:=(try simp only [sPu]);omega) [x2],by simp (disch:=(try simp only [sPu]);omega) [x3],by simp (disch:=(try simp only [sPu]);omega) [x7],by simp (disch:=(try simp only [sPu]);omega) [x8],by simp (disch:=(try simp only [sPu]);omega),by omega,m2,m3,m4,m5,m6⟩,?_⟩)
      rw [q9]
      simp (disch:=(try simp only [sPu]);omega);omega
    cases ty with
    | prim k =>
      have e10:(kindOf (.prim k) == 10)=false:=by cases k <;> rfl
      rw [e10,if_neg (by simp)]
      refine SC.wp_skip ?_
      simp only [Exit.then]
      refine tail _ w7 (.slice none 0 0) (by simp [sPu,z]) (by simp [dPu,zd]) (by simp (disch:=(try simp only [sPu]);omega) [z2]) (by simp (disch:=(try simp only [sPu]);omega) [z3]) (by simp (disch:=(try simp only [sPu]);omega) [z7]) (by simp (disch:=(try simp only [sPu]);omega) [z8]) (by simp (disch:=(try simp only [sPu]);omega) [z9]) (by simp (disch:=(try simp only [sPu]);omega) [z6]) hnew7 hb57 (by omega) rfl (htriv (by intros;simp)) _ ?_
      intro a' w' lv' x xd x2 x3 x7 x8 x9 m2 m3 m4 m5 m6
      simp only [Exit.inBlock,Exit.then]
      exact close a' w' lv' _ x xd x2 x3 x7 x8 x9 m2 m3 m4 m5 m6 (fun a'' w'' h=>h)
    | list typ el size of =>
      have e10:(kindOf (.list typ el size of) == 10)=false:=rfl
      rw [e10,if_neg (by simp)]
      refine SC.wp_skip ?_
      simp only [Exit.then]
      refine tail _ w7 (.slice none 0 0) (by simp [sPu,z]) (by simp [dPu,zd]) (by simp (disch:=(try simp only [sPu]);omega) [z2]) (by simp (disch:=(try simp only [sPu]);omega) [z3]) (by simp (disch:=(try simp only [sPu]);omega) [z7]) (by simp (disch:=(try simp only [sPu]);omega) [z8]) (by simp (disch:=(try simp only [sPu]);omega) [z9]) (by simp (disch:=(try simp only [sPu]);omega) [z6]) hnew7 hb57 (by omega) rfl (htriv (by intros;simp)) _ ?_
      intro a' w' lv' x xd x2 x3 x7 x8 x9 m2 m3 m4 m5 m6
      simp only [Exit.inBlock,Exit.then]
      exact close a' w' lv' _ x xd x2 x3 x7 x8 x9 m2 m3 m4 m5 m6 (fun a'' w'' h=>h)
    | struct typ size dflt tags fs' =>
      have e10:(kindOf (.struct typ size dflt tags fs') == 10)=true:=rfl
      rw [e10,if_pos rfl]
      simp only [SubD] at hcj
      simp only [SubV] at hsub
      refine SC.wp_reg ?_
      iterate 2 (apply ops_1;(focus (simp (disch:=(try simp only [sPu]);omega) [hst,hc7,z5];try rfl)))
      have hbw7:Below w.heap.size w w7:=hb5.trans (hb57.mono (by omega))
      refine ops_call oD (hcj.1 w7 sub (FsV.down hbw7 (by omega) hsub)) (by simp (disch:=(try simp only [sPu]);omega)) ?_
      rintro e w8 ⟨dv,rfl,htv,hb8⟩
      refine ⟨dv,rfl,?_⟩
      have hs8:w7.heap.size≤w8.heap.size:=hb8.size
      cases htv with
      | mk _ _ _ _ _ sb lb ub sc lc uc tb to cs' t1 t2 t3 t4 t5 t6 t7 t8 t9 =>
      refine oNo rfl (opw_field3 hT (n:=0) (s:=.slice sb (List.length ([]:Bytes)) sc) (b:=false) (l:=.slice lb (defL fs').length lc) (u:=.slice ub 0 uc) (by simp (disch:=(try simp only [sPu]);omega)) rfl ?_)
      have hn8:w8.heap[w5.heap.size+1]?=_:=(hb8.block (w5.heap.size+1) (by omega)).trans hnew7
      iterate 1 (apply ops_1;(focus (simp (disch:=(try simp only [sPu]);omega) [hst,z6];try rfl)))
      refine oNo rfl (opw_store_one (ad:=⟨w5.heap.size+1,3,none⟩) (v:=.slice lb (defL fs').length lc) (v0:=.slice none 0 0) hst.2.1.2.2.2.2.2.2.2.1 (by simp (disch:=(try simp only [sPu]);omega)) (by simp (disch:=(try simp only [sPu]);omega)) rfl (by rw [cell_of_row _ _ _ _ _ _ hn8];rfl) (by simp [World.frozen?,hn8]) (oNi ?_))
      rw [setCell_eq_setRow _ _ _ _ _ _ _ hn8]
      have hn9:=setRow_heap w8 (w5.heap.size+1) _ ((#[.int .i64 h.dflt,.slice none 0 0,.bool (decide (0≤h.null)),.slice none 0 0,.slice none 0 0]:Array Value).setIfInBounds 3 (.slice lb (defL fs').length lc)) _ _ hn8
      have hoth:∀ k,k ≠ w5.heap.size+1→(w8.setRow (w5.heap.size+1) ((#[.int .i64 h.dflt,.slice none 0 0,.bool (decide (0≤h.null)),.slice none 0 0,.slice none 0 0]:Array Value).setIfInBounds 3 (.slice lb (defL fs').length lc))).heap[k]?=w8.heap[k]?:=fun k hk=>setRow_other _ _ _ _ hk
      have hs9:(w8.setRow (w5.heap.size+1) ((#[.int .i64 h.dflt,.slice none 0 0,.bool (decide (0≤h.null)),.slice none 0 0,.slice none 0 0]:Array Value).setIfInBounds 3 (.slice lb (defL fs').length lc))).heap.size=w8.heap.size:=by simp
      have hb9:Below w5.heap.size w5 (w8.setRow (w5.heap.size+1) ((#[.int .i64 h.dflt,.slice none 0 0,.bool (decide (0≤h.null)),.slice none 0 0,.slice none 0 0]:Array Value).setIfInBounds 3 (.slice lb (defL fs').length lc))):=below_setRow (hb57.trans (hb8.mono (by omega))) (by omega) _
      simp only [Exit.then,pNo]
      generalize (w8.setRow (w5.heap.size+1) ((#[.int .i64 h.dflt,.slice none 0 0,.bool (decide (0≤h.null)),.slice none 0 0,.slice none 0 0]:Array Value).setIfInBounds 3 (.slice lb (defL fs').length lc)))=w9 at *
      refine tail _ w9 (.slice lb (defL fs').length lc) (by simp [sPu,z]) (by simp [dPu,zd]) (by simp (disch:=(try simp only [sPu]);omega) [z2]) (by simp (disch:=(try simp only [sPu]);omega) [z3]) (by simp (disch:=(try simp only [sPu]);omega) [z7]) (by simp (disch:=(try simp only [sPu]);omega) [z8]) (by simp (disch:=(try simp only [sPu]);omega) [z9]) (by simp (disch:=(try simp only [sPu]);omega) [z6]) hn9 hb9 (by omega) rfl ?_ _ ?_
      · simp only [defT]
        have hF:∀ k,(w7.heap.size≤k∧k < w8.heap.size)→(w5.heap.size+2≤k∧k < w9.heap.size):=fun k hk=>by omega
        have hW:∀ k,(w7.heap.size≤k∧k < w8.heap.size)→w9.heap[k]?=w8.heap[k]?:=fun k hk=>hoth k (by omega)
        exact .mk h.dflt [] _ (defL fs') [] none lb none 0 lc 0 tb to cs' (.inl rfl) (Nat.le_refl _) t3 (Nat.le_refl _) (fun hne=>⟨(t5 hne).1,hF _ (t5 hne).2⟩) (fun i hi=>by
          have hne:defL fs' ≠ []:=by intro e;rw [e] at hi;simp at hi
          rw [rangeV_mono (hW tb (t5 hne).2)]
          exact t6 i hi) (fun i x hx=>(t7 i x hx).mono hF hW) h0G (.inl rfl)
      intro a' w' lv' x xd x2 x3 x7 x8 x9 m2 m3 m4 m5 m6
      simp only [Exit.inBlock,Exit.then]
      exact close a' w' lv' _ x xd x2 x3 x7 x8 x9 m2 m3 m4 m5 m6 (fun a'' w'' h=>h)
theorem lawNewT_ok (hX:stOK P X=true) (hm:P.follows .mixedOrders=true) (hMt:arrB P X.M 2=true) {fMax fSp fVer fNew fDef fWr fSame:FuncId} {m:Nat} (hm16:m < 32768) (fs:Fs) (tg:List Int) (hus:UsT fs tg (.mk 0 [] false (defL fs) [])) (mflex:Int) (out:Int→Bytes)
    (oMax:FnOK P fMax) (cMax:∀ w:World,Calls P fMax #[] w fun e w'=>e=.returned (.int .i64 (m:Int))∧Below w.heap.size w w')
    (oSp:FnOK P fSp) (cSp:∀ w:World,Calls P fSp #[] w fun e w'=>∃ v,e=.returned (msgV v mflex)∧v.oneCell'=true∧FsVT w' (fun k=>w.heap.size≤k∧k < w'.heap.size) fs tg v∧Below w.heap.size w w')
    (oVer:FnOK P fVer) (cVer:∀ (w:World) (n m:Nat),n < 256→m < 65536→Calls P fVer #[.int .u8 (n:Int),.int .i64 (m:Int)] w fun e w'=>e=.returned (.int .i64 ((n % (m+1):Nat):Int))∧w=w')
    (oNew:FnOK P fNew) (cNew:∀ (w:World) (ver:Nat),ver≤m→Calls P fNew #[.int .i64 (ver:Int)] w (RetOwn X.U8 w (out ver)))
    (oDef:FnOK P fDef) (cDef:DefTC G P fDef fs tg)
    (oWr:FnOK P fWr) (cWr:∀ (w:World) (fv:Value) (mflex ver:Int) (t:Tree) (tv:Value),FsVT w (· < w.heap.size) fs tg fv→TV G w (· < w.heap.size) t tv→t.u=[]→UsT fs tg t→(wFsT ver (decide (0≤mflex) && decide (mflex≤ver)) fs tg t.l ++ (if (decide (0≤mflex) && decide (mflex≤ver))=true then uvarint 0 else [])).length≤lim →
      Calls P fWr #[msgV fv mflex,.int .i64 ver,tv] w (RetOwn X.U8 w (wFsT ver (decide (0≤mflex) && decide (mflex≤ver)) fs tg t.l ++ (if (decide (0≤mflex) && decide (mflex≤ver))=true then uvarint 0 else []))))
    (oSame:FnOK P fSame) (cSame:∀ (w:World) (xs:Bytes) (b1 b2:Option Addr) (c1 c2:Nat),BytesAt w (fun k=>k < w.heap.size) b1 xs→BytesAt w (fun k=>k < w.heap.size) b2 xs→xs.length≤lim→Calls P fSame #[.slice b1 xs.length c1,.slice b2 xs.length c2] w fun e w'=>e=.returned (.bool true)∧Below w.heap.size w w')
    (hout:∀ ver:Nat,ver≤m→out ver=wFsT ver (decide (0≤mflex) && decide (mflex≤(ver:Int))) fs tg (defL fs) ++ (if (decide (0≤mflex) && decide (mflex≤(ver:Int)))=true then uvarint 0 else [])) (hlen:∀ ver:Nat,ver≤m→(out ver).length≤lim)
    (hf:P.funcs[f]?=some fn) (hb:fn.body.map strip=some (sc_LawNew fMax fSp fVer fNew fDef fWr fSame X.I X.M X.Fs)) (hn:fn.ntmps=22) (hr:fn.results=#[.tmp 2]) (w:World) (n:Nat) (hn8:n < 256) :
    Calls P f #[.int .u8 (n:Int)] w fun e w'=>e=.returned (.bool true)∧Below w.heap.size w w':=by
  have hst:=st_facts hX
  obtain ⟨hM1,iM,zM,hiM,hzM,hzMs⟩:=arr_of hMt
  refine fCa hf hb hn (by simp) fun a0 hs hd ha=>?_
  have k0:=ha 0 _ rfl
  simp only [List.getElem_toArray,List.getElem_cons_zero,List.getElem_cons_succ] at k0
  refine SC.wp_seq (SC.wp_reg ?_)
  repeat (apply ops_1;(focus (simp (disch:=(try simp only [sPu]);omega) ;try rfl)))
  refine oNi (SC.wp_seq (SC.wp_reg (ops_cal oMax (cMax w) ?_)))
  rintro e w1 ⟨rfl,hb1⟩
  refine ⟨_,rfl,?_⟩
  repeat (apply ops_1;(focus (simp (disch:=(try simp only [sPu]);omega) ;try rfl)))
  refine oNi (SC.wp_seq (SC.wp_seq (SC.wp_reg ?_)))
  have em:decide ((m:Int) < 0)=false:=by simp
  repeat (apply ops_1;(focus (simp (disch:=(try simp only [sPu]);omega) [em];try rfl)))
  refine oNi (SC.wp_cond (t:=false) (by simp (disch:=(try simp only [sPu]);omega)) ?_)
  rw [if_neg (by simp)]
  refine SC.wp_skip ?_
  simp only [Exit.then]
  refine SC.wp_seq (SC.wp_reg (ops_cal oSp (cSp w1) ?_))
  rintro e w2 ⟨fv,rfl,hfv1,hfv,hb2⟩
  refine ⟨_,rfl,oNo rfl (opw_alloc hiM hzM ?_)⟩
  refine oNo rfl (opw_store_agg (b:=w2.heap.size) (cs:=[fv,.int .i64 mflex]) hM1 (by simp (disch:=(try simp only [sPu]);omega)) (by simp (disch:=(try simp only [sPu]);omega) [msgV]) (heap_alloc_new w2 _) (by simp [hzMs]) (by
    intro v hv
    simp only [List.mem_cons,List.not_mem_nil,or_false] at hv
    rcases hv with rfl | rfl
    · exact hfv1
    · rfl) (oNi ?_))
  have hnew:((w2.alloc (.cells zM.cells X.M)).setRow w2.heap.size #[fv,.int .i64 mflex]).heap[w2.heap.size]?=some (.cells #[fv,.int .i64 mflex] X.M (0,0)):=setRow_heap _ _ _ _ _ _ (heap_alloc_new w2 _)
  have hb3:Below w2.heap.size w2 ((w2.alloc (.cells zM.cells X.M)).setRow w2.heap.size #[fv,.int .i64 mflex]):=below_setRow ((Below.refl _ _).alloc (Nat.le_refl _) _) (Nat.le_refl _) _
  have hs3:((w2.alloc (.cells zM.cells X.M)).setRow w2.heap.size #[fv,.int .i64 mflex]).heap.size=w2.heap.size+1:=by simp
  simp only [Exit.then,pNo]
  generalize ((w2.alloc (.cells zM.cells X.M)).setRow w2.heap.size #[fv,.int .i64 mflex])=w3 at *
  have hs1:=hb1.size
  have hs2:=hb2.size
  have hbw3:Below w.heap.size w w3:=hb1.trans ((hb2.mono hs1).trans (hb3.mono (by omega)))
  have hc:∀ i,w3.drew.cell? ⟨w2.heap.size,i,none⟩=#[fv,.int .i64 mflex][i]?:=fun i=>cell_of_row _ _ _ _ _ _ (show w3.drew.heap[w2.heap.size]?=_ from hnew)
  have hM2:rangeV w3.drew w2.heap.size 0 2=some [fv,.int .i64 mflex]:=by simp [rangeV,hc]
  have hvm:n % (m+1)≤m:=by have:=Nat.mod_lt n (show 0 < m+1 by omega);omega
  have hlt:w2.heap.size < w2.heap.size+1:=by omega
  refine gen_act (fun a=>a.tmps.size=22∧a.defers=[]∧getT a 0=.int .u8 (n:Int)∧getT a 3=.int .i64 (m:Int)∧getT a 4=.pointer (some ⟨w2.heap.size,0,none⟩))
    ⟨by simp [sPu,hs],by simp [dPu,hd],by simp (disch:=(try simp only [sPu]);omega) [k0],by simp (disch:=(try simp only [sPu]);omega),by simp (disch:=(try simp only [sPu]);omega)⟩ ?_
  rintro a ⟨z,zd,z0,z3,z4⟩
  refine SC.wp_seq (SC.wp_dreg hm (Below (w2.heap.size+1) w3.drew) [(0,true),(1,true),(4,true),(5,true),(6,true),(8,true),(9,true),(2,false),(3,false),(7,false),(10,false),(11,false),(12,false),(13,true)] (by rfl) (by rfl) (by decide) (Below.refl _ _) ?_)
  iterate 7 (apply dr_1;(focus rfl);(focus (simp (disch:=(try simp only [sPu]);omega) [hst,z0,z3,z4,hlt,hc,hM2];try rfl)))
  refine dreg_call rfl oVer (cVer w3.drew n m hn8 (by omega)) (by simp (disch:=(try simp only [sPu]);omega) [z0,z3]) ?_
  rintro e w4 ⟨rfl,rfl⟩
  refine ⟨_,rfl,Below.refl _ _,?_⟩
  refine dreg_call rfl oNew (cNew w3.drew (n % (m+1)) hvm) (by simp (disch:=(try simp only [sPu]);omega)) ?_
  rintro e w4 ⟨v1,rfl,o1,b1⟩
  have b1:Below w3.heap.size w3.drew w4:=b1
  have s4:w3.heap.size≤w4.heap.size:=b1.size
  refine ⟨v1,rfl,b1.mono (by omega),?_⟩
  refine dreg_call rfl oVer (cVer w4 n m hn8 (by omega)) (by simp (disch:=(try simp only [sPu]);omega) [z0,z3]) ?_
  rintro e w5 ⟨rfl,rfl⟩
  refine ⟨_,rfl,b1.mono (by omega),?_⟩
  have hfv4:FsVT w4 (· < w4.heap.size) fs tg fv:=hfv.mono (fun k hk=>by have:=hk.2;show k < w4.heap.size;omega) (fun k hk=>(b1.block k (by have:=hk.2;omega)).trans (hb3.block k hk.2))
  refine dreg_call rfl oDef (cDef w4 fv hfv4) (by simp (disch:=(try simp only [sPu]);omega)) ?_
  rintro e w5 ⟨tv,rfl,htv,b2⟩
  have s5:w4.heap.size≤w5.heap.size:=b2.size
  refine ⟨tv,rfl,(b1.mono (by omega)).trans (b2.mono (by omega)),?_⟩
  have hout':=hout (n % (m+1)) hvm
  have hlen':=hlen (n % (m+1)) hvm
  refine dreg_call rfl oWr (cWr w5 fv mflex ((n % (m+1):Nat):Int) _ tv (FsVT.down b2 (by omega) hfv4) (htv.mono (fun k hk=>hk.2) (fun _ _=>rfl)) rfl hus (by simp only [Tree.l,Tree.u];rw [← hout'];exact hlen')) (by simp (disch:=(try simp only [sPu]);omega) [msgV]) ?_
  rintro e w6 ⟨v2,rfl,o2,b3⟩
  simp only [Tree.l,Tree.u] at o2
  rw [← hout'] at o2
  have s6:w5.heap.size≤w6.heap.size:=b3.size
  have hS6:Below (w2.heap.size+1) w3.drew w6:=(b1.mono (by omega)).trans ((b2.mono (by omega)).trans (b3.mono (by omega)))
  refine ⟨v2,rfl,hS6,?_⟩
  have o16:Own X.U8 w6 w3.heap.size v1 (out ((n % (m+1):Nat):Int)):=own_keep (own_keep o1 b2) b3
  obtain ⟨p1,c1,rfl,q1⟩:=own_bytesAt o16
  obtain ⟨p2,c2,rfl,q2⟩:=own_bytesAt o2
  refine dreg_call rfl oSame (cSame w6 _ p1 p2 c1 c2 q1 q2 hlen') (by simp (disch:=(try simp only [sPu]);omega)) ?_
  rintro e w7 ⟨rfl,b4⟩
  refine ⟨_,rfl,hS6.trans (b4.mono (by omega)),?_⟩
  repeat (apply dr_1;(focus rfl);(focus (simp (disch:=(try simp only [sPu]);omega) ;try rfl)))
  refine dreg_nil ?_
  simp only [Exit.then]
  refine SC.wp_ret (ret_tmp hr (by simp [dPu,zd]) ⟨?_,hbw3.drew.trans ((hS6.trans (b4.mono (by omega))).mono (by omega))⟩)
  simp (disch:=(try simp only [sPu]);omega)
end
end Go.Proofs.Ytjbbohfaihkolaa.K
namespace Go.Proofs.Ytjbbohfaihkolaa.K
open Go Go.RowKit Go.Proofs.Ytjbbohfaihkolaa.T
attribute [local simp] eTm eCo pNo gTp gTn qv qcall vop iop
set_option linter.unusedSimpArgs false
set_option linter.unusedVariables false
set_option maxHeartbeats 4000000
def sc_VoteSpec (T0 T1 T2 F0 F1:Nat):SC:=.seq (.reg [⟨some 0,.alloc T0,none⟩]) (.seq (.reg [⟨some 1,.build T1 #[(0,(.const (.int .i64 2))),(2,(.const (.int .i64 (-1)))),(3,(.const (.int .i64 (-1)))),(4,(.const (.int .i64 (-1))))],none⟩,cal 2 F0 [],⟨some 3,.build T1 #[(0,(.const (.int .i64 11))),(2,(.const (.int .i64 (-1)))),(3,(.const (.int .i64 (-1)))),(4,(.const (.int .i64 (-1)))),(6,(.const (.int .i64 10))),(7,(.tmp 2))],none⟩,cal 4 F1 [],⟨some 5,.build T1 #[(0,(.const (.int .i64 11))),(2,(.const (.int .i64 (-1)))),(3,(.const (.int .i64 (-1)))),(4,(.const (.int .i64 0))),(6,(.const (.int .i64 10))),(7,(.tmp 4))],none⟩,⟨some 6,.buildSlice T2 3 #[(0,(.tmp 1)),(1,(.tmp 3)),(2,(.tmp 5))],none⟩,⟨some 7,.build T0 #[(1,(.const (.int .i64 0))),(0,(.tmp 6))],none⟩,⟨none,.store T0 (.tmp 0) (.tmp 7),none⟩]) (.ret))
def hdT:Hd:=⟨0,-1,-1,0,0,0,0,false⟩
def fsVote (fsA fsB:Fs):Fs:=.cons hdT (.prim .i16) (.cons hdT (.list 0 0 0 (.struct 0 0 0 none fsA)) (.cons hdT (.list 0 0 0 (.struct 0 0 0 none fsB)) .nil))
def tgVote:List Int:=[-1,-1,0]
section
variable {P:Program} {X:STy} {f:FuncId} {fn:Func}
theorem opw_bF (hF:fOK P X.F=true) {a:Act} {w:World} {K:Act→World→Prop} {d:Option Tmp} {g:Option (Nat × Bool)} {parts:Array (Nat × Operand)} {vs:List (Nat × Value)} {cs:List Value} (he:(parts.map fun x=>(x.1,a.eval x.2)).toList=vs) (hp:∀ x ∈ vs,x.1 < 8∧x.2.cells=#[x.2]) (hcs:setAll vs zeroF=cs) (h:K (a.put d (.agg cs.toArray)) w):opw P ⟨d,.build X.F parts,g⟩ a w K :=
  opw_build (by rw [he,← hcs];exact built8 hF vs hp) h
theorem voteSpec_ok {fsA fsB:Fs} {F0 F1:FuncId} (hX:stOK P X=true) (hF:fOK P X.F=true) (hS:P.underlying X.Fs=some (.slice X.F)) (hM:arrB P X.M 2=true) (hMb:∀ (n:Int) (b:Option Addr) (l c:Nat),P.built X.M [(1,.int .i64 n),(0,.slice b l c)]=some #[.slice b l c,.int .i64 n])
    (o0:FnOK P F0) (c0:∀ w:World,Calls P F0 #[] w fun e w'=>∃ v,e=.returned v∧v.oneCell'=true∧FsV w' (fun k=>w.heap.size≤k∧k < w'.heap.size) fsA v∧Below w.heap.size w w')
    (o1:FnOK P F1) (c1:∀ w:World,Calls P F1 #[] w fun e w'=>∃ v,e=.returned v∧v.oneCell'=true∧FsV w' (fun k=>w.heap.size≤k∧k < w'.heap.size) fsB v∧Below w.heap.size w w')
    (hf:P.funcs[f]?=some fn) (hb:fn.body.map strip=some (sc_VoteSpec X.M X.F X.Fs F0 F1)) (hn:fn.ntmps=8) (hr:fn.results=#[.cell 0 X.M]) (w:World) :
    Calls P f #[] w fun e w'=>∃ v,e=.returned (msgV v 0)∧v.oneCell'=true∧FsVT w' (fun k=>w.heap.size≤k∧k < w'.heap.size) (fsVote fsA fsB) tgVote v∧Below w.heap.size w w':=by
  have hst:=st_facts hX
  obtain ⟨hM1,iM,zM,hiM,hzM,hzMs⟩:=arr_of hM
  have hF8:∃ i,P.info? X.F=some i∧i.size=8:=by
    obtain ⟨i,hi,hs,_⟩:=agg_of (w:=w) (aggB_of hst.2.2.1.2.1)
    exact ⟨i,hi,hs⟩
  refine fCa hf hb hn (by simp) fun a0 hs hd ha=>?_
  refine SC.wp_seq (SC.wp_reg (oNo rfl (opw_alloc hiM hzM (oNi ?_))))
  simp only [Exit.then]
  have hnew:=heap_alloc_new w (.cells zM.cells X.M)
  have hbn:Below w.heap.size w (w.alloc (.cells zM.cells X.M)):=(Below.refl _ _).alloc (Nat.le_refl _) _
  have hsn:(w.alloc (.cells zM.cells X.M)).heap.size=w.heap.size+1:=by simp
  generalize w.alloc (.cells zM.cells X.M)=w1 at *
  refine SC.wp_seq (SC.wp_reg ?_)
  obtain ⟨r0,hr0⟩:∃ r0:List Value,r0=[.int .i64 2,.int .i64 0,.int .i64 (-1),.int .i64 (-1),.int .i64 (-1),.int .i64 0,.int .i64 0,.slice none 0 0]:=⟨_,rfl⟩
  refine oNo rfl (opw_bF hF (vs:=[(0,.int .i64 2),(2,.int .i64 (-1)),(3,.int .i64 (-1)),(4,.int .i64 (-1))]) (cs:=r0) (by simp only [List.map_toArray,List.map_cons,List.map_nil,eCo]) (by simp [Value.cells]) (by rw [hr0];rfl) ?_)
  refine opsw_gen (fun a=>a.tmps.size=8∧a.defers=[]∧getT a 0=.pointer (some ⟨w.heap.size,0,none⟩)∧getT a 1=.agg r0.toArray) ⟨by simp [sPu,hs],by simp [dPu,hd],by simp (disch:=(try simp only [sPu]);omega),by simp (disch:=(try simp only [sPu]);omega)⟩ ?_
  clear hs hd ha
  rintro a1 ⟨hs,hd,g0,g1⟩
  refine ops_call o0 (c0 w1) (by simp) ?_
  rintro e w2 ⟨v2,rfl,one2,hv2,hb2⟩
  refine ⟨_,rfl,?_⟩
  have hs2:=hb2.size
  have cell2:=cells_oneCell one2
  have cell1:∀ n:Int,(Value.int .i64 n).cells=#[.int .i64 n]:=fun _=>rfl
  refine opsw_gen (fun a=>a.tmps.size=8∧a.defers=[]∧getT a 0=.pointer (some ⟨w.heap.size,0,none⟩)∧getT a 1=.agg r0.toArray∧getT a 2=v2) ⟨by simp [sPu,hs],by simp [dPu,hd],by simp (disch:=(try simp only [sPu]);omega) [g0],by simp (disch:=(try simp only [sPu]);omega) [g1],by simp (disch:=(try simp only [sPu]);omega)⟩ ?_
  clear hs hd g0 g1
  rintro a2 ⟨hs,hd,g0,g1,g2⟩
  obtain ⟨r1,hr1⟩:∃ r1:List Value,r1=[.int .i64 11,.int .i64 0,.int .i64 (-1),.int .i64 (-1),.int .i64 (-1),.int .i64 0,.int .i64 10,v2]:=⟨_,rfl⟩
  refine oNo rfl (opw_bF hF (vs:=[(0,.int .i64 11),(2,.int .i64 (-1)),(3,.int .i64 (-1)),(4,.int .i64 (-1)),(6,.int .i64 10),(7,v2)]) (cs:=r1) (by simp only [List.map_toArray,List.map_cons,List.map_nil,eCo,eTm,g2]) (by simp [cell1,cell2]) (by rw [hr1];rfl) ?_)
  refine opsw_gen (fun a=>a.tmps.size=8∧a.defers=[]∧getT a 0=.pointer (some ⟨w.heap.size,0,none⟩)∧getT a 1=.agg r0.toArray∧getT a 3=.agg r1.toArray) ⟨by simp [sPu,hs],by simp [dPu,hd],by simp (disch:=(try simp only [sPu]);omega) [g0],by simp (disch:=(try simp only [sPu]);omega) [g1],by simp (disch:=(try simp only [sPu]);omega)⟩ ?_
  clear hs hd g0 g1 g2
  rintro a3 ⟨hs,hd,g0,g1,g3⟩
  refine ops_call o1 (c1 w2) (by simp) ?_
  rintro e w3 ⟨v4,rfl,one4,hv4,hb3⟩
  refine ⟨_,rfl,?_⟩
  have hs3:=hb3.size
  have cell4:=cells_oneCell one4
  refine opsw_gen (fun a=>a.tmps.size=8∧a.defers=[]∧getT a 0=.pointer (some ⟨w.heap.size,0,none⟩)∧getT a 1=.agg r0.toArray∧getT a 3=.agg r1.toArray∧getT a 4=v4) ⟨by simp [sPu,hs],by simp [dPu,hd],by simp (disch:=(try simp only [sPu]);omega) [g0],by simp (disch:=(try simp only [sPu]);omega) [g1],by simp (disch:=(try simp only [sPu]);omega) [g3],by simp (disch:=(try simp only [sPu]);omega)⟩ ?_
  clear hs hd g0 g1 g3
  rintro a4 ⟨hs,hd,g0,g1,g3,g4⟩
  obtain ⟨r2,hr2⟩:∃ r2:List Value,r2=[.int .i64 11,.int .i64 0,.int .i64 (-1),.int .i64 (-1),.int .i64 0,.int .i64 0,.int .i64 10,v4]:=⟨_,rfl⟩
  refine oNo rfl (opw_bF hF (vs:=[(0,.int .i64 11),(2,.int .i64 (-1)),(3,.int .i64 (-1)),(4,.int .i64 0),(6,.int .i64 10),(7,v4)]) (cs:=r2) (by simp only [List.map_toArray,List.map_cons,List.map_nil,eCo,eTm,g4]) (by simp [cell1,cell4]) (by rw [hr2];rfl) ?_)
  refine opsw_gen (fun a=>a.tmps.size=8∧a.defers=[]∧getT a 0=.pointer (some ⟨w.heap.size,0,none⟩)∧getT a 1=.agg r0.toArray∧getT a 3=.agg r1.toArray∧getT a 5=.agg r2.toArray) ⟨by simp [sPu,hs],by simp [dPu,hd],by simp (disch:=(try simp only [sPu]);omega) [g0],by simp (disch:=(try simp only [sPu]);omega) [g1],by simp (disch:=(try simp only [sPu]);omega) [g3],by simp (disch:=(try simp only [sPu]);omega)⟩ ?_
  clear hs hd g0 g1 g3 g4
  rintro a5 ⟨hs,hd,g0,g1,g3,g5⟩
  refine oNo rfl (opw_buildFs (slots:=[1,3,5]) (rows:=[r0,r1,r2]) hF hS hF8 rfl (by decide) (by decide) (by simp only [List.map_cons,List.map_nil,g1,g3,g5]) (by
    intro r hr
    simp only [List.mem_cons,List.not_mem_nil,or_false] at hr
    rcases hr with rfl | rfl | rfl
    · rw [hr0];rfl
    · rw [hr1];rfl
    · rw [hr2];rfl) ?_)
  have hrf:[r0,r1,r2].flatten=[.int .i64 2,.int .i64 0,.int .i64 (-1),.int .i64 (-1),.int .i64 (-1),.int .i64 0,.int .i64 0,.slice none 0 0,.int .i64 11,.int .i64 0,.int .i64 (-1),.int .i64 (-1),.int .i64 (-1),.int .i64 0,.int .i64 10,v2,.int .i64 11,.int .i64 0,.int .i64 (-1),.int .i64 (-1),.int .i64 0,.int .i64 0,.int .i64 10,v4]:=by rw [hr0,hr1,hr2];rfl
  rw [hrf]
  obtain ⟨cells,hcells⟩:∃ cells:List Value,cells=[.int .i64 2,.int .i64 0,.int .i64 (-1),.int .i64 (-1),.int .i64 (-1),.int .i64 0,.int .i64 0,.slice none 0 0,.int .i64 11,.int .i64 0,.int .i64 (-1),.int .i64 (-1),.int .i64 (-1),.int .i64 0,.int .i64 10,v2,.int .i64 11,.int .i64 0,.int .i64 (-1),.int .i64 (-1),.int .i64 0,.int .i64 0,.int .i64 10,v4]:=⟨_,rfl⟩
  rw [← hcells]
  have hn4:=heap_alloc_new w3 (.cells cells.toArray X.F)
  have hb4:Below w3.heap.size w3 (w3.alloc (.cells cells.toArray X.F)):=(Below.refl _ _).alloc (Nat.le_refl _) _
  have hs4:(w3.alloc (.cells cells.toArray X.F)).heap.size=w3.heap.size+1:=by simp
  generalize w3.alloc (.cells cells.toArray X.F)=w4 at *
  refine opsw_gen (fun a=>a.tmps.size=8∧a.defers=[]∧getT a 0=.pointer (some ⟨w.heap.size,0,none⟩)∧getT a 6=.slice (some ⟨w3.heap.size,0,none⟩) 3 3) ⟨by simp [sPu,hs],by simp [dPu,hd],by simp (disch:=(try simp only [sPu]);omega) [g0],by simp (disch:=(try simp only [sPu]);omega)⟩ ?_
  clear hs hd g0 g1 g3 g5
  rintro a6 ⟨hs,hd,g0,g6⟩
  refine oNo rfl (opw_build (cs:=#[.slice (some ⟨w3.heap.size,0,none⟩) 3 3,.int .i64 0]) (by simp only [List.map_toArray,List.map_cons,List.map_nil,eCo,eTm,g6];exact hMb 0 _ 3 3) ?_)
  have hn1:w4.heap[w.heap.size]?=_:=(hb4.block w.heap.size (by omega)).trans ((hb3.block w.heap.size (by omega)).trans ((hb2.block w.heap.size (by omega)).trans hnew))
  refine oNo rfl (opw_store_agg (b:=w.heap.size) (cs:=[.slice (some ⟨w3.heap.size,0,none⟩) 3 3,.int .i64 0]) hM1 (by simp (disch:=(try simp only [sPu]);omega) [g0]) (by simp (disch:=(try simp only [sPu]);omega)) hn1 (by simp [hzMs]) (by simp [Value.oneCell']) (oNi (SC.wp_ret ?_)))
  have hnf:=setRow_heap w4 w.heap.size _ #[Value.slice (some ⟨w3.heap.size,0,none⟩) 3 3,.int .i64 0] _ _ hn1
  have hoth:∀ k,k ≠ w.heap.size→(w4.setRow w.heap.size #[Value.slice (some ⟨w3.heap.size,0,none⟩) 3 3,.int .i64 0]).heap[k]?=w4.heap[k]?:=fun k hk=>setRow_other _ _ _ _ hk
  have hbel:Below w.heap.size w (w4.setRow w.heap.size #[Value.slice (some ⟨w3.heap.size,0,none⟩) 3 3,.int .i64 0]):=below_setRow (((hbn.trans (hb2.mono (by omega))).trans (hb3.mono (by omega))).trans (hb4.mono (by omega))) (Nat.le_refl _) _
  have hs5:(w4.setRow w.heap.size #[Value.slice (some ⟨w3.heap.size,0,none⟩) 3 3,.int .i64 0]).heap.size=w4.heap.size:=by simp
  refine ret_cell hr (by simp [hst]) (b:=w.heap.size) (by simp (disch:=(try simp only [sPu]);omega) [g0]) hnf (by simp [dPu,hd]) ⟨.slice (some ⟨w3.heap.size,0,none⟩) 3 3,rfl,rfl,?_,hbel⟩
  generalize w4.setRow w.heap.size #[Value.slice (some ⟨w3.heap.size,0,none⟩) 3 3,.int .i64 0]=w5 at *
  have hc:∀ i,w5.cell? ⟨w3.heap.size,i,none⟩=cells.toArray[i]?:=fun i=>by
    rw [World.cell?_of_block (w:=w4) (hoth w3.heap.size (by omega))]
    exact cell_of_row _ _ _ _ _ _ hn4
  have hA:SubV w5 (fun k=>w.heap.size≤k∧k < w5.heap.size) (.struct 0 0 0 none fsA) v2:=by
    simp only [SubV]
    exact FsV.mono (fun k hk=>⟨by omega,by omega⟩) (fun k hk=>(hoth k (by omega)).trans ((hb4.block k (by omega)).trans (hb3.block k hk.2))) hv2
  have hB:SubV w5 (fun k=>w.heap.size≤k∧k < w5.heap.size) (.struct 0 0 0 none fsB) v4:=by
    simp only [SubV]
    exact FsV.mono (fun k hk=>⟨by omega,by omega⟩) (fun k hk=>(hoth k (by omega)).trans (hb4.block k hk.2)) hv4
  refine ⟨some ⟨w3.heap.size,0,none⟩,3,rfl,.inr ⟨w3.heap.size,0,rfl,⟨by omega,by omega⟩,?_⟩⟩
  rw [hcells] at hc
  simp only [fsVote,tgVote,FsAtT,hdT,List.headD_cons,List.tail_cons,SubV,kindOf]
  refine ⟨⟨0,.slice none 0 0,by simp [rangeV,hc],rfl,trivial,trivial⟩,⟨10,v2,by simp [rangeV,hc],one2,⟨rfl,rfl⟩,by simpa only [SubV] using hA⟩,⟨10,v4,by simp [rangeV,hc],one4,⟨rfl,rfl⟩,by simpa only [SubV] using hB⟩,trivial⟩
end
end Go.Proofs.Ytjbbohfaihkolaa.K
