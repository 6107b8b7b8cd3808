/- Generic texts: R28 S14 S15 R29 R31 G3 H6 H5. No condition. -/
import Derived.Test.YtgaplicnofhliaaDoorN10
import Derived.Great.BuildSlice
import Derived.Great.FillDense
namespace Go.Proofs.YtgaplicnofhliaaDoor.K
open Go Go.RowKit Go.Proofs.YtgaplicnofhliaaDoor.T
attribute [local simp] eTm eCo pNo gTp gTn qv qcall vop iop
set_option linter.unusedVariables false
set_option linter.unusedSimpArgs false
set_option maxHeartbeats 4000000
def sc_zzFits2 (T0 T1 T2 T3 T4 T5 F0:Nat):SC:=.seq (.reg [⟨some 1,.box T0 (.tmp 0),none⟩,⟨some 2,.assign (.const (.bool false)),none⟩]) (.seq (.seq (.reg [fa 3 T0 1 1,ld 4 T1 3,lenOp 5 T1 4,⟨some 6,.binOp .gtr T2 (.tmp 5) (.const (.int .i64 2147483647)) T2,none⟩]) (.cond (.tmp 6) (.seq (.reg [⟨some 2,.assign (.const (.bool false)),none⟩]) (.ret)) (.skip))) (.seq (.seq (.reg [fa 7 T0 1 3,ld 8 T3 7,lenOp 9 T3 8,⟨some 10,.binOp .gtr T2 (.tmp 9) (.const (.int .i64 2147483647)) T2,none⟩]) (.cond (.tmp 10) (.seq (.reg [⟨some 2,.assign (.const (.bool false)),none⟩]) (.ret)) (.skip))) (.seq (.seq (.reg [fa 11 T0 1 4,ld 12 T4 11,cal 13 F0 [12],⟨some 14,.unOp .not T5 (.tmp 13),none⟩]) (.cond (.tmp 14) (.seq (.reg [⟨some 2,.assign (.const (.bool false)),none⟩]) (.ret)) (.skip))) (.seq (.reg [⟨some 2,.assign (.const (.bool true)),none⟩]) (.ret)))))
def sc_zzFits3 (T0 T1 T2 T3 F0:Nat):SC:=.seq (.reg [⟨some 2,.assign (.const (.bool false)),none⟩]) (.seq (.seq (.reg [mv 5 0,lenOp 6 T0 5,⟨some 7,.binOp .gtr T1 (.tmp 6) (.const (.int .i64 2147483647)) T1,none⟩]) (.cond (.tmp 7) (.seq (.reg [⟨some 2,.assign (.const (.bool false)),none⟩]) (.ret)) (.skip))) (.seq (.seq (.reg [mv 8 0,lenOp 9 T0 8,⟨some 10,.move (.const (.int .i64 0)),none⟩]) (.block 0 (.loop (.seq (.reg [⟨some 11,.binOp .lss T1 (.tmp 10) (.tmp 9) T1,none⟩]) (.seq (.cond (.tmp 11) (.skip) (.exit 0)) (.seq (.block 1 (.seq (.reg [⟨some 12,.indexAddr T0 (.tmp 8) (.tmp 10),none⟩,ld 13 T2 12,⟨some 4,.alloc T2,none⟩,⟨none,.store T2 (.tmp 4) (.tmp 13),none⟩]) (.seq (.reg [ld 14 T2 4,cal 15 F0 [14],⟨some 16,.unOp .not T3 (.tmp 15),none⟩]) (.cond (.tmp 16) (.seq (.reg [⟨some 2,.assign (.const (.bool false)),none⟩]) (.ret)) (.skip))))) (.reg [⟨some 17,.binOp .add T1 (.tmp 10) (.const (.int .i64 1)) T1,none⟩,mv 10 17]))))))) (.seq (.reg [⟨some 2,.assign (.const (.bool true)),none⟩]) (.ret))))
def sc_zzFits4 (T0 T1 T2:Nat):SC:=.seq (.reg [⟨some 1,.box T0 (.tmp 0),none⟩,⟨some 2,.assign (.const (.bool false)),none⟩]) (.seq (.seq (.reg [fa 3 T0 1 1,ld 4 T1 3,lenOp 5 T1 4,⟨some 6,.binOp .gtr T2 (.tmp 5) (.const (.int .i64 2147483647)) T2,none⟩]) (.cond (.tmp 6) (.seq (.reg [⟨some 2,.assign (.const (.bool false)),none⟩]) (.ret)) (.skip))) (.seq (.reg [⟨some 2,.assign (.const (.bool true)),none⟩]) (.ret)))
def Asks (w:World) (e:Ending) (w':World):Prop:=(∃ b:Bool,e=.returned (.bool b))∧Below w.heap.size w w'
section
variable {P:Program} {X:STy} {f:FuncId} {fn:Func}
theorem fits4_ok (hX:stOK P X=true) (hf:P.funcs[f]?=some fn) (hb:fn.body.map strip=some (sc_zzFits4 X.Tg X.Bs X.I)) (hn:fn.ntmps=7) (hr:fn.results=#[.tmp 2]) (w:World) (k:Value) (vb:Option Addr) (n vc:Nat) (hk:k.oneCell'=true) :
    Calls P f #[.agg #[k,.slice vb n vc]] w (Asks w):=by
  have hst:=st_facts hX
  refine fCa hf hb hn (by simp) fun a0 hs hd ha=>?_
  have h0:=ha 0 _ rfl
  simp only [List.getElem_toArray,List.getElem_cons_zero,List.getElem_cons_succ] at h0
  refine SC.wp_seq (SC.wp_reg (oNo rfl (opw_box (v:=.agg #[k,.slice vb n vc]) h0 ?_)))
  have hnew:=heap_alloc_new w (.cells (Value.agg #[k,.slice vb n vc]).cells X.Tg)
  have hc:(w.alloc (.cells (Value.agg #[k,.slice vb n vc]).cells X.Tg)).cell? ⟨w.heap.size,1,none⟩=some (.slice vb n vc):=by rw [cell_of_row _ _ _ _ _ _ hnew];rfl
  have hb1:Below w.heap.size w (w.alloc (.cells (Value.agg #[k,.slice vb n vc]).cells X.Tg)):=(Below.refl _ _).alloc (Nat.le_refl _) _
  generalize w.alloc (.cells (Value.agg #[k,.slice vb n vc]).cells X.Tg)=w1 at hc hb1 ⊢
  repeat (apply ops_1;(focus (simp (disch:=(try simp only [sPu]);omega) ;try rfl)))
  refine oNi (SC.wp_seq (SC.wp_seq (SC.wp_reg ?_)))
  repeat (apply ops_1;(focus (simp (disch:=(try simp only [sPu]);omega) [hst,hc];try rfl)))
  refine oNi (SC.wp_cond (t:=decide ((n:Int) > 2147483647)) (by simp (disch:=(try simp only [sPu]);omega)) ?_)
  split
  · refine SC.wp_seq (SC.wp_reg ?_)
    repeat (apply ops_1;(focus (simp (disch:=(try simp only [sPu]);omega) ;try rfl)))
    refine oNi (SC.wp_ret ?_)
    exact ret_tmp hr (by simp [dPu,hd]) ⟨⟨false,by simp (disch:=(try simp only [sPu]);omega)⟩,hb1⟩
  · refine SC.wp_skip ?_
    simp only [Exit.then]
    refine SC.wp_seq (SC.wp_reg ?_)
    repeat (apply ops_1;(focus (simp (disch:=(try simp only [sPu]);omega) ;try rfl)))
    refine oNi (SC.wp_ret ?_)
    exact ret_tmp hr (by simp [dPu,hd]) ⟨⟨true,by simp (disch:=(try simp only [sPu]);omega)⟩,hb1⟩
theorem fits3_ok (hX:stOK P X=true) (hT:TagT P X) {F0 T3:Nat} (oF:FnOK P F0) (cF:∀ (w:World) (k:Value) (vb:Option Addr) (n vc:Nat),k.oneCell'=true→Calls P F0 #[.agg #[k,.slice vb n vc]] w (Asks w))
    (hf:P.funcs[f]?=some fn) (hb:fn.body.map strip=some (sc_zzFits3 X.Tgs X.I X.Tg T3 F0)) (hn:fn.ntmps=18) (hr:fn.results=#[.tmp 2]) (w:World) (u:List (Nat × Bytes)) (ub:Option Addr) (uc:Nat) (hu:UTagsAt w (· < w.heap.size) ub u) :
    Calls P f #[.slice ub u.length uc] w (Asks w):=by
  have hst:=st_facts hX
  obtain ⟨iT,zT,hiT,hzT,hzTc,_,_⟩:=hT.info
  refine fCa hf hb hn (by simp) fun a0 hs hd ha=>?_
  have h0:=ha 0 _ rfl
  simp only [List.getElem_toArray,List.getElem_cons_zero,List.getElem_cons_succ] at h0
  refine SC.wp_seq (SC.wp_reg ?_)
  repeat (apply ops_1;(focus (simp (disch:=(try simp only [sPu]);omega) ;try rfl)))
  refine oNi (SC.wp_seq (SC.wp_seq (SC.wp_reg ?_)))
  repeat (apply ops_1;(focus (simp (disch:=(try simp only [sPu]);omega) [hst,h0];try rfl)))
  refine oNi (SC.wp_cond (t:=decide ((u.length:Int) > 2147483647)) (by simp (disch:=(try simp only [sPu]);omega)) ?_)
  by_cases hbig:(u.length:Int) > 2147483647
  · rw [if_pos (decide_eq_true hbig)]
    refine SC.wp_seq (SC.wp_reg ?_)
    repeat (apply ops_1;(focus (simp (disch:=(try simp only [sPu]);omega) ;try rfl)))
    refine oNi (SC.wp_ret ?_)
    exact ret_tmp hr (by simp [dPu,hd]) ⟨⟨false,by simp (disch:=(try simp only [sPu]);omega)⟩,Below.refl _ _⟩
  rw [if_neg (by rw [decide_eq_false hbig];simp)]
  refine SC.wp_skip ?_
  simp only [Exit.then]
  refine SC.wp_seq (SC.wp_seq (SC.wp_reg ?_))
  repeat (apply ops_1;(focus (simp (disch:=(try simp only [sPu]);omega) [hst,h0];try rfl)))
  refine oNi ?_
  simp only [Exit.then]
  refine SC.wp_block (SC.wp_loop (fun a' w'=>∃ i:Nat,a'.tmps.size=18∧a'.defers=[]∧getT a' 8=.slice ub u.length uc∧getT a' 9=.int .i64 (u.length:Int)∧getT a' 10=.int .i64 (i:Int)∧i≤u.length∧Below w.heap.size w w')
    (fun a' _=>match getT a' 10 with | .int _ m=>(u.length - m).toNat | _=>0) ⟨0,by simp [sPu,hs],by simp [dPu,hd],by simp (disch:=(try simp only [sPu]);omega),by simp (disch:=(try simp only [sPu]);omega),by simp (disch:=(try simp only [sPu]);omega),by omega,Below.refl _ _⟩ ?_)
  rintro a w1 ⟨i,p,pd,p8,p9,p10,hi,hb1⟩
  refine SC.wp_seq (SC.wp_reg ?_)
  repeat (apply ops_1;(focus (simp (disch:=(try simp only [sPu]);omega) [p9,p10];try rfl)))
  refine oNi ?_
  simp only [Exit.then]
  refine SC.wp_seq (SC.wp_cond (t:=decide ((i:Int) < (u.length:Int))) (by simp (disch:=(try simp only [sPu]);omega)) ?_)
  by_cases hlt:i < u.length
  · rw [if_pos (decide_eq_true (by omega))]
    refine SC.wp_skip ?_
    simp only [Exit.then]
    rcases hu with hu | ⟨b,o,hub,hbB,hall⟩
    · rw [hu] at hlt
      simp at hlt
    subst hub
    obtain ⟨hx4,vb,vc,hrng,hbs,hvc⟩:=hall i _ (List.getElem?_eq_getElem hlt)
    have hrng1:rangeV w1 b (o+i * 2) 2=some [.int .u32 (u[i].1:Int),.slice vb u[i].2.length vc]:=by rw [rangeV_mono (hb1.block b hbB)];exact hrng
    have hii:(0:Int)≤(i:Int)∧(i:Int) < (u.length:Int):=by omega
    refine SC.wp_seq (SC.wp_block (SC.wp_seq (SC.wp_reg ?_)))
    iterate 2 (apply ops_1;(focus (simp (disch:=(try simp only [sPu]);omega) [hst,p8,p10,hii,hrng1];try rfl)))
    refine oNo rfl (opw_alloc hiT hzT ?_)
    have hnew:=heap_alloc_new w1 (.cells zT.cells X.Tg)
    refine oNo rfl (opw_store_agg (cs:=[.int .u32 (u[i].1:Int),.slice vb u[i].2.length vc]) (cur:=zT.cells) (b:=w1.heap.size) (E:=X.Tg) hT.agg (by simp (disch:=(try simp only [sPu]);omega)) (by simp (disch:=(try simp only [sPu]);omega)) hnew (by rw [hzTc];rfl) (by intro v hv;simp at hv;rcases hv with rfl | rfl <;> rfl) (oNi ?_))
    rw [pNo]
    simp only [Exit.then]
    have hrow2:=setRow_heap _ _ _ [Value.int .u32 (u[i].1:Int),.slice vb u[i].2.length vc].toArray _ _ hnew
    have hb2:Below w.heap.size w ((w1.alloc (.cells zT.cells X.Tg)).setRow w1.heap.size [Value.int .u32 (u[i].1:Int),.slice vb u[i].2.length vc].toArray):=(hb1.alloc hb1.size _).trans ⟨rfl,rfl,rfl,by simp,fun k hk=>setRow_other _ _ _ _ (by have:=hb1.size;omega)⟩
    have hr2:rangeV ((w1.alloc (.cells zT.cells X.Tg)).setRow w1.heap.size [Value.int .u32 (u[i].1:Int),.slice vb u[i].2.length vc].toArray) w1.heap.size 0 2=some [.int .u32 (u[i].1:Int),.slice vb u[i].2.length vc]:=by
      have hc:∀ j,((w1.alloc (.cells zT.cells X.Tg)).setRow w1.heap.size [Value.int .u32 (u[i].1:Int),.slice vb u[i].2.length vc].toArray).cell? ⟨w1.heap.size,j,none⟩=#[.int .u32 (u[i].1:Int),.slice vb u[i].2.length vc][j]?:=fun j=>cell_of_row _ _ _ _ _ _ hrow2
      simp [rangeV,hc]
    generalize ((w1.alloc (.cells zT.cells X.Tg)).setRow w1.heap.size [Value.int .u32 (u[i].1:Int),.slice vb u[i].2.length vc].toArray)=w2 at hb2 hr2 ⊢
    refine SC.wp_seq (SC.wp_reg ?_)
    iterate 1 (apply ops_1;(focus (simp (disch:=(try simp only [sPu]);omega) [hst,hr2];try rfl)))
    refine ops_call oF (cF w2 (.int .u32 (u[i].1:Int)) vb u[i].2.length vc rfl) (by simp (disch:=(try simp only [sPu]);omega)) ?_
    rintro e w3 ⟨⟨bo,rfl⟩,hb3⟩
    refine ⟨_,rfl,?_⟩
    have hb3':Below w.heap.size w w3:=hb2.trans ⟨hb3.os,hb3.tape,hb3.output,hb3.size,fun k hk=>hb3.block k (Nat.lt_of_lt_of_le hk hb2.size)⟩
    repeat (apply ops_1;(focus (simp (disch:=(try simp only [sPu]);omega) ;try rfl)))
    refine oNi (SC.wp_cond (t:=!bo) (by simp (disch:=(try simp only [sPu]);omega)) ?_)
    cases bo
    · rw [if_pos (by rfl)]
      refine SC.wp_seq (SC.wp_reg ?_)
      repeat (apply ops_1;(focus (simp (disch:=(try simp only [sPu]);omega) ;try rfl)))
      refine oNi (SC.wp_ret ?_)
      simp only [Exit.then,Exit.inBlock]
      exact ret_tmp hr (by simp [dPu,pd]) ⟨⟨false,by simp (disch:=(try simp only [sPu]);omega)⟩,hb3'⟩
    · rw [if_neg (by simp)]
      refine SC.wp_skip ?_
      simp only [Exit.then,Exit.inBlock]
      have hwi:IntKind.i64.wrap ((i:Int)+1)=(i:Int)+1:=w64q (by omega) (by omega)
      refine SC.wp_reg ?_
      repeat (apply ops_1;(focus (simp (disch:=(try simp only [sPu]);omega) [p10,hwi];try rfl)))
      refine oNi ?_
      refine ⟨⟨i+1,by simp [sPu,p],by simp [dPu,pd],by simp (disch:=(try simp only [sPu]);omega) [p8],by simp (disch:=(try simp only [sPu]);omega) [p9],by simp (disch:=(try simp only [sPu]);omega),by omega,hb3'⟩,?_⟩
      have e10:getT a 10=.int .i64 (i:Int):=p10
      simp only [e10]
      simp (disch:=(try simp only [sPu]);omega)
      omega
  · rw [if_neg (by rw [decide_eq_false (by omega)];simp)]
    refine SC.wp_exit ?_
    simp only [Exit.then,Exit.inBlock,if_true]
    refine SC.wp_seq (SC.wp_reg ?_)
    repeat (apply ops_1;(focus (simp (disch:=(try simp only [sPu]);omega) ;try rfl)))
    refine oNi (SC.wp_ret ?_)
    exact ret_tmp hr (by simp [dPu,pd]) ⟨⟨true,by simp (disch:=(try simp only [sPu]);omega)⟩,hb1⟩
theorem fits2_ok (hX:stOK P X=true) {F0 T5:Nat} (oF:FnOK P F0) (cF:∀ (w:World) (u:List (Nat × Bytes)) (ub:Option Addr) (uc:Nat),UTagsAt w (· < w.heap.size) ub u→Calls P F0 #[.slice ub u.length uc] w (Asks w))
    (hf:P.funcs[f]?=some fn) (hb:fn.body.map strip=some (sc_zzFits2 X.T X.Bs X.I X.Ts X.Tgs T5 F0)) (hn:fn.ntmps=15) (hr:fn.results=#[.tmp 2]) {G:List (Nat × Bytes)→Prop} (w:World) (t:Tree) (tv:Value) (ht:TV G w (· < w.heap.size) t tv) :
    Calls P f #[tv] w (Asks w):=by
  have hst:=st_facts hX
  obtain ⟨n,s,null,l,u,sb,lb,ub,sc,lc,uc,b,o,cs,hs0,hsc,hlc,huc,hl,hr0,ht0,hG,hu⟩:=ht
  refine fCa hf hb hn (by simp) fun a0 hs hd ha=>?_
  have h0:=ha 0 _ rfl
  simp only [List.getElem_toArray,List.getElem_cons_zero,List.getElem_cons_succ] at h0
  refine SC.wp_seq (SC.wp_reg (oNo rfl (opw_box (v:=treV n (.slice sb s.length sc) null (.slice lb l.length lc) (.slice ub u.length uc)) h0 ?_)))
  have hnew:=heap_alloc_new w (.cells (treV n (.slice sb s.length sc) null (.slice lb l.length lc) (.slice ub u.length uc)).cells X.T)
  have hc1:(w.alloc (.cells (treV n (.slice sb s.length sc) null (.slice lb l.length lc) (.slice ub u.length uc)).cells X.T)).cell? ⟨w.heap.size,1,none⟩=some (.slice sb s.length sc):=by rw [cell_of_row _ _ _ _ _ _ hnew];rfl
  have hc3:(w.alloc (.cells (treV n (.slice sb s.length sc) null (.slice lb l.length lc) (.slice ub u.length uc)).cells X.T)).cell? ⟨w.heap.size,3,none⟩=some (.slice lb l.length lc):=by rw [cell_of_row _ _ _ _ _ _ hnew];rfl
  have hc4:(w.alloc (.cells (treV n (.slice sb s.length sc) null (.slice lb l.length lc) (.slice ub u.length uc)).cells X.T)).cell? ⟨w.heap.size,4,none⟩=some (.slice ub u.length uc):=by rw [cell_of_row _ _ _ _ _ _ hnew];rfl
  have hb1:Below w.heap.size w (w.alloc (.cells (treV n (.slice sb s.length sc) null (.slice lb l.length lc) (.slice ub u.length uc)).cells X.T)):=(Below.refl _ _).alloc (Nat.le_refl _) _
  generalize w.alloc (.cells (treV n (.slice sb s.length sc) null (.slice lb l.length lc) (.slice ub u.length uc)).cells X.T)=w1 at hc1 hc3 hc4 hb1 ⊢
  have hu1:UTagsAt w1 (· < w1.heap.size) ub u:=tagsAt_mono hu (fun k hk=>Nat.lt_of_lt_of_le hk hb1.size) fun k hk=>hb1.block k hk
  repeat (apply ops_1;(focus (simp (disch:=(try simp only [sPu]);omega) ;try rfl)))
  refine oNi (SC.wp_seq (SC.wp_seq (SC.wp_reg ?_)))
  repeat (apply ops_1;(focus (simp (disch:=(try simp only [sPu]);omega) [hst,hc1];try rfl)))
  refine oNi (SC.wp_cond (t:=decide ((s.length:Int) > 2147483647)) (by simp (disch:=(try simp only [sPu]);omega)) ?_)
  split
  · refine SC.wp_seq (SC.wp_reg ?_)
    repeat (apply ops_1;(focus (simp (disch:=(try simp only [sPu]);omega) ;try rfl)))
    refine oNi (SC.wp_ret ?_)
    exact ret_tmp hr (by simp [dPu,hd]) ⟨⟨false,by simp (disch:=(try simp only [sPu]);omega)⟩,hb1⟩
  refine SC.wp_skip ?_
  simp only [Exit.then]
  refine SC.wp_seq (SC.wp_seq (SC.wp_reg ?_))
  repeat (apply ops_1;(focus (simp (disch:=(try simp only [sPu]);omega) [hst,hc3];try rfl)))
  refine oNi (SC.wp_cond (t:=decide ((l.length:Int) > 2147483647)) (by simp (disch:=(try simp only [sPu]);omega)) ?_)
  split
  · refine SC.wp_seq (SC.wp_reg ?_)
    repeat (apply ops_1;(focus (simp (disch:=(try simp only [sPu]);omega) ;try rfl)))
    refine oNi (SC.wp_ret ?_)
    exact ret_tmp hr (by simp [dPu,hd]) ⟨⟨false,by simp (disch:=(try simp only [sPu]);omega)⟩,hb1⟩
  refine SC.wp_skip ?_
  simp only [Exit.then]
  refine SC.wp_seq (SC.wp_seq (SC.wp_reg ?_))
  iterate 2 (apply ops_1;(focus (simp (disch:=(try simp only [sPu]);omega) [hst,hc4];try rfl)))
  refine ops_call oF (cF w1 u ub uc hu1) (by simp (disch:=(try simp only [sPu]);omega)) ?_
  rintro e w2 ⟨⟨bo,rfl⟩,hb2⟩
  refine ⟨_,rfl,?_⟩
  have hb2':Below w.heap.size w w2:=hb1.trans ⟨hb2.os,hb2.tape,hb2.output,hb2.size,fun k hk=>hb2.block k (Nat.lt_of_lt_of_le hk hb1.size)⟩
  repeat (apply ops_1;(focus (simp (disch:=(try simp only [sPu]);omega) ;try rfl)))
  refine oNi (SC.wp_cond (t:=!bo) (by simp (disch:=(try simp only [sPu]);omega)) ?_)
  split
  · refine SC.wp_seq (SC.wp_reg ?_)
    repeat (apply ops_1;(focus (simp (disch:=(try simp only [sPu]);omega) ;try rfl)))
    refine oNi (SC.wp_ret ?_)
    exact ret_tmp hr (by simp [dPu,hd]) ⟨⟨false,by simp (disch:=(try simp only [sPu]);omega)⟩,hb2'⟩
  refine SC.wp_skip ?_
  simp only [Exit.then]
  refine SC.wp_seq (SC.wp_reg ?_)
  repeat (apply ops_1;(focus (simp (disch:=(try simp only [sPu]);omega) ;try rfl)))
  refine oNi (SC.wp_ret ?_)
  exact ret_tmp hr (by simp [dPu,hd]) ⟨⟨true,by simp (disch:=(try simp only [sPu]);omega)⟩,hb2'⟩
end
end Go.Proofs.YtgaplicnofhliaaDoor.K
namespace Go.Proofs.YtgaplicnofhliaaDoor.K
open Go Go.RowKit Go.Proofs.YtgaplicnofhliaaDoor.T
set_option linter.unusedSimpArgs false
set_option linter.unusedVariables false
set_option maxHeartbeats 4000000
def hasSub:Ty→Bool
  | .struct _ _ _ _ _=>true
  | .list _ _ _ of=>hasSub of
  | .prim _=>false
def ofPart:Ty→List (Nat × Int)
  | .list _ _ _ of=>[(6,kindOf of)]
  | _=>[]
def fldInts (h:Hd) (ty:Ty):List (Nat × Int) :=
  (0,kindOf ty) :: (if h.from_=0 then [] else [(1,h.from_)]) ++ [(2,h.to),(3,h.null),(4,-1)] ++ (if h.dflt=0 then [] else [(5,h.dflt)]) ++ ofPart ty
def fldParts (h:Hd) (ty:Ty) (sub:Option Nat):List (Nat × Operand) :=
  (fldInts h ty).map (fun x=>(x.1,.const (.int .i64 x.2))) ++ (match sub with | some t=>[(7,.tmp t)] | none=>[])
def bOps (F:Nat):Fs→List Nat→Nat→List SOp
  | .nil,_,_=>[]
  | .cons h ty r,subs,t =>
    if hasSub ty then cal t (subs.headD 0) [] :: ⟨some (t+1),.build F (fldParts h ty (some t)).toArray,none⟩ :: bOps F r subs.tail (t+2)
    else ⟨some t,.build F (fldParts h ty none).toArray,none⟩ :: bOps F r subs (t+1)
def bSlots:Fs→Nat→List Nat
  | .nil,_=>[]
  | .cons _ ty r,t=>if hasSub ty then (t+1) :: bSlots r (t+2) else t :: bSlots r (t+1)
def bEnd:Fs→Nat→Nat
  | .nil,t=>t
  | .cons _ ty r,t=>if hasSub ty then bEnd r (t+2) else bEnd r (t+1)
def bSlice (Fs_:Nat) (fs:Fs):SOp:=⟨some (bEnd fs 1),.buildSlice Fs_ (Fs.len fs) (((bSlots fs 1).zipIdx 0).map fun x=>(x.2,.tmp x.1)).toArray,none⟩
def sc_bSub (F Fs_:Nat) (fs:Fs) (subs:List Nat):SC :=
  .seq (.reg [⟨some 0,.assign (.const (.slice none 0 0)),none⟩]) (.seq (.reg (bOps F fs subs 1 ++ [bSlice Fs_ fs,asg 0 (bEnd fs 1)])) .ret)
def sc_bTop (F Fs_ M:Nat) (fs:Fs) (flex:Int) (subs:List Nat):SC :=
  .seq (.reg [⟨some 0,.alloc M,none⟩]) (.seq (.reg (bOps F fs subs 1 ++ [bSlice Fs_ fs,⟨some (bEnd fs 1+1),.build M #[(1,.const (.int .i64 flex)),(0,.tmp (bEnd fs 1))],none⟩,⟨none,.store M (.tmp 0) (.tmp (bEnd fs 1+1)),none⟩])) .ret)
def zeroF:List Value:=[.int .i64 0,.int .i64 0,.int .i64 0,.int .i64 0,.int .i64 0,.int .i64 0,.int .i64 0,.slice none 0 0]
def fOK (P:Program) (F:Nat):Bool :=
  match P.info? F,P.underlying F with
  | some it,some (.struct fields) =>
    match it.zero,fields.toList.mapM (fun f=>(P.info? f.type).map fun i=>(f.offset,i.size)) with
    | some (.agg ⟨[.int .i64 0,.int .i64 0,.int .i64 0,.int .i64 0,.int .i64 0,.int .i64 0,.int .i64 0,.slice none 0 0]⟩),some [(0,1),(1,1),(2,1),(3,1),(4,1),(5,1),(6,1),(7,1)]=>true
    | _,_=>false
  | _,_=>false
def setAll:List (Nat × Value)→List Value→List Value
  | [],cs=>cs
  | (i,v) :: r,cs=>setAll r (cs.set i v)
section
variable {P:Program} {X:STy} {f:FuncId} {fn:Func}
theorem fill8:∀ (parts:List (Nat × Value)) (cs:List Value),cs.length=8→(∀ x ∈ parts,x.1 < 8∧x.2.cells=#[x.2]) →
    Instr.fill (fun x=>(#[(0,1),(1,1),(2,1),(3,1),(4,1),(5,1),(6,1),(7,1)]:Array (Nat × Nat))[x]?) cs.toArray parts=some (setAll parts cs).toArray
  | [],cs,_,_=>by simp [Instr.fill,setAll]
  | (i,v) :: r,cs,hl,h=>by
    obtain ⟨h1,h2⟩:=h (i,v) List.mem_cons_self
    have ih:=fill8 r (cs.set i v) (by simpa using hl) (fun x hx=>h x (List.mem_cons_of_mem _ hx))
    have hp:(#[(0,1),(1,1),(2,1),(3,1),(4,1),(5,1),(6,1),(7,1)]:Array (Nat × Nat))[i]?=some (i,1):=by
      have:i=0∨i=1∨i=2∨i=3∨i=4∨i=5∨i=6∨i=7:=by simp only at h1;omega
      rcases this with rfl | rfl | rfl | rfl | rfl | rfl | rfl | rfl <;> rfl
    simp only at h1 h2
    unfold Instr.fill
    rw [hp]
    simp only [h2,setAll]
    have hc:¬ (i+1 > cs.length):=by omega
    simp [hl,show ¬ (8 < i+1) by omega]
    simpa using ih
theorem built8 (h:fOK P X.F=true) (parts:List (Nat × Value)) (hp:∀ x ∈ parts,x.1 < 8∧x.2.cells=#[x.2]):P.built X.F parts=some (setAll parts zeroF).toArray:=by
  unfold fOK at h
  split at h <;> try (simp at h;done)
  rename_i it fields hi hu
  split at h <;> try (simp at h;done)
  rename_i hz hpl
  unfold Program.built
  simp only [hi,hu,hz,hpl]
  exact fill8 parts zeroF rfl hp
def ofOK2 (of_:Int):Ty→Prop
  | .list _ _ _ of=>of_=kindOf of
  | _=>True
theorem fldInts_set (h:Hd) (ty:Ty):∃ of_,ofOK2 of_ ty∧setAll ((fldInts h ty).map fun x=>(x.1,Value.int .i64 x.2)) zeroF=[.int .i64 (kindOf ty),.int .i64 h.from_,.int .i64 h.to,.int .i64 h.null,.int .i64 (-1),.int .i64 h.dflt,.int .i64 of_,.slice none 0 0]:=by
  have e:∀ (l:List (Nat × Int)) (of_:Int),ofPart ty=l→(l=[]∧of_=0∨l=[(6,of_)])→setAll ((fldInts h ty).map fun x=>(x.1,Value.int .i64 x.2)) zeroF=[.int .i64 (kindOf ty),.int .i64 h.from_,.int .i64 h.to,.int .i64 h.null,.int .i64 (-1),.int .i64 h.dflt,.int .i64 of_,.slice none 0 0]:=by
    intro l of_ hl ho
    unfold fldInts
    rw [hl]
    rcases ho with ⟨rfl,rfl⟩ | rfl <;> by_cases e1:h.from_=0 <;> by_cases e2:h.dflt=0 <;> simp [e1,e2,setAll,zeroF]
  cases ty with
  | prim k=>exact ⟨0,trivial,e [] 0 rfl (.inl ⟨rfl,rfl⟩)⟩
  | struct _ _ _ _ _=>exact ⟨0,trivial,e [] 0 rfl (.inl ⟨rfl,rfl⟩)⟩
  | list _ _ _ of=>exact ⟨kindOf of,rfl,e [(6,kindOf of)] _ rfl (.inr rfl)⟩
def SubFns (P:Program):Fs→List Nat→Prop
  | .nil,_=>True
  | .cons _ ty r,subs=>if hasSub ty then
      (FnOK P (subs.headD 0)∧∀ w:World,Calls P (subs.headD 0) #[] w fun e w'=>∃ v,e=.returned v∧v.oneCell'=true∧SubV w' (fun k=>w.heap.size≤k∧k < w'.heap.size) ty v∧Below w.heap.size w w')∧SubFns P r subs.tail
    else SubFns P r subs
def flatTy:Ty→Bool
  | .list _ _ _ of=>!isList of
  | _=>true
def flatFs:Fs→Bool
  | .nil=>true
  | .cons _ ty r=>flatTy ty && flatFs r
def FsRows (w:World) (F:Nat→Prop):Fs→List (List Value)→Prop
  | .nil,rows=>rows=[]
  | .cons h ty r,rows=>∃ of_ sub rest,rows=[.int .i64 (kindOf ty),.int .i64 h.from_,.int .i64 h.to,.int .i64 h.null,.int .i64 (-1),.int .i64 h.dflt,.int .i64 of_,sub] :: rest∧sub.oneCell'=true∧ofOK of_ ty∧SubV w F ty sub∧FsRows w F r rest
theorem FsRows.mono {w0 w:World} {F F':Nat→Prop} (hF:∀ k,F k→F' k) (hw:∀ k,F k→w.heap[k]?=w0.heap[k]?):∀ (fs:Fs) (rows:List (List Value)),FsRows w0 F fs rows→FsRows w F' fs rows
  | .nil,_,h=>h
  | .cons h ty r,rows,hh=>by
    simp only [FsRows] at hh ⊢
    obtain ⟨of_,sub,rest,h1,h2,h3,h4,h5⟩:=hh
    exact ⟨of_,sub,rest,h1,h2,h3,SubV.mono hF hw ty sub h4,FsRows.mono hF hw r rest h5⟩
theorem fsAt_rows {w:World} {F:Nat→Prop} {b:Nat}:∀ (fs:Fs) (rows:List (List Value)) (o:Nat),FsRows w F fs rows→(∀ i v,rows.flatten[i]?=some v→w.cell? ⟨b,o+i,none⟩=some v)→FsAt w F fs b o
  | .nil,_,_,_,_=>by simp [FsAt]
  | .cons h ty r,rows,o,hh,hc=>by
    simp only [FsRows] at hh
    obtain ⟨of_,sub,rest,rfl,h2,h3,h4,h5⟩:=hh
    simp only [FsAt]
    refine ⟨⟨of_,sub,?_,h2,h3,h4⟩,fsAt_rows r rest (o+8) h5 (fun i v hv=>?_)⟩
    · refine rangeV_of [.int .i64 (kindOf ty),.int .i64 h.from_,.int .i64 h.to,.int .i64 h.null,.int .i64 (-1),.int .i64 h.dflt,.int .i64 of_,sub] o (fun j v hv=>hc j v ?_)
      rw [List.flatten_cons,List.getElem?_append_left (by have:=(List.getElem?_eq_some_iff.1 hv).1;simpa using this)]
      exact hv
    · rw [show o+8+i=o+(i+8) by omega]
      refine hc (i+8) v ?_
      rw [List.flatten_cons,List.getElem?_append_right (by simp)]
      simpa using hv
theorem fsRows_len {w:World} {F:Nat→Prop}:∀ (fs:Fs) (rows:List (List Value)),FsRows w F fs rows→rows.length=Fs.len fs∧∀ r ∈ rows,r.length=8
  | .nil,rows,h=>by simp only [FsRows] at h;subst h;simp [Fs.len]
  | .cons h ty r,rows,hh=>by
    simp only [FsRows] at hh
    obtain ⟨of_,sub,rest,rfl,h2,h3,h4,h5⟩:=hh
    obtain ⟨q1,q2⟩:=fsRows_len r rest h5
    refine ⟨by simp [Fs.len,q1],fun x hx=>?_⟩
    rcases List.mem_cons.1 hx with rfl | hx
    · rfl
    · exact q2 x hx
theorem ofOK_of {of_:Int} {ty:Ty} (hfl:flatTy ty=true) (h:ofOK2 of_ ty):ofOK of_ ty:=by
  cases ty with
  | list _ _ _ of =>
    simp only [flatTy,Bool.not_eq_true'] at hfl
    exact ⟨h,hfl⟩
  | prim k=>exact trivial
  | struct _ _ _ _ _=>exact trivial
theorem fldInts_lt (h:Hd) (ty:Ty):∀ x ∈ fldInts h ty,x.1 < 7:=by
  intro x hx
  have a1:∀ (c:Prop) [Decidable c] (k:Nat) (v:Int),x ∈ (if c then [] else [(k,v)])→x.1=k:=by
    intro c _ k v hx
    split at hx
    · simp at hx
    · simp at hx;rw [hx]
  have a2:x ∈ ofPart ty→x.1=6:=by
    intro hx
    cases ty <;> simp [ofPart] at hx
    rw [hx]
  simp only [fldInts,List.mem_append,List.mem_cons,List.not_mem_nil,or_false] at hx
  rcases hx with (((hx | hx) | (hx | hx | hx)) | hx) | hx
  · rw [hx];simp
  · have:=a1 _ _ _ hx;omega
  · rw [hx];simp
  · rw [hx];simp
  · rw [hx];simp
  · have:=a1 _ _ _ hx;omega
  · have:=a2 hx;omega
theorem setAll_append:∀ (l l':List (Nat × Value)) (cs:List Value),setAll (l ++ l') cs=setAll l' (setAll l cs)
  | [],_,_=>rfl
  | (i,v) :: l,l',cs=>by simp only [List.cons_append,setAll,setAll_append l l']
theorem bEnd_ge:∀ (fs:Fs) (t:Nat),t≤bEnd fs t
  | .nil,t=>Nat.le_refl _
  | .cons _ ty r,t=>by
    simp only [bEnd]
    split
    · have:=bEnd_ge r (t+2);omega
    · have:=bEnd_ge r (t+1);omega
theorem subV_none {w:World} {F:Nat→Prop}:∀ (ty:Ty) (v:Value),hasSub ty=false→SubV w F ty v
  | .prim _,_,_=>by simp [SubV]
  | .struct _ _ _ _ _,_,h=>by simp [hasSub] at h
  | .list _ _ _ of,v,h=>by
    simp only [hasSub] at h
    simp only [SubV]
    exact subV_none of v h
theorem cells_one {v:Value} (h:v.oneCell'=true):v.cells=#[v]:=cells_oneCell h
theorem bOps_ok (hX:fOK P X.F=true):∀ (fs:Fs) (subs:List Nat) (t:Nat) (all r:List SOp) (K:Act→World→Prop) (a:Act) (w:World),flatFs fs=true→SubFns P fs subs→bEnd fs t≤a.tmps.size →
    (∀ (a':Act) (w':World) (rows:List (List Value)),a'.tmps.size=a.tmps.size→a'.defers=a.defers→(∀ s,s < t→getT a' s=getT a s)→FsRows w' (fun k=>w.heap.size≤k∧k < w'.heap.size) fs rows→((bSlots fs t).map (getT a'))=rows.map (fun r=>Value.agg r.toArray)→Below w.heap.size w w'→opsw P all r K a' w') →
    opsw P all (bOps X.F fs subs t ++ r) K a w
  | .nil,subs,t,all,r,K,a,w,_,_,_,h=>h a w [] rfl rfl (fun _ _=>rfl) rfl rfl (Below.refl _ _)
  | .cons hd ty rs,subs,t,all,r,K,a,w,hfl,hsf,hsz,h=>by
    simp only [flatFs,Bool.and_eq_true] at hfl
    obtain ⟨of_,hof,hset⟩:=fldInts_set hd ty
    have hints:∀ x ∈ (fldInts hd ty).map (fun x=>(x.1,Value.int .i64 x.2)),x.1 < 8∧x.2.cells=#[x.2]:=by
      intro x hx
      obtain ⟨y,hy,rfl⟩:=List.mem_map.1 hx
      have:=fldInts_lt hd ty y hy
      exact ⟨by simp only;omega,rfl⟩
    cases hs:hasSub ty
    · simp only [SubFns,hs,Bool.false_eq_true,if_false] at hsf
      simp only [bEnd,hs,Bool.false_eq_true,if_false] at hsz
      have hge:=bEnd_ge rs (t+1)
      simp only [bOps,bSlots,hs,Bool.false_eq_true,if_false,List.cons_append] at h ⊢
      refine oNo rfl (opw_build (cs:=#[.int .i64 (kindOf ty),.int .i64 hd.from_,.int .i64 hd.to,.int .i64 hd.null,.int .i64 (-1),.int .i64 hd.dflt,.int .i64 of_,.slice none 0 0]) ?_ ?_)
      · have:=built8 hX _ hints
        rw [hset] at this
        rw [← this]
        simp [fldParts]
        rfl
      refine bOps_ok hX rs subs (t+1) all r K _ w hfl.2 hsf (by rw [sPu];exact hsz) ?_
      intro a' w' rows q qd qs qr qm qb
      refine h a' w' ([.int .i64 (kindOf ty),.int .i64 hd.from_,.int .i64 hd.to,.int .i64 hd.null,.int .i64 (-1),.int .i64 hd.dflt,.int .i64 of_,.slice none 0 0] :: rows) (by rw [q,sPu]) (by rw [qd,dPu]) ?_ ?_ ?_ qb
      · intro s hs
        rw [qs s (by omega),gTn (by omega)]
      · simp only [FsRows]
        exact ⟨of_,_,rows,rfl,rfl,ofOK_of hfl.1 hof,subV_none ty _ hs,qr⟩
      · simp only [List.map_cons]
        rw [qm,qs t (by omega),gTp (by omega)]
    · simp only [SubFns,hs,if_true] at hsf
      obtain ⟨⟨oF,cF⟩,hsf⟩:=hsf
      simp only [bEnd,hs,if_true] at hsz
      have hge:=bEnd_ge rs (t+2)
      simp only [bOps,bSlots,hs,if_true,List.cons_append] at h ⊢
      refine ops_cal oF (R:=fun e w'=>∃ v,e=.returned v∧v.oneCell'=true∧SubV w' (fun k=>w.heap.size≤k∧k < w'.heap.size) ty v∧Below w.heap.size w w') (cF w) ?_
      rintro e w1 ⟨v,rfl,hv1,hsv,hb1⟩
      refine ⟨v,rfl,?_⟩
      have hs1:w.heap.size≤w1.heap.size:=hb1.size
      refine oNo rfl (opw_build (cs:=#[.int .i64 (kindOf ty),.int .i64 hd.from_,.int .i64 hd.to,.int .i64 hd.null,.int .i64 (-1),.int .i64 hd.dflt,.int .i64 of_,v]) ?_ ?_)
      · have:=built8 hX ((fldInts hd ty).map (fun x=>(x.1,Value.int .i64 x.2)) ++ [(7,v)]) (by
          intro x hx
          rcases List.mem_append.1 hx with hx | hx
          · exact hints x hx
          · simp at hx
            subst hx
            exact ⟨by simp,cells_one hv1⟩)
        rw [setAll_append,hset] at this
        simp only [setAll,List.set_cons_succ,List.set_cons_zero] at this
        rw [← this]
        have ht:getT (a.put (some t) v) t=v:=gTp (by omega)
        simp [fldParts,eTm,ht]
        rfl
      refine bOps_ok hX rs subs.tail (t+2) all r K _ w1 hfl.2 hsf (by rw [sPu,sPu];exact hsz) ?_
      intro a' w' rows q qd qs qr qm qb
      have hs2:w1.heap.size≤w'.heap.size:=qb.size
      refine h a' w' ([.int .i64 (kindOf ty),.int .i64 hd.from_,.int .i64 hd.to,.int .i64 hd.null,.int .i64 (-1),.int .i64 hd.dflt,.int .i64 of_,v] :: rows) (by rw [q,sPu,sPu]) (by rw [qd,dPu,dPu]) ?_ ?_ ?_ (hb1.trans (qb.mono hs1))
      · intro s hs
        rw [qs s (by omega),gTn (by omega),gTn (by omega)]
      · simp only [FsRows]
        refine ⟨of_,v,rows,rfl,hv1,ofOK_of hfl.1 hof,SubV.mono (fun k hk=>?_) (fun k hk=>qb.block k hk.2) ty v hsv,FsRows.mono (w0:=w') (fun k hk=>?_) (fun _ _=>rfl) rs rows qr⟩
        · omega
        · omega
      · simp only [List.map_cons]
        rw [qm,qs (t+1) (by omega),gTp (by rw [sPu];omega)]
theorem opw_buildFs (hX:fOK P X.F=true) (hS:P.underlying X.Fs=some (.slice X.F)) (hF8:∃ i,P.info? X.F=some i∧i.size=8) {a:Act} {w:World} {K:Act→World→Prop} {d:Option Tmp} {g:Option (Nat × Bool)} {n:Nat} {slots:List Nat} {rows:List (List Value)} (hn:n=rows.length) (hn0:0 < n) (hn1:n≤1000) (hm:slots.map (getT a)=rows.map (fun r=>Value.agg r.toArray)) (hr:∀ r ∈ rows,r.length=8)
    (h:K (a.put d (.slice (some ⟨w.heap.size,0,none⟩) n n)) (w.alloc (.cells rows.flatten.toArray X.F))):opw P ⟨d,.buildSlice X.Fs n (((slots.zipIdx 0).map fun x=>(x.2,Operand.tmp x.1)).toArray),g⟩ a w K:=by
  obtain ⟨i,hi,hs8⟩:=hF8
  have hz:∃ z,i.zero=some z:=by
    unfold fOK at hX
    rw [hi] at hX
    split at hX <;> try (simp at hX;done)
    rename_i it fields h1 h2
    split at hX <;> try (simp at hX;done)
    rename_i hz _
    cases h1
    exact ⟨_,hz⟩
  obtain ⟨z,hz⟩:=hz
  have hparts:((((slots.zipIdx 0).map fun x=>(x.2,Operand.tmp x.1)).toArray).map fun x=>(x.1,a.eval x.2)).toList=(((rows.map fun r=>Value.agg r.toArray).zipIdx 0).map fun x=>(x.2,x.1)):=by
    rw [← hm,List.zipIdx_map,List.map_map]
    simp [eTm,Function.comp_def]
  have hfill:=Go.Great.fill_whole (s:=8) (by decide) (rows.map fun r=>Value.agg r.toArray) ((Array.range (n * i.size)).map (z.cells[· % z.cells.size]!)) (by
    intro v hv
    obtain ⟨r,hr',rfl⟩:=List.mem_map.1 hv
    simpa [Value.cells] using hr r hr') (by rw [hs8];simp [hn])
  have hfl:(rows.map fun r=>Value.agg r.toArray).flatMap (fun v=>v.cells.toList)=rows.flatten:=by
    rw [List.flatMap_map]
    simp [Value.cells,List.flatMap_def]
  rw [hfl] at hfill
  refine oVa (v:=.slice (some ⟨w.heap.size,0,none⟩) n n) (w':=w.alloc (.cells rows.flatten.toArray X.F)) (by simp) (fun p hp=>?_) h
  have hrun:=run_buildSlice (P:=P) w X.Fs X.F n ((((slots.zipIdx 0).map fun x=>(x.2,Operand.tmp x.1)).toArray).map fun x=>(x.1,a.eval x.2)) rows.flatten.toArray i z hS hi hz (by rw [hs8];omega) (by rw [hs8];omega) (by rw [hparts,hs8] at *;exact hfill)
  simp only [execOp,hp]
  simp only [Sem.run_bind]
  rw [hrun]
  rfl
end
end Go.Proofs.YtgaplicnofhliaaDoor.K
namespace Go.Proofs.YtgaplicnofhliaaDoor.K
open Go Go.RowKit Go.Proofs.YtgaplicnofhliaaDoor.T
set_option linter.unusedSimpArgs false
set_option linter.unusedVariables false
set_option maxHeartbeats 4000000
section
variable {P:Program} {X:STy} {f:FuncId} {fn:Func}
theorem bSlots_lt:∀ (fs:Fs) (t:Nat),∀ s ∈ bSlots fs t,s < bEnd fs t
  | .nil,_,s,h=>by simp [bSlots] at h
  | .cons _ ty r,t,s,h=>by
    simp only [bSlots,bEnd] at h ⊢
    cases hs:hasSub ty
    · simp only [hs,Bool.false_eq_true,if_false] at h ⊢
      rcases List.mem_cons.1 h with rfl | h
      · have:=bEnd_ge r (s+1);omega
      · exact bSlots_lt r (t+1) s h
    · simp only [hs,if_true] at h ⊢
      rcases List.mem_cons.1 h with rfl | h
      · have:=bEnd_ge r (t+2);omega
      · exact bSlots_lt r (t+2) s h
theorem bSlice_ok (hX:stOK P X=true) (hF:fOK P X.F=true) (hS:P.underlying X.Fs=some (.slice X.F)) (fs:Fs) (subs:List Nat) (hfl:flatFs fs=true) (hsf:SubFns P fs subs) (hlen:0 < Fs.len fs∧Fs.len fs≤1000) {all r:List SOp} {K:Act→World→Prop} {a:Act} {w:World} (hsz:bEnd fs 1 < a.tmps.size)
    (h:∀ (a':Act) (w':World) (v:Value),a'.tmps.size=a.tmps.size→a'.defers=a.defers→getT a' 0=getT a 0→getT a' (bEnd fs 1)=v→(∃ b l c,v=.slice b l c)→FsV w' (fun k=>w.heap.size≤k∧k < w'.heap.size) fs v→Below w.heap.size w w'→opsw P all r K a' w') :
    opsw P all (bOps X.F fs subs 1 ++ bSlice X.Fs fs :: r) K a w:=by
  have hst:=st_facts hX
  have hF8:∃ i,P.info? X.F=some i∧i.size=8:=by
    obtain ⟨i,hi,hs,_⟩:=agg_of (w:=w) (aggB_of hst.2.2.1.2.1)
    exact ⟨i,hi,hs⟩
  refine bOps_ok hF fs subs 1 all _ K a w hfl hsf (by omega) ?_
  intro a' w' rows q qd qs qr qm qb
  obtain ⟨hrl,hr8⟩:=fsRows_len fs rows qr
  have h1:=bEnd_ge fs 1
  refine oNo rfl (opw_buildFs hF hS hF8 hrl.symm hlen.1 hlen.2 qm hr8 ?_)
  have hnew:=heap_alloc_new w' (.cells rows.flatten.toArray X.F)
  have hbn:Below w'.heap.size w' (w'.alloc (.cells rows.flatten.toArray X.F)):=(Below.refl _ _).alloc (Nat.le_refl _) _
  have hsn:(w'.alloc (.cells rows.flatten.toArray X.F)).heap.size=w'.heap.size+1:=by simp
  have hsw:w.heap.size≤w'.heap.size:=qb.size
  generalize w'.alloc (.cells rows.flatten.toArray X.F)=w2 at *
  refine h _ w2 (.slice (some ⟨w'.heap.size,0,none⟩) (Fs.len fs) (Fs.len fs)) (by rw [sPu,q]) (by rw [dPu,qd]) (by rw [gTn (by omega),qs 0 (by omega)]) (by rw [gTp (by omega)]) ⟨_,_,_,rfl⟩ ⟨_,_,rfl,.inr ⟨w'.heap.size,0,rfl,⟨by omega,by omega⟩,?_⟩⟩ (qb.trans (hbn.mono hsw))
  refine fsAt_rows fs rows 0 (FsRows.mono (fun k hk=>⟨hk.1,by omega⟩) (fun k hk=>hbn.block k hk.2) fs rows qr) (fun i v hv=>?_)
  rw [cell_of_row _ _ _ _ _ _ hnew]
  simpa using hv
theorem bSub_ok (hX:stOK P X=true) (hF:fOK P X.F=true) (hS:P.underlying X.Fs=some (.slice X.F)) (fs:Fs) (subs:List Nat) (hfl:flatFs fs=true) (hsf:SubFns P fs subs) (hlen:0 < Fs.len fs∧Fs.len fs≤1000)
    (hf:P.funcs[f]?=some fn) (hb:fn.body.map strip=some (sc_bSub X.F X.Fs fs subs)) (hn:fn.ntmps=bEnd fs 1+1) (hr:fn.results=#[.tmp 0]) (w:World) :
    Calls P f #[] w fun e w'=>∃ v,e=.returned v∧v.oneCell'=true∧FsV w' (fun k=>w.heap.size≤k∧k < w'.heap.size) fs v∧Below w.heap.size w w':=by
  refine fCa hf hb hn (by simp) fun a0 hs hd ha=>?_
  refine SC.wp_seq (SC.wp_reg (oNo rfl (opw_assign (oNi ?_))))
  refine SC.wp_seq (SC.wp_reg ?_)
  refine bSlice_ok hX hF hS fs subs hfl hsf hlen (by rw [sPu,hs];omega) ?_
  intro a' w' v q qd q0 qe hv qf qb
  refine ops_asg (oNi (SC.wp_ret (ret_tmp hr (by rw [dPu,qd,dPu,hd]) ⟨v,?_,?_,qf,qb⟩)))
  · rw [gTp (by rw [q,sPu,hs];omega),qe]
  · obtain ⟨b,l,c,rfl⟩:=hv;rfl
theorem bTop_ok (hX:stOK P X=true) (hF:fOK P X.F=true) (hS:P.underlying X.Fs=some (.slice X.F)) (hM:arrB P X.M 2=true) (hMb:∀ (n:Int) (b:Option Addr) (l c:Nat),P.built X.M [(1,.int .i64 n),(0,.slice b l c)]=some #[.slice b l c,.int .i64 n])
    (fs:Fs) (flex:Int) (subs:List Nat) (hfl:flatFs fs=true) (hsf:SubFns P fs subs) (hlen:0 < Fs.len fs∧Fs.len fs≤1000)
    (hf:P.funcs[f]?=some fn) (hb:fn.body.map strip=some (sc_bTop X.F X.Fs X.M fs flex subs)) (hn:fn.ntmps=bEnd fs 1+2) (hr:fn.results=#[.cell 0 X.M]) (w:World) :
    Calls P f #[] w fun e w'=>∃ v,e=.returned (msgV v flex)∧v.oneCell'=true∧FsV w' (fun k=>w.heap.size≤k∧k < w'.heap.size) fs v∧Below w.heap.size w w':=by
  have hst:=st_facts hX
  obtain ⟨hM1,iM,zM,hiM,hzM,hzMs⟩:=arr_of hM
  refine fCa hf hb hn (by simp) fun a0 hs hd ha=>?_
  refine SC.wp_seq (SC.wp_reg (oNo rfl (opw_alloc hiM hzM (oNi ?_))))
  have hnew:=heap_alloc_new w (.cells zM.cells X.M)
  have hbn:Below w.heap.size w (w.alloc (.cells zM.cells X.M)):=(Below.refl _ _).alloc (Nat.le_refl _) _
  have hsn:(w.alloc (.cells zM.cells X.M)).heap.size=w.heap.size+1:=by simp
  generalize w.alloc (.cells zM.cells X.M)=w1 at *
  refine SC.wp_seq (SC.wp_reg ?_)
  have hge:=bEnd_ge fs 1
  refine bSlice_ok hX hF hS fs subs hfl hsf hlen (by rw [sPu,hs];omega) ?_
  intro a' w' v q qd q0 qe hv qf qb
  rw [gTp (by omega)] at q0
  rw [sPu,hs] at q
  rw [dPu,hd] at qd
  obtain ⟨b,l,c,rfl⟩:=hv
  have hsw:w1.heap.size≤w'.heap.size:=qb.size
  refine oNo rfl (opw_build (cs:=#[.slice b l c,.int .i64 flex]) ?_ ?_)
  · rw [← hMb]
    congr 1
    simp [eCo,eTm,qe]
  have hn1:w'.heap[w.heap.size]?=_:=(qb.block w.heap.size (by omega)).trans hnew
  refine oNo rfl (opw_store_agg (b:=w.heap.size) (cs:=[.slice b l c,.int .i64 flex]) hM1 ?_ ?_ hn1 (by simp [hzMs]) (by simp [Value.oneCell']) (oNi (SC.wp_ret ?_)))
  · rw [eTm,gTn (by omega)];exact q0
  · rw [eTm,gTp (by omega)]
  have hnf:=setRow_heap w' w.heap.size _ #[Value.slice b l c,.int .i64 flex] _ _ hn1
  refine ret_cell hr (by simp [hst]) (b:=w.heap.size) ?_ hnf (by rw [pNo,dPu,qd]) ⟨.slice b l c,rfl,rfl,?_,below_setRow (hbn.trans (qb.mono (by omega))) (Nat.le_refl _) _⟩
  · rw [pNo,gTn (by omega)];exact q0
  · exact qf.mono (fun k hk=>⟨by omega,by simp;omega⟩) (fun k hk=>setRow_other _ _ _ _ (by omega))
end
end Go.Proofs.YtgaplicnofhliaaDoor.K
namespace Go.Proofs.YtgaplicnofhliaaDoor.K
open Go Go.RowKit Go.Proofs.YtgaplicnofhliaaDoor.T
attribute [local simp] eTm eCo pNo gTp gTn qv qcall vop iop
set_option linter.unusedVariables false
set_option linter.unusedSimpArgs false
set_option maxHeartbeats 4000000
def sc_LawAgain (T0 T1 T2 F0 F1 F2 F3 F4 F5 F6:Nat):SC:=.seq (.reg [⟨some 3,.box T0 (.tmp 1),none⟩,⟨some 4,.assign (.const (.bool false)),none⟩]) (.seq (.seq (.reg [ld 9 T0 3,cal 10 F0 [9],⟨some 11,.unOp .not T1 (.tmp 10),none⟩]) (.cond (.tmp 11) (.seq (.reg [⟨some 4,.assign (.const (.bool true)),none⟩]) (.ret)) (.skip))) (.seq (.reg [cal 12 F1 [],asg 5 12]) (.seq (.seq (.reg [mv 13 5,⟨some 14,.binOp .lss T2 (.tmp 13) (.const (.int .i64 0)) T2,none⟩]) (.cond (.tmp 14) (.seq (.reg [⟨some 4,.assign (.const (.bool false)),none⟩]) (.ret)) (.skip))) (.seq (.dreg [cal 15 F2 [],mv 16 0,mv 17 5,cal 18 F3 [16,17],ld 19 T0 3,cal 20 F4 [15,18,19],asg 6 20] [[],[],[],[1,2,0],[],[0,3,4,3],[5,5,0,1,2,3,4,5]]) (.seq (.reg [mv 22 0,mv 23 5,cal 24 F3 [22,23],mv 25 6,cal 26 F5 [24,25],mv 21 26,⟨some 27,.extract (.tmp 21) 0,none⟩,⟨some 28,.extract (.tmp 21) 1,none⟩,asg 7 27,asg 8 28]) (.seq (.reg [mv 29 8,mv 30 29,⟨some 31,.move (.tmp 7),some (1,true)⟩,⟨some 32,.move (.tmp 6),some (1,true)⟩,⟨some 33,.call ⟨.value (.func F6),#[(.tmp 31),(.tmp 32)],#[]⟩,some (1,true)⟩,⟨some 34,.pick (.tmp 30) (.tmp 33) (.const (.bool false)),none⟩,asg 4 34]) (.ret)))))))
section
variable {G:List (Nat × Bytes)→Prop} {P:Program} {X:STy} {f:FuncId} {fn:Func}
theorem lawAgain_ok (hX:stOK P X=true) (hm:P.follows .mixedOrders=true) {fFit fMax fSp fVer fWr fAg fSame T1:FuncId} {gb m:Nat} {Gl:World→Prop} (hm16:m < 32768) (fs:Fs) (mflex:Int) (flexO:Option Int)
    (hfl:∀ v:Nat,flexAt flexO v=(decide (0≤mflex) && decide (mflex≤(v:Int))))
    (oFit:FnOK P fFit) (cFit:∀ (w:World) (t:Tree) (tv:Value),TV G w (· < w.heap.size) t tv→Calls P fFit #[tv] w (Asks w))
    (oMax:FnOK P fMax) (cMax:∀ w:World,Calls P fMax #[] w fun e w'=>e=.returned (.int .i64 (m:Int))∧Below w.heap.size w w')
    (oSp:FnOK P fSp) (cSp:∀ w:World,Calls P fSp #[] w fun e w'=>∃ v,e=.returned (msgV v mflex)∧v.oneCell'=true∧FsV w' (fun k=>w.heap.size≤k∧k < w'.heap.size) fs v∧Below w.heap.size w w')
    (oVer:FnOK P fVer) (cVer:∀ (w:World) (n m:Nat),n < 256→m < 65536→Calls P fVer #[.int .u8 (n:Int),.int .i64 (m:Int)] w fun e w'=>e=.returned (.int .i64 ((n % (m+1):Nat):Int))∧w=w')
    (oWr:FnOK P fWr) (cWr:∀ (w:World) (fv:Value) (mflex ver:Int) (t:Tree) (tv:Value),FsV w (· < w.heap.size) fs fv→TV G w (· < w.heap.size) t tv→(wFs ver (decide (0≤mflex) && decide (mflex≤ver)) fs t.l ++ wTags (decide (0≤mflex) && decide (mflex≤ver)) t.u).length≤lim →
      Calls P fWr #[msgV fv mflex,.int .i64 ver,tv] w (RetOwn X.U8 w (wFs ver (decide (0≤mflex) && decide (mflex≤ver)) fs t.l ++ wTags (decide (0≤mflex) && decide (mflex≤ver)) t.u)))
    (cAg:AgC P X.U8 flexO fs gb m Gl fAg)
    (oSame:FnOK P fSame) (cSame:∀ (w:World) (xs:Bytes) (b1 b2:Option Addr) (c1 c2:Nat),BytesAt w (fun k=>k < w.heap.size) b1 xs→BytesAt w (fun k=>k < w.heap.size) b2 xs→xs.length≤lim→Calls P fSame #[.slice b1 xs.length c1,.slice b2 xs.length c2] w fun e w'=>e=.returned (.bool true)∧Below w.heap.size w w')
    (hf:P.funcs[f]?=some fn) (hb:fn.body.map strip=some (sc_LawAgain X.T T1 X.I fFit fMax fSp fVer fWr fAg fSame)) (hn:fn.ntmps=35) (hr:fn.results=#[.tmp 4]) (w:World) (n:Nat) (hn8:n < 256) (t:Tree) (tv:Value) (ht:TV G w (· < w.heap.size) t tv) (hgb:gb < w.heap.size) (hgl:∀ w',Below w.heap.size w w'→Gl w')
    (hok:∀ v:Nat,v≤m→okFsR v (flexAt flexO v) fs=true) (hk:∀ v:Nat,v≤m→KFs v fs t.l) (hu:∀ x ∈ t.u,x.1 < 4294967296) (hlim:∀ v:Nat,v≤m→(wMsg v (flexAt flexO v) fs t.l t.u).length≤lim) :
    Calls P f #[.int .u8 (n:Int),tv] w fun e w'=>e=.returned (.bool true)∧Below w.heap.size w w':=by
  have hst:=st_facts hX
  obtain ⟨vs,hvs,hvs5⟩:∃ vs:List Value,tv=.agg vs.toArray∧vs.length=5:=by
    cases ht
    exact ⟨[_,_,_,_,_],rfl,rfl⟩
  refine fCa hf hb hn (by simp) fun a0 hs hd ha=>?_
  have k0:=ha 0 _ rfl
  have k1:=ha 1 _ rfl
  simp only [List.getElem_toArray,List.getElem_cons_zero,List.getElem_cons_succ] at k0 k1
  refine SC.wp_seq (SC.wp_reg (oNo rfl (opw_box (v:=tv) k1 ?_)))
  have hnew:=heap_alloc_new w (.cells tv.cells X.T)
  have hb1:Below w.heap.size w (w.alloc (.cells tv.cells X.T)):=(Below.refl _ _).alloc (Nat.le_refl _) _
  have hs1:(w.alloc (.cells tv.cells X.T)).heap.size=w.heap.size+1:=by simp
  have hbox:rangeV (w.alloc (.cells tv.cells X.T)) w.heap.size 0 5=some vs:=by
    have:=rangeV_of (w:=w.alloc (.cells tv.cells X.T)) (b:=w.heap.size) vs 0 (fun j v hj=>by
      rw [Nat.zero_add,cell_of_row _ _ _ _ _ _ hnew,hvs]
      simpa [Value.cells] using hj)
    rwa [hvs5] at this
  generalize w.alloc (.cells tv.cells X.T)=w1 at hb1 hs1 hbox ⊢
  have ht1:TV G w1 (· < w1.heap.size) t tv:=ht.down hb1 (by omega)
  repeat (first | (apply ops_1;(focus (simp (disch:=(try simp only [sPu]);omega) ;try rfl))) | (apply ops_y;(focus rfl);(focus ((try simp only [sPu]);omega));(focus (simp (disch:=(try simp only [sPu]);omega);done));(focus (simp (disch:=(try simp only [sPu]);omega) ;try rfl))) | (apply ops_n;(focus rfl);(focus ((try simp only [sPu]);omega));(focus (first | (left;simp (disch:=(try simp only [sPu]);omega);done) | (right;simp (disch:=(try simp only [sPu]);omega);done)))))
  refine oNi (SC.wp_seq (SC.wp_seq (SC.wp_reg ?_)))
  iterate 1 (first | (apply ops_1;(focus (simp (disch:=(try simp only [sPu]);omega) [hst,hbox];try rfl))) | (apply ops_y;(focus rfl);(focus ((try simp only [sPu]);omega));(focus (simp (disch:=(try simp only [sPu]);omega) [hst,hbox];done));(focus (simp (disch:=(try simp only [sPu]);omega) [hst,hbox];try rfl))) | (apply ops_n;(focus rfl);(focus ((try simp only [sPu]);omega));(focus (first | (left;simp (disch:=(try simp only [sPu]);omega) [hst,hbox];done) | (right;simp (disch:=(try simp only [sPu]);omega);done)))))
  refine ops_call oFit (cFit w1 t tv ht1) (by rw [hvs];simp (disch:=(try simp only [sPu]);omega)) ?_
  rintro e w2 ⟨⟨bo,rfl⟩,hb2⟩
  refine ⟨_,rfl,?_⟩
  have hbw2:Below w.heap.size w w2:=hb1.trans ⟨hb2.os,hb2.tape,hb2.output,hb2.size,fun k hk=>hb2.block k (by omega)⟩
  repeat (first | (apply ops_1;(focus (simp (disch:=(try simp only [sPu]);omega) ;try rfl))) | (apply ops_y;(focus rfl);(focus ((try simp only [sPu]);omega));(focus (simp (disch:=(try simp only [sPu]);omega);done));(focus (simp (disch:=(try simp only [sPu]);omega) ;try rfl))) | (apply ops_n;(focus rfl);(focus ((try simp only [sPu]);omega));(focus (first | (left;simp (disch:=(try simp only [sPu]);omega);done) | (right;simp (disch:=(try simp only [sPu]);omega);done)))))
  refine oNi (SC.wp_cond (t:=!bo) (by simp (disch:=(try simp only [sPu]);omega)) ?_)
  cases bo
  · rw [if_pos (by rfl)]
    refine SC.wp_seq (SC.wp_reg ?_)
    repeat (first | (apply ops_1;(focus (simp (disch:=(try simp only [sPu]);omega) ;try rfl))) | (apply ops_y;(focus rfl);(focus ((try simp only [sPu]);omega));(focus (simp (disch:=(try simp only [sPu]);omega);done));(focus (simp (disch:=(try simp only [sPu]);omega) ;try rfl))) | (apply ops_n;(focus rfl);(focus ((try simp only [sPu]);omega));(focus (first | (left;simp (disch:=(try simp only [sPu]);omega);done) | (right;simp (disch:=(try simp only [sPu]);omega);done)))))
    refine oNi (SC.wp_ret ?_)
    try simp only [Exit.then]
    exact ret_tmp hr (by simp [dPu,hd]) ⟨by simp (disch:=(try simp only [sPu]);omega),hbw2⟩
  rw [if_neg (by simp)]
  refine SC.wp_skip ?_
  simp only [Exit.then]
  have hs2:=hb2.size
  refine SC.wp_seq (SC.wp_reg (ops_call oMax (cMax w2) (by simp (disch:=(try simp only [sPu]);omega)) ?_))
  rintro e w3 ⟨rfl,hb3⟩
  refine ⟨_,rfl,?_⟩
  repeat (first | (apply ops_1;(focus (simp (disch:=(try simp only [sPu]);omega) ;try rfl))) | (apply ops_y;(focus rfl);(focus ((try simp only [sPu]);omega));(focus (simp (disch:=(try simp only [sPu]);omega);done));(focus (simp (disch:=(try simp only [sPu]);omega) ;try rfl))) | (apply ops_n;(focus rfl);(focus ((try simp only [sPu]);omega));(focus (first | (left;simp (disch:=(try simp only [sPu]);omega);done) | (right;simp (disch:=(try simp only [sPu]);omega);done)))))
  refine oNi (SC.wp_seq (SC.wp_seq (SC.wp_reg ?_)))
  have em:decide ((m:Int) < 0)=false:=by simp
  repeat (first | (apply ops_1;(focus (simp (disch:=(try simp only [sPu]);omega) [em];try rfl))) | (apply ops_y;(focus rfl);(focus ((try simp only [sPu]);omega));(focus (simp (disch:=(try simp only [sPu]);omega) [em];done));(focus (simp (disch:=(try simp only [sPu]);omega) [em];try rfl))) | (apply ops_n;(focus rfl);(focus ((try simp only [sPu]);omega));(focus (first | (left;simp (disch:=(try simp only [sPu]);omega) [em];done) | (right;simp (disch:=(try simp only [sPu]);omega);done)))))
  refine oNi (SC.wp_cond (t:=false) (by simp (disch:=(try simp only [sPu]);omega)) ?_)
  rw [if_neg (by simp)]
  refine SC.wp_skip ?_
  simp only [Exit.then]
  have hs3:=hb3.size
  have hbw3:Below w.heap.size w w3:=hbw2.trans ⟨hb3.os,hb3.tape,hb3.output,hb3.size,fun k hk=>hb3.block k (by omega)⟩
  have hb13:Below w1.heap.size w1 w3:=hb2.trans ⟨hb3.os,hb3.tape,hb3.output,hb3.size,fun k hk=>hb3.block k (by omega)⟩
  have hbox3:rangeV w3.drew w.heap.size 0 5=some vs:=by
    have:rangeV w3 w.heap.size 0 5=some vs:=by rw [rangeV_mono (hb13.block w.heap.size (by omega))];exact hbox
    exact this
  have hbx3:w.heap.size < w3.heap.size:=by omega
  refine SC.wp_seq (SC.wp_dreg hm (Below w3.heap.size w3.drew) [(1,true),(2,true),(4,true),(0,false),(3,false),(5,false),(6,true)] (by rfl) (by rfl) (by decide) (Below.refl _ _) ?_)
  iterate 3 (first | (apply dr_1;(focus rfl);(focus (simp (disch:=(try simp only [sPu]);omega) [hst,k0,hbox3,hbx3];try rfl))) | (apply dr_y;(focus rfl);(focus rfl);(focus ((try simp only [sPu]);omega));(focus (simp (disch:=(try simp only [sPu]);omega) [hst,k0,hbox3,hbx3];done));(focus (simp (disch:=(try simp only [sPu]);omega) [hst,k0,hbox3,hbx3];try rfl))) | (apply dr_n;(focus rfl);(focus rfl);(focus ((try simp only [sPu]);omega));(focus (first | (left;simp (disch:=(try simp only [sPu]);omega) [hst,k0,hbox3,hbx3];done) | (right;simp (disch:=(try simp only [sPu]);omega);done)))))
  refine dreg_call (argsV:=#[]) rfl oSp (cSp w3.drew) (by simp (disch:=(try simp only [sPu]);omega)) ?_
  rintro e w4 ⟨fv,rfl,hfv1,hfv,hb4⟩
  refine ⟨_,rfl,hb4,?_⟩
  refine dreg_call (argsV:=#[.int .u8 (n:Int),.int .i64 (m:Int)]) rfl oVer (cVer w4 n m hn8 (by omega)) (by simp (disch:=(try simp only [sPu]);omega) [k0]) ?_
  rintro e w5 ⟨rfl,rfl⟩
  refine ⟨_,rfl,hb4,?_⟩
  obtain ⟨v,hv⟩:∃ v,v=n % (m+1):=⟨_,rfl⟩
  rw [← hv]
  have hvm:v≤m:=by rw [hv];exact Nat.lt_succ_iff.1 (Nat.mod_lt _ (by omega))
  have hw35:w3.drew.heap.size=w3.heap.size:=rfl
  have hs4:=hb4.size
  have hbw5:Below w.heap.size w w4:=hbw3.trans ⟨hb4.os,hb4.tape,hb4.output,hb4.size,fun k hk=>hb4.block k (by omega)⟩
  have ht5:TV G w4 (· < w4.heap.size) t tv:=ht.down hbw5 (by omega)
  have hfv5:FsV w4 (· < w4.heap.size) fs fv:=FsV.mono (fun k hk=>hk.2) (fun _ _=>rfl) hfv
  have hfv':=hfl v
  obtain ⟨fl,hfl'⟩:∃ fl,fl=flexAt flexO v:=⟨_,rfl⟩
  have hlimv:=hlim v hvm
  refine dreg_call (argsV:=#[msgV fv mflex,.int .i64 (v:Int),tv]) rfl oWr (cWr w4 fv mflex v t tv hfv5 ht5 (by rw [← hfv'];exact hlimv)) (by rw [hvs];simp (disch:=(try simp only [sPu]);omega)) ?_
  rintro e w6 ⟨dv,rfl,hown,hb6⟩
  rw [← hfv'] at hown
  refine ⟨_,rfl,hb4.trans ⟨hb6.os,hb6.tape,hb6.output,hb6.size,fun k hk=>hb6.block k (by omega)⟩,?_⟩
  repeat (first | (apply dr_1;(focus rfl);(focus (simp (disch:=(try simp only [sPu]);omega) ;try rfl))) | (apply dr_y;(focus rfl);(focus rfl);(focus ((try simp only [sPu]);omega));(focus (simp (disch:=(try simp only [sPu]);omega);done));(focus (simp (disch:=(try simp only [sPu]);omega) ;try rfl))) | (apply dr_n;(focus rfl);(focus rfl);(focus ((try simp only [sPu]);omega));(focus (first | (left;simp (disch:=(try simp only [sPu]);omega);done) | (right;simp (disch:=(try simp only [sPu]);omega);done)))))
  refine dreg_nil ?_
  simp only [Exit.then]
  have hs6:=hb6.size
  have hbw6:Below w.heap.size w w6:=hbw5.trans ⟨hb6.os,hb6.tape,hb6.output,hb6.size,fun k hk=>hb6.block k (by omega)⟩
  have hown':Own X.U8 w6 w4.heap.size dv (wMsg v (flexAt flexO v) fs t.l t.u):=hown
  obtain ⟨S,base,cap,rfl,hsr,hS⟩:=own_src hown'
  refine SC.wp_seq (SC.wp_reg ?_)
  iterate 2 (first | (apply ops_1;(focus (simp (disch:=(try simp only [sPu]);omega) [k0];try rfl))) | (apply ops_y;(focus rfl);(focus ((try simp only [sPu]);omega));(focus (simp (disch:=(try simp only [sPu]);omega) [k0];done));(focus (simp (disch:=(try simp only [sPu]);omega) [k0];try rfl))) | (apply ops_n;(focus rfl);(focus ((try simp only [sPu]);omega));(focus (first | (left;simp (disch:=(try simp only [sPu]);omega) [k0];done) | (right;simp (disch:=(try simp only [sPu]);omega);done)))))
  refine ops_call oVer (cVer w6 n m hn8 (by omega)) (by simp (disch:=(try simp only [sPu]);omega) [k0]) ?_
  rintro e w7 ⟨rfl,rfl⟩
  refine ⟨_,rfl,?_⟩
  rw [← hv]
  iterate 1 (first | (apply ops_1;(focus (simp (disch:=(try simp only [sPu]);omega) ;try rfl))) | (apply ops_y;(focus rfl);(focus ((try simp only [sPu]);omega));(focus (simp (disch:=(try simp only [sPu]);omega);done));(focus (simp (disch:=(try simp only [sPu]);omega) ;try rfl))) | (apply ops_n;(focus rfl);(focus ((try simp only [sPu]);omega));(focus (first | (left;simp (disch:=(try simp only [sPu]);omega);done) | (right;simp (disch:=(try simp only [sPu]);omega);done)))))
  obtain ⟨ts',u',hpm,hft1,hft2,hwm⟩:=msg_again (hok v hvm) (hk v hvm) hu
  refine ops_call cAg.1 (cAg.2 w6 S base _ cap v hvm (by omega) (fun w' h=>hgl w' (hbw6.trans ⟨h.os,h.tape,h.output,h.size,fun k hk=>h.block k (by omega)⟩)) hsr (fun sb h=>(hS sb h).2) hlimv (fun xs u r h=>by
    rw [hpm] at h
    cases h
    exact ⟨hft1,hft2,by rw [hwm];exact hlimv⟩)) (by simp (disch:=(try simp only [sPu]);omega)) ?_
  rw [hpm]
  rintro e w8 ⟨hb8,dv8,rfl,hown8⟩
  rw [hwm] at hown8
  refine ⟨_,rfl,?_⟩
  iterate 1 (first | (apply ops_1;(focus (simp (disch:=(try simp only [sPu]);omega) ;try rfl))) | (apply ops_y;(focus rfl);(focus ((try simp only [sPu]);omega));(focus (simp (disch:=(try simp only [sPu]);omega);done));(focus (simp (disch:=(try simp only [sPu]);omega) ;try rfl))) | (apply ops_n;(focus rfl);(focus ((try simp only [sPu]);omega));(focus (first | (left;simp (disch:=(try simp only [sPu]);omega);done) | (right;simp (disch:=(try simp only [sPu]);omega);done)))))
  refine oNo rfl (opw_extract (vs:=#[dv8,.bool true]) (v:=dv8) (by simp (disch:=(try simp only [sPu]);omega)) rfl ?_)
  refine oNo rfl (opw_extract (vs:=#[dv8,.bool true]) (v:=.bool true) (by simp (disch:=(try simp only [sPu]);omega)) rfl ?_)
  repeat (first | (apply ops_1;(focus (simp (disch:=(try simp only [sPu]);omega) ;try rfl))) | (apply ops_y;(focus rfl);(focus ((try simp only [sPu]);omega));(focus (simp (disch:=(try simp only [sPu]);omega);done));(focus (simp (disch:=(try simp only [sPu]);omega) ;try rfl))) | (apply ops_n;(focus rfl);(focus ((try simp only [sPu]);omega));(focus (first | (left;simp (disch:=(try simp only [sPu]);omega);done) | (right;simp (disch:=(try simp only [sPu]);omega);done)))))
  refine oNi ?_
  simp only [Exit.then]
  have hs8:=hb8.size
  have hbw8:Below w.heap.size w w8:=hbw6.trans ⟨hb8.os,hb8.tape,hb8.output,hb8.size,fun k hk=>hb8.block k (by omega)⟩
  obtain ⟨S8,base8,cap8,rfl,hsr8,hS8⟩:=own_src hown8
  have hB1:BytesAt w8 (fun k=>k < w8.heap.size) base8 (wMsg v (flexAt flexO v) fs t.l t.u):=bytesAt_src hsr8 fun sb h=>(hS8 sb h).2
  have hB2:BytesAt w8 (fun k=>k < w8.heap.size) base (wMsg v (flexAt flexO v) fs t.l t.u):=bytesAt_src (hsr.frame fun sb h=>hb8.block sb (hS sb h).2) fun sb h=>by have:=(hS sb h).2;omega
  refine SC.wp_seq (SC.wp_reg ?_)
  iterate 4 (first | (apply ops_1;(focus (simp (disch:=(try simp only [sPu]);omega) ;try rfl))) | (apply ops_y;(focus rfl);(focus ((try simp only [sPu]);omega));(focus (simp (disch:=(try simp only [sPu]);omega);done));(focus (simp (disch:=(try simp only [sPu]);omega) ;try rfl))) | (apply ops_n;(focus rfl);(focus ((try simp only [sPu]);omega));(focus (first | (left;simp (disch:=(try simp only [sPu]);omega);done) | (right;simp (disch:=(try simp only [sPu]);omega);done)))))
  refine ops_callg (argsV:=#[.slice base8 _ cap8,.slice base _ cap]) rfl (by simp [sPu,hs]) (by simp (disch:=(try simp only [sPu]);omega)) oSame (cSame w8 _ base8 base cap8 cap hB1 hB2 hlimv) (by simp (disch:=(try simp only [sPu]);omega)) ?_
  rintro e w9 ⟨rfl,hb9⟩
  refine ⟨_,rfl,?_⟩
  repeat (first | (apply ops_1;(focus (simp (disch:=(try simp only [sPu]);omega) ;try rfl))) | (apply ops_y;(focus rfl);(focus ((try simp only [sPu]);omega));(focus (simp (disch:=(try simp only [sPu]);omega);done));(focus (simp (disch:=(try simp only [sPu]);omega) ;try rfl))) | (apply ops_n;(focus rfl);(focus ((try simp only [sPu]);omega));(focus (first | (left;simp (disch:=(try simp only [sPu]);omega);done) | (right;simp (disch:=(try simp only [sPu]);omega);done)))))
  refine oNi (SC.wp_ret ?_)
  try simp only [Exit.then]
  exact ret_tmp hr (by simp [dPu,hd]) ⟨by simp (disch:=(try simp only [sPu]);omega),hbw8.trans ⟨hb9.os,hb9.tape,hb9.output,hb9.size,fun k hk=>hb9.block k (by omega)⟩⟩
end
end Go.Proofs.YtgaplicnofhliaaDoor.K
namespace Go.Proofs.YtgaplicnofhliaaDoor.K
open Go Go.RowKit Go.Proofs.YtgaplicnofhliaaDoor.T
attribute [local simp] eTm eCo pNo gTp gTn qv qcall vop iop
set_option linter.unusedVariables false
set_option linter.unusedSimpArgs false
set_option maxHeartbeats 4000000
def sc_LawCut (T0 T1 T2 T3 T4 F0 F1 F2 F3 F4 F5:Nat):SC:=.seq (.reg [⟨some 4,.box T0 (.tmp 1),none⟩,⟨some 6,.assign (.const (.bool false)),none⟩]) (.seq (.seq (.reg [ld 13 T0 4,cal 14 F0 [13],⟨some 15,.unOp .not T1 (.tmp 14),none⟩]) (.cond (.tmp 15) (.seq (.reg [⟨some 6,.assign (.const (.bool true)),none⟩]) (.ret)) (.skip))) (.seq (.reg [cal 16 F1 [],asg 7 16]) (.seq (.seq (.reg [mv 17 7,⟨some 18,.binOp .lss T2 (.tmp 17) (.const (.int .i64 0)) T2,none⟩]) (.cond (.tmp 18) (.seq (.reg [⟨some 6,.assign (.const (.bool false)),none⟩]) (.ret)) (.skip))) (.seq (.dreg [cal 19 F2 [],mv 20 0,mv 21 7,cal 22 F3 [20,21],ld 23 T0 4,cal 24 F4 [19,22,23],asg 8 24] [[],[],[],[1,2,0],[],[0,3,4,3],[5,5,0,1,2,3,4,5]]) (.seq (.reg [mv 26 0,mv 27 7,cal 28 F3 [26,27],mv 29 8,cal 30 F5 [28,29],mv 25 30,⟨some 31,.extract (.tmp 25) 0,none⟩,⟨some 32,.extract (.tmp 25) 1,none⟩,asg 9 31,asg 10 32]) (.seq (.seq (.reg [mv 33 8,lenOp 34 T3 33,⟨some 35,.binOp .eql T2 (.tmp 34) (.const (.int .i64 0)) T2,none⟩]) (.cond (.tmp 35) (.seq (.reg [mv 36 10,asg 6 36]) (.ret)) (.skip))) (.seq (.dreg [mv 38 0,mv 39 7,cal 40 F3 [38,39],mv 41 8,mv 42 2,⟨some 43,.convert T4 T2 (.tmp 42),none⟩,mv 44 8,lenOp 45 T3 44,⟨some 46,.binOp .rem T2 (.tmp 43) (.tmp 45) T2,none⟩,⟨some 47,.slice T3 (.tmp 41) none (some (.tmp 46)) none,none⟩,cal 48 F5 [40,47],mv 37 48,⟨some 49,.extract (.tmp 37) 0,none⟩,⟨some 50,.extract (.tmp 37) 1,none⟩,asg 11 49,asg 12 50] [[],[],[0,1],[],[],[4],[],[6],[5,7],[3,8],[2,9,2],[10],[11],[11],[12,10,0,1,2,3,4,5,6,7,8,9,10,11,12],[13,14,0,1,2,3,4,5,6,7,8,9,10,11,12,13,14]]) (.seq (.reg [mv 51 10,mv 52 51,⟨some 53,.move (.tmp 12),some (1,true)⟩,⟨some 54,.unOp .not T1 (.tmp 53),some (1,true)⟩,⟨some 55,.pick (.tmp 52) (.tmp 54) (.const (.bool false)),none⟩,asg 6 55]) (.ret)))))))))
section
variable {G:List (Nat × Bytes)→Prop} {P:Program} {X:STy} {f:FuncId} {fn:Func}
theorem own_src2 {tU8:Nat} {w:World} {B:Nat} {dv:Value} {xs:Bytes} (h:Own tU8 w B dv xs):∃ S base cap,dv=.slice base xs.length cap∧xs.length≤cap∧SrcAt w S base xs∧∀ sb,S=some sb→B≤sb∧sb < w.heap.size:=by
  obtain ⟨S,base,cap,rfl,q1,q2⟩:=own_src h
  refine ⟨S,base,cap,rfl,?_,q1,q2⟩
  obtain ⟨-,⟨e1,e2⟩ | ⟨g,c3,cur,e1,e2,e3,e4,-⟩⟩:=h
  · rw [e2];exact Nat.zero_le _
  · cases e1;exact e4
theorem lawCut_ok (hX:stOK P X=true) (hm:P.follows .mixedOrders=true) {fFit fMax fSp fVer fWr fAg T1 T4:FuncId} (hT4:intK P T4=some .u16) {gb m:Nat} {Gl:World→Prop} (hm16:m < 32768) (fs:Fs) (mflex:Int) (flexO:Option Int)
    (hfl:∀ v:Nat,flexAt flexO v=(decide (0≤mflex) && decide (mflex≤(v:Int))))
    (oFit:FnOK P fFit) (cFit:∀ (w:World) (t:Tree) (tv:Value),TV G w (· < w.heap.size) t tv→Calls P fFit #[tv] w (Asks w))
    (oMax:FnOK P fMax) (cMax:∀ w:World,Calls P fMax #[] w fun e w'=>e=.returned (.int .i64 (m:Int))∧Below w.heap.size w w')
    (oSp:FnOK P fSp) (cSp:∀ w:World,Calls P fSp #[] w fun e w'=>∃ v,e=.returned (msgV v mflex)∧v.oneCell'=true∧FsV w' (fun k=>w.heap.size≤k∧k < w'.heap.size) fs v∧Below w.heap.size w w')
    (oVer:FnOK P fVer) (cVer:∀ (w:World) (n m:Nat),n < 256→m < 65536→Calls P fVer #[.int .u8 (n:Int),.int .i64 (m:Int)] w fun e w'=>e=.returned (.int .i64 ((n % (m+1):Nat):Int))∧w=w')
    (oWr:FnOK P fWr) (cWr:∀ (w:World) (fv:Value) (mflex ver:Int) (t:Tree) (tv:Value),FsV w (· < w.heap.size) fs fv→TV G w (· < w.heap.size) t tv→(wFs ver (decide (0≤mflex) && decide (mflex≤ver)) fs t.l ++ wTags (decide (0≤mflex) && decide (mflex≤ver)) t.u).length≤lim →
      Calls P fWr #[msgV fv mflex,.int .i64 ver,tv] w (RetOwn X.U8 w (wFs ver (decide (0≤mflex) && decide (mflex≤ver)) fs t.l ++ wTags (decide (0≤mflex) && decide (mflex≤ver)) t.u)))
    (cAg:AgC P X.U8 flexO fs gb m Gl fAg)
    (hf:P.funcs[f]?=some fn) (hb:fn.body.map strip=some (sc_LawCut X.T T1 X.I X.Bs T4 fFit fMax fSp fVer fWr fAg)) (hn:fn.ntmps=56) (hr:fn.results=#[.tmp 6]) (w:World) (n at_:Nat) (hn8:n < 256) (hat:at_ < 65536) (t:Tree) (tv:Value) (ht:TV G w (· < w.heap.size) t tv) (hgb:gb < w.heap.size) (hgl:∀ w',Below w.heap.size w w'→Gl w')
    (hok:∀ v:Nat,v≤m→okFsR v (flexAt flexO v) fs=true) (hk:∀ v:Nat,v≤m→KFs v fs t.l) (hu:∀ x ∈ t.u,x.1 < 4294967296) (hlim:∀ v:Nat,v≤m→(wMsg v (flexAt flexO v) fs t.l t.u).length≤lim) :
    Calls P f #[.int .u8 (n:Int),tv,.int .u16 (at_:Int)] w fun e w'=>e=.returned (.bool true)∧Below w.heap.size w w':=by
  have hst:=st_facts hX
  obtain ⟨vs,hvs,hvs5⟩:∃ vs:List Value,tv=.agg vs.toArray∧vs.length=5:=by
    cases ht
    exact ⟨[_,_,_,_,_],rfl,rfl⟩
  refine fCa hf hb hn (by simp) fun a0 hs hd ha=>?_
  have k0:=ha 0 _ rfl
  have k1:=ha 1 _ rfl
  have k2:=ha 2 _ rfl
  simp only [List.getElem_toArray,List.getElem_cons_zero,List.getElem_cons_succ] at k0 k1 k2
  refine SC.wp_seq (SC.wp_reg (oNo rfl (opw_box (v:=tv) k1 ?_)))
  have hnew:=heap_alloc_new w (.cells tv.cells X.T)
  have hb1:Below w.heap.size w (w.alloc (.cells tv.cells X.T)):=(Below.refl _ _).alloc (Nat.le_refl _) _
  have hs1:(w.alloc (.cells tv.cells X.T)).heap.size=w.heap.size+1:=by simp
  have hbox:rangeV (w.alloc (.cells tv.cells X.T)) w.heap.size 0 5=some vs:=by
    have:=rangeV_of (w:=w.alloc (.cells tv.cells X.T)) (b:=w.heap.size) vs 0 (fun j v hj=>by
      rw [Nat.zero_add,cell_of_row _ _ _ _ _ _ hnew,hvs]
      simpa [Value.cells] using hj)
    rwa [hvs5] at this
  generalize w.alloc (.cells tv.cells X.T)=w1 at hb1 hs1 hbox ⊢
  have ht1:TV G w1 (· < w1.heap.size) t tv:=ht.down hb1 (by omega)
  repeat (first | (apply ops_1;(focus (simp (disch:=(try simp only [sPu]);omega) ;try rfl))) | (apply ops_y;(focus rfl);(focus ((try simp only [sPu]);omega));(focus (simp (disch:=(try simp only [sPu]);omega);done));(focus (simp (disch:=(try simp only [sPu]);omega) ;try rfl))) | (apply ops_n;(focus rfl);(focus ((try simp only [sPu]);omega));(focus (first | (left;simp (disch:=(try simp only [sPu]);omega);done) | (right;simp (disch:=(try simp only [sPu]);omega);done)))))
  refine oNi (SC.wp_seq (SC.wp_seq (SC.wp_reg ?_)))
  iterate 1 (first | (apply ops_1;(focus (simp (disch:=(try simp only [sPu]);omega) [hst,hbox];try rfl))) | (apply ops_y;(focus rfl);(focus ((try simp only [sPu]);omega));(focus (simp (disch:=(try simp only [sPu]);omega) [hst,hbox];done));(focus (simp (disch:=(try simp only [sPu]);omega) [hst,hbox];try rfl))) | (apply ops_n;(focus rfl);(focus ((try simp only [sPu]);omega));(focus (first | (left;simp (disch:=(try simp only [sPu]);omega) [hst,hbox];done) | (right;simp (disch:=(try simp only [sPu]);omega);done)))))
  refine ops_call oFit (cFit w1 t tv ht1) (by rw [hvs];simp (disch:=(try simp only [sPu]);omega)) ?_
  rintro e w2 ⟨⟨bo,rfl⟩,hb2⟩
  refine ⟨_,rfl,?_⟩
  have hbw2:Below w.heap.size w w2:=hb1.trans ⟨hb2.os,hb2.tape,hb2.output,hb2.size,fun k hk=>hb2.block k (by omega)⟩
  repeat (first | (apply ops_1;(focus (simp (disch:=(try simp only [sPu]);omega) ;try rfl))) | (apply ops_y;(focus rfl);(focus ((try simp only [sPu]);omega));(focus (simp (disch:=(try simp only [sPu]);omega);done));(focus (simp (disch:=(try simp only [sPu]);omega) ;try rfl))) | (apply ops_n;(focus rfl);(focus ((try simp only [sPu]);omega));(focus (first | (left;simp (disch:=(try simp only [sPu]);omega);done) | (right;simp (disch:=(try simp only [sPu]);omega);done)))))
  refine oNi (SC.wp_cond (t:=!bo) (by simp (disch:=(try simp only [sPu]);omega)) ?_)
  cases bo
  · rw [if_pos (by rfl)]
    refine SC.wp_seq (SC.wp_reg ?_)
    repeat (first | (apply ops_1;(focus (simp (disch:=(try simp only [sPu]);omega) ;try rfl))) | (apply ops_y;(focus rfl);(focus ((try simp only [sPu]);omega));(focus (simp (disch:=(try simp only [sPu]);omega);done));(focus (simp (disch:=(try simp only [sPu]);omega) ;try rfl))) | (apply ops_n;(focus rfl);(focus ((try simp only [sPu]);omega));(focus (first | (left;simp (disch:=(try simp only [sPu]);omega);done) | (right;simp (disch:=(try simp only [sPu]);omega);done)))))
    refine oNi (SC.wp_ret ?_)
    try simp only [Exit.then]
    exact ret_tmp hr (by simp [dPu,hd]) ⟨by simp (disch:=(try simp only [sPu]);omega),hbw2⟩
  rw [if_neg (by simp)]
  refine SC.wp_skip ?_
  simp only [Exit.then]
  have hs2:=hb2.size
  refine SC.wp_seq (SC.wp_reg (ops_call oMax (cMax w2) (by simp (disch:=(try simp only [sPu]);omega)) ?_))
  rintro e w3 ⟨rfl,hb3⟩
  refine ⟨_,rfl,?_⟩
  repeat (first | (apply ops_1;(focus (simp (disch:=(try simp only [sPu]);omega) ;try rfl))) | (apply ops_y;(focus rfl);(focus ((try simp only [sPu]);omega));(focus (simp (disch:=(try simp only [sPu]);omega);done));(focus (simp (disch:=(try simp only [sPu]);omega) ;try rfl))) | (apply ops_n;(focus rfl);(focus ((try simp only [sPu]);omega));(focus (first | (left;simp (disch:=(try simp only [sPu]);omega);done) | (right;simp (disch:=(try simp only [sPu]);omega);done)))))
  refine oNi (SC.wp_seq (SC.wp_seq (SC.wp_reg ?_)))
  have em:decide ((m:Int) < 0)=false:=by simp
  repeat (first | (apply ops_1;(focus (simp (disch:=(try simp only [sPu]);omega) [em];try rfl))) | (apply ops_y;(focus rfl);(focus ((try simp only [sPu]);omega));(focus (simp (disch:=(try simp only [sPu]);omega) [em];done));(focus (simp (disch:=(try simp only [sPu]);omega) [em];try rfl))) | (apply ops_n;(focus rfl);(focus ((try simp only [sPu]);omega));(focus (first | (left;simp (disch:=(try simp only [sPu]);omega) [em];done) | (right;simp (disch:=(try simp only [sPu]);omega);done)))))
  refine oNi (SC.wp_cond (t:=false) (by simp (disch:=(try simp only [sPu]);omega)) ?_)
  rw [if_neg (by simp)]
  refine SC.wp_skip ?_
  simp only [Exit.then]
  have hs3:=hb3.size
  have hbw3:Below w.heap.size w w3:=hbw2.trans ⟨hb3.os,hb3.tape,hb3.output,hb3.size,fun k hk=>hb3.block k (by omega)⟩
  have hb13:Below w1.heap.size w1 w3:=hb2.trans ⟨hb3.os,hb3.tape,hb3.output,hb3.size,fun k hk=>hb3.block k (by omega)⟩
  have hbox3:rangeV w3.drew w.heap.size 0 5=some vs:=by
    have:rangeV w3 w.heap.size 0 5=some vs:=by rw [rangeV_mono (hb13.block w.heap.size (by omega))];exact hbox
    exact this
  have hbx3:w.heap.size < w3.heap.size:=by omega
  refine SC.wp_seq (SC.wp_dreg hm (Below w3.heap.size w3.drew) [(1,true),(2,true),(4,true),(0,false),(3,false),(5,false),(6,true)] (by rfl) (by rfl) (by decide) (Below.refl _ _) ?_)
  iterate 3 (first | (apply dr_1;(focus rfl);(focus (simp (disch:=(try simp only [sPu]);omega) [hst,k0,hbox3,hbx3];try rfl))) | (apply dr_y;(focus rfl);(focus rfl);(focus ((try simp only [sPu]);omega));(focus (simp (disch:=(try simp only [sPu]);omega) [hst,k0,hbox3,hbx3];done));(focus (simp (disch:=(try simp only [sPu]);omega) [hst,k0,hbox3,hbx3];try rfl))) | (apply dr_n;(focus rfl);(focus rfl);(focus ((try simp only [sPu]);omega));(focus (first | (left;simp (disch:=(try simp only [sPu]);omega) [hst,k0,hbox3,hbx3];done) | (right;simp (disch:=(try simp only [sPu]);omega);done)))))
  refine dreg_call (argsV:=#[]) rfl oSp (cSp w3.drew) (by simp (disch:=(try simp only [sPu]);omega)) ?_
  rintro e w4 ⟨fv,rfl,hfv1,hfv,hb4⟩
  refine ⟨_,rfl,hb4,?_⟩
  refine dreg_call (argsV:=#[.int .u8 (n:Int),.int .i64 (m:Int)]) rfl oVer (cVer w4 n m hn8 (by omega)) (by simp (disch:=(try simp only [sPu]);omega) [k0]) ?_
  rintro e w5 ⟨rfl,rfl⟩
  refine ⟨_,rfl,hb4,?_⟩
  obtain ⟨v,hv⟩:∃ v,v=n % (m+1):=⟨_,rfl⟩
  rw [← hv]
  have hvm:v≤m:=by rw [hv];exact Nat.lt_succ_iff.1 (Nat.mod_lt _ (by omega))
  have hw35:w3.drew.heap.size=w3.heap.size:=rfl
  have hs4:=hb4.size
  have hbw5:Below w.heap.size w w4:=hbw3.trans ⟨hb4.os,hb4.tape,hb4.output,hb4.size,fun k hk=>hb4.block k (by omega)⟩
  have ht5:TV G w4 (· < w4.heap.size) t tv:=ht.down hbw5 (by omega)
  have hfv5:FsV w4 (· < w4.heap.size) fs fv:=FsV.mono (fun k hk=>hk.2) (fun _ _=>rfl) hfv
  have hfv':=hfl v
  obtain ⟨fl,hfl'⟩:∃ fl,fl=flexAt flexO v:=⟨_,rfl⟩
  have hlimv:=hlim v hvm
  refine dreg_call (argsV:=#[msgV fv mflex,.int .i64 (v:Int),tv]) rfl oWr (cWr w4 fv mflex v t tv hfv5 ht5 (by rw [← hfv'];exact hlimv)) (by rw [hvs];simp (disch:=(try simp only [sPu]);omega)) ?_
  rintro e w6 ⟨dv,rfl,hown,hb6⟩
  rw [← hfv'] at hown
  refine ⟨_,rfl,hb4.trans ⟨hb6.os,hb6.tape,hb6.output,hb6.size,fun k hk=>hb6.block k (by omega)⟩,?_⟩
  repeat (first | (apply dr_1;(focus rfl);(focus (simp (disch:=(try simp only [sPu]);omega) ;try rfl))) | (apply dr_y;(focus rfl);(focus rfl);(focus ((try simp only [sPu]);omega));(focus (simp (disch:=(try simp only [sPu]);omega);done));(focus (simp (disch:=(try simp only [sPu]);omega) ;try rfl))) | (apply dr_n;(focus rfl);(focus rfl);(focus ((try simp only [sPu]);omega));(focus (first | (left;simp (disch:=(try simp only [sPu]);omega);done) | (right;simp (disch:=(try simp only [sPu]);omega);done)))))
  refine dreg_nil ?_
  simp only [Exit.then]
  have hs6:=hb6.size
  have hbw6:Below w.heap.size w w6:=hbw5.trans ⟨hb6.os,hb6.tape,hb6.output,hb6.size,fun k hk=>hb6.block k (by omega)⟩
  have hown':Own X.U8 w6 w4.heap.size dv (wMsg v (flexAt flexO v) fs t.l t.u):=hown
  obtain ⟨S,base,cap,rfl,hcapL,hsr,hS⟩:=own_src2 hown'
  refine SC.wp_seq (SC.wp_reg ?_)
  iterate 2 (first | (apply ops_1;(focus (simp (disch:=(try simp only [sPu]);omega) [k0];try rfl))) | (apply ops_y;(focus rfl);(focus ((try simp only [sPu]);omega));(focus (simp (disch:=(try simp only [sPu]);omega) [k0];done));(focus (simp (disch:=(try simp only [sPu]);omega) [k0];try rfl))) | (apply ops_n;(focus rfl);(focus ((try simp only [sPu]);omega));(focus (first | (left;simp (disch:=(try simp only [sPu]);omega) [k0];done) | (right;simp (disch:=(try simp only [sPu]);omega);done)))))
  refine ops_call oVer (cVer w6 n m hn8 (by omega)) (by simp (disch:=(try simp only [sPu]);omega) [k0]) ?_
  rintro e w7 ⟨rfl,rfl⟩
  refine ⟨_,rfl,?_⟩
  rw [← hv]
  iterate 1 (first | (apply ops_1;(focus (simp (disch:=(try simp only [sPu]);omega) ;try rfl))) | (apply ops_y;(focus rfl);(focus ((try simp only [sPu]);omega));(focus (simp (disch:=(try simp only [sPu]);omega);done));(focus (simp (disch:=(try simp only [sPu]);omega) ;try rfl))) | (apply ops_n;(focus rfl);(focus ((try simp only [sPu]);omega));(focus (first | (left;simp (disch:=(try simp only [sPu]);omega);done) | (right;simp (disch:=(try simp only [sPu]);omega);done)))))
  obtain ⟨ts',u',hpm,hft1,hft2,hwm⟩:=msg_again (hok v hvm) (hk v hvm) hu
  refine ops_call cAg.1 (cAg.2 w6 S base _ cap v hvm (by omega) (fun w' h=>hgl w' (hbw6.trans ⟨h.os,h.tape,h.output,h.size,fun k hk=>h.block k (by omega)⟩)) hsr (fun sb h=>(hS sb h).2) hlimv (fun xs u r h=>by
    rw [hpm] at h
    cases h
    exact ⟨hft1,hft2,by rw [hwm];exact hlimv⟩)) (by simp (disch:=(try simp only [sPu]);omega)) ?_
  rw [hpm]
  rintro e w8 ⟨hb8,dv8,rfl,hown8⟩
  rw [hwm] at hown8
  refine ⟨_,rfl,?_⟩
  iterate 1 (first | (apply ops_1;(focus (simp (disch:=(try simp only [sPu]);omega) ;try rfl))) | (apply ops_y;(focus rfl);(focus ((try simp only [sPu]);omega));(focus (simp (disch:=(try simp only [sPu]);omega);done));(focus (simp (disch:=(try simp only [sPu]);omega) ;try rfl))) | (apply ops_n;(focus rfl);(focus ((try simp only [sPu]);omega));(focus (first | (left;simp (disch:=(try simp only [sPu]);omega);done) | (right;simp (disch:=(try simp only [sPu]);omega);done)))))
  refine oNo rfl (opw_extract (vs:=#[dv8,.bool true]) (v:=dv8) (by simp (disch:=(try simp only [sPu]);omega)) rfl ?_)
  refine oNo rfl (opw_extract (vs:=#[dv8,.bool true]) (v:=.bool true) (by simp (disch:=(try simp only [sPu]);omega)) rfl ?_)
  repeat (first | (apply ops_1;(focus (simp (disch:=(try simp only [sPu]);omega) ;try rfl))) | (apply ops_y;(focus rfl);(focus ((try simp only [sPu]);omega));(focus (simp (disch:=(try simp only [sPu]);omega);done));(focus (simp (disch:=(try simp only [sPu]);omega) ;try rfl))) | (apply ops_n;(focus rfl);(focus ((try simp only [sPu]);omega));(focus (first | (left;simp (disch:=(try simp only [sPu]);omega);done) | (right;simp (disch:=(try simp only [sPu]);omega);done)))))
  refine oNi ?_
  simp only [Exit.then]
  have hs8:=hb8.size
  have hbw8:Below w.heap.size w w8:=hbw6.trans ⟨hb8.os,hb8.tape,hb8.output,hb8.size,fun k hk=>hb8.block k (by omega)⟩
  refine SC.wp_seq (SC.wp_seq (SC.wp_reg ?_))
  repeat (first | (apply ops_1;(focus (simp (disch:=(try simp only [sPu]);omega) [hst];try rfl))) | (apply ops_y;(focus rfl);(focus ((try simp only [sPu]);omega));(focus (simp (disch:=(try simp only [sPu]);omega) [hst];done));(focus (simp (disch:=(try simp only [sPu]);omega) [hst];try rfl))) | (apply ops_n;(focus rfl);(focus ((try simp only [sPu]);omega));(focus (first | (left;simp (disch:=(try simp only [sPu]);omega) [hst];done) | (right;simp (disch:=(try simp only [sPu]);omega);done)))))
  refine oNi (SC.wp_cond (t:=(((wMsg v (flexAt flexO v) fs t.l t.u).length:Int) == 0)) (by simp (disch:=(try simp only [sPu]);omega)) ?_)
  by_cases hL:(wMsg v (flexAt flexO v) fs t.l t.u).length=0
  · rw [if_pos (by rw [beq_iff_eq];omega)]
    refine SC.wp_seq (SC.wp_reg ?_)
    repeat (first | (apply ops_1;(focus (simp (disch:=(try simp only [sPu]);omega) ;try rfl))) | (apply ops_y;(focus rfl);(focus ((try simp only [sPu]);omega));(focus (simp (disch:=(try simp only [sPu]);omega);done));(focus (simp (disch:=(try simp only [sPu]);omega) ;try rfl))) | (apply ops_n;(focus rfl);(focus ((try simp only [sPu]);omega));(focus (first | (left;simp (disch:=(try simp only [sPu]);omega);done) | (right;simp (disch:=(try simp only [sPu]);omega);done)))))
    refine oNi (SC.wp_ret ?_)
    simp only [Exit.then]
    exact ret_tmp hr (by simp [dPu,hd]) ⟨by simp (disch:=(try simp only [sPu]);omega),hbw8⟩
  rw [if_neg (by rw [beq_iff_eq];omega)]
  refine SC.wp_skip ?_
  simp only [Exit.then]
  obtain ⟨L,hLe⟩:∃ L,L=(wMsg v (flexAt flexO v) fs t.l t.u).length:=⟨_,rfl⟩
  obtain ⟨q,hq⟩:∃ q,q=at_ % L:=⟨_,rfl⟩
  have hqL:q < L:=by rw [hq];exact Nat.mod_lt _ (by omega)
  have hwat:IntKind.i64.wrap (at_:Int)=(at_:Int):=w64q (by omega) (by omega)
  have hmod:(at_:Int).tmod ((wMsg v (flexAt flexO v) fs t.l t.u).length:Int)=(q:Int):=by
    rw [Int.tmod_eq_emod_of_nonneg (by omega),hq,hLe]
    rfl
  have hmodN:at_ % (wMsg v (flexAt flexO v) fs t.l t.u).length=q:=by rw [hq,hLe]
  have hmodZ:(at_:Int) % ((wMsg v (flexAt flexO v) fs t.l t.u).length:Int)=(q:Int):=by rw [← hmodN];rfl
  have hL0:((wMsg v (flexAt flexO v) fs t.l t.u).length:Int) ≠ 0:=by omega
  have hqc:(0:Int)≤(q:Int)∧(q:Int)≤(cap:Int):=by have:=hcapL;omega
  refine SC.wp_seq (SC.wp_dreg hm (Below w8.heap.size w8.drew) [(0,true),(1,true),(3,true),(4,true),(5,true),(6,true),(7,true),(8,true),(9,true),(2,false),(10,false),(11,true),(12,true),(13,true),(14,true),(15,true)] (by rfl) (by rfl) (by decide) (Below.refl _ _) ?_)
  iterate 9 (first | (apply dr_1;(focus rfl);(focus (simp (disch:=(try simp only [sPu]);omega) [hst,k0,k2,hT4,hwat,hmod,hmodN,hmodZ,hL0,hL,hqc];try rfl))) | (apply dr_y;(focus rfl);(focus rfl);(focus ((try simp only [sPu]);omega));(focus (simp (disch:=(try simp only [sPu]);omega) [hst,k0,k2,hT4,hwat,hmod,hmodN,hmodZ,hL0,hL,hqc];done));(focus (simp (disch:=(try simp only [sPu]);omega) [hst,k0,k2,hT4,hwat,hmod,hmodN,hmodZ,hL0,hL,hqc];try rfl))) | (apply dr_n;(focus rfl);(focus rfl);(focus ((try simp only [sPu]);omega));(focus (first | (left;simp (disch:=(try simp only [sPu]);omega) [hst,k0,k2,hT4,hwat,hmod,hmodN,hmodZ,hL0,hL,hqc];done) | (right;simp (disch:=(try simp only [sPu]);omega);done)))))
  refine dreg_call (argsV:=#[.int .u8 (n:Int),.int .i64 (m:Int)]) rfl oVer (cVer w8.drew n m hn8 (by omega)) (by simp (disch:=(try simp only [sPu]);omega) [k0]) ?_
  rintro e w9 ⟨rfl,hw9⟩
  subst hw9
  refine ⟨_,rfl,Below.refl _ _,?_⟩
  rw [← hv]
  have hcut:=msg_cut (hok v hvm) (hk v hvm) hu (k:=q) (by omega)
  have hlq:((wMsg v (flexAt flexO v) fs t.l t.u).take q).length=q:=by rw [List.length_take];omega
  have hsr8:SrcAt w8.drew S base ((wMsg v (flexAt flexO v) fs t.l t.u).take q):=SrcAt.take (hsr.frame fun sb h=>hb8.block sb (hS sb h).2)
  have hc2:=cAg.2 w8.drew S base ((wMsg v (flexAt flexO v) fs t.l t.u).take q) cap v hvm (by show gb < w8.heap.size;omega) (fun w' h=>hgl w' (hbw8.trans ⟨h.os,h.tape,h.output,h.size,fun k hk=>h.block k (by show k < w8.heap.size;omega)⟩)) hsr8 (fun sb h=>by have:=(hS sb h).2;show sb < w8.heap.size;omega) (by rw [hlq];omega) (fun xs u r h=>by
    rw [hcut] at h
    cases h)
  rw [hcut,hlq] at hc2
  refine dreg_call (argsV:=#[.int .i64 (v:Int),.slice base q cap]) rfl cAg.1 hc2 (by simp (disch:=(try simp only [sPu]);omega)) ?_
  rintro e w10 ⟨hb10,rfl⟩
  refine ⟨_,rfl,hb10,?_⟩
  repeat (first | (apply dr_1;(focus rfl);(focus (simp (disch:=(try simp only [sPu]);omega) ;try rfl))) | (apply dr_y;(focus rfl);(focus rfl);(focus ((try simp only [sPu]);omega));(focus (simp (disch:=(try simp only [sPu]);omega);done));(focus (simp (disch:=(try simp only [sPu]);omega) ;try rfl))) | (apply dr_n;(focus rfl);(focus rfl);(focus ((try simp only [sPu]);omega));(focus (first | (left;simp (disch:=(try simp only [sPu]);omega);done) | (right;simp (disch:=(try simp only [sPu]);omega);done)))))
  refine dreg_nil ?_
  simp only [Exit.then]
  refine SC.wp_seq (SC.wp_reg ?_)
  repeat (first | (apply ops_1;(focus (simp (disch:=(try simp only [sPu]);omega) ;try rfl))) | (apply ops_y;(focus rfl);(focus ((try simp only [sPu]);omega));(focus (simp (disch:=(try simp only [sPu]);omega);done));(focus (simp (disch:=(try simp only [sPu]);omega) ;try rfl))) | (apply ops_n;(focus rfl);(focus ((try simp only [sPu]);omega));(focus (first | (left;simp (disch:=(try simp only [sPu]);omega);done) | (right;simp (disch:=(try simp only [sPu]);omega);done)))))
  refine oNi (SC.wp_ret ?_)
  try simp only [Exit.then]
  exact ret_tmp hr (by simp [dPu,hd]) ⟨by simp (disch:=(try simp only [sPu]);omega),hbw8.trans ⟨hb10.os,hb10.tape,hb10.output,hb10.size,fun k hk=>hb10.block k (by show k < w8.heap.size;omega)⟩⟩
end
end Go.Proofs.YtgaplicnofhliaaDoor.K
namespace Go.Proofs.YtgaplicnofhliaaDoor.K
open Go Go.RowKit Go.Proofs.YtgaplicnofhliaaDoor.T
attribute [local simp] eTm eCo pNo gTp gTn qv qcall vop iop
set_option linter.unusedVariables false
set_option linter.unusedSimpArgs false
set_option maxHeartbeats 4000000
def sc_Kept (T0 T1 T2 F0 F1:Nat):SC:=.seq (.reg [⟨some 3,.box T0 (.tmp 0),none⟩,⟨some 5,.box T1 (.tmp 2),none⟩,⟨some 6,.assign (.const (.slice none 0 0)),none⟩]) (.seq (.dreg [mv 7 1,⟨some 8,.call ⟨.value (.func F0),#[(.tmp 7),(.const (.int .i64 2))],#[]⟩,none⟩,ld 9 T0 3,mv 10 1,ld 11 T1 5,cal 12 F1 [9,10,11],⟨some 13,.call ⟨.builtin .append,#[(.tmp 8),(.tmp 12)],#[T2,T2]⟩,none⟩,asg 6 13] [[],[0],[],[],[],[2,3,4,1],[1,5,5],[6,6,0,1,2,3,4,5,6]]) (.ret))
def sc_LawAgainK (T0 T1 T2 T3 F0 F1 F2 F3 F4:Nat):SC:=.seq (.reg [⟨some 3,.box T0 (.tmp 1),none⟩,⟨some 4,.assign (.const (.bool false)),none⟩]) (.seq (.seq (.reg [ld 8 T0 3,cal 9 F0 [8],⟨some 10,.unOp .not T1 (.tmp 9),none⟩]) (.cond (.tmp 10) (.seq (.reg [⟨some 4,.assign (.const (.bool true)),none⟩]) (.ret)) (.skip))) (.seq (.dreg [cal 11 F1 [],mv 12 0,⟨some 13,.convert T2 T3 (.tmp 12),none⟩,⟨some 14,.binOp .rem T3 (.tmp 13) (.const (.int .i64 2)) T3,none⟩,ld 15 T0 3,cal 16 F2 [11,14,15],asg 5 16] [[],[],[1],[2],[],[0,3,4,0],[5,5,0,1,2,3,4,5]]) (.seq (.reg [mv 18 5,cal 19 F3 [18],mv 17 19,⟨some 20,.extract (.tmp 17) 0,none⟩,⟨some 21,.extract (.tmp 17) 1,none⟩,asg 6 20,asg 7 21]) (.seq (.reg [mv 22 7,mv 23 22,⟨some 24,.move (.tmp 6),some (1,true)⟩,⟨some 25,.move (.tmp 5),some (1,true)⟩,⟨some 26,.call ⟨.value (.func F4),#[(.tmp 24),(.tmp 25)],#[]⟩,some (1,true)⟩,⟨some 27,.pick (.tmp 23) (.tmp 26) (.const (.bool false)),none⟩,asg 4 27]) (.ret)))))
def sc_LawCutK (T0 T1 T2 T3 T4 T5 F0 F1 F2 F3:Nat):SC:=.seq (.reg [⟨some 4,.box T0 (.tmp 1),none⟩,⟨some 6,.assign (.const (.bool false)),none⟩]) (.seq (.seq (.reg [ld 12 T0 4,cal 13 F0 [12],⟨some 14,.unOp .not T1 (.tmp 13),none⟩]) (.cond (.tmp 14) (.seq (.reg [⟨some 6,.assign (.const (.bool true)),none⟩]) (.ret)) (.skip))) (.seq (.dreg [cal 15 F1 [],mv 16 0,⟨some 17,.convert T2 T3 (.tmp 16),none⟩,⟨some 18,.binOp .rem T3 (.tmp 17) (.const (.int .i64 2)) T3,none⟩,ld 19 T0 4,cal 20 F2 [15,18,19],asg 7 20] [[],[],[1],[2],[],[0,3,4,0],[5,5,0,1,2,3,4,5]]) (.seq (.reg [mv 22 7,cal 23 F3 [22],mv 21 23,⟨some 24,.extract (.tmp 21) 0,none⟩,⟨some 25,.extract (.tmp 21) 1,none⟩,asg 8 24,asg 9 25]) (.seq (.reg [mv 27 7,mv 28 2,⟨some 29,.convert T4 T3 (.tmp 28),none⟩,mv 30 7,lenOp 31 T5 30,⟨some 32,.binOp .rem T3 (.tmp 29) (.tmp 31) T3,none⟩,⟨some 33,.slice T5 (.tmp 27) none (some (.tmp 32)) none,none⟩,cal 34 F3 [33],mv 26 34,⟨some 35,.extract (.tmp 26) 0,none⟩,⟨some 36,.extract (.tmp 26) 1,none⟩,asg 10 35,asg 11 36]) (.seq (.reg [mv 37 9,mv 38 37,⟨some 39,.move (.tmp 11),some (1,true)⟩,⟨some 40,.unOp .not T1 (.tmp 39),some (1,true)⟩,⟨some 41,.pick (.tmp 38) (.tmp 40) (.const (.bool false)),none⟩,asg 6 41]) (.ret))))))
section
variable {G:List (Nat × Bytes)→Prop} {P:Program} {X:STy} {f:FuncId} {fn:Func}
def KeptC (G:List (Nat × Bytes)→Prop) (P:Program) (X:STy) (fs:Fs) (f:FuncId):Prop:=FnOK P f∧∀ (w:World) (fv:Value) (ver:Nat) (t:Tree) (tv:Value),FsV w (· < w.heap.size) fs fv→TV G w (· < w.heap.size) t tv→(fixed ver 2 ++ wFs ver false fs t.l).length≤lim →
  Calls P f #[msgV fv (-1),.int .i64 (ver:Int),tv] w (RetOwn X.U8 w (fixed ver 2 ++ wFs ver false fs t.l))
theorem kept_ok (hX:stOK P X=true) (hm:P.follows .mixedOrders=true) {fs:Fs} {fF fWr:FuncId} (oF:FnOK P fF) (cF:∀ (w:World) (n:Int) (s:Nat),s≤8→Calls P fF #[.int .i64 n,.int .i64 (s:Int)] w (RetOwn X.U8 w (fixed n s)))
    (oWr:FnOK P fWr) (cWr:∀ (w:World) (fv:Value) (mflex ver:Int) (t:Tree) (tv:Value),FsV w (· < w.heap.size) fs fv→TV G w (· < w.heap.size) t tv→(wFs ver (decide (0≤mflex) && decide (mflex≤ver)) fs t.l ++ wTags (decide (0≤mflex) && decide (mflex≤ver)) t.u).length≤lim →
      Calls P fWr #[msgV fv mflex,.int .i64 ver,tv] w (RetOwn X.U8 w (wFs ver (decide (0≤mflex) && decide (mflex≤ver)) fs t.l ++ wTags (decide (0≤mflex) && decide (mflex≤ver)) t.u)))
    (hf : P.funcs[f]? = some fn) (hb : fn.body.map strip = some (sc_Kept X.M X.T X.Bs fF fWr)) (hnm : (fn.name == "runtime.NumGoroutine") = false) (hn : fn.ntmps = 14) (hr : fn.results = #[.tmp 6]) : KeptC G P X fs f := by
  refine ⟨fnOK_of hf hb hnm,fun w fv ver t tv hfv ht hl=>?_⟩
  have hst:=st_facts hX
  refine fCa hf hb hn (by simp) fun a0 hs hd ha=>?_
  have h0:=ha 0 _ rfl
  have h1:=ha 1 _ rfl
  have h2:=ha 2 _ rfl
  simp only [List.getElem_toArray,List.getElem_cons_zero,List.getElem_cons_succ] at h0 h1 h2
  have ht0:=ht
  cases ht with
  | mk n s tnull l u sb lb ub sc lc uc b o cs hs1 hsc hlc huc hll hrr htt hG hu =>
  refine SC.wp_seq (SC.wp_reg (ops_box (B:=w.heap.size) (w0:=w) (by rw [eTm,h0];rfl) (Nat.le_refl _) (Below.refl _ _) fun w1 q1 q2 q3 hc q5=>?_))
  refine ops_box (B:=w.heap.size) (w0:=w) (cs:=#[.int .i64 n,.slice sb s.length sc,.bool tnull,.slice lb l.length lc,.slice ub u.length uc]) (by simp (disch:=(try simp only [sPu]);omega) [h2,treV]) (by omega) q2 fun w2 r1 r2 r3 hd2 r5=>?_
  repeat (apply ops_1;(focus (simp (disch:=(try simp only [sPu]);omega) ;try rfl)))
  refine oNi ?_
  simp only [Exit.then]
  have hc2:∀ j,w2.cell? ⟨w.heap.size,j,none⟩=#[fv,.int .i64 (-1)][j]?:=fun j=>by rw [r1.cell (by show w.heap.size < w1.heap.size;omega)];exact hc j
  have hsz2:w2.heap.size=w.heap.size+2:=by omega
  rw [q3] at hd2 ⊢
  clear hc q1 q2 q3 q5 r1 r3 r5 w1
  have hT5:rangeV w2.drew (w.heap.size+1) 0 5=some [.int .i64 n,.slice sb s.length sc,.bool tnull,.slice lb l.length lc,.slice ub u.length uc]:=by
    have:rangeV w2 (w.heap.size+1) 0 5=some [.int .i64 n,.slice sb s.length sc,.bool tnull,.slice lb l.length lc,.slice ub u.length uc]:=by simp [rangeV,hd2]
    exact this
  have hT2:rangeV w2.drew w.heap.size 0 2=some [fv,.int .i64 (-1)]:=by
    have:rangeV w2 w.heap.size 0 2=some [fv,.int .i64 (-1)]:=by simp [rangeV,hc2]
    exact this
  have hdr:w2.drew.heap.size=w2.heap.size:=rfl
  have hlt1:w.heap.size < w2.heap.size:=by omega
  have hlt2:w.heap.size+1 < w2.heap.size:=by omega
  refine SC.wp_seq (SC.wp_dreg hm (Below w2.heap.size w2.drew) [(0,true),(2,true),(3,true),(4,true),(1,false),(5,false),(6,false),(7,true)] (by rfl) (by rfl) (by decide) (Below.refl _ _) ?_)
  iterate 4 (apply dr_1;(focus rfl);(focus (simp (disch:=(try simp only [sPu]);omega) [hst,h1,hT5,hT2,hlt1,hlt2];try rfl)))
  refine dreg_call (argsV:=#[.int .i64 (ver:Int),.int .i64 ((2:Nat):Int)]) rfl oF (cF w2.drew ver 2 (by omega)) (by simp (disch:=(try simp only [sPu]);omega) [h1]) ?_
  rintro e w3 ⟨dv8,rfl,ho8,hb3⟩
  refine ⟨_,rfl,hb3,?_⟩
  have hsz3:w2.heap.size≤w3.heap.size:=hb3.size
  have hb13:Below w.heap.size w w3:=r2.trans ⟨hb3.os,hb3.tape,hb3.output,hb3.size,fun k hk=>hb3.block k (by show k < w2.heap.size;omega)⟩
  have hlw:(wFs ver (decide ((0:Int)≤-1) && decide ((-1:Int)≤ver)) fs (Tree.mk n s tnull l u).l ++ wTags (decide ((0:Int)≤-1) && decide ((-1:Int)≤ver)) (Tree.mk n s tnull l u).u)=wFs ver false fs (Tree.mk n s tnull l u).l:=by simp [wTags]
  have hcw:=cWr w3 fv (-1) ver _ _ (FsV.down hb13 (by omega) hfv) (TV.down hb13 (by omega) ht0) (by rw [hlw];simp only [List.length_append] at hl ⊢;omega)
  rw [hlw] at hcw
  refine dreg_call (argsV:=#[msgV fv (-1),.int .i64 (ver:Int),treV n (.slice sb s.length sc) tnull (.slice lb l.length lc) (.slice ub u.length uc)]) rfl oWr hcw (by simp (disch:=(try simp only [sPu]);omega) [msgV,treV]) ?_
  rintro e w4 ⟨dv12,rfl,ho12,hb4⟩
  refine ⟨_,rfl,hb3.trans ⟨hb4.os,hb4.tape,hb4.output,hb4.size,fun k hk=>hb4.block k (by omega)⟩,?_⟩
  have ho8':Own X.U8 w4 w2.heap.size dv8 (fixed ver 2):=own_keep ho8 hb4
  obtain ⟨S,base,cap,rfl,hsr,hS⟩:=own_src ho12
  have hu8:=(u8s_of hst.2.2.1.1).1
  have hsrc:Src P 1 X.Bs (.slice base (wFs ver false fs (Tree.mk n s tnull l u).l).length cap) (wFs ver false fs (Tree.mk n s tnull l u).l).length (cellsOf (wFs ver false fs (Tree.mk n s tnull l u).l)) w4:=by
    generalize (wFs ver false fs (Tree.mk n s tnull l u).l)=src at hsr ⊢
    cases S with
    | none =>
      obtain ⟨rfl,rfl⟩:=hsr
      exact Src.ofNil w4 hu8 _
    | some sb =>
      obtain ⟨o,rfl,hc⟩:=hsr
      refine Src.ofSlice w4 hu8 ⟨sb,o,none⟩ src.length cap (cellsOf src) (by simp [cLen]) (fun j u hj=>?_) (fun u hu=>?_)
      · rw [add_none]
        simp only [cellsOf,List.getElem?_map,Option.map_eq_some_iff] at hj
        obtain ⟨u',hu',rfl⟩:=hj
        exact hc j u' hu'
      · simp only [cellsOf,List.mem_map] at hu
        obtain ⟨u',_,rfl⟩:=hu
        rfl
  refine dreg_n rfl rfl (opw_appendU8 (B:=w2.heap.size) (xs:=fixed ver 2) (bs:=wFs ver false fs (Tree.mk n s tnull l u).l) (dv:=dv8) (xv:=.slice base (wFs ver false fs (Tree.mk n s tnull l u).l).length cap) hst.2.2.1.1 (by simp (disch:=(try simp only [sPu]);omega)) (by simp (disch:=(try simp only [sPu]);omega)) rfl ho8' (by have:=hb4.size;omega) hsrc (by simpa using hl) fun dv w5 ho hb5 hbs5 _=>?_)
  have hb5':Below w2.heap.size w2.drew w5:=(hb3.trans ⟨hb4.os,hb4.tape,hb4.output,hb4.size,fun k hk=>hb4.block k (by omega)⟩).trans hb5
  refine ⟨hb5',?_⟩
  repeat (apply dr_1;(focus rfl);(focus (simp (disch:=(try simp only [sPu]);omega) ;try rfl)))
  refine dreg_nil ?_
  simp only [Exit.then]
  refine SC.wp_ret (ret_tmp hr (by simp [dPu,hd]) ⟨dv,by simp (disch:=(try simp only [sPu]);omega),own_base ho (by omega),r2.trans ⟨hb5'.os,hb5'.tape,hb5'.output,hb5'.size,fun k hk=>hb5'.block k (by show k < w2.heap.size;omega)⟩⟩)
theorem pInt_kept {v:Nat} {b:Bytes} (hv:v < 2):pInt 2 (fixed v 2 ++ b)=some ((v:Int),b):=by
  have e0:fixed ((0:Nat):Int) 2=[0,0]:=by decide
  have e1:fixed ((1:Nat):Int) 2=[0,1]:=by decide
  match v,hv with
  | 0,_=>rw [e0,pInt_of (by simp)];simp [unfix,sgn]
  | 1,_=>rw [e1,pInt_of (by simp)];simp [unfix,sgn]
theorem pKept_of {fs:Fs} {v:Nat} {b r:Bytes} {xs:List Tree} (hv:v < 2) (h:pFs v false fs b=some (xs,r)):pKept fs (fixed v 2 ++ b)=some (((v:Int),xs),r):=by
  simp [pKept,rThen,pInt_kept hv,h,rOk]
theorem fixed_two (v:Nat):(fixed (v:Int) 2).length=2:=by simp [fixed]
theorem pInt_pos {v q:Nat} {b:Bytes} (hv:v < 2):∀ n r,pInt 2 ((fixed (v:Int) 2 ++ b).take q)=some (n,r)→0≤n:=by
  intro n r h
  by_cases hq:q < 2
  · rw [pInt_no (by rw [List.length_take];omega)] at h
    cases h
  · have e:(fixed (v:Int) 2 ++ b).take q=fixed (v:Int) 2 ++ b.take (q - 2):=by
      rw [List.take_append,List.take_of_length_le (by rw [fixed_two];omega),fixed_two]
    rw [e,pInt_kept hv] at h
    cases h
    omega
end
end Go.Proofs.YtgaplicnofhliaaDoor.K
namespace Go.Proofs.YtgaplicnofhliaaDoor.K
open Go Go.RowKit Go.Proofs.YtgaplicnofhliaaDoor.T
attribute [local simp] eTm eCo pNo gTp gTn qv qcall vop iop
set_option linter.unusedSimpArgs false
set_option linter.unusedVariables false
set_option maxHeartbeats 4000000
def sc_Turned (T0 T1 T2:Nat):SC:=.seq (.reg [⟨some 2,.assign (.const (.int .u64 0)),none⟩]) (.seq (.reg [mv 3 0,⟨some 4,.convert T0 T1 (.tmp 3),none⟩,⟨some 5,.binOp .shl T1 (.tmp 4) (.const (.int .u64 1)) T2,none⟩,mv 6 0,⟨some 7,.binOp .shr T0 (.tmp 6) (.const (.int .u64 63)) T2,none⟩,⟨some 8,.convert T0 T1 (.tmp 7),none⟩,⟨some 9,.binOp .xor T1 (.tmp 5) (.tmp 8) T1,none⟩,asg 2 9]) (.ret))
def sc_SVarint (F0 F1:Nat):SC:=.seq (.reg [⟨some 2,.assign (.const (.slice none 0 0)),none⟩]) (.seq (.reg [mv 3 0,cal 4 F0 [3],cal 5 F1 [4],asg 2 5]) (.ret))
def sc_OctBytes (T0 T1 T2 F0:Nat):SC:=.seq (.reg [⟨some 1,.box T0 (.tmp 0),none⟩,⟨some 2,.assign (.const (.slice none 0 0)),none⟩]) (.seq (.seq (.reg [fa 3 T0 1 0,ld 4 T1 3]) (.cond (.tmp 4) (.seq (.reg [⟨some 5,.call ⟨.value (.func F0),#[(.const (.int .i64 (-1)))],#[]⟩,none⟩,asg 2 5]) (.ret)) (.skip))) (.seq (.dreg [fa 6 T0 1 1,ld 7 T2 6,lenOp 8 T2 7,cal 9 F0 [8],fa 10 T0 1 1,ld 11 T2 10,⟨some 12,.call ⟨.builtin .append,#[(.tmp 9),(.tmp 11)],#[T2,T2]⟩,none⟩,asg 2 12] [[],[0],[1],[2],[],[4],[3,5,3],[6,6,0,1,2,3,4,5,6]]) (.ret)))
def sc_HdrBytes (T0 T1 T2 T3 F0 F1:Nat):SC:=.seq (.reg [⟨some 1,.box T0 (.tmp 0),none⟩,⟨some 2,.assign (.const (.slice none 0 0)),none⟩]) (.seq (.dreg [fa 4 T0 1 0,ld 5 T1 4,lenOp 6 T1 5,cal 7 F0 [6],fa 8 T0 1 0,ld 9 T1 8,⟨some 10,.call ⟨.builtin .append,#[(.tmp 7),(.tmp 9)],#[T2,T1]⟩,none⟩,asg 3 10] [[],[0],[1],[2],[],[4],[3,5,3],[6,6,0,1,2,3,4,5,6]]) (.seq (.reg [mv 11 3,fa 12 T0 1 1,ld 13 T3 12,cal 14 F1 [13],⟨some 15,.call ⟨.builtin .append,#[(.tmp 11),(.tmp 14)],#[T2,T2]⟩,none⟩,asg 2 15]) (.ret)))
def tz (n:Int):Nat:=if n < 0 then 1 else (2 * n).toNat
def octB (nul:Bool) (d:Bytes):Bytes:=if nul then uvarint (tz (-1)) else uvarint (tz d.length) ++ d
def hdrB (k:Bytes) (nul:Bool) (d:Bytes):Bytes:=(uvarint (tz k.length) ++ k) ++ octB nul d
section
variable {P:Program} {X:STy} {f:FuncId} {fn:Func}
theorem turned_ok {T0 T1 T2:Nat} (h0k:intK P T0=some .i64) (h1k:intK P T1=some .u64) (hf:P.funcs[f]?=some fn) (hb:fn.body.map strip=some (sc_Turned T0 T1 T2)) (hn:fn.ntmps=10) (hr:fn.results=#[.tmp 2]) (w:World) (n:Int) (hn1:-1≤n) (hn2:n≤1048576) :
    Calls P f #[.int .i64 n] w fun e w'=>e=.returned (.int .u64 (tz n:Int))∧w'=w:=by
  refine fCa hf hb hn (by simp) fun a0 hs hd ha=>?_
  have h0:=ha 0 _ rfl
  simp only [List.getElem_toArray,List.getElem_cons_zero,List.getElem_cons_succ] at h0
  refine SC.wp_seq (SC.wp_reg ?_)
  repeat (apply ops_1;(focus (simp (disch:=(try simp only [sPu]);omega) ;try rfl)))
  refine oNi (SC.wp_seq (SC.wp_reg ?_))
  iterate 1 (apply ops_1;(focus (simp (disch:=(try simp only [sPu]);omega) [h0];try rfl)))
  have b1:1≤IntKind.u64.bits:=by decide
  have b2:63≤IntKind.i64.bits:=by decide
  refine oNo rfl (opw_convert (k':=.i64) (k:=.u64) (n:=n) (intB_of h0k) (intB_of h1k) (by simp (disch:=(try simp only [sPu]);omega)) ?_)
  refine ops_1 (v:=.int .u64 (IntKind.u64.wrap (IntKind.u64.wrap n * 2))) (by simp (disch:=(try simp only [sPu]);omega) [qv,vop,iop,b1]) ?_
  iterate 1 (apply ops_1;(focus (simp (disch:=(try simp only [sPu]);omega) [h0];try rfl)))
  refine ops_1 (v:=.int .i64 (n / 9223372036854775808)) (by simp (disch:=(try simp only [sPu]);omega) [qv,vop,iop,b2]) ?_
  refine oNo rfl (opw_convert (k':=.i64) (k:=.u64) (n:=n / 9223372036854775808) (intB_of h0k) (intB_of h1k) (by simp (disch:=(try simp only [sPu]);omega)) ?_)
  refine oNo rfl (opw_xor (k:=.u64) (m:=IntKind.u64.wrap (IntKind.u64.wrap n * 2)) (n:=IntKind.u64.wrap (n / 9223372036854775808)) (r:=(tz n:Int)) (by simp (disch:=(try simp only [sPu]);omega)) (by simp (disch:=(try simp only [sPu]);omega)) ?_ ?_)
  · by_cases h:n < 0
    · obtain rfl:n=-1:=by omega
      decide
    · have e1:n / 9223372036854775808=0:=by omega
      have e2:IntKind.u64.wrap n=n:=by
        simp only [IntKind.wrap,IntKind.bits,IntKind.signed];simp;omega
      have e3:IntKind.u64.wrap (n * 2)=n * 2:=by
        simp only [IntKind.wrap,IntKind.bits,IntKind.signed];simp;omega
      have e4:IntKind.u64.wrap 0=0:=by decide
      rw [e1,e2,e3,e4,tz,if_neg h]
      show IntKind.u64.wrap ((BitVec.ofInt 64 (n * 2) ^^^ BitVec.ofInt 64 0).toNat:Int)=(((2 * n).toNat:Nat):Int)
      have e5:BitVec.ofInt 64 0=0#64:=by decide
      rw [e5,BitVec.xor_zero,BitVec.toNat_ofInt]
      simp only [IntKind.wrap,IntKind.bits,IntKind.signed]
      simp
      omega
  repeat (apply ops_1;(focus (simp (disch:=(try simp only [sPu]);omega) ;try rfl)))
  refine oNi (SC.wp_ret (ret_tmp hr (by simp [dPu,hd]) ⟨?_,rfl⟩))
  simp (disch:=(try simp only [sPu]);omega)
theorem sVarint_ok {tU8 F0 F1:Nat} (o0:FnOK P F0) (c0:∀ (w:World) (n:Int),-1≤n→n≤1048576→Calls P F0 #[.int .i64 n] w fun e w'=>e=.returned (.int .u64 (tz n:Int))∧w'=w)
    (o1:FnOK P F1) (c1:∀ (w:World) (n:Nat),n < 18446744073709551616→Calls P F1 #[.int .u64 (n:Int)] w (RetOwn tU8 w (uvarint n))) (hf:P.funcs[f]?=some fn) (hb:fn.body.map strip=some (sc_SVarint F0 F1)) (hn:fn.ntmps=6) (hr:fn.results=#[.tmp 2]) (w:World) (n:Int) (hn1:-1≤n) (hn2:n≤1048576) :
    Calls P f #[.int .i64 n] w (RetOwn tU8 w (uvarint (tz n))):=by
  refine fCa hf hb hn (by simp) fun a0 hs hd ha=>?_
  have h0:=ha 0 _ rfl
  simp only [List.getElem_toArray,List.getElem_cons_zero,List.getElem_cons_succ] at h0
  refine SC.wp_seq (SC.wp_reg ?_)
  repeat (apply ops_1;(focus (simp (disch:=(try simp only [sPu]);omega) ;try rfl)))
  refine oNi (SC.wp_seq (SC.wp_reg ?_))
  iterate 1 (apply ops_1;(focus (simp (disch:=(try simp only [sPu]);omega) [h0];try rfl)))
  refine ops_call o0 (c0 w n hn1 hn2) (by simp (disch:=(try simp only [sPu]);omega)) ?_
  rintro e w1 ⟨rfl,rfl⟩
  refine ⟨_,rfl,?_⟩
  refine ops_call o1 (c1 w1 (tz n) (by unfold tz;split <;> omega)) (by simp (disch:=(try simp only [sPu]);omega)) ?_
  rintro e w2 ⟨dv,rfl,ho,hb2⟩
  refine ⟨_,rfl,?_⟩
  repeat (apply ops_1;(focus (simp (disch:=(try simp only [sPu]);omega) ;try rfl)))
  refine oNi (SC.wp_ret (ret_tmp hr (by simp [dPu,hd]) ⟨dv,by simp (disch:=(try simp only [sPu]);omega),ho,hb2⟩))
end
end Go.Proofs.YtgaplicnofhliaaDoor.K
namespace Go.Proofs.YtgaplicnofhliaaDoor.K
open Go Go.RowKit Go.Proofs.YtgaplicnofhliaaDoor.T
attribute [local simp] eTm eCo pNo gTp gTn qv qcall vop iop
set_option linter.unusedSimpArgs false
set_option linter.unusedVariables false
set_option maxHeartbeats 4000000
def sc_TellHdr (T0 T1 T2 T3 T4 F0 F1 F2:Nat):SC:=.seq (.reg [⟨some 2,.alloc T0,none⟩,⟨some 3,.assign (.const (.bool false)),none⟩]) (.seq (.reg [⟨some 4,.alloc T1,none⟩]) (.seq (.seq (.reg [mv 5 0,cal 6 F0 [5],cal 7 F1 [4,6],⟨some 8,.binOp .neq T2 (.tmp 7) (.const .nilIface) T2,none⟩]) (.cond (.tmp 8) (.seq (.reg [⟨some 9,.build T0 #[],none⟩,⟨none,.store T0 (.tmp 2) (.tmp 9),none⟩,⟨some 3,.assign (.const (.bool false)),none⟩]) (.ret)) (.skip))) (.seq (.dreg [fa 10 T1 4 0,ld 11 T3 10,fa 12 T1 4 1,ld 13 T4 12,cal 14 F2 [13],⟨some 15,.build T0 #[(0,(.tmp 11)),(1,(.tmp 14))],none⟩,⟨none,.store T0 (.tmp 2) (.tmp 15),none⟩,⟨some 3,.assign (.const (.bool true)),none⟩] [[],[0],[],[2],[3],[1,4],[5,4,0,1,2,3,4,5],[6,0,1,2,3,4,5,6]]) (.ret))))
section
variable {P:Program} {f:FuncId} {fn:Func}
theorem res_ct {a:Act} {w:World} {r1 r2 T b:Nat} {cs:List Value} {v2:Value} (hr:fn.results=#[.cell r1 T,.tmp r2]) (hT:aggB P T cs.length=true) (hx:getT a r1=.pointer (some ⟨b,0,none⟩)) (hc:∀ j v,cs[j]?=some v→w.cell? ⟨b,j,none⟩=some v) (h2:getT a r2=v2) :
    (results fn a.tmps).run P w=.ok (.tuple #[.agg cs.toArray,v2]) w:=by
  obtain ⟨i,hi,hs,ha⟩:=agg_of (w:=w) hT
  have hl:=run_loadCells_list (P:=P) w ⟨b,0,none⟩ cs (fun j v hj=>by rw [add_none,Nat.zero_add];exact hc j v hj)
  have hx':a.tmps[r1]?.getD undef=.pointer (some ⟨b,0,none⟩):=by simpa [getT,Array.getD_eq_getD_getElem?] using hx
  have h2':a.tmps[r2]?.getD undef=v2:=by simpa [getT,Array.getD_eq_getD_getElem?] using h2
  simp [results,hr,hx',h2',asAddr,loadVar,ha,sizeOf,typeInfo,hi,hs,hl]
theorem dr_S {a:Act} {w:World} {K:Act→World→Prop} {S:World→Prop} {ok:Nat→Bool} {w0:World} {i d:Nat} {op:Op} {ops:List SOp} {v:Value} {r:List (Nat × Bool)} (hS:∀ w',S w'→∀ b o,ok b=true→w'.cell? ⟨b,o,none⟩=w0.cell? ⟨b,o,none⟩) (hs:ops[i]?=some ⟨some d,op,none⟩) (h:qv ok P w0 a op=some v)
    (hk:dregw P S ops r K (a.put (some d) v) w):dregw P S ops ((i,true) :: r) K a w:=by
  unfold dregw
  exact ⟨_,hs,by simpa only [if_true] using ⟨v,(fun o ho w' hS'=>qv_sound (hS w' hS') h o (congrArg SOp.op ho):opq P S ⟨some d,op,none⟩ a v),hk⟩⟩
theorem pVB_len {b r:Bytes} {y:Option Bytes} (h:pVB b=some (y,r)):(y.getD []).length+r.length≤b.length:=by
  obtain ⟨l,r1,h1,h2⟩:=rThen_some h
  obtain ⟨x,r2,h3,h4⟩:=rThen_some (by simpa only [pVar] using h1)
  obtain ⟨rfl,rfl⟩:=rOk_some h4
  have hr:=(pUv_facts h3).2
  split at h2
  · obtain ⟨rfl,rfl⟩:=rOk_some h2
    simp
    omega
  · obtain ⟨z,r3,h5,h6⟩:=rThen_some h2
    obtain ⟨rfl,rfl⟩:=rOk_some h6
    unfold pSpan at h5
    split at h5
    · cases h5
    · cases h5
      simp
      omega
def TellC (P:Program) (gb:Nat) (Gl:World→Prop) (F:FuncId):Prop:=FnOK P F∧∀ (w:World) (S:Option Nat) (base:Option Addr) (src:Bytes) (cap:Nat),gb < w.heap.size→(∀ w',Below w.heap.size w w'→Gl w')→SrcAt w S base src→(∀ sb,S=some sb→sb < w.heap.size)→src.length≤lim →
  Calls P F #[.slice base src.length cap] w fun e w'=>Below w.heap.size w w'∧∃ (k:Bytes) (nul:Bool) (b2:Option Addr) (l c2:Nat),
    e=.returned (.tuple #[.agg #[.string ⟨k.toArray⟩,.bool nul,.slice b2 l c2],.bool (after (after (some src) pVB) pVB).isSome]) ∧
    ∀ y1 y2 r1 r2,pVB src=some (y1,r1)→pVB r1=some (y2,r2)→k=y1.getD []∧match y2 with | none=>nul=true | some z=>nul=false∧l=z.length∧BytesAt w' (fun k=>k < w'.heap.size) b2 z
theorem tellHdr_ok {T0 T1 T2 T3 T4 F0 F1 F2 FR gb tU8:Nat} {err:Value} {Gl:World→Prop} {x0:Value} (hm:P.follows .mixedOrders=true) (hT2:ifaceT P T2=true) (herr:∃ t y,err=.iface t y)
    (hA:aggB P T0 3=true) (hz0:∃ i z,P.info? T0=some i∧i.zero=some z∧z.cells.size=3) (hz1:∃ i z,P.info? T1=some i∧i.zero=some z∧z.cells=#[x0,.slice none 0 0])
    (hf0:fieldOff P T1 0=some 0) (hf1:fieldOff P T1 1=some 1) (h3:oneB P T3=true) (h4:oneB P T4=true)
    (hB0:P.built T0 []=some #[.string ⟨#[]⟩,.bool false,.slice none 0 0]) (hB1:∀ (s:ByteArray) (n:Bool) (b:Option Addr) (l c:Nat),P.built T0 [(0,.string s),(1,.agg #[.bool n,.slice b l c])]=some #[.string s,.bool n,.slice b l c])
    (cOwn:OwnC P tU8 F0) (oRF:FnOK P F1) (cRF:∀ (w:World) (x y:Value) (R:Ending→World→Prop),(Calls P FR #[x,y,.bool false] w fun e w'=>∃ v,e=.returned v∧R e w')→Calls P F1 #[x,y] w R)
    (cH:HdrC P T1 gb err Gl FR) (cOct:OctC P tU8 F2)
    (hf : P.funcs[f]? = some fn) (hb : fn.body.map strip = some (sc_TellHdr T0 T1 T2 T3 T4 F0 F1 F2)) (hnm : (fn.name == "runtime.NumGoroutine") = false) (hn : fn.ntmps = 16) (hr : fn.results = #[.cell 2 T0, .tmp 3]) : TellC P gb Gl f := by
  refine ⟨fnOK_of hf hb hnm,fun w S base src cap hgb hgl hsr hS hlen=>?_⟩
  obtain ⟨i0,z0,hi0,hzz0,hzs0⟩:=hz0
  obtain ⟨i1,z1,hi1,hzz1,hzc1⟩:=hz1
  refine fCa hf hb hn (by simp) fun a0 hs hd ha=>?_
  have h0:=ha 0 _ rfl
  simp only [List.getElem_toArray,List.getElem_cons_zero,List.getElem_cons_succ] at h0
  refine SC.wp_seq (SC.wp_reg (oNo rfl (opw_alloc hi0 hzz0 ?_)))
  repeat (apply ops_1;(focus (simp (disch:=(try simp only [sPu]);omega) ;try rfl)))
  refine oNi ?_
  simp only [Exit.then]
  have hn1:=heap_alloc_new w (.cells z0.cells T0)
  have hb1:Below w.heap.size w (w.alloc (.cells z0.cells T0)):=(Below.refl _ _).alloc (Nat.le_refl _) _
  have hs1:(w.alloc (.cells z0.cells T0)).heap.size=w.heap.size+1:=by simp
  generalize w.alloc (.cells z0.cells T0)=w1 at hn1 hb1 hs1 ⊢
  refine SC.wp_seq (SC.wp_reg (oNo rfl (opw_alloc hi1 hzz1 (oNi ?_))))
  simp only [Exit.then]
  have hn2:=heap_alloc_new w1 (.cells z1.cells T1)
  have hn1':(w1.alloc (.cells z1.cells T1)).heap[w.heap.size]?=some (.cells z0.cells T0 (0,0)):=by rw [Below.heap_alloc _ _ _ (by omega)];exact hn1
  have hb2:Below w.heap.size w (w1.alloc (.cells z1.cells T1)):=hb1.alloc (by omega) _
  have hs2:(w1.alloc (.cells z1.cells T1)).heap.size=w1.heap.size+1:=by simp
  rw [hzc1] at hn2 hn1' hb2 hs2 ⊢
  generalize w1.alloc (.cells #[x0,.slice none 0 0] T1)=w2 at hn2 hn1' hb2 hs2 ⊢
  refine SC.wp_seq (SC.wp_seq (SC.wp_reg ?_))
  iterate 1 (apply ops_1;(focus (simp (disch:=(try simp only [sPu]);omega) [h0];try rfl)))
  have hsr2:SrcAt w2 S base src:=hsr.frame fun sb h=>hb2.block sb (hS sb h)
  refine ops_call cOwn.1 (cOwn.2 w2 S base src cap hsr2 hlen) (by simp (disch:=(try simp only [sPu]);omega)) ?_
  rintro e w3 ⟨dv,rfl,ho3,hb3⟩
  refine ⟨_,rfl,?_⟩
  have hb3':Below w.heap.size w w3:=hb2.trans ⟨hb3.os,hb3.tape,hb3.output,hb3.size,fun k hk=>hb3.block k (by omega)⟩
  have hs3:=hb3.size
  obtain ⟨S3,b3,c3,rfl,hcap3,hsr3,hS3⟩:=own_src2 ho3
  have hrow3:w3.heap[w1.heap.size]?=some (.cells #[x0,.slice none 0 0] T1 (0,0)):=by rw [hb3.block _ (by omega)];exact hn2
  have hrg3:w3.heap[w.heap.size]?=some (.cells z0.cells T0 (0,0)):=by rw [hb3.block _ (by omega)];exact hn1'
  have hcr:=cH w.heap.size w3 S3 w1.heap.size x0 b3 src c3 hgb (by omega) (by omega) (fun w' h=>hgl w' (hb3'.trans h)) hrow3 hcap3 hsr3 (fun sb h=>⟨by have:=(hS3 sb h).1;omega,(hS3 sb h).2⟩)
  obtain ⟨R,hR⟩:∃ R:Ending→World→Prop,R=fun e w'=>Below w.heap.size w3 w'∧w3.heap.size≤w'.heap.size∧(∀ k,k < w3.heap.size→k ≠ w1.heap.size→w'.heap[k]?=w3.heap[k]?) ∧
    ∃ (k:Bytes) (S':Option Nat) (base':Option Addr) (cap':Nat) (x:Bytes),w'.heap[w1.heap.size]?=some (.cells #[.string ⟨k.toArray⟩,.slice base' x.length cap'] T1 (0,0))∧SrcAt w' S' base' x∧(S'=none∨S'=S3) ∧
      e=.returned (if (after (after (some src) pVB) pVB).isSome then .nilIface else err) ∧
      ∀ y1 y2 r1 r2,pVB src=some (y1,r1)→pVB r1=some (y2,r2)→k=y1.getD []∧match y2 with | none=>base'=none∧x=[] | some z=>x=z∧S'=S3:=⟨_,rfl⟩
  refine ops_call oRF (cRF w3 (.pointer (some ⟨w1.heap.size,0,none⟩)) (.slice b3 src.length c3) R (hcr.mono fun e w' h=>?_)) (by simp (disch:=(try simp only [sPu]);omega)) ?_
  · obtain ⟨z1,z2,z3,k,S',base',cap',x,z4,z5,z6,z7,z8⟩:=h
    rw [hR]
    exact ⟨_,z7,z1,z2,z3,k,S',base',cap',x,z4,z5,z6,z7,z8⟩
  rw [hR]
  rintro e w4 ⟨hb4,hs4,hoth4,k,S',base',cap',x,hrow4,hsr4,hS4,rfl,hval⟩
  refine ⟨_,rfl,?_⟩
  have hb4':Below w.heap.size w w4:=hb3'.trans hb4
  have hrg4:w4.heap[w.heap.size]?=some (.cells z0.cells T0 (0,0)):=by rw [hoth4 _ (by omega) (by omega)];exact hrg3
  obtain ⟨ok,hok⟩:∃ ok,ok=(after (after (some src) pVB) pVB).isSome:=⟨_,rfl⟩
  rw [← hok]
  obtain ⟨et,ey,rfl⟩:=herr
  refine oNo rfl (opw_isErr (v:=if ok=true then .nilIface else .iface et ey) hT2 (by simp (disch:=(try simp only [sPu]);omega)) (by cases ok <;> simp) (oNi ?_))
  simp only [Exit.then]
  refine SC.wp_cond (t:=!ok) (by cases ok <;> simp [isErr] <;> simp (disch:=(try simp only [sPu]);omega)) ?_
  cases hokc:ok with
  | false =>
    rw [if_pos (by simp)]
    refine SC.wp_seq (SC.wp_reg ?_)
    refine oNo rfl (opw_build (cs:=#[.string ⟨#[]⟩,.bool false,.slice none 0 0]) (by simpa using hB0) ?_)
    refine oNo rfl (opw_store_agg (cs:=[.string ⟨#[]⟩,.bool false,.slice none 0 0]) (cur:=z0.cells) (b:=w.heap.size) (E:=T0) hA (by simp (disch:=(try simp only [sPu]);omega)) (by simp (disch:=(try simp only [sPu]);omega)) hrg4 (by rw [hzs0];rfl) (by intro v hv;simp at hv;rcases hv with rfl | rfl | rfl <;> rfl) ?_)
    rw [pNo]
    repeat (apply ops_1;(focus (simp (disch:=(try simp only [sPu]);omega) ;try rfl)))
    refine oNi (SC.wp_ret ?_)
    try simp only [Exit.then]
    have hrow:=setRow_heap w4 w.heap.size _ [Value.string ⟨#[]⟩,.bool false,.slice none 0 0].toArray _ _ hrg4
    refine bodyPost_ret_by (v:=.tuple #[.agg [Value.string ⟨#[]⟩,.bool false,.slice none 0 0].toArray,.bool false]) (res_ct (b:=w.heap.size) hr hA (by simp (disch:=(try simp only [sPu]);omega)) (fun j v hj=>by rw [cell_of_row _ _ _ _ _ _ hrow];simpa using hj) (by simp (disch:=(try simp only [sPu]);omega))) (by simp [dPu,hd]) ⟨hb4'.trans ⟨rfl,rfl,rfl,by simp,fun k hk=>setRow_other _ _ _ _ (by omega)⟩,[],false,none,0,0,rfl,fun y1 y2 r1 r2 e1 e2=>?_⟩
    rw [after_ok e1,after_ok e2,hokc] at hok
    cases hok
  | true =>
    rw [if_neg (by simp)]
    refine SC.wp_skip ?_
    simp only [Exit.then]
    have hc0:w4.drew.cell? ⟨w1.heap.size,0,none⟩=some (.string ⟨k.toArray⟩):=by
      have:w4.cell? ⟨w1.heap.size,0,none⟩=some (.string ⟨k.toArray⟩):=by rw [cell_of_row _ _ _ _ _ _ hrow4];rfl
      exact this
    have hc1:w4.drew.cell? ⟨w1.heap.size,1,none⟩=some (.slice base' x.length cap'):=by
      have:w4.cell? ⟨w1.heap.size,1,none⟩=some (.slice base' x.length cap'):=by rw [cell_of_row _ _ _ _ _ _ hrow4];rfl
      exact this
    have hdr:w4.drew.heap.size=w4.heap.size:=rfl
    have hlt4:w1.heap.size < w4.heap.size:=by omega
    obtain ⟨SS,hSS⟩:∃ SS:World→Prop,SS=fun w'=>Below w.heap.size w w'∧∀ o,w'.cell? ⟨w1.heap.size,o,none⟩=w4.cell? ⟨w1.heap.size,o,none⟩:=⟨_,rfl⟩
    have hS0:SS w4.drew:=by rw [hSS];exact ⟨hb4'.drew,fun _=>rfl⟩
    have hSc:∀ w',SS w'→∀ b o,(fun b=>decide (b=w1.heap.size)) b=true→w'.cell? ⟨b,o,none⟩=w4.cell? ⟨b,o,none⟩:=fun w' h b o hb=>by
      rw [hSS] at h
      have:b=w1.heap.size:=of_decide_eq_true hb
      rw [this]
      exact h.2 o
    refine SC.wp_seq (SC.wp_dreg hm SS [(0,true),(1,true),(2,true),(3,true),(4,false),(5,false),(6,false),(7,true)] (by rfl) (by rfl) (by decide) hS0 ?_)
    refine dr_S (v:=.pointer (some ⟨w1.heap.size,0,none⟩)) hSc rfl (by simp (disch:=(try simp only [sPu]);omega) [qv,hf0]) ?_
    refine dr_S (v:=.string ⟨k.toArray⟩) hSc rfl (by simp (disch:=(try simp only [sPu]);omega) [qv,h3];exact hc0) ?_
    refine dr_S (v:=.pointer (some ⟨w1.heap.size,1,none⟩)) hSc rfl (by simp (disch:=(try simp only [sPu]);omega) [qv,hf1]) ?_
    refine dr_S (v:=.slice base' x.length cap') hSc rfl (by simp (disch:=(try simp only [sPu]);omega) [qv,h4];exact hc1) ?_
    have hsr4':SrcAt w4.drew S' base' x:=by cases S' <;> exact hsr4
    obtain ⟨y1,q1,y2,q2,e1,e2⟩:∃ y1 r1 y2 r2,pVB src=some (y1,r1)∧pVB r1=some (y2,r2):=by
      cases h1:pVB src with
      | none=>rw [after_no h1,hokc] at hok;cases hok
      | some zz =>
        obtain ⟨y1,r1⟩:=zz
        cases h2:pVB r1 with
        | none=>rw [after_ok h1,after_no h2,hokc] at hok;cases hok
        | some zz2=>exact ⟨y1,r1,zz2.1,zz2.2,rfl,h2⟩
    have hxl:x.length≤lim:=by
      have l1:=pVB_len e1
      have l2:=pVB_len e2
      have:=(hval y1 y2 q1 q2 e1 e2).2
      cases y2 with
      | none=>simp only at this;rw [this.2];simp
      | some z=>simp only at this;rw [this.1];simp only [Option.getD_some] at l2;omega
    have hnn:∀ z,y2=some z→base'.isNone=false:=by
      intro z hz
      subst hz
      obtain ⟨-,-,hSe⟩:=hval y1 (some z) q1 q2 e1 e2
      cases hS3':S3 with
      | none =>
        rw [hS3'] at hsr3
        rw [hsr3.2] at e1
        simp [pVB,pVar,rThen,pUv,pUvGo] at e1
      | some sb =>
        rw [hSe,hS3'] at hsr4
        obtain ⟨o,ho,_⟩:=hsr4
        rw [ho]
        rfl
    have hnn':∀ z {r1 r2:Bytes} {y1':Option Bytes},pVB src=some (y1',r1)→pVB r1=some (some z,r2)→base'.isNone=false:=by
      intro z r1 r2 y1' k1 k2
      rw [e1] at k1
      cases k1
      rw [e2] at k2
      cases k2
      exact hnn z rfl
    clear e1 e2
    refine dreg_call (argsV:=#[.slice base' x.length cap']) rfl cOct.1 (cOct.2 w4.drew S' base' x cap' hsr4' hxl) (by simp (disch:=(try simp only [sPu]);omega)) ?_
    rintro e w5 ⟨b2,c2,rfl,hby,hb5⟩
    have hS5:SS w5:=by
      rw [hSS]
      exact ⟨hb4'.drew.trans ⟨hb5.os,hb5.tape,hb5.output,hb5.size,fun j hj=>hb5.block j (by rw [hdr];omega)⟩,fun o=>World.cell?_of_block (hb5.block _ (by rw [hdr];omega))⟩
    refine ⟨_,rfl,hS5,?_⟩
    refine dreg_n rfl rfl (opw_build (cs:=#[.string ⟨k.toArray⟩,.bool base'.isNone,.slice b2 (if base'.isNone=true then 0 else x.length) c2]) ?_ ⟨hS5,?_⟩)
    · simp only [List.map_toArray,List.map_cons,List.map_nil]
      rw [eTm,eTm,gTp (by simp only [sPu];omega)]
      simp (disch:=(try simp only [sPu]);omega) [gTp,gTn]
      exact hB1 _ _ _ _ _
    have hs5:=hb5.size
    have hrg5:w5.heap[w.heap.size]?=some (.cells z0.cells T0 (0,0)):=by rw [hb5.block _ (by rw [hdr];omega)];exact hrg4
    refine dreg_n rfl rfl (opw_store_agg (cs:=[.string ⟨k.toArray⟩,.bool base'.isNone,.slice b2 (if base'.isNone=true then 0 else x.length) c2]) (cur:=z0.cells) (b:=w.heap.size) (E:=T0) hA (by simp (disch:=(try simp only [sPu]);omega)) (by simp (disch:=(try simp only [sPu]);omega)) hrg5 (by rw [hzs0];rfl) (by intro v hv;simp at hv;rcases hv with rfl | rfl | rfl <;> rfl) ⟨?_,?_⟩)
    · rw [hSS] at hS5 ⊢
      exact ⟨hS5.1.trans ⟨rfl,rfl,rfl,by simp,fun k hk=>setRow_other _ _ _ _ (by omega)⟩,fun o=>by rw [cell_setRow_other _ _ _ _ (show w1.heap.size ≠ w.heap.size by omega)];exact hS5.2 o⟩
    rw [pNo]
    refine dr_S (v:=.bool true) hSc rfl (by simp (disch:=(try simp only [sPu]);omega) [qv]) ?_
    refine dreg_nil ?_
    simp only [Exit.then]
    have hrow:=setRow_heap w5 w.heap.size _ [Value.string ⟨k.toArray⟩,.bool base'.isNone,.slice b2 (if base'.isNone=true then 0 else x.length) c2].toArray _ _ hrg5
    rw [hSS] at hS5
    refine SC.wp_ret ?_
    try simp only [Exit.then]
    refine bodyPost_ret_by (v:=.tuple #[.agg [Value.string ⟨k.toArray⟩,.bool base'.isNone,.slice b2 (if base'.isNone=true then 0 else x.length) c2].toArray,.bool true]) (res_ct (b:=w.heap.size) hr hA (by simp (disch:=(try simp only [sPu]);omega)) (fun j v hj=>by rw [cell_of_row _ _ _ _ _ _ hrow];simpa using hj) (by simp (disch:=(try simp only [sPu]);omega))) (by simp [dPu,hd]) ⟨hS5.1.trans ⟨rfl,rfl,rfl,by simp,fun k hk=>setRow_other _ _ _ _ (by omega)⟩,k,base'.isNone,b2,_,c2,rfl,fun y1 y2 r1 r2 e1 e2=>?_⟩
    obtain ⟨q1,q2⟩:=hval y1 y2 r1 r2 e1 e2
    refine ⟨q1,?_⟩
    cases y2 with
    | none =>
      simp only at q2 ⊢
      rw [q2.1]
      rfl
    | some z =>
      simp only at q2 ⊢
      obtain ⟨rfl,q3⟩:=q2
      have hnn:base'.isNone=false:=hnn' _ e1 e2
      refine ⟨hnn,by rw [hnn];simp,?_⟩
      rcases hby hnn with h | ⟨bb,oo,h1,⟨h2,h2'⟩,h3⟩
      · exact .inl h
      · refine .inr ⟨bb,oo,h1,by simpa using h2',fun j u hu=>?_⟩
        rw [cell_setRow_other _ _ _ _ (show bb ≠ w.heap.size by rw [hdr] at h2;omega)]
        exact h3 j u hu
end
end Go.Proofs.YtgaplicnofhliaaDoor.K
