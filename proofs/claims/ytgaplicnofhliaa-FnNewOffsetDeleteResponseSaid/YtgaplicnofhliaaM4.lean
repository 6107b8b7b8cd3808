/- Generic texts: S11 S12 K9 K10 K14 S18 D1 T2. No condition. -/
import Derived.Test.YtgaplicnofhliaaM3
namespace Go.Proofs.Ytgaplicnofhliaa.K
open Go Go.RowKit Go.Proofs.Ytgaplicnofhliaa.T
attribute [local simp] eTm eCo pNo gTp gTn qv qcall vop iop
set_option linter.unusedSimpArgs false
set_option linter.unusedVariables false
set_option maxHeartbeats 4000000
theorem insTag_length (t:Nat × Bytes):∀ l,(insTag t l).length≤l.length+1
  | []=>by simp [insTag]
  | x :: r=>by
    simp only [insTag]
    have:=insTag_length t r
    split
    · simp;omega
    · split <;> simp
theorem foldl_ins_length:∀ (l acc:List (Nat × Bytes)),(l.foldl (fun acc t=>insTag t acc) acc).length≤l.length+acc.length
  | [],acc=>by simp
  | x :: l,acc=>by
    simp only [List.foldl_cons,List.length_cons]
    have h1:=foldl_ins_length l (insTag x acc)
    have h2:=insTag_length x acc
    omega
theorem unknown_length (u:List (Nat × Bytes)):(unknown u).length≤most:=by
  have h:=foldl_ins_length (u.take most) []
  have h2:(u.take most).length≤most:=by rw [List.length_take];omega
  unfold unknown
  simp only [List.length_nil] at h
  omega
section
variable {G:List (Nat × Bytes)→Prop} {P:Program} {X:STy} {f:FuncId} {fn:Func} {fW fTh fC fWi fF fU fHas fNull fAt fPart fVal fFld fKn fUs fUnk:FuncId}
theorem known_ok (hX:stOK P X=true) (hTF:arrB P X.F 8=true) (hf:P.funcs[f]?=some fn) (hb:fn.body.map strip=some (sc_known X.Fs X.I X.F X.U32)) (hn:fn.ntmps=23) (hr:fn.results=#[.tmp 2]):KnownC P f:=by
  intro w fs fv hfs hlen63
  have hst:=st_facts hX
  obtain ⟨hTF1,iF,zF,hiF,hzF,hzFs⟩:=arr_of hTF
  obtain ⟨fb,fcap,rfl,hfs⟩:=hfs
  refine fCa hf hb hn (by simp) fun a0 hs hd ha=>?_
  have h0:=ha 0 _ rfl
  simp only [List.getElem_toArray,List.getElem_cons_zero,List.getElem_cons_succ] at h0
  refine SC.wp_seq (SC.wp_reg ?_)
  repeat (apply ops_1;(focus (simp (disch:=(try simp only [sPu]);omega) ;try rfl)))
  refine oNi (SC.wp_seq (SC.wp_reg ?_))
  repeat (apply ops_1;(focus (simp (disch:=(try simp only [sPu]);omega) ;try rfl)))
  refine oNi (SC.wp_seq (SC.wp_seq (SC.wp_reg ?_)))
  repeat (apply ops_1;(focus (simp (disch:=(try simp only [sPu]);omega) [hst,h0];try rfl)))
  refine oNi ?_
  simp only [Exit.then]
  refine SC.wp_block (SC.wp_loop (fun a4 w5=>∃ (j:Nat),a4.tmps.size=23∧a4.defers=[]∧getT a4 6=.slice fb (Fs.len fs) fcap∧getT a4 7=.int .i64 (Fs.len fs:Int)∧getT a4 8=.int .i64 (j:Int)∧j≤Fs.len fs∧getT a4 3=.int .u32 0∧Below w.heap.size w w5)
    (fun a4 _=>match getT a4 8 with | .int _ m=>(Fs.len fs - m).toNat | _=>0) ⟨0,by simp [sPu,hs],by simp [dPu,hd],by simp (disch:=(try simp only [sPu]);omega),by simp (disch:=(try simp only [sPu]);omega),by simp (disch:=(try simp only [sPu]);omega),by omega,by simp (disch:=(try simp only [sPu]);omega),Below.refl _ _⟩ ?_)
  rintro a4 w5 ⟨j,q,qd,q6,q7,q8,hj,q3,hb5⟩
  have hsz5:w.heap.size≤w5.heap.size:=hb5.size
  refine SC.wp_seq (SC.wp_reg ?_)
  repeat (apply ops_1;(focus (simp (disch:=(try simp only [sPu]);omega) [hst,q7,q8];try rfl)))
  refine oNi ?_
  simp only [Exit.then]
  refine SC.wp_seq (SC.wp_cond (t:=decide ((j:Int) < (Fs.len fs:Int))) (by simp (disch:=(try simp only [sPu]);omega)) ?_)
  cases e1:decide ((j:Int) < (Fs.len fs:Int))
  · rw [if_neg (by simp)]
    refine SC.wp_exit ?_
    simp only [Exit.then,Exit.inBlock,if_true]
    refine SC.wp_seq (SC.wp_reg ?_)
    repeat (apply ops_1;(focus (simp (disch:=(try simp only [sPu]);omega) [q3];try rfl)))
    refine oNi (SC.wp_ret (ret_tmp hr (by simp [dPu,qd]) ⟨?_,hb5⟩))
    simp (disch:=(try simp only [sPu]);omega)
  · have hjl:j < Fs.len fs:=by simp at e1;omega
    rw [if_pos rfl]
    refine SC.wp_skip ?_
    simp only [Exit.then]
    obtain ⟨h,ty,hdrop⟩:=drop_cons j fs hjl
    rcases hfs with hfs | ⟨b,o,rfl,hbF,hfs⟩
    · omega
    have hfj:=fsAt_drop j fs b o hfs
    rw [hdrop] at hfj
    simp only [FsAt] at hfj
    obtain ⟨⟨of_,sub,hr8,h1c,hof,hsub⟩,_⟩:=hfj
    have hr8':=(rangeV_mono (w:=w5) (hb5.block b hbF) 8 (o+j * 8)).trans hr8
    have ej:(0:Int)≤(j:Int)∧(j:Int) < (Fs.len fs:Int):=by omega
    refine SC.wp_seq (SC.wp_block (SC.wp_seq (SC.wp_reg ?_)))
    iterate 2 (apply ops_1;(focus (simp (disch:=(try simp only [sPu]);omega) [hst,q6,q8,ej,hr8',hjl];try rfl)))
    refine oNo rfl (opw_alloc hiF hzF ?_)
    refine oNo rfl (opw_store_agg (b:=w5.heap.size) (cs:=[.int .i64 (kindOf ty),.int .i64 h.from_,.int .i64 h.to,.int .i64 h.null,.int .i64 (-1),.int .i64 h.dflt,.int .i64 of_,sub]) hTF1 (by simp (disch:=(try simp only [sPu]);omega)) (by simp (disch:=(try simp only [sPu]);omega)) (heap_alloc_new w5 _) (by simp [hzFs]) (by
      intro v hv
      simp only [List.mem_cons,List.not_mem_nil,or_false] at hv
      rcases hv with rfl | rfl | rfl | rfl | rfl | rfl | rfl | rfl <;> first | rfl | exact h1c) (oNi ?_))
    have hnew:((w5.alloc (.cells zF.cells X.F)).setRow w5.heap.size #[.int .i64 (kindOf ty),.int .i64 h.from_,.int .i64 h.to,.int .i64 h.null,.int .i64 (-1),.int .i64 h.dflt,.int .i64 of_,sub]).heap[w5.heap.size]?=some (.cells #[.int .i64 (kindOf ty),.int .i64 h.from_,.int .i64 h.to,.int .i64 h.null,.int .i64 (-1),.int .i64 h.dflt,.int .i64 of_,sub] X.F (0,0)):=setRow_heap _ _ _ _ _ _ (heap_alloc_new w5 _)
    have hb6:Below w5.heap.size w5 ((w5.alloc (.cells zF.cells X.F)).setRow w5.heap.size #[.int .i64 (kindOf ty),.int .i64 h.from_,.int .i64 h.to,.int .i64 h.null,.int .i64 (-1),.int .i64 h.dflt,.int .i64 of_,sub]):=below_setRow ((Below.refl _ _).alloc (Nat.le_refl _) _) (Nat.le_refl _) _
    simp only [Exit.then,pNo]
    generalize ((w5.alloc (.cells zF.cells X.F)).setRow w5.heap.size #[.int .i64 (kindOf ty),.int .i64 h.from_,.int .i64 h.to,.int .i64 h.null,.int .i64 (-1),.int .i64 h.dflt,.int .i64 of_,sub])=w6 at *
    have hc6:∀ i,w6.cell? ⟨w5.heap.size,i,none⟩=#[Value.int .i64 (kindOf ty),.int .i64 h.from_,.int .i64 h.to,.int .i64 h.null,.int .i64 (-1),.int .i64 h.dflt,.int .i64 of_,sub][i]?:=fun i=>cell_of_row _ _ _ _ _ _ hnew
    refine SC.wp_seq (SC.wp_reg ?_)
    repeat (apply ops_1;(focus (simp (disch:=(try simp only [sPu]);omega) [hst,hc6];try rfl)))
    refine oNi (SC.wp_cond (t:=false) (by simp (disch:=(try simp only [sPu]);omega)) ?_)
    rw [if_neg (by simp)]
    refine SC.wp_skip ?_
    simp only [Exit.inBlock,Exit.then]
    have ew:IntKind.i64.wrap ((j:Int)+1)=((j+1:Nat):Int):=by rw [wrap_i64'];split <;> omega
    refine SC.wp_reg ?_
    repeat (apply ops_1;(focus (simp (disch:=(try simp only [sPu]);omega) [q8,ew];try rfl)))
    refine oNi ?_
    refine ⟨⟨j+1,by simp [sPu,q],by simp [dPu,qd],by simp (disch:=(try simp only [sPu]);omega) [q6],by simp (disch:=(try simp only [sPu]);omega) [q7],by simp (disch:=(try simp only [sPu]);omega),by omega,by simp (disch:=(try simp only [sPu]);omega) [q3],hb5.trans (hb6.mono hsz5)⟩,?_⟩
    rw [q8]
    simp (disch:=(try simp only [sPu]);omega);omega
theorem unkNil_ok (hX:stOK P X=true) (oK:FnOK P fKn) (cK:KnownC P fKn) (hf:P.funcs[f]?=some fn) (hb:fn.body.map strip=some (sc_unknown X.Tgs X.I X.Tg X.U32 fKn)) (hn:fn.ntmps=85) (hr:fn.results=#[.tmp 4]):UnkC (fun u=>u=[]) P f:=by
  intro w fs fv ub u uc hfs hlen63 hG hu huc
  subst hG
  have hst:=st_facts hX
  refine fCa hf hb hn (by simp) fun a0 hs hd ha=>?_
  have h0:=ha 0 _ rfl
  have h1:=ha 1 _ rfl
  simp only [List.getElem_toArray,List.getElem_cons_zero,List.getElem_cons_succ] at h0 h1
  refine SC.wp_seq (SC.wp_reg ?_)
  repeat (first | (apply ops_1;(focus (simp (disch:=(try simp only [sPu]);omega) ;try rfl))) | (apply ops_y;(focus rfl);(focus ((try simp only [sPu]);omega));(focus (simp (disch:=(try simp only [sPu]);omega);done));(focus (simp (disch:=(try simp only [sPu]);omega) ;try rfl))) | (apply ops_n;(focus rfl);(focus ((try simp only [sPu]);omega));(focus (first | (left;simp (disch:=(try simp only [sPu]);omega);done) | (right;simp (disch:=(try simp only [sPu]);omega);done)))))
  refine oNi (SC.wp_seq (SC.wp_reg ?_))
  iterate 1 (first | (apply ops_1;(focus (simp (disch:=(try simp only [sPu]);omega) [h0];try rfl))) | (apply ops_y;(focus rfl);(focus ((try simp only [sPu]);omega));(focus (simp (disch:=(try simp only [sPu]);omega) [h0];done));(focus (simp (disch:=(try simp only [sPu]);omega) [h0];try rfl))) | (apply ops_n;(focus rfl);(focus ((try simp only [sPu]);omega));(focus (first | (left;simp (disch:=(try simp only [sPu]);omega) [h0];done) | (right;simp (disch:=(try simp only [sPu]);omega);done)))))
  refine ops_call oK (cK w fs fv hfs hlen63) (by simp (disch:=(try simp only [sPu]);omega)) ?_
  rintro e w2 ⟨rfl,hb2⟩
  refine ⟨_,rfl,?_⟩
  repeat (first | (apply ops_1;(focus (simp (disch:=(try simp only [sPu]);omega) ;try rfl))) | (apply ops_y;(focus rfl);(focus ((try simp only [sPu]);omega));(focus (simp (disch:=(try simp only [sPu]);omega);done));(focus (simp (disch:=(try simp only [sPu]);omega) ;try rfl))) | (apply ops_n;(focus rfl);(focus ((try simp only [sPu]);omega));(focus (first | (left;simp (disch:=(try simp only [sPu]);omega);done) | (right;simp (disch:=(try simp only [sPu]);omega);done)))))
  refine oNi (SC.wp_seq (SC.wp_reg ?_))
  repeat (first | (apply ops_1;(focus (simp (disch:=(try simp only [sPu]);omega) ;try rfl))) | (apply ops_y;(focus rfl);(focus ((try simp only [sPu]);omega));(focus (simp (disch:=(try simp only [sPu]);omega);done));(focus (simp (disch:=(try simp only [sPu]);omega) ;try rfl))) | (apply ops_n;(focus rfl);(focus ((try simp only [sPu]);omega));(focus (first | (left;simp (disch:=(try simp only [sPu]);omega);done) | (right;simp (disch:=(try simp only [sPu]);omega);done)))))
  refine oNi (SC.wp_seq (SC.wp_seq (SC.wp_reg ?_)))
  repeat (first | (apply ops_1;(focus (simp (disch:=(try simp only [sPu]);omega) [hst,h1];try rfl))) | (apply ops_y;(focus rfl);(focus ((try simp only [sPu]);omega));(focus (simp (disch:=(try simp only [sPu]);omega) [hst,h1];done));(focus (simp (disch:=(try simp only [sPu]);omega) [hst,h1];try rfl))) | (apply ops_n;(focus rfl);(focus ((try simp only [sPu]);omega));(focus (first | (left;simp (disch:=(try simp only [sPu]);omega) [hst,h1];done) | (right;simp (disch:=(try simp only [sPu]);omega);done)))))
  refine oNi ?_
  simp only [Exit.then]
  refine gen_act (fun a6=>a6.tmps.size=85∧a6.defers=[]∧getT a6 6=.slice none 0 0∧getT a6 18=.int .i64 0∧getT a6 19=.int .i64 0)
    ⟨by simp [sPu,hs],by simp [dPu,hd],by simp (disch:=(try simp only [sPu]);omega),by simp (disch:=(try simp only [sPu]);omega),by simp (disch:=(try simp only [sPu]);omega)⟩ ?_
  rintro a6 ⟨p,pd,p6,p18,p19⟩
  refine SC.wp_block (SC.wp_loop (fun a' w'=>a'=a6∧w'=w2) (fun _ _=>0) ⟨rfl,rfl⟩ ?_)
  rintro _ _ ⟨rfl,rfl⟩
  refine SC.wp_seq (SC.wp_reg ?_)
  repeat (first | (apply ops_1;(focus (simp (disch:=(try simp only [sPu]);omega) [p18,p19];try rfl))) | (apply ops_y;(focus rfl);(focus ((try simp only [sPu]);omega));(focus (simp (disch:=(try simp only [sPu]);omega) [p18,p19];done));(focus (simp (disch:=(try simp only [sPu]);omega) [p18,p19];try rfl))) | (apply ops_n;(focus rfl);(focus ((try simp only [sPu]);omega));(focus (first | (left;simp (disch:=(try simp only [sPu]);omega) [p18,p19];done) | (right;simp (disch:=(try simp only [sPu]);omega);done)))))
  refine oNi ?_
  simp only [Exit.then]
  refine SC.wp_seq (SC.wp_cond (t:=false) (by simp (disch:=(try simp only [sPu]);omega)) ?_)
  rw [if_neg (by simp)]
  refine SC.wp_exit ?_
  simp only [Exit.then,Exit.inBlock,if_true]
  refine SC.wp_seq (SC.wp_reg ?_)
  repeat (first | (apply ops_1;(focus (simp (disch:=(try simp only [sPu]);omega) [p6];try rfl))) | (apply ops_y;(focus rfl);(focus ((try simp only [sPu]);omega));(focus (simp (disch:=(try simp only [sPu]);omega) [p6];done));(focus (simp (disch:=(try simp only [sPu]);omega) [p6];try rfl))) | (apply ops_n;(focus rfl);(focus ((try simp only [sPu]);omega));(focus (first | (left;simp (disch:=(try simp only [sPu]);omega) [p6];done) | (right;simp (disch:=(try simp only [sPu]);omega);done)))))
  refine oNi (SC.wp_ret (ret_tmp hr (by simp [dPu,pd]) ⟨none,0,?_,.inl rfl,hb2⟩))
  simp (disch:=(try simp only [sPu]);omega)
  rfl
theorem part_ok (hX:stOK P X=true) (hTF:arrB P X.F 8=true) (hTg:arrB P X.Tg 2=true) (S:SmallC P X fW fTh fC fWi fF fU fHas fNull fAt G) (hm:P.follows .mixedOrders=true) (oF:FnOK P fFld) (cFd:FieldC G P X fFld fPart)
    (oK:FnOK P fKn) (cK:KnownC P fKn) (oUnk:FnOK P fUnk) (cUnk:UnkC G P fUnk)
    (hf:P.funcs[f]?=some fn) (hb:fn.body.map strip=some (sc_part X.T X.Fs X.I X.F X.Bs X.B X.U32 X.U64 X.Tgs X.Tg fHas fAt fFld fKn fUs fU fUnk fW)) (hn:fn.ntmps=132) (hr:fn.results=#[.tmp 8])
    (fs:Fs) (hlen63:Fs.len fs < 4294967296) (cP:SubsC (PartC G P X fPart) fs):PartC G P X f fs:=by
  intro w fv ver flex tv t hfv ht hl
  have hst:=st_facts hX
  have hU8s:=hst.2.2.1.1
  have hlim:lim=70368744177664:=rfl
  have hmost:most=32767:=rfl
  refine fCa hf hb hn (by simp) fun a0 hs hd ha=>?_
  have h0:=ha 0 _ rfl
  have h1:=ha 1 _ rfl
  have h2:=ha 2 _ rfl
  have h3:=ha 3 _ rfl
  simp only [List.getElem_toArray,List.getElem_cons_zero,List.getElem_cons_succ] at h0 h1 h2 h3
  have ht0:=ht
  have hfv0:=hfv
  cases ht with
  | mk n s tnull l u sb lb ub sc lc uc b o cs hs1 hsc hlc huc hll hrr htt hG hu =>
  obtain ⟨fb,fcap,rfl,hfs⟩:=hfv
  refine SC.wp_seq (SC.wp_reg (ops_box (B:=w.heap.size) (w0:=w) (by rw [eTm,h3];rfl) (Nat.le_refl _) (Below.refl _ _) fun w1 q1 q2 q3 hc q5=>?_))
  repeat (first | (apply ops_1;(focus (simp (disch:=(try simp only [sPu]);omega) ;try rfl))) | (apply ops_y;(focus rfl);(focus ((try simp only [sPu]);omega));(focus (simp (disch:=(try simp only [sPu]);omega);done));(focus (simp (disch:=(try simp only [sPu]);omega) ;try rfl))) | (apply ops_n;(focus rfl);(focus ((try simp only [sPu]);omega));(focus (first | (left;simp (disch:=(try simp only [sPu]);omega);done) | (right;simp (disch:=(try simp only [sPu]);omega);done)))))
  refine oNi (SC.wp_seq (SC.wp_reg ?_))
  repeat (first | (apply ops_1;(focus (simp (disch:=(try simp only [sPu]);omega) ;try rfl))) | (apply ops_y;(focus rfl);(focus ((try simp only [sPu]);omega));(focus (simp (disch:=(try simp only [sPu]);omega);done));(focus (simp (disch:=(try simp only [sPu]);omega) ;try rfl))) | (apply ops_n;(focus rfl);(focus ((try simp only [sPu]);omega));(focus (first | (left;simp (disch:=(try simp only [sPu]);omega);done) | (right;simp (disch:=(try simp only [sPu]);omega);done)))))
  refine oNi (SC.wp_seq (SC.wp_reg ?_))
  repeat (first | (apply ops_1;(focus (simp (disch:=(try simp only [sPu]);omega) ;try rfl))) | (apply ops_y;(focus rfl);(focus ((try simp only [sPu]);omega));(focus (simp (disch:=(try simp only [sPu]);omega);done));(focus (simp (disch:=(try simp only [sPu]);omega) ;try rfl))) | (apply ops_n;(focus rfl);(focus ((try simp only [sPu]);omega));(focus (first | (left;simp (disch:=(try simp only [sPu]);omega);done) | (right;simp (disch:=(try simp only [sPu]);omega);done)))))
  refine oNi ?_
  simp only [Exit.then]
  clear q1 q5
  have hT5:rangeV w1 w.heap.size 0 5=some [.int .i64 n,.slice sb s.length sc,.bool tnull,.slice lb l.length lc,.slice ub u.length uc]:=by simp [rangeV,hc]
  have hlF:(wFs ver flex fs (Tree.mk n s tnull l u).l).length≤lim:=by rw [List.length_append] at hl;omega
  have fin:∀ (a:Act) (w':World) (v:Value) (out:Bytes),a.defers=[]→getT a 8=v→Own X.U8 w' w.heap.size v out→Below w.heap.size w w'→out=wFs ver flex fs (Tree.mk n s tnull l u).l ++ wTags flex (Tree.mk n s tnull l u).u →
      bodyPost P fn (RetOwn X.U8 w (wFs ver flex fs (Tree.mk n s tnull l u).l ++ wTags flex (Tree.mk n s tnull l u).u)) .ret a w':=by
    intro a w' v out p1 p2 p3 p4 p5
    subst p5
    exact ret_tmp hr p1 ⟨v,by rw [p2],p3,p4⟩
  refine SC.wp_seq (fields_loop hX hTF S hm oF cFd (w:=w) fs fb fcap cP hfs hlen63 ver flex _ n _ _ _ tnull ht0 q2 (by omega) hT5 (by simp [sPu,hs]) (by simp (disch:=(try simp only [sPu]);omega) [h0]) (by simp (disch:=(try simp only [sPu]);omega) [h1]) (by simp (disch:=(try simp only [sPu]);omega) [h2]) (by simp (disch:=(try simp only [sPu]);omega)) (by simp (disch:=(try simp only [sPu]);omega)) hlF ?_)
  intro a2 w2 p pd ps po hb2
  have k0:getT a2 0=.slice fb (Fs.len fs) fcap:=by rw [ps 0 (by decide) (by decide)];simp (disch:=(try simp only [sPu]);omega) [h0]
  have k2:getT a2 2=.bool flex:=by rw [ps 2 (by decide) (by decide)];simp (disch:=(try simp only [sPu]);omega) [h2]
  have k7:getT a2 7=.pointer (some ⟨w.heap.size,0,none⟩):=by rw [ps 7 (by decide) (by decide)];simp (disch:=(try simp only [sPu]);omega)
  have k10:getT a2 10=.slice none 0 0:=by rw [ps 10 (by decide) (by decide)];simp (disch:=(try simp only [sPu]);omega)
  have k11:getT a2 11=.int .i64 0:=by rw [ps 11 (by decide) (by decide)];simp (disch:=(try simp only [sPu]);omega)
  have pd2:a2.defers=[]:=by rw [pd];simp [dPu,hd]
  have hsz2:w.heap.size+1≤w2.heap.size:=by have:=hb2.size;omega
  have hbw2:Below w.heap.size w w2:=q2.trans (hb2.mono (by omega))
  clear ps pd hs hd h0 h1 h2 h3 ha
  simp only [Exit.then]
  refine SC.wp_seq (SC.wp_seq (SC.wp_reg ?_))
  repeat (first | (apply ops_1;(focus (simp (disch:=(try simp only [sPu]);omega) [k2];try rfl))) | (apply ops_y;(focus rfl);(focus ((try simp only [sPu]);omega));(focus (simp (disch:=(try simp only [sPu]);omega) [k2];done));(focus (simp (disch:=(try simp only [sPu]);omega) [k2];try rfl))) | (apply ops_n;(focus rfl);(focus ((try simp only [sPu]);omega));(focus (first | (left;simp (disch:=(try simp only [sPu]);omega) [k2];done) | (right;simp (disch:=(try simp only [sPu]);omega);done)))))
  refine oNi ?_
  simp only [Exit.then]
  refine SC.wp_cond (t:=!flex) (by simp (disch:=(try simp only [sPu]);omega)) ?_
  cases flex
  · rw [if_pos (by rfl)]
    refine SC.wp_seq (SC.wp_reg ?_)
    repeat (first | (apply ops_1;(focus (simp (disch:=(try simp only [sPu]);omega) ;try rfl))) | (apply ops_y;(focus rfl);(focus ((try simp only [sPu]);omega));(focus (simp (disch:=(try simp only [sPu]);omega);done));(focus (simp (disch:=(try simp only [sPu]);omega) ;try rfl))) | (apply ops_n;(focus rfl);(focus ((try simp only [sPu]);omega));(focus (first | (left;simp (disch:=(try simp only [sPu]);omega);done) | (right;simp (disch:=(try simp only [sPu]);omega);done)))))
    refine oNi (SC.wp_ret ?_)
    simp only [Exit.then]
    refine fin _ _ (getT a2 9) _ (by simp [dPu,pd2]) (by simp (disch:=(try simp only [sPu]);omega)) (own_down po (by omega)) hbw2 (by simp [wTags])
  · rw [if_neg (by simp)]
    refine SC.wp_skip ?_
    simp only [Exit.then]
    refine SC.wp_seq (SC.wp_seq (SC.wp_reg ?_))
    iterate 1 (first | (apply ops_1;(focus (simp (disch:=(try simp only [sPu]);omega) [k0];try rfl))) | (apply ops_y;(focus rfl);(focus ((try simp only [sPu]);omega));(focus (simp (disch:=(try simp only [sPu]);omega) [k0];done));(focus (simp (disch:=(try simp only [sPu]);omega) [k0];try rfl))) | (apply ops_n;(focus rfl);(focus ((try simp only [sPu]);omega));(focus (first | (left;simp (disch:=(try simp only [sPu]);omega) [k0];done) | (right;simp (disch:=(try simp only [sPu]);omega);done)))))
    refine ops_call oK (cK w2 fs _ (FsV.down hbw2 (by omega) hfv0) hlen63) (by simp (disch:=(try simp only [sPu]);omega)) ?_
    rintro e w3 ⟨rfl,hb3⟩
    refine ⟨_,rfl,?_⟩
    have ew0:IntKind.i64.wrap 0=0:=rfl
    repeat (first | (apply ops_1;(focus (simp (disch:=(try simp only [sPu]);omega) [hst,ew0];try rfl))) | (apply ops_y;(focus rfl);(focus ((try simp only [sPu]);omega));(focus (simp (disch:=(try simp only [sPu]);omega) [hst,ew0];done));(focus (simp (disch:=(try simp only [sPu]);omega) [hst,ew0];try rfl))) | (apply ops_n;(focus rfl);(focus ((try simp only [sPu]);omega));(focus (first | (left;simp (disch:=(try simp only [sPu]);omega) [hst,ew0];done) | (right;simp (disch:=(try simp only [sPu]);omega);done)))))
    refine oNi ?_
    simp only [Exit.then]
    refine gen_act (fun a6=>a6.tmps.size=132∧a6.defers=[]∧getT a6 0=.slice fb (Fs.len fs) fcap∧getT a6 7=.pointer (some ⟨w.heap.size,0,none⟩)∧getT a6 9=getT a2 9∧getT a6 10=.slice none 0 0∧getT a6 11=.int .i64 0∧getT a6 51=.int .i64 0∧getT a6 52=.int .i64 0)
      ⟨by simp [sPu,p],by simp [dPu,pd2],by simp (disch:=(try simp only [sPu]);omega) [k0],by simp (disch:=(try simp only [sPu]);omega) [k7],by simp (disch:=(try simp only [sPu]);omega),by simp (disch:=(try simp only [sPu]);omega) [k10],by simp (disch:=(try simp only [sPu]);omega) [k11],by simp (disch:=(try simp only [sPu]);omega),by simp (disch:=(try simp only [sPu]);omega)⟩ ?_
    rintro a6 ⟨z,zd,z0,z7,z9,z10,z11,z51,z52⟩
    refine SC.wp_block (SC.wp_loop (fun a' w'=>a'=a6∧w'=w3) (fun _ _=>0) ⟨rfl,rfl⟩ ?_)
    rintro _ _ ⟨rfl,rfl⟩
    rename_i a6 w3
    refine SC.wp_seq (SC.wp_reg ?_)
    repeat (first | (apply ops_1;(focus (simp (disch:=(try simp only [sPu]);omega) [z51,z52];try rfl))) | (apply ops_y;(focus rfl);(focus ((try simp only [sPu]);omega));(focus (simp (disch:=(try simp only [sPu]);omega) [z51,z52];done));(focus (simp (disch:=(try simp only [sPu]);omega) [z51,z52];try rfl))) | (apply ops_n;(focus rfl);(focus ((try simp only [sPu]);omega));(focus (first | (left;simp (disch:=(try simp only [sPu]);omega) [z51,z52];done) | (right;simp (disch:=(try simp only [sPu]);omega);done)))))
    refine oNi ?_
    simp only [Exit.then]
    refine SC.wp_seq (SC.wp_cond (t:=false) (by simp (disch:=(try simp only [sPu]);omega)) ?_)
    rw [if_neg (by simp)]
    refine SC.wp_exit ?_
    simp only [Exit.then,Exit.inBlock,if_true]
    have hsz3:w2.heap.size≤w3.heap.size:=hb3.size
    have hbw3:Below w.heap.size w w3:=hbw2.trans (hb3.mono (by omega))
    have hc3:∀ j,w3.cell? ⟨w.heap.size,j,none⟩=#[Value.int .i64 n,.slice sb s.length sc,.bool tnull,.slice lb l.length lc,.slice ub u.length uc][j]?:=fun j =>
      (World.cell?_of_block (w:=w1) (w':=w3) (a:=⟨w.heap.size,j,none⟩) ((hb3.block w.heap.size (by omega)).trans (hb2.block w.heap.size (by omega)))).trans (hc j)
    have hul:=unknown_length u
    have htl:((unknown u).flatMap wTag).length≤lim∧(wFs ver true fs l).length+((uvarint (unknown u).length).length+((unknown u).flatMap wTag).length)≤lim:=by
      simp only [wTags,if_true,List.length_append,Tree.l,Tree.u] at hl
      omega
    refine SC.wp_seq (tags_loop hX hTg S oUnk cUnk fs _ (FsV.down hbw3 (by omega) hfv0) hlen63 w.heap.size (by omega) n _ _ tnull ub u uc huc hG (tagsAt_mono hu (fun k hk=>by have:k < w.heap.size:=hk;show k < w3.heap.size;omega) (fun k hk=>hbw3.block k hk)) hc3 (by simp [sPu,z]) (by simp (disch:=(try simp only [sPu]);omega) [z0]) (by simp (disch:=(try simp only [sPu]);omega) [z7]) (by simp (disch:=(try simp only [sPu]);omega) [z10]) (by simp (disch:=(try simp only [sPu]);omega) [z11]) htl.1 hul ?_)
    intro a7 w4 y yd ys yo y11 hb4
    have y9:getT a7 9=getT a2 9:=by rw [ys 9 (by decide)];simp (disch:=(try simp only [sPu]);omega) [z9]
    have yd2:a7.defers=[]:=by rw [yd];simp [dPu,zd]
    have hsz4:w3.heap.size≤w4.heap.size:=hb4.size
    simp only [Exit.then]
    have eu:((unknown u).length:Int) % 18446744073709551616=((unknown u).length:Int):=by omega
    refine SC.wp_seq (SC.wp_reg ?_)
    iterate 3 (first | (apply ops_1;(focus (simp (disch:=(try simp only [sPu]);omega) [hst,y9,y11,wrap_u64,eu];try rfl))) | (apply ops_y;(focus rfl);(focus ((try simp only [sPu]);omega));(focus (simp (disch:=(try simp only [sPu]);omega) [hst,y9,y11,wrap_u64,eu];done));(focus (simp (disch:=(try simp only [sPu]);omega) [hst,y9,y11,wrap_u64,eu];try rfl))) | (apply ops_n;(focus rfl);(focus ((try simp only [sPu]);omega));(focus (first | (left;simp (disch:=(try simp only [sPu]);omega) [hst,y9,y11,wrap_u64,eu];done) | (right;simp (disch:=(try simp only [sPu]);omega);done)))))
    refine ops_call S.oU (S.cU w4 (unknown u).length (by omega)) (by simp (disch:=(try simp only [sPu]);omega)) ?_
    rintro e w5 ⟨v1,rfl,o1,b1⟩
    refine ⟨v1,rfl,?_⟩
    have hsz5:w4.heap.size≤w5.heap.size:=b1.size
    have hb25:Below w2.heap.size w2 w5:=hb3.trans ((hb4.mono hsz3).trans (b1.mono (by omega)))
    have po5:Own X.U8 w5 (w.heap.size+1) (getT a2 9) (wFs ver true fs l):=own_keep po hb25
    refine oNo rfl (opw_appendU8 (B:=w.heap.size+1) (dv:=getT a2 9) (xv:=v1) (xs:=wFs ver true fs l) (bs:=uvarint (unknown u).length) hU8s (by simp (disch:=(try simp only [sPu]);omega)) (by simp (disch:=(try simp only [sPu]);omega)) rfl po5 (by omega) (src_own hU8s o1) (by omega) ?_)
    intro v2 w6 o2 b2 s6 g6
    have yo5:=own_keep yo b1
    have yo6:Own X.U8 w6 w3.heap.size (getT a7 10) ((unknown u).flatMap wTag):=own_same yo5 (fun k hk=>by
      have h1:=own_lt yo5 k hk
      refine g6.block k h1.2 (fun e=>?_)
      have h2:=own_lt po k e.symm
      omega)
    iterate 1 (first | (apply ops_1;(focus (simp (disch:=(try simp only [sPu]);omega) ;try rfl))) | (apply ops_y;(focus rfl);(focus ((try simp only [sPu]);omega));(focus (simp (disch:=(try simp only [sPu]);omega);done));(focus (simp (disch:=(try simp only [sPu]);omega) ;try rfl))) | (apply ops_n;(focus rfl);(focus ((try simp only [sPu]);omega));(focus (first | (left;simp (disch:=(try simp only [sPu]);omega);done) | (right;simp (disch:=(try simp only [sPu]);omega);done)))))
    refine oNo rfl (opw_appendU8 (B:=w.heap.size+1) (dv:=v2) (xv:=getT a7 10) (xs:=wFs ver true fs l ++ uvarint (unknown u).length) (bs:=(unknown u).flatMap wTag) hU8s (by simp (disch:=(try simp only [sPu]);omega)) (by simp (disch:=(try simp only [sPu]);omega)) rfl o2 s6 (src_own hU8s yo6) (by rw [List.length_append];omega) ?_)
    intro v3 w7 o3 b3 s7 _
    repeat (first | (apply ops_1;(focus (simp (disch:=(try simp only [sPu]);omega) ;try rfl))) | (apply ops_y;(focus rfl);(focus ((try simp only [sPu]);omega));(focus (simp (disch:=(try simp only [sPu]);omega);done));(focus (simp (disch:=(try simp only [sPu]);omega) ;try rfl))) | (apply ops_n;(focus rfl);(focus ((try simp only [sPu]);omega));(focus (first | (left;simp (disch:=(try simp only [sPu]);omega);done) | (right;simp (disch:=(try simp only [sPu]);omega);done)))))
    refine oNi (SC.wp_ret ?_)
    try simp only [Exit.then]
    refine fin _ _ v3 _ (by simp [dPu,yd2]) (by simp (disch:=(try simp only [sPu]);omega)) (own_down o3 (by omega)) (hbw2.trans ((hb25.mono (by omega)).trans ((b2.mono (by omega)).trans (b3.mono (by omega))))) (by simp [wTags,Tree.l,Tree.u])
end
end Go.Proofs.Ytgaplicnofhliaa.K
namespace Go.Proofs.Ytgaplicnofhliaa.K
open Go Go.RowKit Go.Proofs.Ytgaplicnofhliaa.T
attribute [local simp] eTm eCo pNo gTp gTn qv qcall vop iop
set_option linter.unusedSimpArgs false
set_option linter.unusedVariables false
set_option maxHeartbeats 4000000
mutual
def smallTy:Ty→Bool
  | .prim _=>true
  | .struct _ _ _ _ fs=>decide (Fs.len fs < 4294967296) && smallFs fs
  | .list _ _ _ of=>smallTy of
def smallFs:Fs→Bool
  | .nil=>true
  | .cons _ ty r=>smallTy ty && smallFs r
end
section
variable {G:List (Nat × Bytes)→Prop} {P:Program} {X:STy} {f:FuncId} {fn:Func} {fPart:FuncId}
mutual
theorem subC_all {C:Fs→Prop} (hC:∀ fs,Fs.len fs < 4294967296→SubsC C fs→C fs):∀ ty,smallTy ty=true→SubC C ty
  | .prim _,_=>by simp [SubC]
  | .struct _ _ _ _ fs,h=>by
    simp only [smallTy,Bool.and_eq_true,decide_eq_true_eq] at h
    simp only [SubC]
    exact hC fs h.1 (subsC_all hC fs h.2)
  | .list _ _ _ of,h=>by
    simp only [smallTy] at h
    simp only [SubC]
    exact subC_all hC of h
theorem subsC_all {C:Fs→Prop} (hC:∀ fs,Fs.len fs < 4294967296→SubsC C fs→C fs):∀ fs,smallFs fs=true→SubsC C fs
  | .nil,_=>by simp [SubsC]
  | .cons h ty r,hh=>by
    simp only [smallFs,Bool.and_eq_true] at hh
    simp only [SubsC]
    exact ⟨subC_all hC ty hh.1,subsC_all hC r hh.2⟩
end
def msgV (fv:Value) (flex:Int):Value:=.agg #[fv,.int .i64 flex]
theorem write_ok (hX:stOK P X=true) (oP:FnOK P fPart) (hf:P.funcs[f]?=some fn) (hb:fn.body.map strip=some (sc_Write X.M X.T X.Fs X.I fPart)) (hn:fn.ntmps=21) (hr:fn.results=#[.tmp 6])
    (fs:Fs) (cP:PartC G P X fPart fs) (w:World) (fv:Value) (mflex ver:Int) (t:Tree) (tv:Value) (hfv:FsV w (· < w.heap.size) fs fv) (ht:TV G w (· < w.heap.size) t tv)
    (hl:(wFs ver (decide (0≤mflex) && decide (mflex≤ver)) fs t.l ++ wTags (decide (0≤mflex) && decide (mflex≤ver)) t.u).length≤lim) :
    Calls P f #[msgV fv mflex,.int .i64 ver,tv] w (RetOwn X.U8 w (wFs ver (decide (0≤mflex) && decide (mflex≤ver)) fs t.l ++ wTags (decide (0≤mflex) && decide (mflex≤ver)) t.u)):=by
  have hst:=st_facts hX
  refine fCa hf hb hn (by simp) fun a0 hs hd ha=>?_
  have h0:=ha 0 _ rfl
  have h1:=ha 1 _ rfl
  have h2:=ha 2 _ rfl
  simp only [List.getElem_toArray,List.getElem_cons_zero,List.getElem_cons_succ] at h0 h1 h2
  have ht0:=ht
  cases ht with
  | mk n s tnull l u sb lb ub sc lc uc b o cs hs1 hsc hlc huc hll hrr htt hG hu =>
  refine SC.wp_seq (SC.wp_reg (ops_box (B:=w.heap.size) (w0:=w) (by rw [eTm,h0];rfl) (Nat.le_refl _) (Below.refl _ _) fun w1 q1 q2 q3 hc q5=>?_))
  refine ops_box (B:=w.heap.size) (w0:=w) (cs:=#[.int .i64 n,.slice sb s.length sc,.bool tnull,.slice lb l.length lc,.slice ub u.length uc]) (by simp (disch:=(try simp only [sPu]);omega) [h2,treV]) (by omega) q2 fun w2 r1 r2 r3 hd2 r5=>?_
  repeat (first | (apply ops_1;(focus (simp (disch:=(try simp only [sPu]);omega) ;try rfl))) | (apply ops_y;(focus rfl);(focus ((try simp only [sPu]);omega));(focus (simp (disch:=(try simp only [sPu]);omega);done));(focus (simp (disch:=(try simp only [sPu]);omega) ;try rfl))) | (apply ops_n;(focus rfl);(focus ((try simp only [sPu]);omega));(focus (first | (left;simp (disch:=(try simp only [sPu]);omega);done) | (right;simp (disch:=(try simp only [sPu]);omega);done)))))
  refine oNi ?_
  have hc2:∀ j,w2.cell? ⟨w.heap.size,j,none⟩=#[fv,.int .i64 mflex][j]?:=fun j=>by rw [r1.cell (by show w.heap.size < w1.heap.size;omega)];exact hc j
  have hsz2:w2.heap.size=w.heap.size+2:=by omega
  rw [q3] at hd2 ⊢
  clear hc q1 q2 q3 q5 r1 r3 r5 w1
  have hT5:rangeV w2 (w.heap.size+1) 0 5=some [.int .i64 n,.slice sb s.length sc,.bool tnull,.slice lb l.length lc,.slice ub u.length uc]:=by simp [rangeV,hd2]
  refine SC.wp_seq (SC.wp_reg ?_)
  have fin:∀ (flex:Bool) (a:Act),a.defers=[]→getT a 8=fv→getT a 9=.int .i64 ver→getT a 18=.bool flex→getT a 5=.pointer (some ⟨w.heap.size+1,0,none⟩)→a.tmps.size=21→(decide (0≤mflex) && decide (mflex≤ver))=flex→∀ all,opsw P all [ld 19 X.T 5,cal 20 fPart [8,9,18,19],asg 6 20] (Exit.then (SC.wp P .ret (bodyPost P fn (RetOwn X.U8 w (wFs ver (decide (0≤mflex) && decide (mflex≤ver)) fs (Tree.mk n s tnull l u).l ++ wTags (decide (0≤mflex) && decide (mflex≤ver)) (Tree.mk n s tnull l u).u)))) (bodyPost P fn (RetOwn X.U8 w (wFs ver (decide (0≤mflex) && decide (mflex≤ver)) fs (Tree.mk n s tnull l u).l ++ wTags (decide (0≤mflex) && decide (mflex≤ver)) (Tree.mk n s tnull l u).u))) .normal) a w2:=by
    intro flex a pd p8 p9 p18 p5 ps hfl all
    rw [hfl] at hl ⊢
    iterate 1 (first | (apply ops_1;(focus (simp (disch:=(try simp only [sPu]);omega) [hst,p5,hT5];try rfl))) | (apply ops_y;(focus rfl);(focus ((try simp only [sPu]);omega));(focus (simp (disch:=(try simp only [sPu]);omega) [hst,p5,hT5];done));(focus (simp (disch:=(try simp only [sPu]);omega) [hst,p5,hT5];try rfl))) | (apply ops_n;(focus rfl);(focus ((try simp only [sPu]);omega));(focus (first | (left;simp (disch:=(try simp only [sPu]);omega) [hst,p5,hT5];done) | (right;simp (disch:=(try simp only [sPu]);omega);done)))))
    refine ops_call oP (cP w2 fv ver flex _ _ (FsV.down r2 (by omega) hfv) (TV.down r2 (by omega) ht0) hl) (by simp (disch:=(try simp only [sPu]);omega) [p8,p9,p18,treV]) ?_
    rintro e w3 ⟨v,rfl,o1,b1⟩
    refine ⟨v,rfl,?_⟩
    repeat (first | (apply ops_1;(focus (simp (disch:=(try simp only [sPu]);omega) ;try rfl))) | (apply ops_y;(focus rfl);(focus ((try simp only [sPu]);omega));(focus (simp (disch:=(try simp only [sPu]);omega);done));(focus (simp (disch:=(try simp only [sPu]);omega) ;try rfl))) | (apply ops_n;(focus rfl);(focus ((try simp only [sPu]);omega));(focus (first | (left;simp (disch:=(try simp only [sPu]);omega);done) | (right;simp (disch:=(try simp only [sPu]);omega);done)))))
    refine oNi ?_
    simp only [Exit.then]
    refine SC.wp_ret (ret_tmp hr (by simp [dPu,pd]) ⟨v,?_,own_down o1 (by omega),r2.trans (b1.mono (by omega))⟩)
    simp (disch:=(try simp only [sPu]);omega)
  cases e1:decide (0≤mflex)
  · rw [e1] at fin
    iterate 12 (first | (apply ops_1;(focus (simp (disch:=(try simp only [sPu]);omega) [hst,hc2,hT5,h1,e1];try rfl))) | (apply ops_y;(focus rfl);(focus ((try simp only [sPu]);omega));(focus (simp (disch:=(try simp only [sPu]);omega) [hst,hc2,hT5,h1,e1];done));(focus (simp (disch:=(try simp only [sPu]);omega) [hst,hc2,hT5,h1,e1];try rfl))) | (apply ops_n;(focus rfl);(focus ((try simp only [sPu]);omega));(focus (first | (left;simp (disch:=(try simp only [sPu]);omega) [hst,hc2,hT5,h1,e1];done) | (right;simp (disch:=(try simp only [sPu]);omega);done)))))
    refine fin false _ (by simp [dPu,hd]) (by simp (disch:=(try simp only [sPu]);omega)) (by simp (disch:=(try simp only [sPu]);omega)) (by simp (disch:=(try simp only [sPu]);omega)) (by simp (disch:=(try simp only [sPu]);omega)) (by simp [sPu,hs]) (by simp) _
  · cases e2:decide (mflex≤ver)
    · rw [e1,e2] at fin
      iterate 12 (first | (apply ops_1;(focus (simp (disch:=(try simp only [sPu]);omega) [hst,hc2,hT5,h1,e1,e2];try rfl))) | (apply ops_y;(focus rfl);(focus ((try simp only [sPu]);omega));(focus (simp (disch:=(try simp only [sPu]);omega) [hst,hc2,hT5,h1,e1,e2];done));(focus (simp (disch:=(try simp only [sPu]);omega) [hst,hc2,hT5,h1,e1,e2];try rfl))) | (apply ops_n;(focus rfl);(focus ((try simp only [sPu]);omega));(focus (first | (left;simp (disch:=(try simp only [sPu]);omega) [hst,hc2,hT5,h1,e1,e2];done) | (right;simp (disch:=(try simp only [sPu]);omega);done)))))
      refine fin false _ (by simp [dPu,hd]) (by simp (disch:=(try simp only [sPu]);omega)) (by simp (disch:=(try simp only [sPu]);omega)) (by simp (disch:=(try simp only [sPu]);omega)) (by simp (disch:=(try simp only [sPu]);omega)) (by simp [sPu,hs]) (by simp) _
    · rw [e1,e2] at fin
      iterate 12 (first | (apply ops_1;(focus (simp (disch:=(try simp only [sPu]);omega) [hst,hc2,hT5,h1,e1,e2];try rfl))) | (apply ops_y;(focus rfl);(focus ((try simp only [sPu]);omega));(focus (simp (disch:=(try simp only [sPu]);omega) [hst,hc2,hT5,h1,e1,e2];done));(focus (simp (disch:=(try simp only [sPu]);omega) [hst,hc2,hT5,h1,e1,e2];try rfl))) | (apply ops_n;(focus rfl);(focus ((try simp only [sPu]);omega));(focus (first | (left;simp (disch:=(try simp only [sPu]);omega) [hst,hc2,hT5,h1,e1,e2];done) | (right;simp (disch:=(try simp only [sPu]);omega);done)))))
      refine fin true _ (by simp [dPu,hd]) (by simp (disch:=(try simp only [sPu]);omega)) (by simp (disch:=(try simp only [sPu]);omega)) (by simp (disch:=(try simp only [sPu]);omega)) (by simp (disch:=(try simp only [sPu]);omega)) (by simp [sPu,hs]) (by simp) _
theorem own_bytesAt {tU8:Nat} {w:World} {B:Nat} {v:Value} {xs:Bytes} (h:Own tU8 w B v xs):∃ base cap,v=.slice base xs.length cap∧BytesAt w (fun k=>k < w.heap.size) base xs:=by
  rcases h.2 with ⟨rfl,h0⟩ | ⟨g,cap,cur,rfl,hBg,hg,_⟩
  · have:xs=[]:=List.eq_nil_of_length_eq_zero h0
    subst this
    exact ⟨none,0,rfl,.inl rfl⟩
  · refine ⟨some ⟨g,0,none⟩,cap,rfl,.inr ⟨g,0,rfl,(Array.getElem?_eq_some_iff.1 hg).1,fun j u hu=>?_⟩⟩
    have hc:∀ j u,(cellsOf xs)[j]?=some u→w.cell? ((⟨g,0,none⟩:Addr).add j)=some u:=World.ownsRow.cells h rfl
    rw [← add_none]
    exact hc j _ (by simp [cellsOf,hu])
theorem same_ok (hX:stOK P X=true) (hm:P.follows .mixedOrders=true) (hf:P.funcs[f]?=some fn) (hb:fn.body.map strip=some (sc_Same X.Bs X.I X.U8)) (hn:fn.ntmps=26) (hr:fn.results=#[.tmp 4])
    (w:World) (xs:Bytes) (b1 b2:Option Addr) (c1 c2:Nat) (h1:BytesAt w (fun k=>k < w.heap.size) b1 xs) (h2:BytesAt w (fun k=>k < w.heap.size) b2 xs) (hl:xs.length≤lim) :
    Calls P f #[.slice b1 xs.length c1,.slice b2 xs.length c2] w fun e w'=>e=.returned (.bool true)∧Below w.heap.size w w':=by
  have hst:=st_facts hX
  have hlim:lim=70368744177664:=rfl
  refine fCa hf hb hn (by simp) fun a0 hs hd ha=>?_
  have k0:=ha 0 _ rfl
  have k1:=ha 1 _ rfl
  simp only [List.getElem_toArray,List.getElem_cons_zero,List.getElem_cons_succ] at k0 k1
  refine SC.wp_seq (SC.wp_reg ?_)
  repeat (apply ops_1;(focus (simp (disch:=(try simp only [sPu]);omega) ;try rfl)))
  refine oNi (SC.wp_seq (SC.wp_seq (SC.wp_reg ?_)))
  repeat (apply ops_1;(focus (simp (disch:=(try simp only [sPu]);omega) [hst,k0,k1];try rfl)))
  refine oNi (SC.wp_cond (t:=false) (by simp (disch:=(try simp only [sPu]);omega)) ?_)
  rw [if_neg (by simp)]
  refine SC.wp_skip ?_
  simp only [Exit.then]
  refine SC.wp_seq (SC.wp_seq (SC.wp_reg ?_))
  repeat (apply ops_1;(focus (simp (disch:=(try simp only [sPu]);omega) [hst,k0,k1];try rfl)))
  refine oNi ?_
  simp only [Exit.then]
  refine SC.wp_block (SC.wp_loop (fun a4 w5=>∃ (j:Nat),a4.tmps.size=26∧a4.defers=[]∧getT a4 0=.slice b1 xs.length c1∧getT a4 1=.slice b2 xs.length c2∧getT a4 12=.int .i64 (xs.length:Int)∧getT a4 13=.int .i64 (j:Int)∧j≤xs.length∧Below w.heap.size w w5)
    (fun a4 _=>match getT a4 13 with | .int _ m=>(xs.length - m).toNat | _=>0) ⟨0,by simp [sPu,hs],by simp [dPu,hd],by simp (disch:=(try simp only [sPu]);omega) [k0],by simp (disch:=(try simp only [sPu]);omega) [k1],by simp (disch:=(try simp only [sPu]);omega),by simp (disch:=(try simp only [sPu]);omega),by omega,Below.refl _ _⟩ ?_)
  rintro a4 w5 ⟨j,q,qd,q0,q1,q12,q13,hj,hb5⟩
  refine SC.wp_seq (SC.wp_reg ?_)
  repeat (apply ops_1;(focus (simp (disch:=(try simp only [sPu]);omega) [hst,q12,q13];try rfl)))
  refine oNi ?_
  simp only [Exit.then]
  refine SC.wp_seq (SC.wp_cond (t:=decide ((j:Int) < (xs.length:Int))) (by simp (disch:=(try simp only [sPu]);omega)) ?_)
  cases e1:decide ((j:Int) < (xs.length:Int))
  · rw [if_neg (by simp)]
    refine SC.wp_exit ?_
    simp only [Exit.then,Exit.inBlock,if_true]
    refine SC.wp_seq (SC.wp_reg ?_)
    repeat (apply ops_1;(focus (simp (disch:=(try simp only [sPu]);omega) ;try rfl)))
    refine oNi (SC.wp_ret (ret_tmp hr (by simp [dPu,qd]) ⟨?_,hb5⟩))
    simp (disch:=(try simp only [sPu]);omega)
  · have hjl:j < xs.length:=by simp at e1;omega
    rw [if_pos rfl]
    refine SC.wp_skip ?_
    simp only [Exit.then]
    rcases h1 with e | ⟨g1,o1,rfl,hg1,hc1⟩
    · subst e;simp at hjl
    rcases h2 with e | ⟨g2,o2,rfl,hg2,hc2⟩
    · subst e;simp at hjl
    have hx:=List.getElem?_eq_getElem hjl
    have hd1:w5.drew.cell? ⟨g1,o1+j,none⟩=some (cell xs[j]):=(World.cell?_of_block (w:=w) (w':=w5.drew) (a:=⟨g1,o1+j,none⟩) (hb5.block g1 hg1)).trans (hc1 j _ hx)
    have hd2:w5.drew.cell? ⟨g2,o2+j,none⟩=some (cell xs[j]):=(World.cell?_of_block (w:=w) (w':=w5.drew) (a:=⟨g2,o2+j,none⟩) (hb5.block g2 hg2)).trans (hc2 j _ hx)
    have ej:(0:Int)≤(j:Int)∧(j:Int) < (xs.length:Int):=by omega
    have hcell:cell xs[j]=.int .u8 (xs[j].toNat:Int):=rfl
    rw [hcell] at hd1 hd2
    generalize xs[j].toNat=cj at *
    refine SC.wp_seq (SC.wp_block (SC.wp_seq (SC.wp_reg ?_)))
    repeat (apply ops_1;(focus (simp (disch:=(try simp only [sPu]);omega) [q13];try rfl)))
    refine oNi ?_
    simp only [Exit.then]
    refine SC.wp_seq (SC.wp_dreg hm (Below w.heap.size w5.drew) [(0,true),(1,true),(2,true),(3,true),(4,true),(5,true),(6,true),(7,true),(8,true)] (by rfl) (by rfl) (by decide) (Below.refl _ _) ?_)
    repeat (apply dr_1;(focus rfl);(focus (simp (disch:=(try simp only [sPu]);omega) [hst,q0,q1,ej,hd1,hd2,hg1,hg2,hjl];try rfl)))
    refine dreg_nil ?_
    simp only [Exit.then]
    refine SC.wp_cond (t:=false) (by simp (disch:=(try simp only [sPu]);omega)) ?_
    rw [if_neg (by simp)]
    refine SC.wp_skip ?_
    simp only [Exit.inBlock,Exit.then]
    have ew:IntKind.i64.wrap ((j:Int)+1)=((j+1:Nat):Int):=by rw [wrap_i64'];split <;> omega
    refine SC.wp_reg ?_
    repeat (apply ops_1;(focus (simp (disch:=(try simp only [sPu]);omega) [q13,ew];try rfl)))
    refine oNi ?_
    refine ⟨⟨j+1,by simp [sPu,q],by simp [dPu,qd],by simp (disch:=(try simp only [sPu]);omega) [q0],by simp (disch:=(try simp only [sPu]);omega) [q1],by simp (disch:=(try simp only [sPu]);omega) [q12],by simp (disch:=(try simp only [sPu]);omega),by omega,hb5.drew⟩,?_⟩
    rw [q13]
    simp (disch:=(try simp only [sPu]);omega);omega
theorem opw_rem {a:Act} {w:World} {K:Act→World→Prop} {d:Option Tmp} {g:Option (Nat × Bool)} {T T':TypeId} {x y:Operand} {m n:Nat} (hx:a.eval x=.int .i64 (m:Int)) (hy:a.eval y=.int .i64 (n:Int)) (hn:0 < n) (h:K (a.put d (.int .i64 ((m % n:Nat):Int))) w) :
    opw P ⟨d,.binOp .rem T x y T',g⟩ a w K:=by
  refine oVa (by simp) (fun p hp=>?_) h
  have hne:¬ n=0:=by omega
  simp [execOp,hp,hx,hy,run_eqGuard_int,binOp,Op.intDiv,hne]
  exact Int.tmod_eq_emod_of_nonneg (by omega)
theorem version_ok (hX:stOK P X=true) (hf:P.funcs[f]?=some fn) (hb:fn.body.map strip=some (sc_version X.U8 X.I)) (hn:fn.ntmps=10) (hr:fn.results=#[.tmp 4]) (w:World) (n m:Nat) (hn8:n < 256) (hm16:m < 65536) :
    Calls P f #[.int .u8 (n:Int),.int .i64 (m:Int)] w fun e w'=>e=.returned (.int .i64 ((n % (m+1):Nat):Int))∧w=w':=by
  have hst:=st_facts hX
  refine fCa hf hb hn (by simp) fun a0 hs hd ha=>?_
  have k0:=ha 0 _ rfl
  have k1:=ha 1 _ rfl
  simp only [List.getElem_toArray,List.getElem_cons_zero,List.getElem_cons_succ] at k0 k1
  have e1:IntKind.i64.wrap (n:Int)=(n:Int):=by rw [wrap_i64'];split <;> omega
  have e2:IntKind.i64.wrap ((m:Int)+1)=((m+1:Nat):Int):=by rw [wrap_i64'];split <;> omega
  refine SC.wp_seq (SC.wp_reg ?_)
  repeat (apply ops_1;(focus (simp (disch:=(try simp only [sPu]);omega) ;try rfl)))
  refine oNi (SC.wp_seq (SC.wp_reg ?_))
  iterate 4 (apply ops_1;(focus (simp (disch:=(try simp only [sPu]);omega) [hst,k0,k1,e1,e2];try rfl)))
  refine oNo rfl (opw_rem (m:=n) (n:=m+1) (by simp (disch:=(try simp only [sPu]);omega)) (by simp (disch:=(try simp only [sPu]);omega)) (by omega) ?_)
  repeat (apply ops_1;(focus (simp (disch:=(try simp only [sPu]);omega) ;try rfl)))
  refine oNi (SC.wp_ret (ret_tmp hr (by simp [dPu,hd]) ⟨?_,rfl⟩))
  simp (disch:=(try simp only [sPu]);omega)
end
end Go.Proofs.Ytgaplicnofhliaa.K
namespace Go.Proofs.Ytgaplicnofhliaa.K
open Go Go.RowKit Go.Proofs.Ytgaplicnofhliaa.T
set_option linter.unusedVariables false
set_option linter.unusedSimpArgs false
attribute [local simp] eTm eCo pNo gTp gTn qv qcall vop iop
section
variable {X:Fix}
theorem enum_fixed (n:Int):fixed (IntKind.i8.wrap n) 1=fixed n 1:=by
  have:(IntKind.i8.wrap n) % 256=n % 256:=by
    simp only [IntKind.wrap,IntKind.bits,IntKind.signed,Bool.true_and]
    split <;> omega
  simp [fixed,T.byteOf,this]
theorem stable_two {x y lo t:Nat} {v u:Value} (hx:x < lo) (hx1:x ≠ 1) (hy:y < lo∨(X.T0≤y∧y < t)) (hy1:y ≠ 1):∀ a a',Same X a a' lo t→(getT a x=v∧getT a y=u)→(getT a' x=v∧getT a' y=u) :=
  fun _ _ hs h=>⟨(hs x hx1 (.inl hx)).trans h.1,(hs y hy1 hy).trans h.2⟩
theorem getElem?_map_flatten {α:Type} (l:List α) (f:α→Bytes):(l.map f).flatten=l.flatMap f:=by simp [List.flatMap]
theorem AFragP.keep {x:SC} {pre post:Act→Prop} {lo t:Nat} {o:Bytes} (h:AFragP X x pre post lo t o) (hst:∀ a a',Same X a a' lo t→pre a→pre a'):AFragP X x pre (fun a=>pre a∧post a) lo t o :=
  fun a w xs Q hi hp hlen hQ=>h a w xs Q hi hp hlen fun a' w' h1 h2 h3=>hQ a' w' h1 h2 ⟨hst _ _ h2 hp,h3⟩
theorem seqs_cons {x:SC} {l:List SC} (hl:l ≠ []):seqs (x :: l)=.seq x (seqs l):=by
  cases l with
  | nil=>exact absurd rfl hl
  | cons y r=>rfl
theorem aElem_ne (I:Ids) (c:Ctx) (T E s i v t b:Nat) (ty:Ty):aElem I c T E s i v t b ty ≠ []:=by
  cases ty <;> simp [aElem]
  split <;> simp
def TagsAt (G:List (Nat × Bytes)→Prop) (w:World) (F:Nat→Prop) (flex:Bool) (b o:Nat) (tags:Option (Nat × Nat)) (u:List (Nat × Bytes)):Prop :=
  match tags with | none=>u=[] | some (_,off)=>flex=true→HTags G w F b (o+off) u
theorem aTagsL_ok {S p t b o lo:Nat} {tags:Option (Nat × Nat)} {u:List (Nat × Bytes)} (hX:X.ok) (hlo:lo≤X.T0) (hlv:X.c.ver < lo) (hlf:X.c.flex < lo) (hp:p < lo) (hp1:p ≠ 1) (ht:X.T0≤t) (htN:t+tagsT tags≤X.N) (hb:b < X.B)
    (hok:okTags X.P X.I X.c S tags=true) (hu:TagsAt X.G X.w0 (· < X.B) X.flex b o tags u) :
    AList X (fun a=>getT a p=.pointer (some ⟨b,o,none⟩)) lo t (aTagsL X.I X.c S p tags t) (wTags X.flex u):=by
  cases tags with
  | none =>
    have hf:=hX.never hok
    have e:wTags X.flex u=[]:=by simp [wTags,hf]
    rw [e]
    exact .nil
  | some x =>
    obtain ⟨f,off⟩:=x
    simp only [tagsT,Option.isSome_some,if_true,aTagsT] at htN
    have h:=aTags_ok (X:=X) (S:=S) (p:=p) (f:=f) (off:=off) (t:=t) (b:=b) (o:=o) (lo:=lo) (u:=u) hX hlo hlv hlf hp hp1 ht (by omega) hb hok hu
    have:=AList.cons h (AList.nil (X:=X) (pre:=fun a=>getT a p=.pointer (some ⟨b,o,none⟩)) (lo:=lo) (t:=t))
    simpa [aTagsL] using this
mutual
theorem aVal_ok (hX:X.ok):∀ (ty:Ty) (S p:Nat) (h:Hd) (v t bk b o:Nat) (tr:Tree),okVal X.P X.I X.c X.tU8 h ty=true→fieldB X.P S h.idx h.off=true→(h.null < 0∨h.null≤X.ver) →
    HTy X.G X.w0 (· < X.B) X.ver X.flex ty (decide (0≤h.null)) b (o+h.off) tr→b < X.B→p < v→p ≠ 1→X.c.ver < v→X.c.flex < v→2≤v→v+nV ty+(if h.enum then 1 else 0)≤X.T0→X.T0≤t→t+aVT X.c h ty≤X.N →
    AFrag X (aVal X.I X.c S p h v t bk ty) (fun a=>getT a p=.pointer (some ⟨b,o,none⟩)) v t (wField X.ver X.flex h ty tr)
  | .prim k,S,p,h,v,t,bk,b,o,tr,hok,hS,hnull,hH,hb,hp,hp1,hlv,hlf,hv2,hvT,ht,htN=>by
    have hnul:h.isNull X.ver tr=(decide (0≤h.null) && tr.null):=by
      rcases hnull with e | e
      · simp [Hd.isNull,show ¬ (0≤h.null) by omega]
      · simp [Hd.isNull,e,Bool.and_comm]
    have hwf:wField X.ver X.flex h (.prim k) tr=wPrim X.flex (decide (0≤h.null) && tr.null) tr k:=by simp only [wField,wTy,hnul]
    rw [hwf]
    simp only [nV] at hvT
    simp only [aVT] at htN
    simp only [HTy,HPrim] at hH
    unfold okVal at hok
    by_cases hk:k=.uuid
    · subst hk
      rw [if_pos rfl] at hok hH
      simp only [Bool.and_eq_true,decide_eq_true_eq,Bool.not_eq_true',bne_iff_ne,ne_eq] at hok
      obtain ⟨⟨⟨hn,he⟩,hT⟩,hU⟩:=hok
      simp only [aAppT,PK.parted,Bool.false_eq_true,if_false] at htN
      have:=aUuid_ok (X:=X) (S:=S) (p:=p) (v:=v) (t:=t) (b:=b) (o:=o) (lo:=v) (h:=h) (tr:=tr) hX (Nat.le_refl _) hlv hlf (by omega) (by omega) ht (by omega) hS hT hU hb hH
      have e2:wPrim X.flex (decide (0≤h.null) && tr.null) tr .uuid=uuidOf tr:=by simp [wPrim,uuidOf]
      rw [e2]
      simpa only [aVal,if_true] using this
    · rw [if_neg hk] at hok hH
      obtain ⟨u,hc,hpv⟩:=hH
      simp only [Bool.and_eq_true,Bool.or_eq_true,Bool.not_eq_true',decide_eq_true_eq] at hok
      obtain ⟨⟨hT,hen⟩,happ⟩:=hok
      have hload:=aLoad_ok (X:=X) (S:=S) (p:=p) (f:=h.idx) (T:=h.typ) (v:=v) (t:=t) (off:=h.off) (b:=b) (o:=o) (u:=u) (lo:=v) hX (Nat.le_refl _) hlv hlf (by omega) (by omega) ht (by omega) hS hT hb hc
      unfold aVal
      rw [if_neg hk]
      by_cases he:h.enum=true
      · rw [if_pos he] at hvT htN ⊢
        rcases hen with hen | hk8
        · rw [hen] at he;cases he
        · subst hk8
          obtain rfl:=hpv
          have hap:=aApp_ok (X:=X) (nul:=decide (0≤h.null)) (k:=.i8) (x:=v+1) (t:=t+5) (lo:=v+2) (tr:=tr) (v:=.int .i8 tr.n) hX happ rfl (by omega) (by omega) (by omega) (by omega) (by omega) (by omega) (by simp only [aAppT,PK.parted,Bool.false_eq_true,if_false] at htN ⊢;omega)
          have hmid:AFragP X (.reg [mv (t+4) v,asg (v+1) (t+4)]) (fun a=>getT a v=.int .i8 tr.n) (fun a=>getT a (v+1)=.int .i8 tr.n) (v+1) (t+4) []:=by
            refine AFragP.quiet hX (by omega) (by omega) ?_
            intro a w xs K hi hpre hK
            have hsz:=hi.size
            refine ops_mv (ops_asg (oNi ?_))
            refine hK _ (by simp [sPu]) (by simp [dPu]) ?_ ?_ ?_
            · intro s hs1 hs2
              simp (disch:=omega) [gTn]
            · simp (disch:=omega) [gTn]
            · simp (disch:=(try simp only [sPu]);omega) [gTp,hpre]
          have h2:=hmid.seq hap (fun a a' _ _ hq=>hq) (by omega) (by omega)
          have h3:=hload.seq h2 (fun a a' _ _ hq=>hq) (by omega) (by omega)
          exact h3
      · rw [if_neg he] at hvT htN ⊢
        have hap:=aApp_ok (X:=X) (nul:=decide (0≤h.null)) (k:=k) (x:=v) (t:=t+4) (lo:=v+1) (tr:=tr) (v:=u) hX happ hpv (by omega) (by omega) (by omega) (by omega) (by omega) (by omega) (by omega)
        exact hload.seq hap (fun a a' _ _ hq=>hq) (by omega) (by omega)
  | .list T E size of,S,p,h,v,t,bk,b,o,tr,hok,hS,hnull,hH,hb,hp,hp1,hlv,hlf,hv2,hvT,ht,htN=>by
    have hnul:h.isNull X.ver tr=(decide (0≤h.null) && tr.null):=by
      rcases hnull with e | e
      · simp [Hd.isNull,show ¬ (0≤h.null) by omega]
      · simp [Hd.isNull,e,Bool.and_comm]
    have hwf:wField X.ver X.flex h (.list T E size of) tr=wTy X.ver X.flex (.list T E size of) (decide (0≤h.null) && tr.null) tr:=by simp only [wField,hnul]
    rw [hwf]
    simp only [nV] at hvT
    simp only [aVT] at htN
    unfold okVal at hok
    simp only [Bool.and_eq_true,Bool.not_eq_true',beq_iff_eq] at hok
    obtain ⟨⟨⟨⟨⟨he,hTT⟩,hT1⟩,hsl⟩,hlen⟩,hel⟩:=hok
    rw [if_neg (by simp [he])] at hvT
    simp only [HTy] at hH
    obtain ⟨base,cap,hc,hH⟩:=hH
    have hload:=aLoad_ok (X:=X) (S:=S) (p:=p) (f:=h.idx) (T:=h.typ) (v:=v) (t:=t) (off:=h.off) (b:=b) (o:=o) (lo:=v) hX (Nat.le_refl _) hlv hlf (by omega) (by omega) ht (by omega) hS (by rw [hTT];exact hT1) hb hc
    unfold aVal
    generalize hnl:(decide (0≤h.null) && tr.null)=nl at hc hH hload ⊢
    have hisn:(decide (0≤h.null) && base.isNone)=nl∧(if nl=true then 0 else tr.l.length)≤most:=by
      cases nl with
      | true =>
        simp only [if_true] at hH ⊢
        simp only [Bool.and_eq_true] at hnl
        exact ⟨by simp [hH];simpa using hnl.1,Nat.zero_le _⟩
      | false =>
        simp only [Bool.false_eq_true,if_false] at hH ⊢
        refine ⟨?_,hH.1⟩
        by_cases hz:decide (0≤h.null)=true
        · have:=hH.2.1 hz
          cases base <;> simp_all
        · simp only [Bool.not_eq_true] at hz
          rw [hz];rfl
    have hlenOk:=aLen_ok (X:=X) (nul:=decide (0≤h.null)) (T:=T) (E:=E) (n:=size) (v:=v) (t:=t+4) (lo:=v+1) (cnt:=if nl=true then 0 else tr.l.length) (cap:=cap) (base:=base) hX (by omega) (by omega) (by omega) (by omega) (by omega) (by omega) (by omega) hsl hlen hisn.2
    rw [hisn.1] at hlenOk
    have hlen2:AFragP X (aLen X.I X.c (decide (0≤h.null)) T v (t+4)) (fun a=>getT a v=.slice base (if nl=true then 0 else tr.l.length) cap) (fun a=>getT a v=.slice base (if nl=true then 0 else tr.l.length) cap) v (t+4) (counted X.flex nl (if nl=true then 0 else tr.l.length) 4) :=
      (hlenOk.keep (stable_slot (by omega) (by omega))).mono (fun _ h=>h) (fun _ h=>h.1) (by omega) (Nat.le_refl _)
    have hloop:AFrag X (aLoop T v (t+4+aLenT X.c (decide (0≤h.null))) bk (aET X.c of) (aElem X.I X.c T E v (v+1) (v+2) (t+4+aLenT X.c (decide (0≤h.null))+5) (bk+2) of) X.I.tInt)
        (fun a=>getT a v=.slice base (if nl=true then 0 else tr.l.length) cap) v (t+4+aLenT X.c (decide (0≤h.null))) ((if nl=true then [] else tr.l).flatMap (fun x=>wTy X.ver X.flex of false x)):=by
      have hnV:1≤nV of:=by cases of <;> simp [nV] <;> omega
      rw [← getElem?_map_flatten]
      have hcnt:(if nl=true then 0 else tr.l.length)=((if nl=true then [] else tr.l).map (fun x=>wTy X.ver X.flex of false x)).length:=by split <;> simp
      rw [hcnt]
      refine aLoop_ok (X:=X) (lo:=v) hX (Nat.le_refl _) (by omega) (by omega) hlv hlf (by omega) (by omega) hsl (by rw [← hcnt];exact hisn.2) ?_
      intro i out hout
      rw [← hcnt]
      simp only [List.getElem?_map,Option.map_eq_some_iff] at hout
      obtain ⟨x,hx,rfl⟩:=hout
      cases nl with
      | true=>simp at hx
      | false =>
        simp only [Bool.false_eq_true,if_false] at hx hH ⊢
        obtain ⟨-,-,hH⟩:=hH
        have hlt:i < tr.l.length:=(List.getElem?_eq_some_iff.1 hx).1
        rcases hH with ⟨rfl,hnil⟩ | ⟨b',o',rfl,hF,hels⟩
        · rw [hnil] at hlt
          exact absurd hlt (Nat.not_lt_zero _)
        · have hE:=aElem_ok hX of T E size v (v+1) (v+2) (t+4+aLenT X.c (decide (0≤h.null))+5) (bk+2) b' o' cap tr.l.length i x hel hsl (hels i x hx) hF hlt (by omega) (by omega) (by omega) (by omega) (by omega) (by omega) (by omega) (by omega) (by omega) (by omega)
          rw [seqs_cons (aElem_ne _ _ _ _ _ _ _ _ _ _)]
          have hreg:AFragP X (.reg [mv (t+4+aLenT X.c (decide (0≤h.null))+4) (t+4+aLenT X.c (decide (0≤h.null))+2),asg (v+1) (t+4+aLenT X.c (decide (0≤h.null))+4)])
              (fun a=>getT a v=.slice (some ⟨b',o',none⟩) tr.l.length cap∧getT a (t+4+aLenT X.c (decide (0≤h.null))+2)=.int .i64 (i:Int))
              (fun a=>getT a v=.slice (some ⟨b',o',none⟩) tr.l.length cap∧getT a (v+1)=.int .i64 (i:Int)) (v+1) (t+4+aLenT X.c (decide (0≤h.null))+4) []:=by
            refine AFragP.quiet hX (by omega) (by omega) ?_
            intro a w xs K hi hpre hK
            have hsz:=hi.size
            refine ops_mv (ops_asg (oNi ?_))
            refine hK _ (by simp [sPu]) (by simp [dPu]) ?_ ?_ ⟨?_,?_⟩
            · intro s hs1 hs2
              simp (disch:=omega) [gTn]
            · simp (disch:=omega) [gTn]
            · simp (disch:=omega) [gTn]
              exact hpre.1
            · simp (disch:=(try simp only [sPu]);omega) [gTp]
              exact hpre.2
          exact hreg.seq hE (fun a a' _ _ hq=>hq) (by omega) (by omega)
    have hout:wTy X.ver X.flex (.list T E size of) nl tr=counted X.flex nl (if nl=true then 0 else tr.l.length) 4 ++ (if nl=true then [] else tr.l).flatMap (fun x=>wTy X.ver X.flex of false x):=by
      simp only [wTy]
      cases nl with
      | true=>simp
      | false =>
        simp only [Bool.false_eq_true,if_false] at hH ⊢
        rw [List.take_of_length_le hH.1]
    rw [hout]
    have h2:=hlen2.seq hloop (fun a a' _ _ hq=>hq) (Nat.le_refl _) (by omega)
    exact hload.seq h2 (fun a a' _ _ hq=>hq) (Nat.le_refl _) (by omega)
  | .struct S' sz df tags fs,S,p,h,v,t,bk,b,o,tr,hok,hS,hnull,hH,hb,hp,hp1,hlv,hlf,hv2,hvT,ht,htN=>by
    have hnul:h.isNull X.ver tr=(decide (0≤h.null) && tr.null):=by
      rcases hnull with e | e
      · simp [Hd.isNull,show ¬ (0≤h.null) by omega]
      · simp [Hd.isNull,e,Bool.and_comm]
    simp only [nV] at hvT
    simp only [aVT] at htN
    unfold okVal at hok
    simp only [Bool.and_eq_true,Bool.not_eq_true',Bool.or_eq_true,decide_eq_true_eq] at hok
    obtain ⟨⟨⟨he,hn⟩,htag⟩,hfs⟩:=hok
    rw [if_neg (by simp [he])] at hvT
    unfold aVal
    simp only [HTy] at hH
    by_cases hz:0≤h.null
    · rw [if_pos hz] at htN ⊢
      rw [if_pos (by simpa using hz)] at hH
      rcases hn with hn | ⟨⟨hT1,hpt⟩,hu8⟩
      · omega
      have hwf:wField X.ver X.flex h (.struct S' sz df tags fs) tr=if tr.null then [255] else [1] ++ (wFs X.ver X.flex fs tr.l ++ wTags X.flex tr.u):=by
        have hd:h.isNull X.ver tr=tr.null:=by rw [hnul];simp [hz]
        simp only [wField,hz,if_true,hd,wTy,List.cons_append,List.nil_append]
      rw [hwf]
      by_cases hnl:tr.null=true
      · rw [if_pos hnl] at hH ⊢
        have hload:=aLoad_ok (X:=X) (S:=S) (p:=p) (f:=h.idx) (T:=h.typ) (v:=v) (t:=t) (off:=h.off) (b:=b) (o:=o) (lo:=v) hX (Nat.le_refl _) hlv hlf (by omega) (by omega) ht (by omega) hS hT1 hb hH
        have hby:=aByte_ok (X:=X) (n:=255) (t:=t+6) (lo:=v) (u:=255) hX rfl (by omega) hlv hlf (by omega) (by omega) hu8
        have hrest:AFrag X (.seq (.reg [mv (t+4) v,bin .eql (t+5) h.typ (t+4) (.const (.pointer none))])
            (.cond (.tmp (t+5)) (aByte X.I 255 (t+6)) (seqs (aByte X.I 1 (t+9) :: (aFs X.I X.c S' v (v+1) (t+12) bk fs ++ aTagsL X.I X.c S' v tags (t+12+aFT X.c fs))))))
            (fun a=>getT a v=.pointer none) v (t+4) [255]:=by
          intro a w xs Q hi hp hlen hQ
          have hsz:=hi.size
          have h1:=hX.oneT
          refine SC.wp_seq (SC.wp_reg (ops_mv (oNo rfl (opw_eqlnil_ptr hpt (q:=none) (by rw [eTm,gTp (by omega)];exact hp) (oNi ?_)))))
          refine SC.wp_cond (t:=true) (by simp (disch:=(try simp only [sPu]);omega) [eTm,gTp]) ?_
          rw [if_pos rfl]
          have hS2:Same X a ((a.put (some (t+4)) (getT a v)).put (some (t+5)) (.bool (Option.isNone (none:Option Addr)))) v (t+4):=by
            intro s hs1 hs2
            simp (disch:=omega) [gTn]
          refine hby _ w xs _ ?_ trivial hlen fun a' w' h1 h2 h3=>hQ a' w' h1 (hS2.trans h2 (Nat.le_refl _) (by omega)) h3
          refine hi.step hX (by simp [sPu]) (by simp [dPu]) hS2 hlv hlf ?_ (Below.refl _ _) hi.heap
          simp (disch:=omega) [gTn]
          exact hi.own
        exact hload.seq hrest (fun a a' _ _ hq=>hq) (Nat.le_refl _) (by omega)
      · rw [if_neg hnl] at hH ⊢
        obtain ⟨b',o',hc,hF,hHf,hHt⟩:=hH
        have hload:=aLoad_ok (X:=X) (S:=S) (p:=p) (f:=h.idx) (T:=h.typ) (v:=v) (t:=t) (off:=h.off) (b:=b) (o:=o) (lo:=v) hX (Nat.le_refl _) hlv hlf (by omega) (by omega) ht (by omega) hS hT1 hb hc
        have hby:=(aByte_ok (X:=X) (n:=1) (t:=t+9) (lo:=v+1) (u:=1) hX rfl (by omega) (by omega) (by omega) (by omega) (by omega) hu8).mono (pre':=fun a=>getT a v=.pointer (some ⟨b',o',none⟩)) (fun _ _=>trivial) (fun _ h=>h) (Nat.le_refl _) (Nat.le_refl _)
        have hA:=aFs_ok hX fs S' v (v+1) (t+12) bk b' o' tr.l hfs hHf hF (by omega) (by omega) (by omega) (by omega) (by omega) (by omega) (by omega) (by omega)
        have hTg:=aTagsL_ok (X:=X) (S:=S') (p:=v) (t:=t+12+aFT X.c fs) (b:=b') (o:=o') (lo:=v+1) (u:=tr.u) hX (by omega) (by omega) (by omega) (by omega) (by omega) (by omega) (by omega) hF htag hHt
        have hL:=((AList.cons hby ((hA.append (hTg.mono (Nat.le_refl _) (by omega))).mono (Nat.le_refl _) (by omega))).frag (stable_slot (by omega) (by omega)))
        have hrest:AFrag X (.seq (.reg [mv (t+4) v,bin .eql (t+5) h.typ (t+4) (.const (.pointer none))])
            (.cond (.tmp (t+5)) (aByte X.I 255 (t+6)) (seqs (aByte X.I 1 (t+9) :: (aFs X.I X.c S' v (v+1) (t+12) bk fs ++ aTagsL X.I X.c S' v tags (t+12+aFT X.c fs))))))
            (fun a=>getT a v=.pointer (some ⟨b',o',none⟩)) v (t+4) ([1] ++ (wFs X.ver X.flex fs tr.l ++ wTags X.flex tr.u)):=by
          intro a w xs Q hi hp hlen hQ
          have hsz:=hi.size
          have h1:=hX.oneT
          refine SC.wp_seq (SC.wp_reg (ops_mv (oNo rfl (opw_eqlnil_ptr hpt (q:=some ⟨b',o',none⟩) (by rw [eTm,gTp (by omega)];exact hp) (oNi ?_)))))
          refine SC.wp_cond (t:=false) (by simp (disch:=(try simp only [sPu]);omega) [eTm,gTp]) ?_
          rw [if_neg (by simp)]
          have hS2:Same X a ((a.put (some (t+4)) (getT a v)).put (some (t+5)) (.bool (Option.isNone (some (⟨b',o',none⟩:Addr))))) (v+1) (t+4):=by
            intro s hs1 hs2
            simp (disch:=omega) [gTn]
          refine hL _ w xs _ ?_ ((hS2 v (by omega) (by omega)).trans hp) hlen fun a' w' h1 h2 h3=>hQ a' w' h1 ((hS2.trans h2 (Nat.le_refl _) (by omega)).mono (by omega) (Nat.le_refl _)) h3
          refine hi.step hX (by simp [sPu]) (by simp [dPu]) hS2 (by omega) (by omega) ?_ (Below.refl _ _) hi.heap
          simp (disch:=omega) [gTn]
          exact hi.own
        exact hload.seq hrest (fun a a' _ _ hq=>hq) (Nat.le_refl _) (by omega)
    · rw [if_neg hz] at htN ⊢
      rw [if_neg (by simpa using hz)] at hH
      obtain ⟨hHf,hHt⟩:=hH
      have hwf:wField X.ver X.flex h (.struct S' sz df tags fs) tr=[] ++ (wFs X.ver X.flex fs tr.l ++ wTags X.flex tr.u):=by
        simp only [wField,hz,if_false,wTy,List.nil_append]
      rw [hwf]
      have hA:=aFs_ok hX fs S' v (v+1) (t+3) bk b (o+h.off) tr.l hfs hHf hb (by omega) (by omega) (by omega) (by omega) (by omega) (by omega) (by omega) (by omega)
      have hTg:=aTagsL_ok (X:=X) (S:=S') (p:=v) (t:=t+3+aFT X.c fs) (b:=b) (o:=o+h.off) (lo:=v+1) (u:=tr.u) hX (by omega) (by omega) (by omega) (by omega) (by omega) (by omega) (by omega) hb htag hHt
      have hreg:AFragP X (.reg [mv t p,nilc (t+1) t,fa (t+2) S (t+1) h.idx,asg v (t+2)]) (fun a=>getT a p=.pointer (some ⟨b,o,none⟩)) (fun a=>getT a v=.pointer (some ⟨b,o+h.off,none⟩)) v t []:=by
        refine AFragP.quiet hX hlv hlf ?_
        intro a w xs K hi hpre hK
        have hsz:=hi.size
        refine ops_mv (ops_nilc (ad:=⟨b,o,none⟩) (by rw [gTp (by omega)];exact hpre) (ops_fa hS (b:=b) (o:=o) (by rw [gTp (by simp only [sPu];omega)]) (ops_asg (oNi ?_))))
        refine hK _ (by simp [sPu]) (by simp [dPu]) ?_ ?_ ?_
        · intro s hs1 hs2
          simp (disch:=omega) [gTn]
        · simp (disch:=omega) [gTn]
        · simp (disch:=(try simp only [sPu]);omega) [gTp]
      exact AList.behind hreg (hA.append (hTg.mono (Nat.le_refl _) (by omega))) (stable_slot (by omega) (by omega)) (fun a a' _ _ hq=>hq) (by omega) (by omega)
theorem aElem_ok (hX:X.ok):∀ (ty:Ty) (T E size s i v t bk b o cap cnt idx:Nat) (tr:Tree),okElem X.P X.I X.c X.tU8 E size ty=true→sliceB X.P T E size=true →
    HTy X.G X.w0 (· < X.B) X.ver X.flex ty false b (o+idx * size) tr→b < X.B→idx < cnt→s < v→i < v→s ≠ 1→i ≠ 1→X.c.ver < v→X.c.flex < v→2≤v→v+nV ty≤X.T0→X.T0≤t→t+aET X.c ty≤X.N →
    AFrag X (seqs (aElem X.I X.c T E s i v t bk ty)) (fun a=>getT a s=.slice (some ⟨b,o,none⟩) cnt cap∧getT a i=.int .i64 (idx:Int)) v t (wTy X.ver X.flex ty false tr)
  | .prim k,T,E,size,s,i,v,t,bk,b,o,cap,cnt,idx,tr,hok,hsl,hH,hb,hidx,hsv,hiv,hs1,hi1,hlv,hlf,hv2,hvT,ht,htN=>by
    unfold okElem at hok
    simp only [Bool.and_eq_true,bne_iff_ne,ne_eq,beq_iff_eq] at hok
    obtain ⟨⟨⟨hk,hsz1⟩,hT1⟩,happ⟩:=hok
    subst hsz1
    simp only [HTy,HPrim,if_neg hk] at hH
    obtain ⟨u,hc,hpv⟩:=hH
    simp only [nV] at hvT
    simp only [aET] at htN
    simp only [aElem,if_neg hk,seqs,wTy]
    have hreg:AFragP X (.reg [mv t s,mv (t+1) i,⟨some (t+2),.indexAddr T (.tmp t) (.tmp (t+1)),none⟩,ld (t+3) E (t+2),asg v (t+3)]) (fun a=>getT a s=.slice (some ⟨b,o,none⟩) cnt cap∧getT a i=.int .i64 (idx:Int)) (fun a=>getT a v=u) v t []:=by
      refine AFragP.quiet hX hlv hlf ?_
      intro a w xs K hi hpre hK
      have hsz:=hi.size
      refine ops_mv (ops_mv (oNo rfl (opw_index hsl (b:=b) (o:=o) (len:=cnt) (cap:=cap) (j:=idx) (k:=.i64) ?_ ?_ hidx (ops_ld hT1 (ad:=⟨b,o+idx * 1,none⟩) (v:=u) ?_ ?_ (ops_asg (oNi ?_))))))
      · simp (disch:=(try simp only [sPu]);omega) [eTm,gTp,gTn]
        exact hpre.1
      · simp (disch:=(try simp only [sPu]);omega) [eTm,gTp,gTn]
        exact hpre.2
      · rw [gTp (by simp only [sPu];omega)]
      · rw [hi.below.cell hb]
        exact hc
      refine hK _ (by simp [sPu]) (by simp [dPu]) ?_ ?_ ?_
      · intro q hq1 hq2
        simp (disch:=omega) [gTn]
      · simp (disch:=omega) [gTn]
      · simp (disch:=(try simp only [sPu]);omega) [gTp]
    have hap:=aApp_ok (X:=X) (nul:=false) (k:=k) (x:=v) (t:=t+4) (lo:=v+1) (tr:=tr) (v:=u) hX happ hpv (by omega) (by omega) (by omega) (by omega) (by omega) (by omega) (by omega)
    exact hreg.seq hap (fun a a' _ _ hq=>hq) (by omega) (by omega)
  | .list _ _ _ _,T,E,size,s,i,v,t,bk,b,o,cap,cnt,idx,tr,hok,hsl,hH,hb,hidx,hsv,hiv,hs1,hi1,hlv,hlf,hv2,hvT,ht,htN=>by
    simp [okElem] at hok
  | .struct S sz df tags fs,T,E,size,s,i,v,t,bk,b,o,cap,cnt,idx,tr,hok,hsl,hH,hb,hidx,hsv,hiv,hs1,hi1,hlv,hlf,hv2,hvT,ht,htN=>by
    unfold okElem at hok
    simp only [Bool.and_eq_true,beq_iff_eq] at hok
    obtain ⟨⟨⟨hSE,hsz1⟩,htag⟩,hfs⟩:=hok
    simp only [HTy,Bool.false_eq_true,if_false] at hH
    obtain ⟨hHf,hHt⟩:=hH
    simp only [nV] at hvT
    simp only [aET] at htN
    simp only [aElem,wTy]
    have hreg:AFragP X (.reg [mv t s,mv (t+1) i,⟨some (t+2),.indexAddr T (.tmp t) (.tmp (t+1)),none⟩,asg v (t+2)]) (fun a=>getT a s=.slice (some ⟨b,o,none⟩) cnt cap∧getT a i=.int .i64 (idx:Int)) (fun a=>getT a v=.pointer (some ⟨b,o+idx * size,none⟩)) v t []:=by
      refine AFragP.quiet hX hlv hlf ?_
      intro a w xs K hi hpre hK
      have hsz:=hi.size
      refine ops_mv (ops_mv (oNo rfl (opw_index hsl (b:=b) (o:=o) (len:=cnt) (cap:=cap) (j:=idx) (k:=.i64) ?_ ?_ hidx (ops_asg (oNi ?_)))))
      · simp (disch:=(try simp only [sPu]);omega) [eTm,gTp,gTn]
        exact hpre.1
      · simp (disch:=(try simp only [sPu]);omega) [eTm,gTp,gTn]
        exact hpre.2
      refine hK _ (by simp [sPu]) (by simp [dPu]) ?_ ?_ ?_
      · intro q hq1 hq2
        simp (disch:=omega) [gTn]
      · simp (disch:=omega) [gTn]
      · simp (disch:=(try simp only [sPu]);omega) [gTp]
    have hA:=aFs_ok hX fs S v (v+1) (t+3) bk b (o+idx * size) tr.l hfs hHf hb (by omega) (by omega) (by omega) (by omega) (by omega) (by omega) (by omega) (by omega)
    have hTg:=aTagsL_ok (X:=X) (S:=S) (p:=v) (t:=t+3+aFT X.c fs) (b:=b) (o:=o+idx * size) (lo:=v+1) (u:=tr.u) hX (by omega) (by omega) (by omega) (by omega) (by omega) (by omega) (by omega) hb htag hHt
    have:=AList.behind hreg (hA.append (hTg.mono (Nat.le_refl _) (by omega))) (stable_slot (by omega) (by omega)) (fun a a' _ _ hq=>hq) (by omega) (by omega)
    simpa using this
theorem aFs_ok (hX:X.ok):∀ (fs:Fs) (S p v t bk b o:Nat) (ts:List Tree),okFs X.P X.I X.c X.tU8 S fs=true→HFs X.G X.w0 (· < X.B) X.ver X.flex fs b o ts→b < X.B→p < v→p ≠ 1→X.c.ver < v→X.c.flex < v→2≤v →
    v+nVs fs≤X.T0→X.T0≤t→t+aFT X.c fs≤X.N→AList X (fun a=>getT a p=.pointer (some ⟨b,o,none⟩)) v t (aFs X.I X.c S p v t bk fs) (wFs X.ver X.flex fs ts)
  | .nil,S,p,v,t,bk,b,o,ts,hok,hH,hb,hp,hp1,hlv,hlf,hv2,hvT,ht,htN=>by
    simp only [aFs,wFs]
    exact .nil
  | .cons h ty r,S,p,v,t,bk,b,o,ts,hok,hH,hb,hp,hp1,hlv,hlf,hv2,hvT,ht,htN=>by
    unfold okFs at hok
    simp only [Bool.and_eq_true,Bool.or_eq_true,decide_eq_true_eq] at hok
    obtain ⟨⟨⟨hS,hnull⟩,hval⟩,hrest⟩:=hok
    simp only [HFs] at hH
    simp only [nVs] at hvT
    simp only [aFT] at htN
    rw [wFs_cons]
    unfold aFs
    refine .cons ?_ ?_
    · refine vCond_ok hX (by omega) hlv hlf ht (by omega) (stable_slot hp hp1) (fun hh=>?_)
      have hfrom:h.from_≤X.ver:=by
        simp only [Hd.has,Bool.and_eq_true,decide_eq_true_eq] at hh
        exact hh.1
      exact (aVal_ok hX ty S p h v (t+vTmps h) bk b o (ts.headD Tree.zero) hval hS (hnull.imp id fun e=>Int.le_trans e hfrom) (hH.1 hh) hb hp hp1 hlv hlf hv2 (by omega) (by omega) (by omega)).mono (fun _ h=>h) (fun _ h=>h) (Nat.le_refl _) (Nat.le_refl _)
    · exact (aFs_ok hX r S p (v+nV ty+(if h.enum then 1 else 0)) (t+vTmps h+aVT X.c h ty) (bk+nB ty) b o ts.tail hrest hH.2 hb (by omega) hp1 (by omega) (by omega) (by omega) (by omega) (by omega) (by omega)).mono (by omega) (by omega)
end
end
end Go.Proofs.Ytgaplicnofhliaa.K
namespace Go.Proofs.Ytgaplicnofhliaa.K
open Go Go.RowKit Go.Proofs.Ytgaplicnofhliaa.T
set_option linter.unusedVariables false
set_option linter.unusedSimpArgs false
attribute [local simp] eTm eCo pNo gTp gTn qv qcall vop iop
section
variable {X:Fix}
theorem AList.wp_append {pre:Act→Prop} {lo t:Nat} {l rest:List SC} {o:Bytes} {Q:Exit→Act→World→Prop} (hne:rest ≠ []) (h:AList X pre lo t l o) (hst:∀ a a',Same X a a' lo t→pre a→pre a') :
    ∀ (a:Act) (w:World) (xs:Bytes),AInv X a w xs→pre a→xs.length+o.length≤lim→(∀ a' w',AInv X a' w' (xs ++ o)→Same X a a' lo t→(seqs rest).wp X.P Q a' w')→(seqs (l ++ rest)).wp X.P Q a w:=by
  induction h with
  | nil =>
    intro a w xs hi hp hlen hQ
    exact hQ a w (by simpa using hi) (Same.refl _ _ _ _)
  | cons h1 _ ih =>
    intro a w xs hi hp hlen hQ
    rw [List.cons_append,seqs_cons (by simp [hne])]
    rw [List.length_append] at hlen
    refine SC.wp_seq (h1 a w xs _ hi hp (by omega) ?_)
    intro a' w' hi' hs' _
    refine ih a' w' _ hi' (hst _ _ hs' hp) (by rw [List.length_append];omega) ?_
    intro a2 w2 hi2 hs2
    exact hQ a2 w2 (by rw [← List.append_assoc];exact hi2) (hs'.trans hs2 (Nat.le_refl _) (Nat.le_refl _))
theorem top_mid {S b o:Nat} {tags:Option (Nat × Nat)} {fs:Fs} {v t:Nat} {ts:List Tree} {u:List (Nat × Bytes)} {Q:Exit→Act→World→Prop} {a:Act} {w:World} (hX:X.ok) (hvT:v+nVs fs≤X.T0) (ht:X.T0≤t) (htN:t+aFT X.c fs+tagsT tags+1≤X.N)
    (hlv:X.c.ver < v) (hlf:X.c.flex < v) (hv:5 < v) (hb:b < X.B) (htags:okTags X.P X.I X.c S tags=true) (hfs:okFs X.P X.I X.c X.tU8 S fs=true)
    (hH:HFs X.G X.w0 (· < X.B) X.ver X.flex fs b o ts) (hT:TagsAt X.G X.w0 (· < X.B) X.flex b o tags u) (hi:AInv X a w []) (hp:getT a 0=.pointer (some ⟨b,o,none⟩))
    (hlim:(wFs X.ver X.flex fs ts ++ wTags X.flex u).length≤lim)
    (hQ:∀ a' w' dv,a'.defers=[]→getT a' 4=dv→Own X.tU8 w' X.B dv (wFs X.ver X.flex fs ts ++ wTags X.flex u)→Below X.B X.w0 w'→Q .ret a' w') :
    (seqs ((aFs X.I X.c S 0 v t 0 fs ++ aTagsL X.I X.c S 0 tags (t+aFT X.c fs)) ++ [.reg [mv (t+aFT X.c fs+tagsT tags) 1,asg 4 (t+aFT X.c fs+tagsT tags)],.ret])).wp X.P Q a w:=by
  have h1:=hX.oneT
  have hA:=aFs_ok hX fs S 0 v t 0 b o ts hfs hH hb (by omega) (by omega) hlv hlf (by omega) hvT ht (by omega)
  have hTg:=aTagsL_ok (X:=X) (S:=S) (p:=0) (t:=t+aFT X.c fs) (b:=b) (o:=o) (lo:=v) (u:=u) hX (by omega) hlv hlf (by omega) (by omega) (by omega) (by omega) hb htags hT
  refine (hA.append (hTg.mono (Nat.le_refl _) (by omega))).wp_append (by simp) (stable_slot (by omega) (by omega)) a w [] hi hp (by simpa using hlim) ?_
  intro a' w' hi' _
  have hsz:=hi'.size
  rw [List.nil_append] at hi'
  refine SC.wp_seq (SC.wp_reg (ops_mv (ops_asg (oNi ?_))))
  refine SC.wp_ret (hQ _ _ (getT a' 1) (by simp [dPu,hi'.defers]) ?_ hi'.own hi'.below)
  rw [gTp (by simp only [sPu];omega),gTp (by omega)]
end
def flexAt (flex:Option Int) (ver:Int):Bool:=match flex with | none=>false | some n=>decide (n≤ver)
def okTop (P:Program) (I:Ids) (tU8 S t N:Nat) (flex:Option Int) (tags:Option (Nat × Nat)) (fs:Fs):Bool :=
  decide (v0Of flex+nVs fs≤t) && decide (t1Of t flex+aFT (ctxOf flex) fs+tagsT tags+1≤N) && fieldB P S 0 0 && oneB P I.tI16 && okTags P I (ctxOf flex) S tags && okFs P I (ctxOf flex) tU8 S fs
theorem appendTo_calls {P:Program} {I:Ids} {tU8:Nat} {G:List (Nat × Bytes)→Prop} {f S t:Nat} {fn:Func} {flex:Option Int} {tags:Option (Nat × Nat)} {fs:Fs} (hka:KA G P I tU8)
    (hf:P.funcs[f]?=some fn) (hb:fn.body.map strip=some (aTop I S t flex tags fs)) (hr:fn.results=#[.tmp 4]) (hok:okTop P I tU8 S t fn.ntmps flex tags fs=true)
    (w:World) (b o:Nat) (ver:Int) (ts:List Tree) (u:List (Nat × Bytes)) (hbB:b < w.heap.size) (hver:w.cell? ⟨b,o,none⟩=some (.int .i16 ver)) (hv0:0≤ver)
    (hH:HFs G w (· < w.heap.size) ver (flexAt flex ver) fs b o ts) (hT:TagsAt G w (· < w.heap.size) (flexAt flex ver) b o tags u)
    (hlim:(wFs ver (flexAt flex ver) fs ts ++ wTags (flexAt flex ver) u).length≤lim) :
    Calls P f #[.pointer (some ⟨b,o,none⟩),.slice none 0 0] w fun e w'=>∃ dv,e=.returned dv∧Own tU8 w' w.heap.size dv (wFs ver (flexAt flex ver) fs ts ++ wTags (flexAt flex ver) u)∧Below w.heap.size w w':=by
  unfold okTop at hok
  simp only [Bool.and_eq_true,decide_eq_true_eq] at hok
  obtain ⟨⟨⟨⟨⟨h1,h2⟩,h3⟩,h4⟩,h5⟩,h6⟩:=hok
  obtain ⟨c,hc,hs⟩:∃ c,fn.body=some c∧strip c=aTop I S t flex tags fs:=by
    cases hc:fn.body with
    | none=>simp [hc] at hb
    | some c=>exact ⟨c,rfl,by simpa [hc] using hb⟩
  refine calls_of_wp hf hc ?_
  generalize hR:bodyPost P fn _=Q
  suffices h:(aTop I S t flex tags fs).wp P Q { tmps:=#[.pointer (some ⟨b,o,none⟩),.slice none 0 0] ++ Array.replicate (fn.ntmps - 2) undef,defers:=[] } w from h c hs
  have hQ:∀ a w' dv,a.defers=[]→getT a 4=dv→Own tU8 w' w.heap.size dv (wFs ver (flexAt flex ver) fs ts ++ wTags (flexAt flex ver) u)→Below w.heap.size w w'→Q .ret a w':=by
    intro a w' dv hd h4 ho hbl
    subst hR
    exact bodyPost_ret (results_tmp hr _ _ _) hd ⟨_,rfl,by rw [← h4] at ho;exact ho,hbl⟩
  clear hR hs hc hb hf hr
  have hown0:Own tU8 w w.heap.size (.slice none 0 0) []:=World.ownsRow_nil _ _ _ _
  have ht5:6≤t∧t+6≤fn.ntmps:=by cases flex <;> simp [v0Of,t1Of] at h1 h2 <;> omega
  generalize ha0:({ tmps:=#[.pointer (some ⟨b,o,none⟩),.slice none 0 0] ++ Array.replicate (fn.ntmps - 2) undef,defers:=[] }:Act)=a0
  have h00:getT a0 0=.pointer (some ⟨b,o,none⟩):=by rw [← ha0];simp [getT,Array.getD]
  have h01:getT a0 1=.slice none 0 0:=by
    rw [← ha0]
    simp only [getT,Array.getD_eq_getD_getElem?]
    rw [Array.getElem?_append_left (by simp)]
    rfl
  have hd0:a0.defers=[]:=by rw [← ha0]
  have hs0:a0.tmps.size=fn.ntmps:=by rw [← ha0];simp;omega
  clear ha0
  have fin:∀ a1:Act,a1.tmps.size=fn.ntmps→a1.defers=[]→getT a1 0=.pointer (some ⟨b,o,none⟩)→getT a1 1=.slice none 0 0→getT a1 5=.int .i16 ver →
      (seqs (flexPart I t flex ++ ((aFs I (ctxOf flex) S 0 (v0Of flex) (t1Of t flex) 0 fs ++ aTagsL I (ctxOf flex) S 0 tags (t1Of t flex+aFT (ctxOf flex) fs)) ++
        [.reg [mv (t1Of t flex+aFT (ctxOf flex) fs+tagsT tags) 1,asg 4 (t1Of t flex+aFT (ctxOf flex) fs+tagsT tags)],.ret]))).wp P Q a1 w:=by
    intro a1 hs1 hd1 h10 h11 h15
    cases flex with
    | none =>
      simp only [v0Of,t1Of,ctxOf,flexAt,flexPart,List.nil_append] at *
      let X:Fix:=⟨P,I,tU8,G,⟨5,5,true⟩,w,w.heap.size,ver,false,t,fn.ntmps⟩
      have hX:X.ok:=⟨hka,(by omega:(5:Nat) ≠ 1),(by omega:(5:Nat) ≠ 1),(by omega:5 < t),(by omega:5 < t),(by omega:1 < t),fun _=>rfl,Nat.le_refl _,hv0⟩
      exact top_mid (X:=X) hX h1 (by show t≤t+5;omega) h2 (by show 5 < 6;omega) (by show 5 < 6;omega) (by omega) hbB h5 h6 hH hT
        ⟨hs1,hd1,h15,(by intro h;cases h),(by rw [h11];exact hown0),Below.refl _ _,Nat.le_refl _⟩ h10 hlim hQ
    | some n =>
      simp only [v0Of,t1Of,ctxOf,flexAt,flexPart] at *
      rw [List.cons_append,seqs_cons (by simp)]
      refine SC.wp_seq (SC.wp_reg (ops_mv (oNo rfl (opw_cmp (op:=.geq) (k:=.i16) (m:=ver) (n:=n) (r:=decide (n≤ver)) ?_ rfl (by simp) (ops_asg (oNi ?_))))))
      · rw [eTm,gTp (by omega)]
        exact h15
      rw [List.cons_append,List.nil_append,seqs_cons (by simp)]
      refine SC.wp_seq (SC.wp_reg (ops_mv (oNi ?_)))
      let X:Fix:=⟨P,I,tU8,G,⟨5,6,false⟩,w,w.heap.size,ver,decide (n≤ver),t,fn.ntmps⟩
      have hX:X.ok:=⟨hka,(by omega:(5:Nat) ≠ 1),(by omega:(6:Nat) ≠ 1),(by omega:5 < t),(by omega:6 < t),(by omega:1 < t),(fun h=>by cases h),Nat.le_refl _,hv0⟩
      refine top_mid (X:=X) hX h1 (by show t≤t+8;omega) h2 (by show 5 < 7;omega) (by show 6 < 7;omega) (by omega) hbB h5 h6 hH hT
        ⟨?_,?_,?_,?_,?_,Below.refl _ _,Nat.le_refl _⟩ ?_ hlim hQ
      · simp [sPu,hs1];rfl
      · simp [dPu,hd1]
      · show getT _ 5=_
        simp (disch:=omega) [gTn]
        exact h15
      · intro _
        show getT _ 6=_
        simp (disch:=(try simp only [sPu]);omega) [gTp,gTn]
        rfl
      · simp (disch:=omega) [gTn]
        rw [h11];exact hown0
      · simp (disch:=omega) [gTn]
        exact h10
  obtain ⟨rest,hrest⟩:∃ rest,rest=(flexPart I t flex ++ ((aFs I (ctxOf flex) S 0 (v0Of flex) (t1Of t flex) 0 fs ++ aTagsL I (ctxOf flex) S 0 tags (t1Of t flex+aFT (ctxOf flex) fs)) ++
        [.reg [mv (t1Of t flex+aFT (ctxOf flex) fs+tagsT tags) 1,asg 4 (t1Of t flex+aFT (ctxOf flex) fs+tagsT tags)],.ret])):=⟨_,rfl⟩
  have htop:aTop I S t flex tags fs=seqs (.reg [⟨some 4,.assign (.const (.slice none 0 0)),none⟩] :: aLoad S 0 0 I.tI16 5 t :: .reg [mv (t+4) 5] :: rest):=by rw [hrest];rfl
  have hne:rest ≠ []:=by rw [hrest];simp
  rw [← hrest] at fin
  clear hrest
  rw [htop,seqs_cons (by simp)]
  refine SC.wp_seq (SC.wp_reg (oNo rfl (opw_assign (oNi ?_))))
  rw [eCo,seqs_cons (by simp)]
  refine SC.wp_seq (SC.wp_reg (ops_mv (ops_nilc (ad:=⟨b,o,none⟩) ?_ (ops_fa h3 (b:=b) (o:=o) (by rw [gTp (by simp only [sPu];omega)]) ?_))))
  · rw [gTp (by simp only [sPu];omega),gTn (by omega)]
    exact h00
  refine ops_ld h4 (ad:=⟨b,o+0,none⟩) (v:=.int .i16 ver) (by rw [gTp (by simp only [sPu];omega)]) (by rw [Nat.add_zero];exact hver) (ops_asg (oNi ?_))
  rw [seqs_cons hne]
  refine SC.wp_seq (SC.wp_reg (ops_mv (oNi ?_)))
  refine fin _ (by simp [sPu,hs0]) (by simp [dPu,hd0]) ?_ ?_ ?_
  · simp (disch:=omega) [gTn,h00]
  · simp (disch:=omega) [gTn,h01]
  · simp (disch:=(try simp only [sPu]);omega) [gTp,gTn]
end Go.Proofs.Ytgaplicnofhliaa.K
namespace Go.Proofs.Ytgaplicnofhliaa.K
open Go Go.RowKit Go.Proofs.Ytgaplicnofhliaa.T
attribute [local simp] eTm eCo pNo gTp gTn qv qcall vop iop
set_option linter.unusedSimpArgs false
set_option linter.unusedVariables false
def sc_AppendNullableBytes (T0 F0 F1:Nat):SC:=.seq (.reg [⟨some 4,.assign (.const (.slice none 0 0)),none⟩]) (.seq (.seq (.reg [mv 5 1,⟨some 6,.binOp .eql T0 (.tmp 5) (.const (.slice none 0 0)) T0,none⟩]) (.cond (.tmp 6) (.seq (.reg [mv 7 0,⟨some 8,.call ⟨.value (.func F0),#[(.tmp 7),(.const (.int .i32 (-1)))],#[]⟩,none⟩,asg 4 8]) (.ret)) (.skip))) (.seq (.reg [mv 9 0,mv 10 1,cal 11 F1 [9,10],asg 4 11]) (.ret)))
section
variable {P:Program} {tU8:Nat}
theorem appendNullBytes0_ok {f F0 F1 : FuncId} {fn : Func} {T0 E n : Nat} (hf : P.funcs[f]? = some fn) (hb : fn.body.map strip = some (sc_AppendNullableBytes T0 F0 F1)) (hnm : (fn.name == "runtime.NumGoroutine") = false) (hn : fn.ntmps = 12) (hr : fn.results = #[.tmp 4]) (hT : sliceB P T0 E n = true)
    (hg:AP P tU8 F0 #[.int .i32 (-1)] (fun _ _=>True) (fixed (-1) 4)) (cap:Nat):AP P tU8 f #[.slice none 0 cap] (fun _ _=>True) (counted false true 0 4):=by
  refine AP_of hf hb hnm hn (by simp) fun w B dv xs a0 ho hB hl _ hs hd hh0 ha=>?_
  have hx0:=ha 0 (.slice none 0 cap) rfl
  simp only [Nat.zero_add] at hx0
  refine SC.wp_seq (SC.wp_reg ?_)
  repeat (apply ops_1;(focus (simp (disch:=(try simp only [sPu]);omega) ;try rfl)))
  refine oNi (SC.wp_seq (SC.wp_seq (SC.wp_reg ?_)))
  iterate 1 (apply ops_1;(focus (simp (disch:=(try simp only [sPu]);omega) [hx0];try rfl)))
  refine oNo rfl (opw_eqlnil_slice (base:=none) (len:=0) (cap:=cap) hT (by simp (disch:=(try simp only [sPu]);omega) [hx0]) (oNi ?_))
  simp only [Exit.then]
  refine SC.wp_cond (t:=true) (by simp (disch:=(try simp only [sPu]);omega)) ?_
  rw [if_pos rfl]
  refine SC.wp_seq (SC.wp_reg ?_)
  iterate 1 (apply ops_1;(focus (simp (disch:=(try simp only [sPu]);omega) [hh0];try rfl)))
  obtain ⟨⟨fn',g1,g2,g3⟩,hg'⟩:=hg
  have hl':xs.length+(fixed (-1) 4).length≤lim:=by simpa [counted] using hl
  refine oNo rfl (opw_call g1 g2 g3 (Eq.mp (congrArg (fun z=>Calls P F0 z w _) ?_) (hg' w B dv xs ho hB hl' trivial)) ?_)
  · simp (disch:=(try simp only [sPu]);omega) [hh0]
  rintro e w' ⟨dv',rfl,q1,q2,q3⟩
  refine ⟨_,rfl,?_⟩
  repeat (apply ops_1;(focus (simp (disch:=(try simp only [sPu]);omega) ;try rfl)))
  refine oNi (SC.wp_ret ?_)
  try simp only [Exit.then]
  refine ret_tmp hr (by simp [dPu,hd]) ⟨dv',?_,by simpa [counted] using q1,q2,q3⟩
  simp (disch:=(try simp only [sPu]);omega)
theorem appendNullBytes_ok {f F0 F1 : FuncId} {fn : Func} {T0 E n : Nat} (hf : P.funcs[f]? = some fn) (hb : fn.body.map strip = some (sc_AppendNullableBytes T0 F0 F1)) (hnm : (fn.name == "runtime.NumGoroutine") = false) (hn : fn.ntmps = 12) (hr : fn.results = #[.tmp 4]) (hT : sliceB P T0 E n = true)
    {base:Option Addr} {cap:Nat} {bs:Bytes} (hg:AP P tU8 F1 #[.slice base bs.length cap] (fun w B=>BytesAt w (· < B) base bs) (counted false false bs.length 4 ++ bs)) (hne:base ≠ none):AP P tU8 f #[.slice base bs.length cap] (fun w B=>BytesAt w (· < B) base bs) (counted false false bs.length 4 ++ bs):=by
  refine AP_of hf hb hnm hn (by simp) fun w B dv xs a0 ho hB hl hpre hs hd hh0 ha=>?_
  have hx0:=ha 0 (.slice base bs.length cap) rfl
  simp only [Nat.zero_add] at hx0
  have hno:base.isNone=false:=by cases base <;> simp_all
  refine SC.wp_seq (SC.wp_reg ?_)
  repeat (apply ops_1;(focus (simp (disch:=(try simp only [sPu]);omega) ;try rfl)))
  refine oNi (SC.wp_seq (SC.wp_seq (SC.wp_reg ?_)))
  iterate 1 (apply ops_1;(focus (simp (disch:=(try simp only [sPu]);omega) [hx0];try rfl)))
  refine oNo rfl (opw_eqlnil_slice (base:=base) (len:=bs.length) (cap:=cap) hT (by simp (disch:=(try simp only [sPu]);omega) [hx0]) (oNi ?_))
  simp only [Exit.then]
  refine SC.wp_cond (t:=false) (by simp (disch:=(try simp only [sPu]);omega) [hno]) ?_
  rw [if_neg (by simp)]
  refine SC.wp_skip ?_
  simp only [Exit.then]
  refine SC.wp_seq (SC.wp_reg ?_)
  iterate 2 (apply ops_1;(focus (simp (disch:=(try simp only [sPu]);omega) [hh0,hx0];try rfl)))
  obtain ⟨⟨fn',g1,g2,g3⟩,hg'⟩:=hg
  refine oNo rfl (opw_call g1 g2 g3 (Eq.mp (congrArg (fun z=>Calls P F1 z w _) ?_) (hg' w B dv xs ho hB hl hpre)) ?_)
  · simp (disch:=(try simp only [sPu]);omega) [hh0,hx0]
  rintro e w' ⟨dv',rfl,q1,q2,q3⟩
  refine ⟨_,rfl,?_⟩
  repeat (apply ops_1;(focus (simp (disch:=(try simp only [sPu]);omega) ;try rfl)))
  refine oNi (SC.wp_ret ?_)
  try simp only [Exit.then]
  refine ret_tmp hr (by simp [dPu,hd]) ⟨dv',?_,q1,q2,q3⟩
  simp (disch:=(try simp only [sPu]);omega)
end
end Go.Proofs.Ytgaplicnofhliaa.K
namespace Go.Proofs.Ytgaplicnofhliaa.K
open Go Go.RowKit Go.Proofs.Ytgaplicnofhliaa.T
attribute [local simp] eTm eCo pNo gTp gTn qv qcall vop iop
set_option linter.unusedSimpArgs false
set_option linter.unusedVariables false
set_option maxHeartbeats 4000000
def sc_NewPtr (T fDef:Nat):SC:=.seq (.reg [⟨some 0,.assign (.const (.pointer none)),none⟩]) (.seq (.reg [⟨some 1,.alloc T,none⟩]) (.seq (.reg [cal 2 fDef [1]]) (.seq (.reg [asg 0 1]) .ret)))
def sc_MaxV (n:Int):SC:=.seq (.reg [⟨some 2,.assign (.const (.int .i16 0)),none⟩]) (.seq (.reg [⟨some 2,.assign (.const (.int .i16 n)),none⟩]) .ret)
def sc_SetV (T T16:Nat):SC:=.reg [mv 4 0,mv 5 1,nilc 6 4,fa 7 T 6 0,⟨none,.store T16 (.tmp 7) (.tmp 5),none⟩]
def sc_Max (fNP fMV T16 TI:Nat):SC:=.seq (.reg [⟨some 0,.assign (.const (.int .i64 0)),none⟩]) (.seq (.reg [cal 1 fNP [],cal 2 fMV [1],⟨some 3,.convert T16 TI (.tmp 2),none⟩,asg 0 3]) .ret)
def sc_New (fNP fSV fAT TI T16:Nat):SC:=.seq (.reg [⟨some 2,.assign (.const (.slice none 0 0)),none⟩]) (.seq (.reg [cal 4 fNP [],asg 3 4]) (.seq (.reg [mv 5 3,mv 6 0,⟨some 7,.convert TI T16 (.tmp 6),none⟩,cal 8 fSV [5,7]]) (.seq (.reg [mv 9 3,⟨some 10,.call ⟨.value (.func fAT),#[.tmp 9,.const (.slice none 0 0)],#[]⟩,none⟩,asg 2 10]) .ret)))
section
variable {P:Program} {X:STy} {f:FuncId} {fn:Func}
def DefFn (P:Program) (f T:Nat) (cs0 cs:Array Value):Prop :=
  FnOK P f∧∀ (w:World) (b:Nat),w.heap[b]?=some (.cells cs0 T (0,0))→Calls P f #[.pointer (some ⟨b,0,none⟩)] w fun e w'=>e=.returned (.tuple #[])∧w'=w.setRow b cs
theorem newPtr_ok {T fDef:Nat} {cs0 cs:Array Value} (hT:∃ i z,P.info? T=some i∧i.zero=some z∧z.cells=cs0) (hD:DefFn P fDef T cs0 cs) (hf:P.funcs[f]?=some fn) (hb:fn.body.map strip=some (sc_NewPtr T fDef)) (hn:fn.ntmps=3) (hr:fn.results=#[.tmp 0]) (w:World) :
    Calls P f #[] w fun e w'=>∃ b,e=.returned (.pointer (some ⟨b,0,none⟩))∧w.heap.size≤b∧w'.heap[b]?=some (.cells cs T (0,0))∧Below w.heap.size w w':=by
  obtain ⟨i,z,hi,hz,rfl⟩:=hT
  refine fCa hf hb hn (by simp) fun a0 hs hd ha=>?_
  refine SC.wp_seq (SC.wp_reg ?_)
  repeat (apply ops_1;(focus (simp (disch:=(try simp only [sPu]);omega) ;try rfl)))
  refine oNi (SC.wp_seq (SC.wp_reg (oNo rfl (opw_alloc hi hz (oNi ?_)))))
  have hnew:=heap_alloc_new w (.cells z.cells T)
  have hbn:Below w.heap.size w (w.alloc (.cells z.cells T)):=(Below.refl _ _).alloc (Nat.le_refl _) _
  generalize w.alloc (.cells z.cells T)=w1 at *
  simp only [Exit.then]
  refine SC.wp_seq (SC.wp_reg (ops_cal hD.1 (R:=fun e w'=>e=.returned (.tuple #[])∧w'=w1.setRow w.heap.size cs) ?_ ?_))
  · refine Eq.mp (congrArg (fun z=>Calls P fDef z w1 _) ?_) (hD.2 w1 w.heap.size hnew)
    simp (disch:=(try simp only [sPu]);omega)
  rintro e w2 ⟨rfl,rfl⟩
  refine ⟨_,rfl,oNi ?_⟩
  simp only [Exit.then]
  refine SC.wp_seq (SC.wp_reg ?_)
  repeat (apply ops_1;(focus (simp (disch:=(try simp only [sPu]);omega) ;try rfl)))
  refine oNi (SC.wp_ret (ret_tmp hr (by simp [dPu,hd]) ⟨w.heap.size,?_,Nat.le_refl _,setRow_heap w1 _ _ cs _ _ hnew,below_setRow hbn (Nat.le_refl _) _⟩))
  simp (disch:=(try simp only [sPu]);omega)
theorem maxV_ok {n:Int} (hf:P.funcs[f]?=some fn) (hb:fn.body.map strip=some (sc_MaxV n)) (hn:fn.ntmps=3) (hr:fn.results=#[.tmp 2]) (w:World) (v:Value) :
    Calls P f #[v] w fun e w'=>e=.returned (.int .i16 n)∧w'=w:=by
  refine fCa hf hb hn (by simp) fun a0 hs hd ha=>?_
  refine SC.wp_seq (SC.wp_reg ?_)
  repeat (apply ops_1;(focus (simp (disch:=(try simp only [sPu]);omega) ;try rfl)))
  refine oNi (SC.wp_seq (SC.wp_reg ?_))
  repeat (apply ops_1;(focus (simp (disch:=(try simp only [sPu]);omega) ;try rfl)))
  refine oNi (SC.wp_ret (ret_tmp hr (by simp [dPu,hd]) ⟨?_,rfl⟩))
  simp (disch:=(try simp only [sPu]);omega)
theorem max_ok {fNP fMV T16 TI T:Nat} {n:Nat} {cs:Array Value} (h16:intK P T16=some .i16) (hI:intK P TI=some .i64) (hn16:n < 32768) (oNP:FnOK P fNP) (cNP:∀ w:World,Calls P fNP #[] w fun e w'=>∃ b,e=.returned (.pointer (some ⟨b,0,none⟩))∧w.heap.size≤b∧w'.heap[b]?=some (.cells cs T (0,0))∧Below w.heap.size w w')
    (oMV:FnOK P fMV) (cMV:∀ (w:World) (v:Value),Calls P fMV #[v] w fun e w'=>e=.returned (.int .i16 (n:Int))∧w'=w)
    (hf:P.funcs[f]?=some fn) (hb:fn.body.map strip=some (sc_Max fNP fMV T16 TI)) (hn:fn.ntmps=4) (hr:fn.results=#[.tmp 0]) (w:World) :
    Calls P f #[] w fun e w'=>e=.returned (.int .i64 (n:Int))∧Below w.heap.size w w':=by
  refine fCa hf hb hn (by simp) fun a0 hs hd ha=>?_
  have ew:IntKind.i64.wrap (n:Int)=(n:Int):=by rw [wrap_i64'];split <;> omega
  refine SC.wp_seq (SC.wp_reg ?_)
  repeat (apply ops_1;(focus (simp (disch:=(try simp only [sPu]);omega) ;try rfl)))
  refine oNi (SC.wp_seq (SC.wp_reg (ops_cal oNP (cNP w) ?_)))
  rintro e w1 ⟨b,rfl,hb,hc,hbw⟩
  refine ⟨_,rfl,ops_cal oMV (R:=fun e w'=>e=.returned (.int .i16 (n:Int))∧w'=w1) ?_ ?_⟩
  · refine Eq.mp (congrArg (fun z=>Calls P fMV z w1 _) ?_) (cMV w1 (.pointer (some ⟨b,0,none⟩)))
    simp (disch:=(try simp only [sPu]);omega)
  rintro e w2 ⟨rfl,rfl⟩
  refine ⟨_,rfl,?_⟩
  repeat (apply ops_1;(focus (simp (disch:=(try simp only [sPu]);omega) [h16,hI,ew];try rfl)))
  refine oNi (SC.wp_ret (ret_tmp hr (by simp [dPu,hd]) ⟨?_,hbw⟩))
  simp (disch:=(try simp only [sPu]);omega)
theorem setV_ok {T T16:Nat} (h0:fieldOff P T 0=some 0) (h1:oneB P T16=true) (hf:P.funcs[f]?=some fn) (hb:fn.body.map strip=some (sc_SetV T T16)) (hn:fn.ntmps=8) (hr:fn.results=#[]) (w:World) (b:Nat) (cs:Array Value) (E:TypeId) (hc:w.heap[b]?=some (.cells cs E (0,0))) (hcs:0 < cs.size) (n:Int) :
    Calls P f #[.pointer (some ⟨b,0,none⟩),.int .i16 n] w fun e w'=>e=.returned (.tuple #[])∧w'=w.setRow b (cs.setIfInBounds 0 (.int .i16 n)):=by
  refine fCa hf hb hn (by simp) fun a0 hs hd ha=>?_
  have k0:=ha 0 _ rfl
  have k1:=ha 1 _ rfl
  simp only [List.getElem_toArray,List.getElem_cons_zero,List.getElem_cons_succ] at k0 k1
  refine SC.wp_reg ?_
  iterate 4 (apply ops_1;(focus (simp (disch:=(try simp only [sPu]);omega) [k0,k1,h0];try rfl)))
  refine oNo rfl (opw_store_one (ad:=⟨b,0,none⟩) (v:=.int .i16 n) (v0:=cs[0]) h1 (by simp (disch:=(try simp only [sPu]);omega)) (by simp (disch:=(try simp only [sPu]);omega)) rfl (by rw [cell_of_row _ _ _ _ _ _ hc];exact Array.getElem?_eq_getElem hcs) (by simp [World.frozen?,hc]) (oNi ?_))
  refine ⟨by simp [dPu,pNo,hd],.tuple #[],by simp [results,hr],rfl,setCell_eq_setRow _ _ _ _ _ _ _ hc⟩
theorem new_ok {fNP fSV fAT TI T16 T tU8:Nat} {cs:Array Value} {out:Int→Bytes} (h16:intK P T16=some .i16) (hI:intK P TI=some .i64) (oNP:FnOK P fNP) (cNP:∀ w:World,Calls P fNP #[] w fun e w'=>∃ b,e=.returned (.pointer (some ⟨b,0,none⟩))∧w.heap.size≤b∧w'.heap[b]?=some (.cells cs T (0,0))∧Below w.heap.size w w')
    (oSV:FnOK P fSV) (cSV:∀ (w:World) (b:Nat),w.heap[b]?=some (.cells cs T (0,0))→∀ n:Int,Calls P fSV #[.pointer (some ⟨b,0,none⟩),.int .i16 n] w fun e w'=>e=.returned (.tuple #[])∧w'=w.setRow b (cs.setIfInBounds 0 (.int .i16 n)))
    (oAT:FnOK P fAT) (cAT:∀ (w:World) (b:Nat) (n:Int),w.heap[b]?=some (.cells (cs.setIfInBounds 0 (.int .i16 n)) T (0,0))→0≤n→n < 32768→Calls P fAT #[.pointer (some ⟨b,0,none⟩),.slice none 0 0] w fun e w'=>∃ dv,e=.returned dv∧Own tU8 w' w.heap.size dv (out n)∧Below w.heap.size w w')
    (hf:P.funcs[f]?=some fn) (hb:fn.body.map strip=some (sc_New fNP fSV fAT TI T16)) (hn:fn.ntmps=11) (hr:fn.results=#[.tmp 2]) (w:World) (ver:Nat) (hv:ver < 32768) :
    Calls P f #[.int .i64 (ver:Int)] w (RetOwn tU8 w (out ver)):=by
  refine fCa hf hb hn (by simp) fun a0 hs hd ha=>?_
  have k0:=ha 0 _ rfl
  simp only [List.getElem_toArray,List.getElem_cons_zero,List.getElem_cons_succ] at k0
  have ew:IntKind.i16.wrap (ver:Int)=(ver:Int):=by rw [wrap_i16'];split <;> omega
  refine SC.wp_seq (SC.wp_reg ?_)
  repeat (apply ops_1;(focus (simp (disch:=(try simp only [sPu]);omega) ;try rfl)))
  refine oNi (SC.wp_seq (SC.wp_reg (ops_cal oNP (cNP w) ?_)))
  rintro e w1 ⟨b,rfl,hb,hc,hbw⟩
  refine ⟨_,rfl,?_⟩
  have hsw:w.heap.size≤w1.heap.size:=hbw.size
  repeat (apply ops_1;(focus (simp (disch:=(try simp only [sPu]);omega) ;try rfl)))
  refine oNi ?_
  simp only [Exit.then]
  refine SC.wp_seq (SC.wp_reg ?_)
  iterate 3 (apply ops_1;(focus (simp (disch:=(try simp only [sPu]);omega) [h16,hI,k0,ew];try rfl)))
  refine ops_cal oSV (R:=fun e w'=>e=.returned (.tuple #[])∧w'=w1.setRow b (cs.setIfInBounds 0 (.int .i16 (ver:Int)))) ?_ ?_
  · refine Eq.mp (congrArg (fun z=>Calls P fSV z w1 _) ?_) (cSV w1 b hc (ver:Int))
    simp (disch:=(try simp only [sPu]);omega)
  rintro e w2 ⟨rfl,rfl⟩
  refine ⟨_,rfl,oNi ?_⟩
  have hc2:=setRow_heap w1 b _ (cs.setIfInBounds 0 (.int .i16 (ver:Int))) _ _ hc
  have hb2:Below w.heap.size w (w1.setRow b (cs.setIfInBounds 0 (.int .i16 (ver:Int)))):=below_setRow hbw hb _
  have hs2:(w1.setRow b (cs.setIfInBounds 0 (.int .i16 (ver:Int)))).heap.size=w1.heap.size:=by simp
  generalize w1.setRow b (cs.setIfInBounds 0 (.int .i16 (ver:Int)))=w3 at *
  simp only [Exit.then]
  refine SC.wp_seq (SC.wp_reg ?_)
  iterate 1 (apply ops_1;(focus (simp (disch:=(try simp only [sPu]);omega) ;try rfl)))
  refine ops_call oAT (cAT w3 b ver hc2 (by omega) (by omega)) (by simp (disch:=(try simp only [sPu]);omega)) ?_
  rintro e w4 ⟨dv,rfl,ho,hb4⟩
  refine ⟨dv,rfl,?_⟩
  repeat (apply ops_1;(focus (simp (disch:=(try simp only [sPu]);omega) ;try rfl)))
  refine oNi (SC.wp_ret (ret_tmp hr (by simp [dPu,hd]) ⟨dv,?_,own_down ho (by omega),hb2.trans (hb4.mono (by omega))⟩))
  simp (disch:=(try simp only [sPu]);omega)
def sc_LawNew (fMax fSp fVer fNew fDef fWr fSame TI M Fs_:Nat):SC:=.seq (.reg [⟨some 2,.assign (.const (.bool false)),none⟩]) (.seq (.reg [cal 5 fMax [],asg 3 5]) (.seq (.seq (.reg [mv 6 3,⟨some 7,.binOp .lss TI (.tmp 6) (.const (.int .i64 0)) TI,none⟩]) (.cond (.tmp 7) (.seq (.reg [⟨some 2,.assign (.const (.bool false)),none⟩]) .ret) .skip)) (.seq (.reg [cal 8 fSp [],⟨some 4,.alloc M,none⟩,⟨none,.store M (.tmp 4) (.tmp 8),none⟩]) (.seq (.dreg [mv 9 0,mv 10 3,cal 11 fVer [9,10],cal 12 fNew [11],ld 13 M 4,mv 14 0,mv 15 3,cal 16 fVer [14,15],fa 17 M 4 0,ld 18 Fs_ 17,cal 19 fDef [18],cal 20 fWr [13,16,19],cal 21 fSame [12,20],asg 2 21] [[],[],[0,1],[2,2],[],[],[],[5,6,3],[],[8],[9,7],[4,7,10,10],[3,11,11],[12,12,0,1,2,3,4,5,6,7,8,9,10,11,12]]) .ret))))
end
end Go.Proofs.Ytgaplicnofhliaa.K
namespace Go.Proofs.Ytgaplicnofhliaa.K
open Go Go.RowKit Go.Proofs.Ytgaplicnofhliaa.T
set_option linter.unusedSimpArgs false
set_option linter.unusedVariables false
structure DSt where
  at_:List (Nat × Nat)
  out:List (Nat × Value)
def DSt.look (s:DSt) (t:Nat):Option Nat:=(s.at_.find? fun x=>x.1 == t).map (·.2)
def DSt.put (s:DSt) (t x:Nat):DSt:=⟨(t,x) :: s.at_,s.out⟩
def dOp (P:Program) (N n:Nat) (s:DSt):SOp→Option DSt
  | ⟨some t,.move (.tmp x),none⟩=>if t < N then (s.look x).map (s.put t) else none
  | ⟨some t,.assign (.tmp x),none⟩=>if t < N then (s.look x).map (s.put t) else none
  | ⟨some t,.nilCheck (.tmp x),none⟩=>if t < N then (s.look x).map (s.put t) else none
  | ⟨some t,.fieldAddr S (.tmp x) f,none⟩=>if t < N then (s.look x).bind fun o=>(fieldOff P S f).map fun off=>s.put t (o+off) else none
  | ⟨none,.store T (.tmp x) (.const v),none⟩=>if oneB P T && v.oneCell' then (s.look x).bind fun o=>if o < n then some ⟨s.at_,s.out ++ [(o,v)]⟩ else none else none
  | _=>none
def dOps (P:Program) (N n:Nat):DSt→List SOp→Option DSt
  | s,[]=>some s
  | s,o :: r=>(dOp P N n s o).bind fun s'=>dOps P N n s' r
def dRun (P:Program) (N n:Nat):DSt→SC→Option DSt
  | s,.skip=>some s
  | s,.reg l=>dOps P N n s l
  | s,.seq a b=>(dRun P N n s a).bind fun s'=>dRun P N n s' b
  | _,_=>none
def dSetAll (o:Nat):List (Nat × Value)→Array Value→Array Value
  | [],cs=>cs
  | x :: r,cs=>dSetAll o r (cs.setIfInBounds (o+x.1) x.2)
theorem dSetAll_append (o:Nat):∀ (l r:List (Nat × Value)) (cs:Array Value),dSetAll o (l ++ r) cs=dSetAll o r (dSetAll o l cs)
  | [],_,_=>rfl
  | x :: l,r,cs=>dSetAll_append o l r _
theorem dSetAll_size (o:Nat):∀ (l:List (Nat × Value)) (cs:Array Value),(dSetAll o l cs).size=cs.size
  | [],_=>rfl
  | x :: l,cs=>by simp [dSetAll,dSetAll_size o l]
structure DInv (N:Nat) (w0:World) (b o:Nat) (cs:Array Value) (T:TypeId) (s:DSt) (a:Act) (w:World):Prop where
  size:a.tmps.size=N
  defers:a.defers=[]
  slots:∀ t x,s.look t=some x→getT a t=.pointer (some ⟨b,o+x,none⟩)
  world:w=w0.setRow b (dSetAll o s.out cs)
  row:w.heap[b]?=some (.cells (dSetAll o s.out cs) T (0,0))
theorem dPut {N:Nat} {w0 w:World} {b o x t:Nat} {cs:Array Value} {T:TypeId} {s:DSt} {a:Act} {v:Value} (h:DInv N w0 b o cs T s a w) (ht:t < N) (hv:v=.pointer (some ⟨b,o+x,none⟩)):DInv N w0 b o cs T (s.put t x) (a.put (some t) v) w:=by
  subst hv
  refine ⟨by rw [sPu];exact h.size,by rw [dPu];exact h.defers,fun t' x' hx=>?_,h.world,h.row⟩
  have hsz:=h.size
  simp only [DSt.put,DSt.look,List.find?_cons] at hx
  by_cases e:t=t'
  · subst e
    simp at hx
    subst hx
    rw [gTp (by omega)]
  · rw [gTn (Ne.symm e)]
    have:(t == t')=false:=by simpa using e
    simp only [this] at hx
    exact h.slots t' x' hx
theorem dOps_ok {P:Program} {N n:Nat} {w0:World} {b o:Nat} {cs:Array Value} {T:TypeId} (hn:o+n≤cs.size) {all:List SOp} {K:Act→World→Prop} {s':DSt} (hK:∀ a w,DInv N w0 b o cs T s' a w→K a w) :
    ∀ (l:List SOp) (s:DSt) (a:Act) (w:World),dOps P N n s l=some s'→DInv N w0 b o cs T s a w→opsw P all l K a w
  | [],s,a,w,h,hi=>by
    simp only [dOps,Option.some.injEq] at h
    subst h
    exact hK a w hi
  | op :: r,s,a,w,h,hi=>by
    simp only [dOps] at h
    obtain ⟨s1,h1,h2⟩:=Option.bind_eq_some_iff.1 h
    have ih:=fun a w=>dOps_ok hn (all:=all) hK r s1 a w h2
    unfold dOp at h1
    split at h1 <;> try (simp at h1;done)
    · rename_i t x
      split at h1 <;> try (simp at h1;done)
      rename_i ht
      obtain ⟨y,hy,rfl⟩:=Option.map_eq_some_iff.1 h1
      have hs:=hi.slots _ _ hy
      exact oNo rfl (opw_move (ih _ _ (dPut hi ht (by rw [eTm];exact hs))))
    · rename_i t x
      split at h1 <;> try (simp at h1;done)
      rename_i ht
      obtain ⟨y,hy,rfl⟩:=Option.map_eq_some_iff.1 h1
      have hs:=hi.slots _ _ hy
      exact oNo rfl (opw_assign (ih _ _ (dPut hi ht (by rw [eTm];exact hs))))
    · rename_i t x
      split at h1 <;> try (simp at h1;done)
      rename_i ht
      obtain ⟨y,hy,rfl⟩:=Option.map_eq_some_iff.1 h1
      have hs:=hi.slots _ _ hy
      exact oNo rfl (opw_nilCheck (by rw [eTm];exact hs) (ih _ _ (dPut hi ht rfl)))
    · rename_i t S x f
      split at h1 <;> try (simp at h1;done)
      rename_i ht
      obtain ⟨y,hy,h1⟩:=Option.bind_eq_some_iff.1 h1
      obtain ⟨off,hoff,rfl⟩:=Option.map_eq_some_iff.1 h1
      have hs:=hi.slots _ _ hy
      exact oNo rfl (opw_field (fieldB_of hoff) (by rw [eTm];exact hs) (ih _ _ (dPut hi ht (by rw [Nat.add_assoc]))))
    · rename_i T' x v
      split at h1 <;> try (simp at h1;done)
      rename_i hT
      simp only [Bool.and_eq_true] at hT
      obtain ⟨y,hy,h1⟩:=Option.bind_eq_some_iff.1 h1
      split at h1 <;> try (simp at h1;done)
      rename_i hyn
      simp only [Option.some.injEq] at h1
      subst h1
      have hs:=hi.slots _ _ hy
      have hsz:=dSetAll_size o s.out cs
      have hlt:o+y < (dSetAll o s.out cs).size:=by omega
      refine oNo rfl (opw_store_one (ad:=⟨b,o+y,none⟩) (v:=v) (v0:=(dSetAll o s.out cs)[o+y]) hT.1 (by rw [eTm];exact hs) rfl hT.2 (by rw [cell_of_row _ _ _ _ _ _ hi.row];exact Array.getElem?_eq_getElem hlt) (by simp [World.frozen?,hi.row]) ?_)
      rw [pNo]
      refine ih _ _ ⟨hi.size,hi.defers,hi.slots,?_,?_⟩
      · rw [setCell_eq_setRow _ _ _ _ _ _ _ hi.row,dSetAll_append,hi.world,setRow_setRow]
        rfl
      · rw [setCell_eq_setRow _ _ _ _ _ _ _ hi.row,dSetAll_append]
        exact setRow_heap _ _ _ _ _ _ hi.row
theorem dRun_ok {P:Program} {N n:Nat} {w0:World} {b o:Nat} {cs:Array Value} {T:TypeId} (hn:o+n≤cs.size):∀ (c:SC) (s s':DSt) (a:Act) (w:World) (Q:Exit→Act→World→Prop),dRun P N n s c=some s'→DInv N w0 b o cs T s a w →
    (∀ a w,DInv N w0 b o cs T s' a w→Q .normal a w)→c.wp P Q a w
  | .skip,s,s',a,w,Q,h,hi,hQ=>by
    simp only [dRun,Option.some.injEq] at h
    subst h
    exact SC.wp_skip (hQ a w hi)
  | .reg l,s,s',a,w,Q,h,hi,hQ=>by
    simp only [dRun] at h
    exact SC.wp_reg (dOps_ok hn hQ l s a w h hi)
  | .seq x y,s,s',a,w,Q,h,hi,hQ=>by
    simp only [dRun] at h
    obtain ⟨s1,h1,h2⟩:=Option.bind_eq_some_iff.1 h
    refine SC.wp_seq (dRun_ok hn x s s1 a w _ h1 hi fun a' w' hi'=>?_)
    exact dRun_ok hn y s1 s' a' w' Q h2 hi' hQ
  | .dreg _ _,_,_,_,_,_,h,_,_=>by simp [dRun] at h
  | .cond _ _ _,_,_,_,_,_,h,_,_=>by simp [dRun] at h
  | .block _ _,_,_,_,_,_,h,_,_=>by simp [dRun] at h
  | .loop _,_,_,_,_,_,h,_,_=>by simp [dRun] at h
  | .exit _,_,_,_,_,_,h,_,_=>by simp [dRun] at h
  | .ret,_,_,_,_,_,h,_,_=>by simp [dRun] at h
  | .label _,_,_,_,_,_,h,_,_=>by simp [dRun] at h
  | .goto _,_,_,_,_,_,h,_,_=>by simp [dRun] at h
  | .scope _,_,_,_,_,_,h,_,_=>by simp [dRun] at h
  | .other,_,_,_,_,_,h,_,_=>by simp [dRun] at h
def DefAt (P:Program) (f n:Nat) (out:List (Nat × Value)):Prop :=
  FnOK P f∧∀ (w:World) (b o:Nat) (cs:Array Value) (T:TypeId),w.heap[b]?=some (.cells cs T (0,0))→o+n≤cs.size →
    Calls P f #[.pointer (some ⟨b,o,none⟩)] w fun e w'=>e=.returned (.tuple #[])∧w'=w.setRow b (dSetAll o out cs)
def dOut (P:Program) (N n:Nat) (c:SC):Option (List (Nat × Value)):=(dRun P N n ⟨[(0,0)],[]⟩ c).map (·.out)
theorem defAt_ok {P : Program} {f n N : Nat} {fn : Func} {c : SC} {out : List (Nat × Value)} (hf : P.funcs[f]? = some fn) (hb : fn.body.map strip = some c) (hnm : (fn.name == "runtime.NumGoroutine") = false) (hN : fn.ntmps = N) (h1 : 1 ≤ N) (hr : fn.results = #[])
    (hd:dOut P N n c=some out):DefAt P f n out:=by
  refine ⟨fnOK_of hf hb hnm,fun w b o cs T hc hn=>?_⟩
  obtain ⟨s,hs,rfl⟩:=Option.map_eq_some_iff.1 hd
  refine fCa hf hb hN (by simpa using h1) fun a0 hsz hdf ha=>?_
  have h0:=ha 0 _ rfl
  refine dRun_ok (w0:=w) hn c _ s a0 w _ hs ⟨hsz,hdf,fun t x hx=>?_,?_,hc⟩ fun a w' hi=>?_
  · simp only [DSt.look,List.find?_cons,List.find?_nil] at hx
    by_cases e:0=t
    · subst e
      simp at hx
      subst hx
      simpa using h0
    · have:(0 == t)=false:=by simpa using e
      simp [this] at hx
  · exact (setRow_self _ _ _ _ _ hc).symm
  · refine ⟨hi.defers,.tuple #[],by simp [results,hr],rfl,hi.world⟩
end Go.Proofs.Ytgaplicnofhliaa.K
namespace Go.Proofs.Ytgaplicnofhliaa.T
set_option linter.unusedVariables false
set_option linter.unusedSimpArgs false
abbrev Rd (α:Type):=Bytes→Option (α × Bytes)
def rOk {α:Type} (x:α):Rd α:=fun b=>some (x,b)
def rNo {α:Type}:Rd α:=fun _=>none
def rThen {α β:Type} (p:Rd α) (f:α→Rd β):Rd β:=fun b=>(p b).bind fun x=>f x.1 x.2
def unfix:Bytes→Nat
  | []=>0
  | u :: r=>u.toNat * 256 ^ r.length+unfix r
def sgn (k n:Nat):Int:=if n < 256 ^ k / 2 then (n:Int) else (n:Int) - (256 ^ k:Nat)
def pFix (k:Nat):Rd Nat:=fun b=>if b.length < k then none else some (unfix (b.take k),b.drop k)
def pInt (k:Nat):Rd Int:=rThen (pFix k) fun n=>rOk (sgn k n)
def pSpan (l:Int):Rd Bytes:=fun b=>if (b.length:Int) < l∨l < 0 then none else some (b.take l.toNat,b.drop l.toNat)
def pUvGo:Nat→Nat→Rd Nat
  | _,_,[]=>none
  | 0,m,u :: r=>if u.toNat≤15 then some (u.toNat * m,r) else none
  | k+1,m,u :: r=>if u.toNat < 128 then some (u.toNat * m,r) else (pUvGo k (m * 128) r).map fun x=>(u.toNat % 128 * m+x.1,x.2)
def pUv:Rd Nat:=pUvGo 4 1
def pLen (flex:Bool):Rd Int :=
  rThen (if flex then rThen pUv fun n=>rOk (if n=2147483648 then 2147483647 else (if n < 2147483648 then (n:Int) else (n:Int) - 4294967296) - 1) else pInt 4)
    fun l b=>if (b.length:Int) < l then none else some (l,b)
def tN (n:Int):Tree:=.mk n [] false [] []
def tS (s:Bytes):Tree:=.mk 0 s false [] []
def tNull:Tree:=.mk 0 [] true [] []
def tL (l:List Tree):Tree:=.mk 0 [] false l []
def pCount (flex:Bool) (size:Nat):Rd Int:=if flex then rThen pUv fun n=>rOk ((n:Int) - 1) else pInt size
def pPrim (flex nul:Bool):PK→Rd Tree
  | .bool=>rThen (pFix 1) fun n=>rOk (tN (if n=0 then 0 else 1))
  | .u16=>rThen (pFix 2) fun n=>rOk (tN n)
  | .uuid=>rThen (pSpan 16) fun s=>rOk (tS s)
  | .str=>rThen (pCount flex 2) fun l=>if nul && decide (l < 0) then rOk tNull else rThen (pSpan l) fun s=>rOk (tS s)
  | .bytes=>rThen (pCount flex 4) fun l=>if nul && decide (l < 0) then rOk tNull else if !nul && decide (l=-1) then rOk (tS []) else rThen (pSpan l) fun s=>rOk (tS s)
  | k=>rThen (pInt k.width) fun n=>rOk (tN n)
def pMany {α:Type} (p:Rd α):Nat→Rd (List α)
  | 0=>rOk []
  | n+1=>rThen p fun x=>rThen (pMany p n) fun xs=>rOk (x :: xs)
def setTag (t:Nat × Bytes):List (Nat × Bytes)→List (Nat × Bytes)
  | []=>[t]
  | x :: r=>if x.1 < t.1 then x :: setTag t r else if x.1=t.1 then t :: r else t :: x :: r
def pTagN:Nat→List (Nat × Bytes)→Rd (List (Nat × Bytes))
  | 0,acc=>rOk acc
  | n+1,acc=>rThen pUv fun k=>rThen pUv fun s=>rThen (pSpan s) fun v=>pTagN n (setTag (k,v) acc)
def pTags (flex:Bool):Rd (List (Nat × Bytes)):=if flex then rThen pUv fun n=>pTagN n [] else rOk []
def nulAt (ver:Int) (h:Hd):Ty→Bool
  | .struct _ _ _ _ _=>decide (0≤h.null)
  | _=>decide (0≤h.null) && decide (h.null≤ver)
mutual
def pTy (ver:Int) (flex:Bool):Ty→Bool→Rd Tree
  | .prim k,nul=>pPrim flex nul k
  | .list _ _ _ of,nul=>rThen (pLen flex) fun l=>if nul && decide (l < 0) then rOk tNull else rThen (pMany (pTy ver flex of false) l.toNat) fun xs=>rOk (tL xs)
  | .struct _ _ _ _ fs,nul =>
    rThen (if nul then pInt 1 else rOk 0) fun p=>if nul && decide (p=-1) then rOk tNull else
      rThen (pFs ver flex fs) fun xs=>rThen (pTags flex) fun u=>rOk (.mk 0 [] false xs u)
def pFs (ver:Int) (flex:Bool):Fs→Rd (List Tree)
  | .nil=>rOk []
  | .cons h ty r=>rThen (if h.has ver then pTy ver flex ty (nulAt ver h ty) else rOk Tree.zero) fun x=>rThen (pFs ver flex r) fun xs=>rOk (x :: xs)
end
def Ext {α:Type} (p:Rd α):Prop:=∀ b x r c,p b=some (x,r)→p (b ++ c)=some (x,r ++ c)
section
variable {α β:Type}
theorem rThen_some {p:Rd α} {f:α→Rd β} {b r:Bytes} {y:β} (h:rThen p f b=some (y,r)):∃ x r1,p b=some (x,r1)∧f x r1=some (y,r):=by
  unfold rThen at h
  cases hp:p b with
  | none=>rw [hp] at h;simp at h
  | some z=>rw [hp] at h;exact ⟨z.1,z.2,rfl,h⟩
theorem rThen_of {p:Rd α} {f:α→Rd β} {b r1:Bytes} {x:α} (h:p b=some (x,r1)):rThen p f b=f x r1:=by simp [rThen,h]
theorem Ext.ok (x:α):Ext (rOk x):=fun b y r c h=>by simp only [rOk,Option.some.injEq,Prod.mk.injEq] at h ⊢;obtain ⟨rfl,rfl⟩:=h;simp
theorem Ext.then {p:Rd α} {f:α→Rd β} (hp:Ext p) (hf:∀ x,Ext (f x)):Ext (rThen p f):=by
  intro b y r c h
  obtain ⟨x,r1,h1,h2⟩:=rThen_some h
  rw [rThen_of (hp _ _ _ _ h1)]
  exact hf x _ _ _ _ h2
theorem ext_fix (k:Nat):Ext (pFix k):=by
  intro b x r c h
  unfold pFix at h ⊢
  split at h
  · simp at h
  · rename_i hl
    simp only [Option.some.injEq,Prod.mk.injEq] at h
    obtain ⟨rfl,rfl⟩:=h
    rw [if_neg (by simp;omega),List.take_append_of_le_length (by omega),List.drop_append_of_le_length (by omega)]
theorem ext_int (k:Nat):Ext (pInt k):=(ext_fix k).then fun _=>Ext.ok _
theorem ext_span (l:Int):Ext (pSpan l):=by
  intro b x r c h
  unfold pSpan at h ⊢
  split at h
  · simp at h
  · rename_i hl
    simp only [Option.some.injEq,Prod.mk.injEq] at h
    obtain ⟨rfl,rfl⟩:=h
    rw [if_neg (by simp;omega),List.take_append_of_le_length (by omega),List.drop_append_of_le_length (by omega)]
theorem ext_uvGo:∀ k m,Ext (pUvGo k m)
  | k,m,[],x,r,c,h=>by simp [pUvGo] at h
  | 0,m,u :: b,x,r,c,h=>by
    simp only [pUvGo,List.cons_append] at h ⊢
    split at h
    · rename_i hu
      simp only [Option.some.injEq,Prod.mk.injEq] at h
      rw [if_pos hu,h.1,h.2]
    · simp at h
  | k+1,m,u :: b,x,r,c,h=>by
    simp only [pUvGo,List.cons_append] at h ⊢
    split at h
    · rename_i hu
      simp only [Option.some.injEq,Prod.mk.injEq] at h
      rw [if_pos hu,h.1,h.2]
    · rename_i hu
      rw [if_neg hu]
      cases hp:pUvGo k (m * 128) b with
      | none=>rw [hp] at h;simp at h
      | some z =>
        rw [hp] at h
        rw [ext_uvGo k (m * 128) b z.1 z.2 c hp]
        simp at h ⊢
        exact ⟨h.1,by rw [h.2]⟩
theorem ext_uv:Ext pUv:=ext_uvGo 4 1
theorem ext_len (flex:Bool):Ext (pLen flex):=by
  unfold pLen
  refine Ext.then ?_ ?_
  · cases flex
    · exact ext_int 4
    · rw [if_pos rfl]
      exact ext_uv.then fun _=>Ext.ok _
  · intro l b x r c h
    simp only at h ⊢
    split at h
    · simp at h
    · rename_i hl
      simp only [Option.some.injEq,Prod.mk.injEq] at h
      obtain ⟨rfl,rfl⟩:=h
      rw [if_neg (by simp;omega)]
theorem ext_count (flex:Bool) (k:Nat):Ext (pCount flex k):=by
  unfold pCount
  cases flex
  · exact ext_int k
  · rw [if_pos rfl]
    exact ext_uv.then fun _=>Ext.ok _
theorem ext_prim (flex nul:Bool) (k:PK):Ext (pPrim flex nul k):=by
  cases k <;> simp only [pPrim]
  case bool=>exact (ext_fix 1).then fun _=>Ext.ok _
  case u16=>exact (ext_fix 2).then fun _=>Ext.ok _
  case uuid=>exact (ext_span _).then fun _=>Ext.ok _
  case str =>
    refine (ext_count flex 2).then fun l=>?_
    split
    · exact Ext.ok _
    · exact (ext_span _).then fun _=>Ext.ok _
  case bytes =>
    refine (ext_count flex 4).then fun l=>?_
    split
    · exact Ext.ok _
    · split
      · exact Ext.ok _
      · exact (ext_span _).then fun _=>Ext.ok _
  all_goals exact (ext_int _).then fun _=>Ext.ok _
theorem ext_many {p:Rd α} (hp:Ext p):∀ n,Ext (pMany p n)
  | 0=>Ext.ok _
  | n+1=>hp.then fun _=>(ext_many hp n).then fun _=>Ext.ok _
theorem ext_tagN:∀ n acc,Ext (pTagN n acc)
  | 0,_=>Ext.ok _
  | n+1,_=>ext_uv.then fun _=>ext_uv.then fun _=>(ext_span _).then fun _=>ext_tagN n _
theorem ext_tags (flex:Bool):Ext (pTags flex):=by
  unfold pTags
  cases flex
  · exact Ext.ok _
  · rw [if_pos rfl]
    exact ext_uv.then fun _=>ext_tagN _ _
end
mutual
theorem ext_ty (ver:Int) (flex:Bool):∀ (ty:Ty) (nul:Bool),Ext (pTy ver flex ty nul)
  | .prim k,nul=>by simp only [pTy];exact ext_prim _ _ _
  | .list _ _ _ of,nul=>by
    simp only [pTy]
    refine (ext_len flex).then fun l=>?_
    split
    · exact Ext.ok _
    · exact (ext_many (ext_ty ver flex of false) _).then fun _=>Ext.ok _
  | .struct _ _ _ _ fs,nul=>by
    simp only [pTy]
    refine Ext.then ?_ fun p=>?_
    · cases nul
      · exact Ext.ok _
      · exact ext_int 1
    · split
      · exact Ext.ok _
      · exact (ext_fs ver flex fs).then fun _=>(ext_tags flex).then fun _=>Ext.ok _
theorem ext_fs (ver:Int) (flex:Bool):∀ fs:Fs,Ext (pFs ver flex fs)
  | .nil=>by simp only [pFs];exact Ext.ok _
  | .cons h ty r=>by
    simp only [pFs]
    refine Ext.then ?_ fun x=>(ext_fs ver flex r).then fun _=>Ext.ok _
    split
    · exact ext_ty ver flex ty _
    · exact Ext.ok _
end
theorem Ext.cut {α:Type} {p:Rd α} (h:Ext p) {b:Bytes} {x:α} (hb:p b=some (x,[])) {k:Nat} (hk:k < b.length):p (b.take k)=none:=by
  cases hp:p (b.take k) with
  | none=>rfl
  | some z =>
    have:=h _ z.1 z.2 (b.drop k) hp
    rw [List.take_append_drop,hb] at this
    simp at this
    omega
end Go.Proofs.Ytgaplicnofhliaa.T
