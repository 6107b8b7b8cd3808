/- Generic texts: S11 S12 T2 T3 T4 T6. No condition. -/
import Derived.Test.YtjbbohfaihkolaaN3
namespace Go.Proofs.Ytjbbohfaihkolaa.K
open Go Go.RowKit Go.Proofs.Ytjbbohfaihkolaa.T
attribute [local simp] eTm eCo pNo gTp gTn qv qcall vop iop
set_option linter.unusedSimpArgs false
set_option linter.unusedVariables false
set_option maxHeartbeats 4000000
theorem insTag_length (t:Nat × Bytes):∀ l,(insTag t l).length≤l.length+1
  | []=>by simp [insTag]
  | x :: r=>by
    simp only [insTag]
    have:=insTag_length t r
    split
    · simp;omega
    · split <;> simp
theorem foldl_ins_length:∀ (l acc:List (Nat × Bytes)),(l.foldl (fun acc t=>insTag t acc) acc).length≤l.length+acc.length
  | [],acc=>by simp
  | x :: l,acc=>by
    simp only [List.foldl_cons,List.length_cons]
    have h1:=foldl_ins_length l (insTag x acc)
    have h2:=insTag_length x acc
    omega
theorem unknown_length (u:List (Nat × Bytes)):(unknown u).length≤most:=by
  have h:=foldl_ins_length (u.take most) []
  have h2:(u.take most).length≤most:=by rw [List.length_take];omega
  unfold unknown
  simp only [List.length_nil] at h
  omega
section
variable {G:List (Nat × Bytes)→Prop} {P:Program} {X:STy} {f:FuncId} {fn:Func} {fW fTh fC fWi fF fU fHas fNull fAt fPart fVal fFld fKn fUs fUnk:FuncId}
theorem known_ok (hX:stOK P X=true) (hTF:arrB P X.F 8=true) (hf:P.funcs[f]?=some fn) (hb:fn.body.map strip=some (sc_known X.Fs X.I X.F X.U32)) (hn:fn.ntmps=23) (hr:fn.results=#[.tmp 2]):KnownC P f:=by
  intro w fs fv hfs hlen63
  have hst:=st_facts hX
  obtain ⟨hTF1,iF,zF,hiF,hzF,hzFs⟩:=arr_of hTF
  obtain ⟨fb,fcap,rfl,hfs⟩:=hfs
  refine fCa hf hb hn (by simp) fun a0 hs hd ha=>?_
  have h0:=ha 0 _ rfl
  simp only [List.getElem_toArray,List.getElem_cons_zero,List.getElem_cons_succ] at h0
  refine SC.wp_seq (SC.wp_reg ?_)
  repeat (apply ops_1;(focus (simp (disch:=(try simp only [sPu]);omega) ;try rfl)))
  refine oNi (SC.wp_seq (SC.wp_reg ?_))
  repeat (apply ops_1;(focus (simp (disch:=(try simp only [sPu]);omega) ;try rfl)))
  refine oNi (SC.wp_seq (SC.wp_seq (SC.wp_reg ?_)))
  repeat (apply ops_1;(focus (simp (disch:=(try simp only [sPu]);omega) [hst,h0];try rfl)))
  refine oNi ?_
  simp only [Exit.then]
  refine SC.wp_block (SC.wp_loop (fun a4 w5=>∃ (j:Nat),a4.tmps.size=23∧a4.defers=[]∧getT a4 6=.slice fb (Fs.len fs) fcap∧getT a4 7=.int .i64 (Fs.len fs:Int)∧getT a4 8=.int .i64 (j:Int)∧j≤Fs.len fs∧getT a4 3=.int .u32 0∧Below w.heap.size w w5)
    (fun a4 _=>match getT a4 8 with | .int _ m=>(Fs.len fs - m).toNat | _=>0) ⟨0,by simp [sPu,hs],by simp [dPu,hd],by simp (disch:=(try simp only [sPu]);omega),by simp (disch:=(try simp only [sPu]);omega),by simp (disch:=(try simp only [sPu]);omega),by omega,by simp (disch:=(try simp only [sPu]);omega),Below.refl _ _⟩ ?_)
  rintro a4 w5 ⟨j,q,qd,q6,q7,q8,hj,q3,hb5⟩
  have hsz5:w.heap.size≤w5.heap.size:=hb5.size
  refine SC.wp_seq (SC.wp_reg ?_)
  repeat (apply ops_1;(focus (simp (disch:=(try simp only [sPu]);omega) [hst,q7,q8];try rfl)))
  refine oNi ?_
  simp only [Exit.then]
  refine SC.wp_seq (SC.wp_cond (t:=decide ((j:Int) < (Fs.len fs:Int))) (by simp (disch:=(try simp only [sPu]);omega)) ?_)
  cases e1:decide ((j:Int) < (Fs.len fs:Int))
  · rw [if_neg (by simp)]
    refine SC.wp_exit ?_
    simp only [Exit.then,Exit.inBlock,if_true]
    refine SC.wp_seq (SC.wp_reg ?_)
    repeat (apply ops_1;(focus (simp (disch:=(try simp only [sPu]);omega) [q3];try rfl)))
    refine oNi (SC.wp_ret (ret_tmp hr (by simp [dPu,qd]) ⟨?_,hb5⟩))
    simp (disch:=(try simp only [sPu]);omega)
  · have hjl:j < Fs.len fs:=by simp at e1;omega
    rw [if_pos rfl]
    refine SC.wp_skip ?_
    simp only [Exit.then]
    obtain ⟨h,ty,hdrop⟩:=drop_cons j fs hjl
    rcases hfs with hfs | ⟨b,o,rfl,hbF,hfs⟩
    · omega
    have hfj:=fsAt_drop j fs b o hfs
    rw [hdrop] at hfj
    simp only [FsAt] at hfj
    obtain ⟨⟨of_,sub,hr8,h1c,hof,hsub⟩,_⟩:=hfj
    have hr8':=(rangeV_mono (w:=w5) (hb5.block b hbF) 8 (o+j * 8)).trans hr8
    have ej:(0:Int)≤(j:Int)∧(j:Int) < (Fs.len fs:Int):=by omega
    refine SC.wp_seq (SC.wp_block (SC.wp_seq (SC.wp_reg ?_)))
    iterate 2 (apply ops_1;(focus (simp (disch:=(try simp only [sPu]);omega) [hst,q6,q8,ej,hr8',hjl];try rfl)))
    refine oNo rfl (opw_alloc hiF hzF ?_)
    refine oNo rfl (opw_store_agg (b:=w5.heap.size) (cs:=[.int .i64 (kindOf ty),.int .i64 h.from_,.int .i64 h.to,.int .i64 h.null,.int .i64 (-1),.int .i64 h.dflt,.int .i64 of_,sub]) hTF1 (by simp (disch:=(try simp only [sPu]);omega)) (by simp (disch:=(try simp only [sPu]);omega)) (heap_alloc_new w5 _) (by simp [hzFs]) (by
      intro v hv
      simp only [List.mem_cons,List.not_mem_nil,or_false] at hv
      rcases hv with rfl | rfl | rfl | rfl | rfl | rfl | rfl | rfl <;> first | rfl | exact h1c) (oNi ?_))
    have hnew:((w5.alloc (.cells zF.cells X.F)).setRow w5.heap.size #[.int .i64 (kindOf ty),.int .i64 h.from_,.int .i64 h.to,.int .i64 h.null,.int .i64 (-1),.int .i64 h.dflt,.int .i64 of_,sub]).heap[w5.heap.size]?=some (.cells #[.int .i64 (kindOf ty),.int .i64 h.from_,.int .i64 h.to,.int .i64 h.null,.int .i64 (-1),.int .i64 h.dflt,.int .i64 of_,sub] X.F (0,0)):=setRow_heap _ _ _ _ _ _ (heap_alloc_new w5 _)
    have hb6:Below w5.heap.size w5 ((w5.alloc (.cells zF.cells X.F)).setRow w5.heap.size #[.int .i64 (kindOf ty),.int .i64 h.from_,.int .i64 h.to,.int .i64 h.null,.int .i64 (-1),.int .i64 h.dflt,.int .i64 of_,sub]):=below_setRow ((Below.refl _ _).alloc (Nat.le_refl _) _) (Nat.le_refl _) _
    simp only [Exit.then,pNo]
    generalize ((w5.alloc (.cells zF.cells X.F)).setRow w5.heap.size #[.int .i64 (kindOf ty),.int .i64 h.from_,.int .i64 h.to,.int .i64 h.null,.int .i64 (-1),.int .i64 h.dflt,.int .i64 of_,sub])=w6 at *
    have hc6:∀ i,w6.cell? ⟨w5.heap.size,i,none⟩=#[Value.int .i64 (kindOf ty),.int .i64 h.from_,.int .i64 h.to,.int .i64 h.null,.int .i64 (-1),.int .i64 h.dflt,.int .i64 of_,sub][i]?:=fun i=>cell_of_row _ _ _ _ _ _ hnew
    refine SC.wp_seq (SC.wp_reg ?_)
    repeat (apply ops_1;(focus (simp (disch:=(try simp only [sPu]);omega) [hst,hc6];try rfl)))
    refine oNi (SC.wp_cond (t:=false) (by simp (disch:=(try simp only [sPu]);omega)) ?_)
    rw [if_neg (by simp)]
    refine SC.wp_skip ?_
    simp only [Exit.inBlock,Exit.then]
    have ew:IntKind.i64.wrap ((j:Int)+1)=((j+1:Nat):Int):=by rw [wrap_i64'];split <;> omega
    refine SC.wp_reg ?_
    repeat (apply ops_1;(focus (simp (disch:=(try simp only [sPu]);omega) [q8,ew];try rfl)))
    refine oNi ?_
    refine ⟨⟨j+1,by simp [sPu,q],by simp [dPu,qd],by simp (disch:=(try simp only [sPu]);omega) [q6],by simp (disch:=(try simp only [sPu]);omega) [q7],by simp (disch:=(try simp only [sPu]);omega),by omega,by simp (disch:=(try simp only [sPu]);omega) [q3],hb5.trans (hb6.mono hsz5)⟩,?_⟩
    rw [q8]
    simp (disch:=(try simp only [sPu]);omega);omega
theorem part_ok (hX:stOK P X=true) (hTF:arrB P X.F 8=true) (hTg:arrB P X.Tg 2=true) (S:SmallC P X fW fTh fC fWi fF fU fHas fNull fAt G) (hm:P.follows .mixedOrders=true) (oF:FnOK P fFld) (cFd:FieldC G P X fFld fPart)
    (oK:FnOK P fKn) (cK:KnownC P fKn) (oUnk:FnOK P fUnk) (cUnk:UnkC G P fUnk)
    (hf:P.funcs[f]?=some fn) (hb:fn.body.map strip=some (sc_part X.T X.Fs X.I X.F X.Bs X.B X.U32 X.U64 X.Tgs X.Tg fHas fAt fFld fKn fUs fU fUnk fW)) (hn:fn.ntmps=132) (hr:fn.results=#[.tmp 8])
    (fs:Fs) (hlen63:Fs.len fs < 4294967296) (cP:SubsC (PartC G P X fPart) fs):PartC G P X f fs:=by
  intro w fv ver flex tv t hfv ht hl
  have hst:=st_facts hX
  have hU8s:=hst.2.2.1.1
  have hlim:lim=70368744177664:=rfl
  have hmost:most=32767:=rfl
  refine fCa hf hb hn (by simp) fun a0 hs hd ha=>?_
  have h0:=ha 0 _ rfl
  have h1:=ha 1 _ rfl
  have h2:=ha 2 _ rfl
  have h3:=ha 3 _ rfl
  simp only [List.getElem_toArray,List.getElem_cons_zero,List.getElem_cons_succ] at h0 h1 h2 h3
  have ht0:=ht
  have hfv0:=hfv
  cases ht with
  | mk n s tnull l u sb lb ub sc lc uc b o cs hs1 hsc hlc huc hll hrr htt hG hu =>
  obtain ⟨fb,fcap,rfl,hfs⟩:=hfv
  refine SC.wp_seq (SC.wp_reg (ops_box (B:=w.heap.size) (w0:=w) (by rw [eTm,h3];rfl) (Nat.le_refl _) (Below.refl _ _) fun w1 q1 q2 q3 hc q5=>?_))
  repeat (first | (apply ops_1;(focus (simp (disch:=(try simp only [sPu]);omega) ;try rfl))) | (apply ops_y;(focus rfl);(focus ((try simp only [sPu]);omega));(focus (simp (disch:=(try simp only [sPu]);omega);done));(focus (simp (disch:=(try simp only [sPu]);omega) ;try rfl))) | (apply ops_n;(focus rfl);(focus ((try simp only [sPu]);omega));(focus (first | (left;simp (disch:=(try simp only [sPu]);omega);done) | (right;simp (disch:=(try simp only [sPu]);omega);done)))))
  refine oNi (SC.wp_seq (SC.wp_reg ?_))
  repeat (first | (apply ops_1;(focus (simp (disch:=(try simp only [sPu]);omega) ;try rfl))) | (apply ops_y;(focus rfl);(focus ((try simp only [sPu]);omega));(focus (simp (disch:=(try simp only [sPu]);omega);done));(focus (simp (disch:=(try simp only [sPu]);omega) ;try rfl))) | (apply ops_n;(focus rfl);(focus ((try simp only [sPu]);omega));(focus (first | (left;simp (disch:=(try simp only [sPu]);omega);done) | (right;simp (disch:=(try simp only [sPu]);omega);done)))))
  refine oNi (SC.wp_seq (SC.wp_reg ?_))
  repeat (first | (apply ops_1;(focus (simp (disch:=(try simp only [sPu]);omega) ;try rfl))) | (apply ops_y;(focus rfl);(focus ((try simp only [sPu]);omega));(focus (simp (disch:=(try simp only [sPu]);omega);done));(focus (simp (disch:=(try simp only [sPu]);omega) ;try rfl))) | (apply ops_n;(focus rfl);(focus ((try simp only [sPu]);omega));(focus (first | (left;simp (disch:=(try simp only [sPu]);omega);done) | (right;simp (disch:=(try simp only [sPu]);omega);done)))))
  refine oNi ?_
  simp only [Exit.then]
  clear q1 q5
  have hT5:rangeV w1 w.heap.size 0 5=some [.int .i64 n,.slice sb s.length sc,.bool tnull,.slice lb l.length lc,.slice ub u.length uc]:=by simp [rangeV,hc]
  have hlF:(wFs ver flex fs (Tree.mk n s tnull l u).l).length≤lim:=by rw [List.length_append] at hl;omega
  have fin:∀ (a:Act) (w':World) (v:Value) (out:Bytes),a.defers=[]→getT a 8=v→Own X.U8 w' w.heap.size v out→Below w.heap.size w w'→out=wFs ver flex fs (Tree.mk n s tnull l u).l ++ wTags flex (Tree.mk n s tnull l u).u →
      bodyPost P fn (RetOwn X.U8 w (wFs ver flex fs (Tree.mk n s tnull l u).l ++ wTags flex (Tree.mk n s tnull l u).u)) .ret a w':=by
    intro a w' v out p1 p2 p3 p4 p5
    subst p5
    exact ret_tmp hr p1 ⟨v,by rw [p2],p3,p4⟩
  refine SC.wp_seq (fields_loop hX hTF S hm oF cFd (w:=w) fs fb fcap cP hfs hlen63 ver flex _ n _ _ _ tnull ht0 q2 (by omega) hT5 (by simp [sPu,hs]) (by simp (disch:=(try simp only [sPu]);omega) [h0]) (by simp (disch:=(try simp only [sPu]);omega) [h1]) (by simp (disch:=(try simp only [sPu]);omega) [h2]) (by simp (disch:=(try simp only [sPu]);omega)) (by simp (disch:=(try simp only [sPu]);omega)) hlF ?_)
  intro a2 w2 p pd ps po hb2
  have k0:getT a2 0=.slice fb (Fs.len fs) fcap:=by rw [ps 0 (by decide) (by decide)];simp (disch:=(try simp only [sPu]);omega) [h0]
  have k2:getT a2 2=.bool flex:=by rw [ps 2 (by decide) (by decide)];simp (disch:=(try simp only [sPu]);omega) [h2]
  have k7:getT a2 7=.pointer (some ⟨w.heap.size,0,none⟩):=by rw [ps 7 (by decide) (by decide)];simp (disch:=(try simp only [sPu]);omega)
  have k10:getT a2 10=.slice none 0 0:=by rw [ps 10 (by decide) (by decide)];simp (disch:=(try simp only [sPu]);omega)
  have k11:getT a2 11=.int .i64 0:=by rw [ps 11 (by decide) (by decide)];simp (disch:=(try simp only [sPu]);omega)
  have pd2:a2.defers=[]:=by rw [pd];simp [dPu,hd]
  have hsz2:w.heap.size+1≤w2.heap.size:=by have:=hb2.size;omega
  have hbw2:Below w.heap.size w w2:=q2.trans (hb2.mono (by omega))
  clear ps pd hs hd h0 h1 h2 h3 ha
  simp only [Exit.then]
  refine SC.wp_seq (SC.wp_seq (SC.wp_reg ?_))
  repeat (first | (apply ops_1;(focus (simp (disch:=(try simp only [sPu]);omega) [k2];try rfl))) | (apply ops_y;(focus rfl);(focus ((try simp only [sPu]);omega));(focus (simp (disch:=(try simp only [sPu]);omega) [k2];done));(focus (simp (disch:=(try simp only [sPu]);omega) [k2];try rfl))) | (apply ops_n;(focus rfl);(focus ((try simp only [sPu]);omega));(focus (first | (left;simp (disch:=(try simp only [sPu]);omega) [k2];done) | (right;simp (disch:=(try simp only [sPu]);omega);done)))))
  refine oNi ?_
  simp only [Exit.then]
  refine SC.wp_cond (t:=!flex) (by simp (disch:=(try simp only [sPu]);omega)) ?_
  cases flex
  · rw [if_pos (by rfl)]
    refine SC.wp_seq (SC.wp_reg ?_)
    repeat (first | (apply ops_1;(focus (simp (disch:=(try simp only [sPu]);omega) ;try rfl))) | (apply ops_y;(focus rfl);(focus ((try simp only [sPu]);omega));(focus (simp (disch:=(try simp only [sPu]);omega);done));(focus (simp (disch:=(try simp only [sPu]);omega) ;try rfl))) | (apply ops_n;(focus rfl);(focus ((try simp only [sPu]);omega));(focus (first | (left;simp (disch:=(try simp only [sPu]);omega);done) | (right;simp (disch:=(try simp only [sPu]);omega);done)))))
    refine oNi (SC.wp_ret ?_)
    simp only [Exit.then]
    refine fin _ _ (getT a2 9) _ (by simp [dPu,pd2]) (by simp (disch:=(try simp only [sPu]);omega)) (own_down po (by omega)) hbw2 (by simp [wTags])
  · rw [if_neg (by simp)]
    refine SC.wp_skip ?_
    simp only [Exit.then]
    refine SC.wp_seq (SC.wp_seq (SC.wp_reg ?_))
    iterate 1 (first | (apply ops_1;(focus (simp (disch:=(try simp only [sPu]);omega) [k0];try rfl))) | (apply ops_y;(focus rfl);(focus ((try simp only [sPu]);omega));(focus (simp (disch:=(try simp only [sPu]);omega) [k0];done));(focus (simp (disch:=(try simp only [sPu]);omega) [k0];try rfl))) | (apply ops_n;(focus rfl);(focus ((try simp only [sPu]);omega));(focus (first | (left;simp (disch:=(try simp only [sPu]);omega) [k0];done) | (right;simp (disch:=(try simp only [sPu]);omega);done)))))
    refine ops_call oK (cK w2 fs _ (FsV.down hbw2 (by omega) hfv0) hlen63) (by simp (disch:=(try simp only [sPu]);omega)) ?_
    rintro e w3 ⟨rfl,hb3⟩
    refine ⟨_,rfl,?_⟩
    have ew0:IntKind.i64.wrap 0=0:=rfl
    repeat (first | (apply ops_1;(focus (simp (disch:=(try simp only [sPu]);omega) [hst,ew0];try rfl))) | (apply ops_y;(focus rfl);(focus ((try simp only [sPu]);omega));(focus (simp (disch:=(try simp only [sPu]);omega) [hst,ew0];done));(focus (simp (disch:=(try simp only [sPu]);omega) [hst,ew0];try rfl))) | (apply ops_n;(focus rfl);(focus ((try simp only [sPu]);omega));(focus (first | (left;simp (disch:=(try simp only [sPu]);omega) [hst,ew0];done) | (right;simp (disch:=(try simp only [sPu]);omega);done)))))
    refine oNi ?_
    simp only [Exit.then]
    refine gen_act (fun a6=>a6.tmps.size=132∧a6.defers=[]∧getT a6 0=.slice fb (Fs.len fs) fcap∧getT a6 7=.pointer (some ⟨w.heap.size,0,none⟩)∧getT a6 9=getT a2 9∧getT a6 10=.slice none 0 0∧getT a6 11=.int .i64 0∧getT a6 51=.int .i64 0∧getT a6 52=.int .i64 0)
      ⟨by simp [sPu,p],by simp [dPu,pd2],by simp (disch:=(try simp only [sPu]);omega) [k0],by simp (disch:=(try simp only [sPu]);omega) [k7],by simp (disch:=(try simp only [sPu]);omega),by simp (disch:=(try simp only [sPu]);omega) [k10],by simp (disch:=(try simp only [sPu]);omega) [k11],by simp (disch:=(try simp only [sPu]);omega),by simp (disch:=(try simp only [sPu]);omega)⟩ ?_
    rintro a6 ⟨z,zd,z0,z7,z9,z10,z11,z51,z52⟩
    refine SC.wp_block (SC.wp_loop (fun a' w'=>a'=a6∧w'=w3) (fun _ _=>0) ⟨rfl,rfl⟩ ?_)
    rintro _ _ ⟨rfl,rfl⟩
    rename_i a6 w3
    refine SC.wp_seq (SC.wp_reg ?_)
    repeat (first | (apply ops_1;(focus (simp (disch:=(try simp only [sPu]);omega) [z51,z52];try rfl))) | (apply ops_y;(focus rfl);(focus ((try simp only [sPu]);omega));(focus (simp (disch:=(try simp only [sPu]);omega) [z51,z52];done));(focus (simp (disch:=(try simp only [sPu]);omega) [z51,z52];try rfl))) | (apply ops_n;(focus rfl);(focus ((try simp only [sPu]);omega));(focus (first | (left;simp (disch:=(try simp only [sPu]);omega) [z51,z52];done) | (right;simp (disch:=(try simp only [sPu]);omega);done)))))
    refine oNi ?_
    simp only [Exit.then]
    refine SC.wp_seq (SC.wp_cond (t:=false) (by simp (disch:=(try simp only [sPu]);omega)) ?_)
    rw [if_neg (by simp)]
    refine SC.wp_exit ?_
    simp only [Exit.then,Exit.inBlock,if_true]
    have hsz3:w2.heap.size≤w3.heap.size:=hb3.size
    have hbw3:Below w.heap.size w w3:=hbw2.trans (hb3.mono (by omega))
    have hc3:∀ j,w3.cell? ⟨w.heap.size,j,none⟩=#[Value.int .i64 n,.slice sb s.length sc,.bool tnull,.slice lb l.length lc,.slice ub u.length uc][j]?:=fun j =>
      (World.cell?_of_block (w:=w1) (w':=w3) (a:=⟨w.heap.size,j,none⟩) ((hb3.block w.heap.size (by omega)).trans (hb2.block w.heap.size (by omega)))).trans (hc j)
    have hul:=unknown_length u
    have htl:((unknown u).flatMap wTag).length≤lim∧(wFs ver true fs l).length+((uvarint (unknown u).length).length+((unknown u).flatMap wTag).length)≤lim:=by
      simp only [wTags,if_true,List.length_append,Tree.l,Tree.u] at hl
      omega
    refine SC.wp_seq (tags_loop hX hTg S oUnk cUnk fs _ (FsV.down hbw3 (by omega) hfv0) hlen63 w.heap.size (by omega) n _ _ tnull ub u uc huc hG (tagsAt_mono hu (fun k hk=>by have:k < w.heap.size:=hk;show k < w3.heap.size;omega) (fun k hk=>hbw3.block k hk)) hc3 (by simp [sPu,z]) (by simp (disch:=(try simp only [sPu]);omega) [z0]) (by simp (disch:=(try simp only [sPu]);omega) [z7]) (by simp (disch:=(try simp only [sPu]);omega) [z10]) (by simp (disch:=(try simp only [sPu]);omega) [z11]) htl.1 hul ?_)
    intro a7 w4 y yd ys yo y11 hb4
    have y9:getT a7 9=getT a2 9:=by rw [ys 9 (by decide)];simp (disch:=(try simp only [sPu]);omega) [z9]
    have yd2:a7.defers=[]:=by rw [yd];simp [dPu,zd]
    have hsz4:w3.heap.size≤w4.heap.size:=hb4.size
    simp only [Exit.then]
    have eu:((unknown u).length:Int) % 18446744073709551616=((unknown u).length:Int):=by omega
    refine SC.wp_seq (SC.wp_reg ?_)
    iterate 3 (first | (apply ops_1;(focus (simp (disch:=(try simp only [sPu]);omega) [hst,y9,y11,wrap_u64,eu];try rfl))) | (apply ops_y;(focus rfl);(focus ((try simp only [sPu]);omega));(focus (simp (disch:=(try simp only [sPu]);omega) [hst,y9,y11,wrap_u64,eu];done));(focus (simp (disch:=(try simp only [sPu]);omega) [hst,y9,y11,wrap_u64,eu];try rfl))) | (apply ops_n;(focus rfl);(focus ((try simp only [sPu]);omega));(focus (first | (left;simp (disch:=(try simp only [sPu]);omega) [hst,y9,y11,wrap_u64,eu];done) | (right;simp (disch:=(try simp only [sPu]);omega);done)))))
    refine ops_call S.oU (S.cU w4 (unknown u).length (by omega)) (by simp (disch:=(try simp only [sPu]);omega)) ?_
    rintro e w5 ⟨v1,rfl,o1,b1⟩
    refine ⟨v1,rfl,?_⟩
    have hsz5:w4.heap.size≤w5.heap.size:=b1.size
    have hb25:Below w2.heap.size w2 w5:=hb3.trans ((hb4.mono hsz3).trans (b1.mono (by omega)))
    have po5:Own X.U8 w5 (w.heap.size+1) (getT a2 9) (wFs ver true fs l):=own_keep po hb25
    refine oNo rfl (opw_appendU8 (B:=w.heap.size+1) (dv:=getT a2 9) (xv:=v1) (xs:=wFs ver true fs l) (bs:=uvarint (unknown u).length) hU8s (by simp (disch:=(try simp only [sPu]);omega)) (by simp (disch:=(try simp only [sPu]);omega)) rfl po5 (by omega) (src_own hU8s o1) (by omega) ?_)
    intro v2 w6 o2 b2 s6 g6
    have yo5:=own_keep yo b1
    have yo6:Own X.U8 w6 w3.heap.size (getT a7 10) ((unknown u).flatMap wTag):=own_same yo5 (fun k hk=>by
      have h1:=own_lt yo5 k hk
      refine g6.block k h1.2 (fun e=>?_)
      have h2:=own_lt po k e.symm
      omega)
    iterate 1 (first | (apply ops_1;(focus (simp (disch:=(try simp only [sPu]);omega) ;try rfl))) | (apply ops_y;(focus rfl);(focus ((try simp only [sPu]);omega));(focus (simp (disch:=(try simp only [sPu]);omega);done));(focus (simp (disch:=(try simp only [sPu]);omega) ;try rfl))) | (apply ops_n;(focus rfl);(focus ((try simp only [sPu]);omega));(focus (first | (left;simp (disch:=(try simp only [sPu]);omega);done) | (right;simp (disch:=(try simp only [sPu]);omega);done)))))
    refine oNo rfl (opw_appendU8 (B:=w.heap.size+1) (dv:=v2) (xv:=getT a7 10) (xs:=wFs ver true fs l ++ uvarint (unknown u).length) (bs:=(unknown u).flatMap wTag) hU8s (by simp (disch:=(try simp only [sPu]);omega)) (by simp (disch:=(try simp only [sPu]);omega)) rfl o2 s6 (src_own hU8s yo6) (by rw [List.length_append];omega) ?_)
    intro v3 w7 o3 b3 s7 _
    repeat (first | (apply ops_1;(focus (simp (disch:=(try simp only [sPu]);omega) ;try rfl))) | (apply ops_y;(focus rfl);(focus ((try simp only [sPu]);omega));(focus (simp (disch:=(try simp only [sPu]);omega);done));(focus (simp (disch:=(try simp only [sPu]);omega) ;try rfl))) | (apply ops_n;(focus rfl);(focus ((try simp only [sPu]);omega));(focus (first | (left;simp (disch:=(try simp only [sPu]);omega);done) | (right;simp (disch:=(try simp only [sPu]);omega);done)))))
    refine oNi (SC.wp_ret ?_)
    try simp only [Exit.then]
    refine fin _ _ v3 _ (by simp [dPu,yd2]) (by simp (disch:=(try simp only [sPu]);omega)) (own_down o3 (by omega)) (hbw2.trans ((hb25.mono (by omega)).trans ((b2.mono (by omega)).trans (b3.mono (by omega))))) (by simp [wTags,Tree.l,Tree.u])
end
end Go.Proofs.Ytjbbohfaihkolaa.K
namespace Go.Proofs.Ytjbbohfaihkolaa.K
open Go Go.RowKit Go.Proofs.Ytjbbohfaihkolaa.T
attribute [local simp] eTm eCo pNo gTp gTn qv qcall vop iop
set_option linter.unusedSimpArgs false
set_option linter.unusedVariables false
set_option maxHeartbeats 4000000
mutual
def smallTy:Ty→Bool
  | .prim _=>true
  | .struct _ _ _ _ fs=>decide (Fs.len fs < 4294967296) && smallFs fs
  | .list _ _ _ of=>smallTy of
def smallFs:Fs→Bool
  | .nil=>true
  | .cons _ ty r=>smallTy ty && smallFs r
end
section
variable {G:List (Nat × Bytes)→Prop} {P:Program} {X:STy} {f:FuncId} {fn:Func} {fPart:FuncId}
mutual
theorem subC_all {C:Fs→Prop} (hC:∀ fs,Fs.len fs < 4294967296→SubsC C fs→C fs):∀ ty,smallTy ty=true→SubC C ty
  | .prim _,_=>by simp [SubC]
  | .struct _ _ _ _ fs,h=>by
    simp only [smallTy,Bool.and_eq_true,decide_eq_true_eq] at h
    simp only [SubC]
    exact hC fs h.1 (subsC_all hC fs h.2)
  | .list _ _ _ of,h=>by
    simp only [smallTy] at h
    simp only [SubC]
    exact subC_all hC of h
theorem subsC_all {C:Fs→Prop} (hC:∀ fs,Fs.len fs < 4294967296→SubsC C fs→C fs):∀ fs,smallFs fs=true→SubsC C fs
  | .nil,_=>by simp [SubsC]
  | .cons h ty r,hh=>by
    simp only [smallFs,Bool.and_eq_true] at hh
    simp only [SubsC]
    exact ⟨subC_all hC ty hh.1,subsC_all hC r hh.2⟩
end
def msgV (fv:Value) (flex:Int):Value:=.agg #[fv,.int .i64 flex]
theorem write_ok (hX:stOK P X=true) (oP:FnOK P fPart) (hf:P.funcs[f]?=some fn) (hb:fn.body.map strip=some (sc_Write X.M X.T X.Fs X.I fPart)) (hn:fn.ntmps=21) (hr:fn.results=#[.tmp 6])
    (fs:Fs) (cP:PartC G P X fPart fs) (w:World) (fv:Value) (mflex ver:Int) (t:Tree) (tv:Value) (hfv:FsV w (· < w.heap.size) fs fv) (ht:TV G w (· < w.heap.size) t tv)
    (hl:(wFs ver (decide (0≤mflex) && decide (mflex≤ver)) fs t.l ++ wTags (decide (0≤mflex) && decide (mflex≤ver)) t.u).length≤lim) :
    Calls P f #[msgV fv mflex,.int .i64 ver,tv] w (RetOwn X.U8 w (wFs ver (decide (0≤mflex) && decide (mflex≤ver)) fs t.l ++ wTags (decide (0≤mflex) && decide (mflex≤ver)) t.u)):=by
  have hst:=st_facts hX
  refine fCa hf hb hn (by simp) fun a0 hs hd ha=>?_
  have h0:=ha 0 _ rfl
  have h1:=ha 1 _ rfl
  have h2:=ha 2 _ rfl
  simp only [List.getElem_toArray,List.getElem_cons_zero,List.getElem_cons_succ] at h0 h1 h2
  have ht0:=ht
  cases ht with
  | mk n s tnull l u sb lb ub sc lc uc b o cs hs1 hsc hlc huc hll hrr htt hG hu =>
  refine SC.wp_seq (SC.wp_reg (ops_box (B:=w.heap.size) (w0:=w) (by rw [eTm,h0];rfl) (Nat.le_refl _) (Below.refl _ _) fun w1 q1 q2 q3 hc q5=>?_))
  refine ops_box (B:=w.heap.size) (w0:=w) (cs:=#[.int .i64 n,.slice sb s.length sc,.bool tnull,.slice lb l.length lc,.slice ub u.length uc]) (by simp (disch:=(try simp only [sPu]);omega) [h2,treV]) (by omega) q2 fun w2 r1 r2 r3 hd2 r5=>?_
  repeat (first | (apply ops_1;(focus (simp (disch:=(try simp only [sPu]);omega) ;try rfl))) | (apply ops_y;(focus rfl);(focus ((try simp only [sPu]);omega));(focus (simp (disch:=(try simp only [sPu]);omega);done));(focus (simp (disch:=(try simp only [sPu]);omega) ;try rfl))) | (apply ops_n;(focus rfl);(focus ((try simp only [sPu]);omega));(focus (first | (left;simp (disch:=(try simp only [sPu]);omega);done) | (right;simp (disch:=(try simp only [sPu]);omega);done)))))
  refine oNi ?_
  have hc2:∀ j,w2.cell? ⟨w.heap.size,j,none⟩=#[fv,.int .i64 mflex][j]?:=fun j=>by rw [r1.cell (by show w.heap.size < w1.heap.size;omega)];exact hc j
  have hsz2:w2.heap.size=w.heap.size+2:=by omega
  rw [q3] at hd2 ⊢
  clear hc q1 q2 q3 q5 r1 r3 r5 w1
  have hT5:rangeV w2 (w.heap.size+1) 0 5=some [.int .i64 n,.slice sb s.length sc,.bool tnull,.slice lb l.length lc,.slice ub u.length uc]:=by simp [rangeV,hd2]
  refine SC.wp_seq (SC.wp_reg ?_)
  have fin:∀ (flex:Bool) (a:Act),a.defers=[]→getT a 8=fv→getT a 9=.int .i64 ver→getT a 18=.bool flex→getT a 5=.pointer (some ⟨w.heap.size+1,0,none⟩)→a.tmps.size=21→(decide (0≤mflex) && decide (mflex≤ver))=flex→∀ all,opsw P all [ld 19 X.T 5,cal 20 fPart [8,9,18,19],asg 6 20] (Exit.then (SC.wp P .ret (bodyPost P fn (RetOwn X.U8 w (wFs ver (decide (0≤mflex) && decide (mflex≤ver)) fs (Tree.mk n s tnull l u).l ++ wTags (decide (0≤mflex) && decide (mflex≤ver)) (Tree.mk n s tnull l u).u)))) (bodyPost P fn (RetOwn X.U8 w (wFs ver (decide (0≤mflex) && decide (mflex≤ver)) fs (Tree.mk n s tnull l u).l ++ wTags (decide (0≤mflex) && decide (mflex≤ver)) (Tree.mk n s tnull l u).u))) .normal) a w2:=by
    intro flex a pd p8 p9 p18 p5 ps hfl all
    rw [hfl] at hl ⊢
    iterate 1 (first | (apply ops_1;(focus (simp (disch:=(try simp only [sPu]);omega) [hst,p5,hT5];try rfl))) | (apply ops_y;(focus rfl);(focus ((try simp only [sPu]);omega));(focus (simp (disch:=(try simp only [sPu]);omega) [hst,p5,hT5];done));(focus (simp (disch:=(try simp only [sPu]);omega) [hst,p5,hT5];try rfl))) | (apply ops_n;(focus rfl);(focus ((try simp only [sPu]);omega));(focus (first | (left;simp (disch:=(try simp only [sPu]);omega) [hst,p5,hT5];done) | (right;simp (disch:=(try simp only [sPu]);omega);done)))))
    refine ops_call oP (cP w2 fv ver flex _ _ (FsV.down r2 (by omega) hfv) (TV.down r2 (by omega) ht0) hl) (by simp (disch:=(try simp only [sPu]);omega) [p8,p9,p18,treV]) ?_
    rintro e w3 ⟨v,rfl,o1,b1⟩
    refine ⟨v,rfl,?_⟩
    repeat (first | (apply ops_1;(focus (simp (disch:=(try simp only [sPu]);omega) ;try rfl))) | (apply ops_y;(focus rfl);(focus ((try simp only [sPu]);omega));(focus (simp (disch:=(try simp only [sPu]);omega);done));(focus (simp (disch:=(try simp only [sPu]);omega) ;try rfl))) | (apply ops_n;(focus rfl);(focus ((try simp only [sPu]);omega));(focus (first | (left;simp (disch:=(try simp only [sPu]);omega);done) | (right;simp (disch:=(try simp only [sPu]);omega);done)))))
    refine oNi ?_
    simp only [Exit.then]
    refine SC.wp_ret (ret_tmp hr (by simp [dPu,pd]) ⟨v,?_,own_down o1 (by omega),r2.trans (b1.mono (by omega))⟩)
    simp (disch:=(try simp only [sPu]);omega)
  cases e1:decide (0≤mflex)
  · rw [e1] at fin
    iterate 12 (first | (apply ops_1;(focus (simp (disch:=(try simp only [sPu]);omega) [hst,hc2,hT5,h1,e1];try rfl))) | (apply ops_y;(focus rfl);(focus ((try simp only [sPu]);omega));(focus (simp (disch:=(try simp only [sPu]);omega) [hst,hc2,hT5,h1,e1];done));(focus (simp (disch:=(try simp only [sPu]);omega) [hst,hc2,hT5,h1,e1];try rfl))) | (apply ops_n;(focus rfl);(focus ((try simp only [sPu]);omega));(focus (first | (left;simp (disch:=(try simp only [sPu]);omega) [hst,hc2,hT5,h1,e1];done) | (right;simp (disch:=(try simp only [sPu]);omega);done)))))
    refine fin false _ (by simp [dPu,hd]) (by simp (disch:=(try simp only [sPu]);omega)) (by simp (disch:=(try simp only [sPu]);omega)) (by simp (disch:=(try simp only [sPu]);omega)) (by simp (disch:=(try simp only [sPu]);omega)) (by simp [sPu,hs]) (by simp) _
  · cases e2:decide (mflex≤ver)
    · rw [e1,e2] at fin
      iterate 12 (first | (apply ops_1;(focus (simp (disch:=(try simp only [sPu]);omega) [hst,hc2,hT5,h1,e1,e2];try rfl))) | (apply ops_y;(focus rfl);(focus ((try simp only [sPu]);omega));(focus (simp (disch:=(try simp only [sPu]);omega) [hst,hc2,hT5,h1,e1,e2];done));(focus (simp (disch:=(try simp only [sPu]);omega) [hst,hc2,hT5,h1,e1,e2];try rfl))) | (apply ops_n;(focus rfl);(focus ((try simp only [sPu]);omega));(focus (first | (left;simp (disch:=(try simp only [sPu]);omega) [hst,hc2,hT5,h1,e1,e2];done) | (right;simp (disch:=(try simp only [sPu]);omega);done)))))
      refine fin false _ (by simp [dPu,hd]) (by simp (disch:=(try simp only [sPu]);omega)) (by simp (disch:=(try simp only [sPu]);omega)) (by simp (disch:=(try simp only [sPu]);omega)) (by simp (disch:=(try simp only [sPu]);omega)) (by simp [sPu,hs]) (by simp) _
    · rw [e1,e2] at fin
      iterate 12 (first | (apply ops_1;(focus (simp (disch:=(try simp only [sPu]);omega) [hst,hc2,hT5,h1,e1,e2];try rfl))) | (apply ops_y;(focus rfl);(focus ((try simp only [sPu]);omega));(focus (simp (disch:=(try simp only [sPu]);omega) [hst,hc2,hT5,h1,e1,e2];done));(focus (simp (disch:=(try simp only [sPu]);omega) [hst,hc2,hT5,h1,e1,e2];try rfl))) | (apply ops_n;(focus rfl);(focus ((try simp only [sPu]);omega));(focus (first | (left;simp (disch:=(try simp only [sPu]);omega) [hst,hc2,hT5,h1,e1,e2];done) | (right;simp (disch:=(try simp only [sPu]);omega);done)))))
      refine fin true _ (by simp [dPu,hd]) (by simp (disch:=(try simp only [sPu]);omega)) (by simp (disch:=(try simp only [sPu]);omega)) (by simp (disch:=(try simp only [sPu]);omega)) (by simp (disch:=(try simp only [sPu]);omega)) (by simp [sPu,hs]) (by simp) _
theorem own_bytesAt {tU8:Nat} {w:World} {B:Nat} {v:Value} {xs:Bytes} (h:Own tU8 w B v xs):∃ base cap,v=.slice base xs.length cap∧BytesAt w (fun k=>k < w.heap.size) base xs:=by
  rcases h.2 with ⟨rfl,h0⟩ | ⟨g,cap,cur,rfl,hBg,hg,_⟩
  · have:xs=[]:=List.eq_nil_of_length_eq_zero h0
    subst this
    exact ⟨none,0,rfl,.inl rfl⟩
  · refine ⟨some ⟨g,0,none⟩,cap,rfl,.inr ⟨g,0,rfl,(Array.getElem?_eq_some_iff.1 hg).1,fun j u hu=>?_⟩⟩
    have hc:∀ j u,(cellsOf xs)[j]?=some u→w.cell? ((⟨g,0,none⟩:Addr).add j)=some u:=World.ownsRow.cells h rfl
    rw [← add_none]
    exact hc j _ (by simp [cellsOf,hu])
def sOK (P:Program) (X:STy):Bool :=
  intK P X.I == some .i64 && intK P X.U8 == some .u8 && oneB P X.I && oneB P X.U8 && oneB P X.Bs && u8sB P X.Bs X.U8 && sliceN P X.Bs == some 1
theorem s_facts {P:Program} {X:STy} (h:sOK P X=true):(intK P X.I=some .i64∧intK P X.U8=some .u8)∧(oneB P X.I=true∧oneB P X.U8=true∧oneB P X.Bs=true)∧u8sB P X.Bs X.U8=true∧sliceN P X.Bs=some 1:=by
  simp only [sOK,Bool.and_eq_true,beq_iff_eq] at h
  simp only [h,and_self]
theorem same_ok (hX:sOK P X=true) (hm:P.follows .mixedOrders=true) (hf:P.funcs[f]?=some fn) (hb:fn.body.map strip=some (sc_Same X.Bs X.I X.U8)) (hn:fn.ntmps=26) (hr:fn.results=#[.tmp 4])
    (w:World) (xs:Bytes) (b1 b2:Option Addr) (c1 c2:Nat) (h1:BytesAt w (fun k=>k < w.heap.size) b1 xs) (h2:BytesAt w (fun k=>k < w.heap.size) b2 xs) (hl:xs.length≤lim) :
    Calls P f #[.slice b1 xs.length c1,.slice b2 xs.length c2] w fun e w'=>e=.returned (.bool true)∧Below w.heap.size w w':=by
  have hst:=s_facts hX
  have hlim:lim=70368744177664:=rfl
  refine fCa hf hb hn (by simp) fun a0 hs hd ha=>?_
  have k0:=ha 0 _ rfl
  have k1:=ha 1 _ rfl
  simp only [List.getElem_toArray,List.getElem_cons_zero,List.getElem_cons_succ] at k0 k1
  refine SC.wp_seq (SC.wp_reg ?_)
  repeat (apply ops_1;(focus (simp (disch:=(try simp only [sPu]);omega) ;try rfl)))
  refine oNi (SC.wp_seq (SC.wp_seq (SC.wp_reg ?_)))
  repeat (apply ops_1;(focus (simp (disch:=(try simp only [sPu]);omega) [hst,k0,k1];try rfl)))
  refine oNi (SC.wp_cond (t:=false) (by simp (disch:=(try simp only [sPu]);omega)) ?_)
  rw [if_neg (by simp)]
  refine SC.wp_skip ?_
  simp only [Exit.then]
  refine SC.wp_seq (SC.wp_seq (SC.wp_reg ?_))
  repeat (apply ops_1;(focus (simp (disch:=(try simp only [sPu]);omega) [hst,k0,k1];try rfl)))
  refine oNi ?_
  simp only [Exit.then]
  refine SC.wp_block (SC.wp_loop (fun a4 w5=>∃ (j:Nat),a4.tmps.size=26∧a4.defers=[]∧getT a4 0=.slice b1 xs.length c1∧getT a4 1=.slice b2 xs.length c2∧getT a4 12=.int .i64 (xs.length:Int)∧getT a4 13=.int .i64 (j:Int)∧j≤xs.length∧Below w.heap.size w w5)
    (fun a4 _=>match getT a4 13 with | .int _ m=>(xs.length - m).toNat | _=>0) ⟨0,by simp [sPu,hs],by simp [dPu,hd],by simp (disch:=(try simp only [sPu]);omega) [k0],by simp (disch:=(try simp only [sPu]);omega) [k1],by simp (disch:=(try simp only [sPu]);omega),by simp (disch:=(try simp only [sPu]);omega),by omega,Below.refl _ _⟩ ?_)
  rintro a4 w5 ⟨j,q,qd,q0,q1,q12,q13,hj,hb5⟩
  refine SC.wp_seq (SC.wp_reg ?_)
  repeat (apply ops_1;(focus (simp (disch:=(try simp only [sPu]);omega) [hst,q12,q13];try rfl)))
  refine oNi ?_
  simp only [Exit.then]
  refine SC.wp_seq (SC.wp_cond (t:=decide ((j:Int) < (xs.length:Int))) (by simp (disch:=(try simp only [sPu]);omega)) ?_)
  cases e1:decide ((j:Int) < (xs.length:Int))
  · rw [if_neg (by simp)]
    refine SC.wp_exit ?_
    simp only [Exit.then,Exit.inBlock,if_true]
    refine SC.wp_seq (SC.wp_reg ?_)
    repeat (apply ops_1;(focus (simp (disch:=(try simp only [sPu]);omega) ;try rfl)))
    refine oNi (SC.wp_ret (ret_tmp hr (by simp [dPu,qd]) ⟨?_,hb5⟩))
    simp (disch:=(try simp only [sPu]);omega)
  · have hjl:j < xs.length:=by simp at e1;omega
    rw [if_pos rfl]
    refine SC.wp_skip ?_
    simp only [Exit.then]
    rcases h1 with e | ⟨g1,o1,rfl,hg1,hc1⟩
    · subst e;simp at hjl
    rcases h2 with e | ⟨g2,o2,rfl,hg2,hc2⟩
    · subst e;simp at hjl
    have hx:=List.getElem?_eq_getElem hjl
    have hd1:w5.drew.cell? ⟨g1,o1+j,none⟩=some (cell xs[j]):=(World.cell?_of_block (w:=w) (w':=w5.drew) (a:=⟨g1,o1+j,none⟩) (hb5.block g1 hg1)).trans (hc1 j _ hx)
    have hd2:w5.drew.cell? ⟨g2,o2+j,none⟩=some (cell xs[j]):=(World.cell?_of_block (w:=w) (w':=w5.drew) (a:=⟨g2,o2+j,none⟩) (hb5.block g2 hg2)).trans (hc2 j _ hx)
    have ej:(0:Int)≤(j:Int)∧(j:Int) < (xs.length:Int):=by omega
    have hcell:cell xs[j]=.int .u8 (xs[j].toNat:Int):=rfl
    rw [hcell] at hd1 hd2
    generalize xs[j].toNat=cj at *
    refine SC.wp_seq (SC.wp_block (SC.wp_seq (SC.wp_reg ?_)))
    repeat (apply ops_1;(focus (simp (disch:=(try simp only [sPu]);omega) [q13];try rfl)))
    refine oNi ?_
    simp only [Exit.then]
    refine SC.wp_seq (SC.wp_dreg hm (Below w.heap.size w5.drew) [(0,true),(1,true),(2,true),(3,true),(4,true),(5,true),(6,true),(7,true),(8,true)] (by rfl) (by rfl) (by decide) (Below.refl _ _) ?_)
    repeat (apply dr_1;(focus rfl);(focus (simp (disch:=(try simp only [sPu]);omega) [hst,q0,q1,ej,hd1,hd2,hg1,hg2,hjl];try rfl)))
    refine dreg_nil ?_
    simp only [Exit.then]
    refine SC.wp_cond (t:=false) (by simp (disch:=(try simp only [sPu]);omega)) ?_
    rw [if_neg (by simp)]
    refine SC.wp_skip ?_
    simp only [Exit.inBlock,Exit.then]
    have ew:IntKind.i64.wrap ((j:Int)+1)=((j+1:Nat):Int):=by rw [wrap_i64'];split <;> omega
    refine SC.wp_reg ?_
    repeat (apply ops_1;(focus (simp (disch:=(try simp only [sPu]);omega) [q13,ew];try rfl)))
    refine oNi ?_
    refine ⟨⟨j+1,by simp [sPu,q],by simp [dPu,qd],by simp (disch:=(try simp only [sPu]);omega) [q0],by simp (disch:=(try simp only [sPu]);omega) [q1],by simp (disch:=(try simp only [sPu]);omega) [q12],by simp (disch:=(try simp only [sPu]);omega),by omega,hb5.drew⟩,?_⟩
    rw [q13]
    simp (disch:=(try simp only [sPu]);omega);omega
theorem opw_rem {a:Act} {w:World} {K:Act→World→Prop} {d:Option Tmp} {g:Option (Nat × Bool)} {T T':TypeId} {x y:Operand} {m n:Nat} (hx:a.eval x=.int .i64 (m:Int)) (hy:a.eval y=.int .i64 (n:Int)) (hn:0 < n) (h:K (a.put d (.int .i64 ((m % n:Nat):Int))) w) :
    opw P ⟨d,.binOp .rem T x y T',g⟩ a w K:=by
  refine oVa (by simp) (fun p hp=>?_) h
  have hne:¬ n=0:=by omega
  simp [execOp,hp,hx,hy,run_eqGuard_int,binOp,Op.intDiv,hne]
  exact Int.tmod_eq_emod_of_nonneg (by omega)
theorem version_ok (hX:sOK P X=true) (hf:P.funcs[f]?=some fn) (hb:fn.body.map strip=some (sc_version X.U8 X.I)) (hn:fn.ntmps=10) (hr:fn.results=#[.tmp 4]) (w:World) (n m:Nat) (hn8:n < 256) (hm16:m < 65536) :
    Calls P f #[.int .u8 (n:Int),.int .i64 (m:Int)] w fun e w'=>e=.returned (.int .i64 ((n % (m+1):Nat):Int))∧w=w':=by
  have hst:=s_facts hX
  refine fCa hf hb hn (by simp) fun a0 hs hd ha=>?_
  have k0:=ha 0 _ rfl
  have k1:=ha 1 _ rfl
  simp only [List.getElem_toArray,List.getElem_cons_zero,List.getElem_cons_succ] at k0 k1
  have e1:IntKind.i64.wrap (n:Int)=(n:Int):=by rw [wrap_i64'];split <;> omega
  have e2:IntKind.i64.wrap ((m:Int)+1)=((m+1:Nat):Int):=by rw [wrap_i64'];split <;> omega
  refine SC.wp_seq (SC.wp_reg ?_)
  repeat (apply ops_1;(focus (simp (disch:=(try simp only [sPu]);omega) ;try rfl)))
  refine oNi (SC.wp_seq (SC.wp_reg ?_))
  iterate 4 (apply ops_1;(focus (simp (disch:=(try simp only [sPu]);omega) [hst,k0,k1,e1,e2];try rfl)))
  refine oNo rfl (opw_rem (m:=n) (n:=m+1) (by simp (disch:=(try simp only [sPu]);omega)) (by simp (disch:=(try simp only [sPu]);omega)) (by omega) ?_)
  repeat (apply ops_1;(focus (simp (disch:=(try simp only [sPu]);omega) ;try rfl)))
  refine oNi (SC.wp_ret (ret_tmp hr (by simp [dPu,hd]) ⟨?_,rfl⟩))
  simp (disch:=(try simp only [sPu]);omega)
end
end Go.Proofs.Ytjbbohfaihkolaa.K
namespace Go.Proofs.Ytjbbohfaihkolaa.T
set_option linter.unusedVariables false
set_option linter.unusedSimpArgs false
abbrev Rd (α:Type):=Bytes→Option (α × Bytes)
def rOk {α:Type} (x:α):Rd α:=fun b=>some (x,b)
def rThen {α β:Type} (p:Rd α) (f:α→Rd β):Rd β:=fun b=>(p b).bind fun x=>f x.1 x.2
def unfix:Bytes→Nat
  | []=>0
  | u :: r=>u.toNat * 256 ^ r.length+unfix r
def sgn (k n:Nat):Int:=if n < 256 ^ k / 2 then (n:Int) else (n:Int) - (256 ^ k:Nat)
def pFix (k:Nat):Rd Nat:=fun b=>if b.length < k then none else some (unfix (b.take k),b.drop k)
def pInt (k:Nat):Rd Int:=rThen (pFix k) fun n=>rOk (sgn k n)
def pSpan (l:Int):Rd Bytes:=fun b=>if (b.length:Int) < l∨l < 0 then none else some (b.take l.toNat,b.drop l.toNat)
def pUvGo:Nat→Nat→Rd Nat
  | _,_,[]=>none
  | 0,m,u :: r=>if u.toNat≤15 then some (u.toNat * m,r) else none
  | k+1,m,u :: r=>if u.toNat < 128 then some (u.toNat * m,r) else (pUvGo k (m * 128) r).map fun x=>(u.toNat % 128 * m+x.1,x.2)
def pUv:Rd Nat:=pUvGo 4 1
def pLen (flex:Bool):Rd Int :=
  rThen (if flex then rThen pUv fun n=>rOk (if n=2147483648 then 2147483647 else (if n < 2147483648 then (n:Int) else (n:Int) - 4294967296) - 1) else pInt 4)
    fun l b=>if (b.length:Int) < l then none else some (l,b)
def tN (n:Int):Tree:=.mk n [] false [] []
def tS (s:Bytes):Tree:=.mk 0 s false [] []
def tNull:Tree:=.mk 0 [] true [] []
def pCount (flex:Bool) (size:Nat):Rd Int:=if flex then rThen pUv fun n=>rOk ((n:Int) - 1) else pInt size
def pPrim (flex nul:Bool):PK→Rd Tree
  | .bool=>rThen (pFix 1) fun n=>rOk (tN (if n=0 then 0 else 1))
  | .u16=>rThen (pFix 2) fun n=>rOk (tN n)
  | .uuid=>rThen (pSpan 16) fun s=>rOk (tS s)
  | .str=>rThen (pCount flex 2) fun l=>if nul && decide (l < 0) then rOk tNull else rThen (pSpan l) fun s=>rOk (tS s)
  | .bytes=>rThen (pCount flex 4) fun l=>if nul && decide (l < 0) then rOk tNull else if !nul && decide (l=-1) then rOk (tS []) else rThen (pSpan l) fun s=>rOk (tS s)
  | k=>rThen (pInt k.width) fun n=>rOk (tN n)
def setTag (t:Nat × Bytes):List (Nat × Bytes)→List (Nat × Bytes)
  | []=>[t]
  | x :: r=>if x.1 < t.1 then x :: setTag t r else if x.1=t.1 then t :: r else t :: x :: r
def pTagN:Nat→List (Nat × Bytes)→Rd (List (Nat × Bytes))
  | 0,acc=>rOk acc
  | n+1,acc=>rThen pUv fun k=>rThen pUv fun s=>rThen (pSpan s) fun v=>pTagN n (setTag (k,v) acc)
def pTags (flex:Bool):Rd (List (Nat × Bytes)):=if flex then rThen pUv fun n=>pTagN n [] else rOk []
def Ext {α:Type} (p:Rd α):Prop:=∀ b x r c,p b=some (x,r)→p (b ++ c)=some (x,r ++ c)
section
variable {α β:Type}
theorem rThen_some {p:Rd α} {f:α→Rd β} {b r:Bytes} {y:β} (h:rThen p f b=some (y,r)):∃ x r1,p b=some (x,r1)∧f x r1=some (y,r):=by
  unfold rThen at h
  cases hp:p b with
  | none=>rw [hp] at h;simp at h
  | some z=>rw [hp] at h;exact ⟨z.1,z.2,rfl,h⟩
theorem rThen_of {p:Rd α} {f:α→Rd β} {b r1:Bytes} {x:α} (h:p b=some (x,r1)):rThen p f b=f x r1:=by simp [rThen,h]
theorem Ext.ok (x:α):Ext (rOk x):=fun b y r c h=>by simp only [rOk,Option.some.injEq,Prod.mk.injEq] at h ⊢;obtain ⟨rfl,rfl⟩:=h;simp
theorem Ext.then {p:Rd α} {f:α→Rd β} (hp:Ext p) (hf:∀ x,Ext (f x)):Ext (rThen p f):=by
  intro b y r c h
  obtain ⟨x,r1,h1,h2⟩:=rThen_some h
  rw [rThen_of (hp _ _ _ _ h1)]
  exact hf x _ _ _ _ h2
end
end Go.Proofs.Ytjbbohfaihkolaa.T
namespace Go.Proofs.Ytjbbohfaihkolaa.T
set_option linter.unusedVariables false
set_option linter.unusedSimpArgs false
theorem fixed_length (n:Int):∀ k,(fixed n k).length=k
  | 0=>rfl
  | k+1=>by simp [fixed,fixed_length n k]
theorem uvarint_le {n:Nat} (h:n≤127):uvarint n=[UInt8.ofNat n]:=by unfold uvarint;simp [h]
theorem whole_of {b:Bytes} (h:b.length≤most):whole b=b:=by simp [whole,List.take_of_length_le h]
def Sorted (l:List (Nat × Bytes)):Prop:=l.Pairwise fun a b=>a.1 < b.1
theorem insTag_mem {t x:Nat × Bytes}:∀ {l:List (Nat × Bytes)},x ∈ insTag t l→x=t∨x ∈ l
  | [],h=>by simp [insTag] at h;exact .inl h
  | y :: l,h=>by
    simp only [insTag] at h
    split at h
    · rcases List.mem_cons.1 h with rfl | h
      · exact .inr (by simp)
      · exact (insTag_mem h).imp id fun h=>List.mem_cons_of_mem _ h
    · split at h
      · exact .inr h
      · rcases List.mem_cons.1 h with rfl | h
        · exact .inl rfl
        · exact .inr h
theorem insTag_sorted {t:Nat × Bytes}:∀ {l:List (Nat × Bytes)},Sorted l→Sorted (insTag t l)
  | [],_=>by simp [insTag,Sorted]
  | y :: l,h=>by
    have h':=List.pairwise_cons.1 h
    simp only [insTag]
    split
    · rename_i hy
      refine List.pairwise_cons.2 ⟨fun a ha=>?_,insTag_sorted h'.2⟩
      rcases insTag_mem ha with rfl | ha
      · exact hy
      · exact h'.1 _ ha
    · split
      · exact h
      · refine List.pairwise_cons.2 ⟨fun a ha=>?_,h⟩
        rcases List.mem_cons.1 ha with rfl | ha
        · omega
        · have:=h'.1 _ ha
          omega
theorem insTag_length (t:Nat × Bytes):∀ l:List (Nat × Bytes),(insTag t l).length≤l.length+1
  | []=>by simp [insTag]
  | y :: l=>by
    have:=insTag_length t l
    simp only [insTag]
    split
    · simp;omega
    · split <;> simp
theorem foldl_ins {u:List (Nat × Bytes)}:∀ (l:List (Nat × Bytes)),Sorted l→(∀ x ∈ l,x ∈ u)→∀ v:List (Nat × Bytes),(∀ x ∈ v,x ∈ u) →
    Sorted (v.foldl (fun acc t=>insTag t acc) l)∧(∀ x ∈ v.foldl (fun acc t=>insTag t acc) l,x ∈ u)∧(v.foldl (fun acc t=>insTag t acc) l).length≤l.length+v.length:=by
  intro l hl hm v
  induction v generalizing l with
  | nil=>intro _;exact ⟨hl,hm,by simp⟩
  | cons t v ih =>
    intro hv
    have:=ih (insTag t l) (insTag_sorted hl) (fun x hx=>by
      rcases insTag_mem hx with rfl | hx
      · exact hv _ (by simp)
      · exact hm _ hx) (fun x hx=>hv x (List.mem_cons_of_mem _ hx))
    refine ⟨this.1,this.2.1,?_⟩
    have h1:=insTag_length t l
    have h2:=this.2.2
    simp only [List.foldl_cons,List.length_cons]
    omega
theorem unknown_facts (u:List (Nat × Bytes)):Sorted (unknown u)∧(∀ x ∈ unknown u,x ∈ u)∧(unknown u).length≤most:=by
  have h:=foldl_ins (u:=u) [] (by simp [Sorted]) (by simp) (u.take most) (fun x hx=>List.mem_of_mem_take hx)
  refine ⟨h.1,h.2.1,?_⟩
  have:=h.2.2
  have h2:(u.take most).length≤most:=by simp;omega
  unfold unknown
  simp only [List.length_nil] at this
  omega
end Go.Proofs.Ytjbbohfaihkolaa.T
namespace Go.Proofs.Ytjbbohfaihkolaa.T
set_option linter.unusedVariables false
set_option linter.unusedSimpArgs false
theorem rOk_some {α:Type} {x y:α} {b r:Bytes} (h:rOk x b=some (y,r)):x=y∧b=r:=by simpa [rOk] using h
end Go.Proofs.Ytjbbohfaihkolaa.T
namespace Go.Proofs.Ytjbbohfaihkolaa.T
set_option linter.unusedVariables false
set_option linter.unusedSimpArgs false
inductive KAll:Tree→Prop where
  | mk (n:Int) (s:Bytes) (null:Bool) (l:List Tree) (u:List (Nat × Bytes)) (hl:∀ (i:Nat) (x:Tree),l[i]?=some x→KAll x) (hu:∀ x ∈ u,x.1 < 4294967296):KAll (.mk n s null l u)
theorem KAll.l {t:Tree} (h:KAll t):∀ x ∈ t.l,KAll x:=by
  cases h with
  | mk n s null l u hl hu =>
    intro x hx
    obtain ⟨i,hi⟩:=List.getElem?_of_mem hx
    exact hl i x hi
theorem KAll.u {t:Tree} (h:KAll t):∀ x ∈ t.u,x.1 < 4294967296:=by
  cases h with
  | mk n s null l u hl hu=>exact hu
theorem KAll.zero:KAll Tree.zero:=.mk _ _ _ _ _ (fun i x h=>by simp at h) (fun x h=>by cases h)
end Go.Proofs.Ytjbbohfaihkolaa.T
