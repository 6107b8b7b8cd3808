/- Generic texts: S11 S12 T2 T3 T4 T6. No condition. -/
import Derived.Test.YtcchakpiemhpeaaDoorN3
namespace Go.Proofs.YtcchakpiemhpeaaDoor.K
open Go Go.RowKit Go.Proofs.YtcchakpiemhpeaaDoor.T
attribute [local simp] eTm eCo pNo gTp gTn qv qcall vop iop
set_option linter.unusedSimpArgs false
set_option linter.unusedVariables false
set_option maxHeartbeats 4000000
theorem insTag_length (t:Nat × Bytes):∀ l,(insTag t l).length≤l.length+1
  | []=>by simp [insTag]
  | x :: r=>by
    simp only [insTag]
    have:=insTag_length t r
    split
    · simp;omega
    · split <;> simp
theorem foldl_ins_length:∀ (l acc:List (Nat × Bytes)),(l.foldl (fun acc t=>insTag t acc) acc).length≤l.length+acc.length
  | [],acc=>by simp
  | x :: l,acc=>by
    simp only [List.foldl_cons,List.length_cons]
    have h1:=foldl_ins_length l (insTag x acc)
    have h2:=insTag_length x acc
    omega
theorem unknown_length (u:List (Nat × Bytes)):(unknown u).length≤most:=by
  have h:=foldl_ins_length (u.take most) []
  have h2:(u.take most).length≤most:=by rw [List.length_take];omega
  unfold unknown
  simp only [List.length_nil] at h
  omega
section
variable {G:List (Nat × Bytes)→Prop} {P:Program} {X:STy} {f:FuncId} {fn:Func} {fW fTh fC fWi fF fU fHas fNull fAt fPart fVal fFld fKn fUs fUnk:FuncId}
theorem known_ok (hX:stOK P X=true) (hTF:arrB P X.F 8=true) (hf:P.funcs[f]?=some fn) (hb:fn.body.map strip=some (sc_known X.Fs X.I X.F X.U32)) (hn:fn.ntmps=23) (hr:fn.results=#[.tmp 2]):KnownC P f:=by
  intro w fs fv hfs hlen63
  have hst:=st_facts hX
  obtain ⟨hTF1,iF,zF,hiF,hzF,hzFs⟩:=arr_of hTF
  obtain ⟨fb,fcap,rfl,hfs⟩:=hfs
  refine fCa hf hb hn (by simp) fun a0 hs hd ha=>?_
  have h0:=ha 0 _ rfl
  simp only [List.getElem_toArray,List.getElem_cons_zero,List.getElem_cons_succ] at h0
  refine SC.wp_seq (SC.wp_reg ?_)
  repeat (apply ops_1;(focus (simp (disch:=(try simp only [sPu]);omega) ;try rfl)))
  refine oNi (SC.wp_seq (SC.wp_reg ?_))
  repeat (apply ops_1;(focus (simp (disch:=(try simp only [sPu]);omega) ;try rfl)))
  refine oNi (SC.wp_seq (SC.wp_seq (SC.wp_reg ?_)))
  repeat (apply ops_1;(focus (simp (disch:=(try simp only [sPu]);omega) [hst,h0];try rfl)))
  refine oNi ?_
  simp only [Exit.then]
  refine SC.wp_block (SC.wp_loop (fun a4 w5=>∃ (j:Nat),a4.tmps.size=23∧a4.defers=[]∧getT a4 6=.slice fb (Fs.len fs) fcap∧getT a4 7=.int .i64 (Fs.len fs:Int)∧getT a4 8=.int .i64 (j:Int)∧j≤Fs.len fs∧getT a4 3=.int .u32 0∧Below w.heap.size w w5)
    (fun a4 _=>match getT a4 8 with | .int _ m=>(Fs.len fs - m).toNat | _=>0) ⟨0,by simp [sPu,hs],by simp [dPu,hd],by simp (disch:=(try simp only [sPu]);omega),by simp (disch:=(try simp only [sPu]);omega),by simp (disch:=(try simp only [sPu]);omega),by omega,by simp (disch:=(try simp only [sPu]);omega),Below.refl _ _⟩ ?_)
  rintro a4 w5 ⟨j,q,qd,q6,q7,q8,hj,q3,hb5⟩
  have hsz5:w.heap.size≤w5.heap.size:=hb5.size
  refine SC.wp_seq (SC.wp_reg ?_)
  repeat (apply ops_1;(focus (simp (disch:=(try simp only [sPu]);omega) [hst,q7,q8];try rfl)))
  refine oNi ?_
  simp only [Exit.then]
  refine SC.wp_seq (SC.wp_cond (t:=decide ((j:Int) < (Fs.len fs:Int))) (by simp (disch:=(try simp only [sPu]);omega)) ?_)
  cases e1:decide ((j:Int) < (Fs.len fs:Int))
  · rw [if_neg (by simp)]
    refine SC.wp_exit ?_
    simp only [Exit.then,Exit.inBlock,if_true]
    refine SC.wp_seq (SC.wp_reg ?_)
    repeat (apply ops_1;(focus (simp (disch:=(try simp only [sPu]);omega) [q3];try rfl)))
    refine oNi (SC.wp_ret (ret_tmp hr (by simp [dPu,qd]) ⟨?_,hb5⟩))
    simp (disch:=(try simp only [sPu]);omega)
  · have hjl:j < Fs.len fs:=by simp at e1;omega
    rw [if_pos rfl]
    refine SC.wp_skip ?_
    simp only [Exit.then]
    obtain ⟨h,ty,hdrop⟩:=drop_cons j fs hjl
    rcases hfs with hfs | ⟨b,o,rfl,hbF,hfs⟩
    · omega
    have hfj:=fsAt_drop j fs b o hfs
    rw [hdrop] at hfj
    simp only [FsAt] at hfj
    obtain ⟨⟨of_,sub,hr8,h1c,hof,hsub⟩,_⟩:=hfj
    have hr8':=(rangeV_mono (w:=w5) (hb5.block b hbF) 8 (o+j * 8)).trans hr8
    have ej:(0:Int)≤(j:Int)∧(j:Int) < (Fs.len fs:Int):=by omega
    refine SC.wp_seq (SC.wp_block (SC.wp_seq (SC.wp_reg ?_)))
    iterate 2 (apply ops_1;(focus (simp (disch:=(try simp only [sPu]);omega) [hst,q6,q8,ej,hr8',hjl];try rfl)))
    refine oNo rfl (opw_alloc hiF hzF ?_)
    refine oNo rfl (opw_store_agg (b:=w5.heap.size) (cs:=[.int .i64 (kindOf ty),.int .i64 h.from_,.int .i64 h.to,.int .i64 h.null,.int .i64 (-1),.int .i64 h.dflt,.int .i64 of_,sub]) hTF1 (by simp (disch:=(try simp only [sPu]);omega)) (by simp (disch:=(try simp only [sPu]);omega)) (heap_alloc_new w5 _) (by simp [hzFs]) (by
      intro v hv
      simp only [List.mem_cons,List.not_mem_nil,or_false] at hv
      rcases hv with rfl | rfl | rfl | rfl | rfl | rfl | rfl | rfl <;> first | rfl | exact h1c) (oNi ?_))
    have hnew:((w5.alloc (.cells zF.cells X.F)).setRow w5.heap.size #[.int .i64 (kindOf ty),.int .i64 h.from_,.int .i64 h.to,.int .i64 h.null,.int .i64 (-1),.int .i64 h.dflt,.int .i64 of_,sub]).heap[w5.heap.size]?=some (.cells #[.int .i64 (kindOf ty),.int .i64 h.from_,.int .i64 h.to,.int .i64 h.null,.int .i64 (-1),.int .i64 h.dflt,.int .i64 of_,sub] X.F (0,0)):=setRow_heap _ _ _ _ _ _ (heap_alloc_new w5 _)
    have hb6:Below w5.heap.size w5 ((w5.alloc (.cells zF.cells X.F)).setRow w5.heap.size #[.int .i64 (kindOf ty),.int .i64 h.from_,.int .i64 h.to,.int .i64 h.null,.int .i64 (-1),.int .i64 h.dflt,.int .i64 of_,sub]):=below_setRow ((Below.refl _ _).alloc (Nat.le_refl _) _) (Nat.le_refl _) _
    simp only [Exit.then,pNo]
    generalize ((w5.alloc (.cells zF.cells X.F)).setRow w5.heap.size #[.int .i64 (kindOf ty),.int .i64 h.from_,.int .i64 h.to,.int .i64 h.null,.int .i64 (-1),.int .i64 h.dflt,.int .i64 of_,sub])=w6 at *
    have hc6:∀ i,w6.cell? ⟨w5.heap.size,i,none⟩=#[Value.int .i64 (kindOf ty),.int .i64 h.from_,.int .i64 h.to,.int .i64 h.null,.int .i64 (-1),.int .i64 h.dflt,.int .i64 of_,sub][i]?:=fun i=>cell_of_row _ _ _ _ _ _ hnew
    refine SC.wp_seq (SC.wp_reg ?_)
    repeat (apply ops_1;(focus (simp (disch:=(try simp only [sPu]);omega) [hst,hc6];try rfl)))
    refine oNi (SC.wp_cond (t:=false) (by simp (disch:=(try simp only [sPu]);omega)) ?_)
    rw [if_neg (by simp)]
    refine SC.wp_skip ?_
    simp only [Exit.inBlock,Exit.then]
    have ew:IntKind.i64.wrap ((j:Int)+1)=((j+1:Nat):Int):=by rw [wrap_i64'];split <;> omega
    refine SC.wp_reg ?_
    repeat (apply ops_1;(focus (simp (disch:=(try simp only [sPu]);omega) [q8,ew];try rfl)))
    refine oNi ?_
    refine ⟨⟨j+1,by simp [sPu,q],by simp [dPu,qd],by simp (disch:=(try simp only [sPu]);omega) [q6],by simp (disch:=(try simp only [sPu]);omega) [q7],by simp (disch:=(try simp only [sPu]);omega),by omega,by simp (disch:=(try simp only [sPu]);omega) [q3],hb5.trans (hb6.mono hsz5)⟩,?_⟩
    rw [q8]
    simp (disch:=(try simp only [sPu]);omega);omega
theorem part_ok (hX:stOK P X=true) (hTF:arrB P X.F 8=true) (hTg:arrB P X.Tg 2=true) (S:SmallC P X fW fTh fC fWi fF fU fHas fNull fAt G) (hm:P.follows .mixedOrders=true) (oF:FnOK P fFld) (cFd:FieldC G P X fFld fPart)
    (oK:FnOK P fKn) (cK:KnownC P fKn) (oUnk:FnOK P fUnk) (cUnk:UnkC G P fUnk)
    (hf:P.funcs[f]?=some fn) (hb:fn.body.map strip=some (sc_part X.T X.Fs X.I X.F X.Bs X.B X.U32 X.U64 X.Tgs X.Tg fHas fAt fFld fKn fUs fU fUnk fW)) (hn:fn.ntmps=132) (hr:fn.results=#[.tmp 8])
    (fs:Fs) (hlen63:Fs.len fs < 4294967296) (cP:SubsC (PartC G P X fPart) fs):PartC G P X f fs:=by
  intro w fv ver flex tv t hfv ht hl
  have hst:=st_facts hX
  have hU8s:=hst.2.2.1.1
  have hlim:lim=70368744177664:=rfl
  have hmost:most=32767:=rfl
  refine fCa hf hb hn (by simp) fun a0 hs hd ha=>?_
  have h0:=ha 0 _ rfl
  have h1:=ha 1 _ rfl
  have h2:=ha 2 _ rfl
  have h3:=ha 3 _ rfl
  simp only [List.getElem_toArray,List.getElem_cons_zero,List.getElem_cons_succ] at h0 h1 h2 h3
  have ht0:=ht
  have hfv0:=hfv
  cases ht with
  | mk n s tnull l u sb lb ub sc lc uc b o cs hs1 hsc hlc huc hll hrr htt hG hu =>
  obtain ⟨fb,fcap,rfl,hfs⟩:=hfv
  refine SC.wp_seq (SC.wp_reg (ops_box (B:=w.heap.size) (w0:=w) (by rw [eTm,h3];rfl) (Nat.le_refl _) (Below.refl _ _) fun w1 q1 q2 q3 hc q5=>?_))
  repeat (first | (apply ops_1;(focus (simp (disch:=(try simp only [sPu]);omega) ;try rfl))) | (apply ops_y;(focus rfl);(focus ((try simp only [sPu]);omega));(focus (simp (disch:=(try simp only [sPu]);omega);done));(focus (simp (disch:=(try simp only [sPu]);omega) ;try rfl))) | (apply ops_n;(focus rfl);(focus ((try simp only [sPu]);omega));(focus (first | (left;simp (disch:=(try simp only [sPu]);omega);done) | (right;simp (disch:=(try simp only [sPu]);omega);done)))))
  refine oNi (SC.wp_seq (SC.wp_reg ?_))
  repeat (first | (apply ops_1;(focus (simp (disch:=(try simp only [sPu]);omega) ;try rfl))) | (apply ops_y;(focus rfl);(focus ((try simp only [sPu]);omega));(focus (simp (disch:=(try simp only [sPu]);omega);done));(focus (simp (disch:=(try simp only [sPu]);omega) ;try rfl))) | (apply ops_n;(focus rfl);(focus ((try simp only [sPu]);omega));(focus (first | (left;simp (disch:=(try simp only [sPu]);omega);done) | (right;simp (disch:=(try simp only [sPu]);omega);done)))))
  refine oNi (SC.wp_seq (SC.wp_reg ?_))
  repeat (first | (apply ops_1;(focus (simp (disch:=(try simp only [sPu]);omega) ;try rfl))) | (apply ops_y;(focus rfl);(focus ((try simp only [sPu]);omega));(focus (simp (disch:=(try simp only [sPu]);omega);done));(focus (simp (disch:=(try simp only [sPu]);omega) ;try rfl))) | (apply ops_n;(focus rfl);(focus ((try simp only [sPu]);omega));(focus (first | (left;simp (disch:=(try simp only [sPu]);omega);done) | (right;simp (disch:=(try simp only [sPu]);omega);done)))))
  refine oNi ?_
  simp only [Exit.then]
  clear q1 q5
  have hT5:rangeV w1 w.heap.size 0 5=some [.int .i64 n,.slice sb s.length sc,.bool tnull,.slice lb l.length lc,.slice ub u.length uc]:=by simp [rangeV,hc]
  have hlF:(wFs ver flex fs (Tree.mk n s tnull l u).l).length≤lim:=by rw [List.length_append] at hl;omega
  have fin:∀ (a:Act) (w':World) (v:Value) (out:Bytes),a.defers=[]→getT a 8=v→Own X.U8 w' w.heap.size v out→Below w.heap.size w w'→out=wFs ver flex fs (Tree.mk n s tnull l u).l ++ wTags flex (Tree.mk n s tnull l u).u →
      bodyPost P fn (RetOwn X.U8 w (wFs ver flex fs (Tree.mk n s tnull l u).l ++ wTags flex (Tree.mk n s tnull l u).u)) .ret a w':=by
    intro a w' v out p1 p2 p3 p4 p5
    subst p5
    exact ret_tmp hr p1 ⟨v,by rw [p2],p3,p4⟩
  refine SC.wp_seq (fields_loop hX hTF S hm oF cFd (w:=w) fs fb fcap cP hfs hlen63 ver flex _ n _ _ _ tnull ht0 q2 (by omega) hT5 (by simp [sPu,hs]) (by simp (disch:=(try simp only [sPu]);omega) [h0]) (by simp (disch:=(try simp only [sPu]);omega) [h1]) (by simp (disch:=(try simp only [sPu]);omega) [h2]) (by simp (disch:=(try simp only [sPu]);omega)) (by simp (disch:=(try simp only [sPu]);omega)) hlF ?_)
  intro a2 w2 p pd ps po hb2
  have k0:getT a2 0=.slice fb (Fs.len fs) fcap:=by rw [ps 0 (by decide) (by decide)];simp (disch:=(try simp only [sPu]);omega) [h0]
  have k2:getT a2 2=.bool flex:=by rw [ps 2 (by decide) (by decide)];simp (disch:=(try simp only [sPu]);omega) [h2]
  have k7:getT a2 7=.pointer (some ⟨w.heap.size,0,none⟩):=by rw [ps 7 (by decide) (by decide)];simp (disch:=(try simp only [sPu]);omega)
  have k10:getT a2 10=.slice none 0 0:=by rw [ps 10 (by decide) (by decide)];simp (disch:=(try simp only [sPu]);omega)
  have k11:getT a2 11=.int .i64 0:=by rw [ps 11 (by decide) (by decide)];simp (disch:=(try simp only [sPu]);omega)
  have pd2:a2.defers=[]:=by rw [pd];simp [dPu,hd]
  have hsz2:w.heap.size+1≤w2.heap.size:=by have:=hb2.size;omega
  have hbw2:Below w.heap.size w w2:=q2.trans (hb2.mono (by omega))
  clear ps pd hs hd h0 h1 h2 h3 ha
  simp only [Exit.then]
  refine SC.wp_seq (SC.wp_seq (SC.wp_reg ?_))
  repeat (first | (apply ops_1;(focus (simp (disch:=(try simp only [sPu]);omega) [k2];try rfl))) | (apply ops_y;(focus rfl);(focus ((try simp only [sPu]);omega));(focus (simp (disch:=(try simp only [sPu]);omega) [k2];done));(focus (simp (disch:=(try simp only [sPu]);omega) [k2];try rfl))) | (apply ops_n;(focus rfl);(focus ((try simp only [sPu]);omega));(focus (first | (left;simp (disch:=(try simp only [sPu]);omega) [k2];done) | (right;simp (disch:=(try simp only [sPu]);omega);done)))))
  refine oNi ?_
  simp only [Exit.then]
  refine SC.wp_cond (t:=!flex) (by simp (disch:=(try simp only [sPu]);omega)) ?_
  cases flex
  · rw [if_pos (by rfl)]
    refine SC.wp_seq (SC.wp_reg ?_)
    repeat (first | (apply ops_1;(focus (simp (disch:=(try simp only [sPu]);omega) ;try rfl))) | (apply ops_y;(focus rfl);(focus ((try simp only [sPu]);omega));(focus (simp (disch:=(try simp only [sPu]);omega);done));(focus (simp (disch:=(try simp only [sPu]);omega) ;try rfl))) | (apply ops_n;(focus rfl);(focus ((try simp only [sPu]);omega));(focus (first | (left;simp (disch:=(try simp only [sPu]);omega);done) | (right;simp (disch:=(try simp only [sPu]);omega);done)))))
    refine oNi (SC.wp_ret ?_)
    simp only [Exit.then]
    refine fin _ _ (getT a2 9) _ (by simp [dPu,pd2]) (by simp (disch:=(try simp only [sPu]);omega)) (own_down po (by omega)) hbw2 (by simp [wTags])
  · rw [if_neg (by simp)]
    refine SC.wp_skip ?_
    simp only [Exit.then]
    refine SC.wp_seq (SC.wp_seq (SC.wp_reg ?_))
    iterate 1 (first | (apply ops_1;(focus (simp (disch:=(try simp only [sPu]);omega) [k0];try rfl))) | (apply ops_y;(focus rfl);(focus ((try simp only [sPu]);omega));(focus (simp (disch:=(try simp only [sPu]);omega) [k0];done));(focus (simp (disch:=(try simp only [sPu]);omega) [k0];try rfl))) | (apply ops_n;(focus rfl);(focus ((try simp only [sPu]);omega));(focus (first | (left;simp (disch:=(try simp only [sPu]);omega) [k0];done) | (right;simp (disch:=(try simp only [sPu]);omega);done)))))
    refine ops_call oK (cK w2 fs _ (FsV.down hbw2 (by omega) hfv0) hlen63) (by simp (disch:=(try simp only [sPu]);omega)) ?_
    rintro e w3 ⟨rfl,hb3⟩
    refine ⟨_,rfl,?_⟩
    have ew0:IntKind.i64.wrap 0=0:=rfl
    repeat (first | (apply ops_1;(focus (simp (disch:=(try simp only [sPu]);omega) [hst,ew0];try rfl))) | (apply ops_y;(focus rfl);(focus ((try simp only [sPu]);omega));(focus (simp (disch:=(try simp only [sPu]);omega) [hst,ew0];done));(focus (simp (disch:=(try simp only [sPu]);omega) [hst,ew0];try rfl))) | (apply ops_n;(focus rfl);(focus ((try simp only [sPu]);omega));(focus (first | (left;simp (disch:=(try simp only [sPu]);omega) [hst,ew0];done) | (right;simp (disch:=(try simp only [sPu]);omega);done)))))
    refine oNi ?_
    simp only [Exit.then]
    refine gen_act (fun a6=>a6.tmps.size=132∧a6.defers=[]∧getT a6 0=.slice fb (Fs.len fs) fcap∧getT a6 7=.pointer (some ⟨w.heap.size,0,none⟩)∧getT a6 9=getT a2 9∧getT a6 10=.slice none 0 0∧getT a6 11=.int .i64 0∧getT a6 51=.int .i64 0∧getT a6 52=.int .i64 0)
      ⟨by simp [sPu,p],by simp [dPu,pd2],by simp (disch:=(try simp only [sPu]);omega) [k0],by simp (disch:=(try simp only [sPu]);omega) [k7],by simp (disch:=(try simp only [sPu]);omega),by simp (disch:=(try simp only [sPu]);omega) [k10],by simp (disch:=(try simp only [sPu]);omega) [k11],by simp (disch:=(try simp only [sPu]);omega),by simp (disch:=(try simp only [sPu]);omega)⟩ ?_
    rintro a6 ⟨z,zd,z0,z7,z9,z10,z11,z51,z52⟩
    refine SC.wp_block (SC.wp_loop (fun a' w'=>a'=a6∧w'=w3) (fun _ _=>0) ⟨rfl,rfl⟩ ?_)
    rintro _ _ ⟨rfl,rfl⟩
    rename_i a6 w3
    refine SC.wp_seq (SC.wp_reg ?_)
    repeat (first | (apply ops_1;(focus (simp (disch:=(try simp only [sPu]);omega) [z51,z52];try rfl))) | (apply ops_y;(focus rfl);(focus ((try simp only [sPu]);omega));(focus (simp (disch:=(try simp only [sPu]);omega) [z51,z52];done));(focus (simp (disch:=(try simp only [sPu]);omega) [z51,z52];try rfl))) | (apply ops_n;(focus rfl);(focus ((try simp only [sPu]);omega));(focus (first | (left;simp (disch:=(try simp only [sPu]);omega) [z51,z52];done) | (right;simp (disch:=(try simp only [sPu]);omega);done)))))
    refine oNi ?_
    simp only [Exit.then]
    refine SC.wp_seq (SC.wp_cond (t:=false) (by simp (disch:=(try simp only [sPu]);omega)) ?_)
    rw [if_neg (by simp)]
    refine SC.wp_exit ?_
    simp only [Exit.then,Exit.inBlock,if_true]
    have hsz3:w2.heap.size≤w3.heap.size:=hb3.size
    have hbw3:Below w.heap.size w w3:=hbw2.trans (hb3.mono (by omega))
    have hc3:∀ j,w3.cell? ⟨w.heap.size,j,none⟩=#[Value.int .i64 n,.slice sb s.length sc,.bool tnull,.slice lb l.length lc,.slice ub u.length uc][j]?:=fun j =>
      (World.cell?_of_block (w:=w1) (w':=w3) (a:=⟨w.heap.size,j,none⟩) ((hb3.block w.heap.size (by omega)).trans (hb2.block w.heap.size (by omega)))).trans (hc j)
    have hul:=unknown_length u
    have htl:((unknown u).flatMap wTag).length≤lim∧(wFs ver true fs l).length+((uvarint (unknown u).length).length+((unknown u).flatMap wTag).length)≤lim:=by
      simp only [wTags,if_true,List.length_append,Tree.l,Tree.u] at hl
      omega
    refine SC.wp_seq (tags_loop hX hTg S oUnk cUnk fs _ (FsV.down hbw3 (by omega) hfv0) hlen63 w.heap.size (by omega) n _ _ tnull ub u uc huc hG (tagsAt_mono hu (fun k hk=>by have:k < w.heap.size:=hk;show k < w3.heap.size;omega) (fun k hk=>hbw3.block k hk)) hc3 (by simp [sPu,z]) (by simp (disch:=(try simp only [sPu]);omega) [z0]) (by simp (disch:=(try simp only [sPu]);omega) [z7]) (by simp (disch:=(try simp only [sPu]);omega) [z10]) (by simp (disch:=(try simp only [sPu]);omega) [z11]) htl.1 hul ?_)
    intro a7 w4 y yd ys yo y11 hb4
    have y9:getT a7 9=getT a2 9:=by rw [ys 9 (by decide)];simp (disch:=(try simp only [sPu]);omega) [z9]
    have yd2:a7.defers=[]:=by rw [yd];simp [dPu,zd]
    have hsz4:w3.heap.size≤w4.heap.size:=hb4.size
    simp only [Exit.then]
    have eu:((unknown u).length:Int) % 18446744073709551616=((unknown u).length:Int):=by omega
    refine SC.wp_seq (SC.wp_reg ?_)
    iterate 3 (first | (apply ops_1;(focus (simp (disch:=(try simp only [sPu]);omega) [hst,y9,y11,wrap_u64,eu];try rfl))) | (apply ops_y;(focus rfl);(focus ((try simp only [sPu]);omega));(focus (simp (disch:=(try simp only [sPu]);omega) [hst,y9,y11,wrap_u64,eu];done));(focus (simp (disch:=(try simp only [sPu]);omega) [hst,y9,y11,wrap_u64,eu];try rfl))) | (apply ops_n;(focus rfl);(focus ((try simp only [sPu]);omega));(focus (first | (left;simp (disch:=(try simp only [sPu]);omega) [hst,y9,y11,wrap_u64,eu];done) | (right;simp (disch:=(try simp only [sPu]);omega);done)))))
    refine ops_call S.oU (S.cU w4 (unknown u).length (by omega)) (by simp (disch:=(try simp only [sPu]);omega)) ?_
    rintro e w5 ⟨v1,rfl,o1,b1⟩
    refine ⟨v1,rfl,?_⟩
    have hsz5:w4.heap.size≤w5.heap.size:=b1.size
    have hb25:Below w2.heap.size w2 w5:=hb3.trans ((hb4.mono hsz3).trans (b1.mono (by omega)))
    have po5:Own X.U8 w5 (w.heap.size+1) (getT a2 9) (wFs ver true fs l):=own_keep po hb25
    refine oNo rfl (opw_appendU8 (B:=w.heap.size+1) (dv:=getT a2 9) (xv:=v1) (xs:=wFs ver true fs l) (bs:=uvarint (unknown u).length) hU8s (by simp (disch:=(try simp only [sPu]);omega)) (by simp (disch:=(try simp only [sPu]);omega)) rfl po5 (by omega) (src_own hU8s o1) (by omega) ?_)
    intro v2 w6 o2 b2 s6 g6
    have yo5:=own_keep yo b1
    have yo6:Own X.U8 w6 w3.heap.size (getT a7 10) ((unknown u).flatMap wTag):=own_same yo5 (fun k hk=>by
      have h1:=own_lt yo5 k hk
      refine g6.block k h1.2 (fun e=>?_)
      have h2:=own_lt po k e.symm
      omega)
    iterate 1 (first | (apply ops_1;(focus (simp (disch:=(try simp only [sPu]);omega) ;try rfl))) | (apply ops_y;(focus rfl);(focus ((try simp only [sPu]);omega));(focus (simp (disch:=(try simp only [sPu]);omega);done));(focus (simp (disch:=(try simp only [sPu]);omega) ;try rfl))) | (apply ops_n;(focus rfl);(focus ((try simp only [sPu]);omega));(focus (first | (left;simp (disch:=(try simp only [sPu]);omega);done) | (right;simp (disch:=(try simp only [sPu]);omega);done)))))
    refine oNo rfl (opw_appendU8 (B:=w.heap.size+1) (dv:=v2) (xv:=getT a7 10) (xs:=wFs ver true fs l ++ uvarint (unknown u).length) (bs:=(unknown u).flatMap wTag) hU8s (by simp (disch:=(try simp only [sPu]);omega)) (by simp (disch:=(try simp only [sPu]);omega)) rfl o2 s6 (src_own hU8s yo6) (by rw [List.length_append];omega) ?_)
    intro v3 w7 o3 b3 s7 _
    repeat (first | (apply ops_1;(focus (simp (disch:=(try simp only [sPu]);omega) ;try rfl))) | (apply ops_y;(focus rfl);(focus ((try simp only [sPu]);omega));(focus (simp (disch:=(try simp only [sPu]);omega);done));(focus (simp (disch:=(try simp only [sPu]);omega) ;try rfl))) | (apply ops_n;(focus rfl);(focus ((try simp only [sPu]);omega));(focus (first | (left;simp (disch:=(try simp only [sPu]);omega);done) | (right;simp (disch:=(try simp only [sPu]);omega);done)))))
    refine oNi (SC.wp_ret ?_)
    try simp only [Exit.then]
    refine fin _ _ v3 _ (by simp [dPu,yd2]) (by simp (disch:=(try simp only [sPu]);omega)) (own_down o3 (by omega)) (hbw2.trans ((hb25.mono (by omega)).trans ((b2.mono (by omega)).trans (b3.mono (by omega))))) (by simp [wTags,Tree.l,Tree.u])
end
end Go.Proofs.YtcchakpiemhpeaaDoor.K
namespace Go.Proofs.YtcchakpiemhpeaaDoor.K
open Go Go.RowKit Go.Proofs.YtcchakpiemhpeaaDoor.T
attribute [local simp] eTm eCo pNo gTp gTn qv qcall vop iop
set_option linter.unusedSimpArgs false
set_option linter.unusedVariables false
set_option maxHeartbeats 4000000
mutual
def smallTy:Ty→Bool
  | .prim _=>true
  | .struct _ _ _ _ fs=>decide (Fs.len fs < 4294967296) && smallFs fs
  | .list _ _ _ of=>smallTy of
def smallFs:Fs→Bool
  | .nil=>true
  | .cons _ ty r=>smallTy ty && smallFs r
end
section
variable {G:List (Nat × Bytes)→Prop} {P:Program} {X:STy} {f:FuncId} {fn:Func} {fPart:FuncId}
mutual
theorem subC_all {C:Fs→Prop} (hC:∀ fs,Fs.len fs < 4294967296→SubsC C fs→C fs):∀ ty,smallTy ty=true→SubC C ty
  | .prim _,_=>by simp [SubC]
  | .struct _ _ _ _ fs,h=>by
    simp only [smallTy,Bool.and_eq_true,decide_eq_true_eq] at h
    simp only [SubC]
    exact hC fs h.1 (subsC_all hC fs h.2)
  | .list _ _ _ of,h=>by
    simp only [smallTy] at h
    simp only [SubC]
    exact subC_all hC of h
theorem subsC_all {C:Fs→Prop} (hC:∀ fs,Fs.len fs < 4294967296→SubsC C fs→C fs):∀ fs,smallFs fs=true→SubsC C fs
  | .nil,_=>by simp [SubsC]
  | .cons h ty r,hh=>by
    simp only [smallFs,Bool.and_eq_true] at hh
    simp only [SubsC]
    exact ⟨subC_all hC ty hh.1,subsC_all hC r hh.2⟩
end
def msgV (fv:Value) (flex:Int):Value:=.agg #[fv,.int .i64 flex]
theorem write_ok (hX:stOK P X=true) (oP:FnOK P fPart) (hf:P.funcs[f]?=some fn) (hb:fn.body.map strip=some (sc_Write X.M X.T X.Fs X.I fPart)) (hn:fn.ntmps=21) (hr:fn.results=#[.tmp 6])
    (fs:Fs) (cP:PartC G P X fPart fs) (w:World) (fv:Value) (mflex ver:Int) (t:Tree) (tv:Value) (hfv:FsV w (· < w.heap.size) fs fv) (ht:TV G w (· < w.heap.size) t tv)
    (hl:(wFs ver (decide (0≤mflex) && decide (mflex≤ver)) fs t.l ++ wTags (decide (0≤mflex) && decide (mflex≤ver)) t.u).length≤lim) :
    Calls P f #[msgV fv mflex,.int .i64 ver,tv] w (RetOwn X.U8 w (wFs ver (decide (0≤mflex) && decide (mflex≤ver)) fs t.l ++ wTags (decide (0≤mflex) && decide (mflex≤ver)) t.u)):=by
  have hst:=st_facts hX
  refine fCa hf hb hn (by simp) fun a0 hs hd ha=>?_
  have h0:=ha 0 _ rfl
  have h1:=ha 1 _ rfl
  have h2:=ha 2 _ rfl
  simp only [List.getElem_toArray,List.getElem_cons_zero,List.getElem_cons_succ] at h0 h1 h2
  have ht0:=ht
  cases ht with
  | mk n s tnull l u sb lb ub sc lc uc b o cs hs1 hsc hlc huc hll hrr htt hG hu =>
  refine SC.wp_seq (SC.wp_reg (ops_box (B:=w.heap.size) (w0:=w) (by rw [eTm,h0];rfl) (Nat.le_refl _) (Below.refl _ _) fun w1 q1 q2 q3 hc q5=>?_))
  refine ops_box (B:=w.heap.size) (w0:=w) (cs:=#[.int .i64 n,.slice sb s.length sc,.bool tnull,.slice lb l.length lc,.slice ub u.length uc]) (by simp (disch:=(try simp only [sPu]);omega) [h2,treV]) (by omega) q2 fun w2 r1 r2 r3 hd2 r5=>?_
  repeat (first | (apply ops_1;(focus (simp (disch:=(try simp only [sPu]);omega) ;try rfl))) | (apply ops_y;(focus rfl);(focus ((try simp only [sPu]);omega));(focus (simp (disch:=(try simp only [sPu]);omega);done));(focus (simp (disch:=(try simp only [sPu]);omega) ;try rfl))) | (apply ops_n;(focus rfl);(focus ((try simp only [sPu]);omega));(focus (first | (left;simp (disch:=(try simp only [sPu]);omega);done) | (right;simp (disch:=(try simp only [sPu]);omega);done)))))
  refine oNi ?_
  have hc2:∀ j,w2.cell? ⟨w.heap.size,j,none⟩=#[fv,.int .i64 mflex][j]?:=fun j=>by rw [r1.cell (by show w.heap.size < w1.heap.size;omega)];exact hc j
  have hsz2:w2.heap.size=w.heap.size+2:=by omega
  rw [q3] at hd2 ⊢
  clear hc q1 q2 q3 q5 r1 r3 r5 w1
  have hT5:rangeV w2 (w.heap.size+1) 0 5=some [.int .i64 n,.slice sb s.length sc,.bool tnull,.slice lb l.length lc,.slice ub u.length uc]:=by simp [rangeV,hd2]
  refine SC.wp_seq (SC.wp_reg ?_)
  have fin:∀ (flex:Bool) (a:Act),a.defers=[]→getT a 8=fv→getT a 9=.int .i64 ver→getT a 18=.bool flex→getT a 5=.pointer (some ⟨w.heap.size+1,0,none⟩)→a.tmps.size=21→(decide (0≤mflex) && decide (mflex≤ver))=flex→∀ all,opsw P all [ld 19 X.T 5,cal 20 fPart [8,9,18,19],asg 6 20] (Exit.then (SC.wp P .ret (bodyPost P fn (RetOwn X.U8 w (wFs ver (decide (0≤mflex) && decide (mflex≤ver)) fs (Tree.mk n s tnull l u).l ++ wTags (decide (0≤mflex) && decide (mflex≤ver)) (Tree.mk n s tnull l u).u)))) (bodyPost P fn (RetOwn X.U8 w (wFs ver (decide (0≤mflex) && decide (mflex≤ver)) fs (Tree.mk n s tnull l u).l ++ wTags (decide (0≤mflex) && decide (mflex≤ver)) (Tree.mk n s tnull l u).u))) .normal) a w2:=by
    intro flex a pd p8 p9 p18 p5 ps hfl all
    rw [hfl] at hl ⊢
    iterate 1 (first | (apply ops_1;(focus (simp (disch:=(try simp only [sPu]);omega) [hst,p5,hT5];try rfl))) | (apply ops_y;(focus rfl);(focus ((try simp only [sPu]);omega));(focus (simp (disch:=(try simp only [sPu]);omega) [hst,p5,hT5];done));(focus (simp (disch:=(try simp only [sPu]);omega) [hst,p5,hT5];try rfl))) | (apply ops_n;(focus rfl);(focus ((try simp only [sPu]);omega));(focus (first | (left;simp (disch:=(try simp only [sPu]);omega) [hst,p5,hT5];done) | (right;simp (disch:=(try simp only [sPu]);omega);done)))))
    refine ops_call oP (cP w2 fv ver flex _ _ (FsV.down r2 (by omega) hfv) (TV.down r2 (by omega) ht0) hl) (by simp (disch:=(try simp only [sPu]);omega) [p8,p9,p18,treV]) ?_
    rintro e w3 ⟨v,rfl,o1,b1⟩
    refine ⟨v,rfl,?_⟩
    repeat (first | (apply ops_1;(focus (simp (disch:=(try simp only [sPu]);omega) ;try rfl))) | (apply ops_y;(focus rfl);(focus ((try simp only [sPu]);omega));(focus (simp (disch:=(try simp only [sPu]);omega);done));(focus (simp (disch:=(try simp only [sPu]);omega) ;try rfl))) | (apply ops_n;(focus rfl);(focus ((try simp only [sPu]);omega));(focus (first | (left;simp (disch:=(try simp only [sPu]);omega);done) | (right;simp (disch:=(try simp only [sPu]);omega);done)))))
    refine oNi ?_
    simp only [Exit.then]
    refine SC.wp_ret (ret_tmp hr (by simp [dPu,pd]) ⟨v,?_,own_down o1 (by omega),r2.trans (b1.mono (by omega))⟩)
    simp (disch:=(try simp only [sPu]);omega)
  cases e1:decide (0≤mflex)
  · rw [e1] at fin
    iterate 12 (first | (apply ops_1;(focus (simp (disch:=(try simp only [sPu]);omega) [hst,hc2,hT5,h1,e1];try rfl))) | (apply ops_y;(focus rfl);(focus ((try simp only [sPu]);omega));(focus (simp (disch:=(try simp only [sPu]);omega) [hst,hc2,hT5,h1,e1];done));(focus (simp (disch:=(try simp only [sPu]);omega) [hst,hc2,hT5,h1,e1];try rfl))) | (apply ops_n;(focus rfl);(focus ((try simp only [sPu]);omega));(focus (first | (left;simp (disch:=(try simp only [sPu]);omega) [hst,hc2,hT5,h1,e1];done) | (right;simp (disch:=(try simp only [sPu]);omega);done)))))
    refine fin false _ (by simp [dPu,hd]) (by simp (disch:=(try simp only [sPu]);omega)) (by simp (disch:=(try simp only [sPu]);omega)) (by simp (disch:=(try simp only [sPu]);omega)) (by simp (disch:=(try simp only [sPu]);omega)) (by simp [sPu,hs]) (by simp) _
  · cases e2:decide (mflex≤ver)
    · rw [e1,e2] at fin
      iterate 12 (first | (apply ops_1;(focus (simp (disch:=(try simp only [sPu]);omega) [hst,hc2,hT5,h1,e1,e2];try rfl))) | (apply ops_y;(focus rfl);(focus ((try simp only [sPu]);omega));(focus (simp (disch:=(try simp only [sPu]);omega) [hst,hc2,hT5,h1,e1,e2];done));(focus (simp (disch:=(try simp only [sPu]);omega) [hst,hc2,hT5,h1,e1,e2];try rfl))) | (apply ops_n;(focus rfl);(focus ((try simp only [sPu]);omega));(focus (first | (left;simp (disch:=(try simp only [sPu]);omega) [hst,hc2,hT5,h1,e1,e2];done) | (right;simp (disch:=(try simp only [sPu]);omega);done)))))
      refine fin false _ (by simp [dPu,hd]) (by simp (disch:=(try simp only [sPu]);omega)) (by simp (disch:=(try simp only [sPu]);omega)) (by simp (disch:=(try simp only [sPu]);omega)) (by simp (disch:=(try simp only [sPu]);omega)) (by simp [sPu,hs]) (by simp) _
    · rw [e1,e2] at fin
      iterate 12 (first | (apply ops_1;(focus (simp (disch:=(try simp only [sPu]);omega) [hst,hc2,hT5,h1,e1,e2];try rfl))) | (apply ops_y;(focus rfl);(focus ((try simp only [sPu]);omega));(focus (simp (disch:=(try simp only [sPu]);omega) [hst,hc2,hT5,h1,e1,e2];done));(focus (simp (disch:=(try simp only [sPu]);omega) [hst,hc2,hT5,h1,e1,e2];try rfl))) | (apply ops_n;(focus rfl);(focus ((try simp only [sPu]);omega));(focus (first | (left;simp (disch:=(try simp only [sPu]);omega) [hst,hc2,hT5,h1,e1,e2];done) | (right;simp (disch:=(try simp only [sPu]);omega);done)))))
      refine fin true _ (by simp [dPu,hd]) (by simp (disch:=(try simp only [sPu]);omega)) (by simp (disch:=(try simp only [sPu]);omega)) (by simp (disch:=(try simp only [sPu]);omega)) (by simp (disch:=(try simp only [sPu]);omega)) (by simp [sPu,hs]) (by simp) _
def sOK (P:Program) (X:STy):Bool :=
  intK P X.I == some .i64 && intK P X.U8 == some .u8 && oneB P X.I && oneB P X.U8 && oneB P X.Bs && u8sB P X.Bs X.U8 && sliceN P X.Bs == some 1
theorem s_facts {P:Program} {X:STy} (h:sOK P X=true):(intK P X.I=some .i64∧intK P X.U8=some .u8)∧(oneB P X.I=true∧oneB P X.U8=true∧oneB P X.Bs=true)∧u8sB P X.Bs X.U8=true∧sliceN P X.Bs=some 1:=by
  simp only [sOK,Bool.and_eq_true,beq_iff_eq] at h
  simp only [h,and_self]
theorem same_ok (hX:sOK P X=true) (hm:P.follows .mixedOrders=true) (hf:P.funcs[f]?=some fn) (hb:fn.body.map strip=some (sc_Same X.Bs X.I X.U8)) (hn:fn.ntmps=26) (hr:fn.results=#[.tmp 4])
    (w:World) (xs:Bytes) (b1 b2:Option Addr) (c1 c2:Nat) (h1:BytesAt w (fun k=>k < w.heap.size) b1 xs) (h2:BytesAt w (fun k=>k < w.heap.size) b2 xs) (hl:xs.length≤lim) :
    Calls P f #[.slice b1 xs.length c1,.slice b2 xs.length c2] w fun e w'=>e=.returned (.bool true)∧Below w.heap.size w w':=by
  have hst:=s_facts hX
  have hlim:lim=70368744177664:=rfl
  refine fCa hf hb hn (by simp) fun a0 hs hd ha=>?_
  have k0:=ha 0 _ rfl
  have k1:=ha 1 _ rfl
  simp only [List.getElem_toArray,List.getElem_cons_zero,List.getElem_cons_succ] at k0 k1
  refine SC.wp_seq (SC.wp_reg ?_)
  repeat (apply ops_1;(focus (simp (disch:=(try simp only [sPu]);omega) ;try rfl)))
  refine oNi (SC.wp_seq (SC.wp_seq (SC.wp_reg ?_)))
  repeat (apply ops_1;(focus (simp (disch:=(try simp only [sPu]);omega) [hst,k0,k1];try rfl)))
  refine oNi (SC.wp_cond (t:=false) (by simp (disch:=(try simp only [sPu]);omega)) ?_)
  rw [if_neg (by simp)]
  refine SC.wp_skip ?_
  simp only [Exit.then]
  refine SC.wp_seq (SC.wp_seq (SC.wp_reg ?_))
  repeat (apply ops_1;(focus (simp (disch:=(try simp only [sPu]);omega) [hst,k0,k1];try rfl)))
  refine oNi ?_
  simp only [Exit.then]
  refine SC.wp_block (SC.wp_loop (fun a4 w5=>∃ (j:Nat),a4.tmps.size=26∧a4.defers=[]∧getT a4 0=.slice b1 xs.length c1∧getT a4 1=.slice b2 xs.length c2∧getT a4 12=.int .i64 (xs.length:Int)∧getT a4 13=.int .i64 (j:Int)∧j≤xs.length∧Below w.heap.size w w5)
    (fun a4 _=>match getT a4 13 with | .int _ m=>(xs.length - m).toNat | _=>0) ⟨0,by simp [sPu,hs],by simp [dPu,hd],by simp (disch:=(try simp only [sPu]);omega) [k0],by simp (disch:=(try simp only [sPu]);omega) [k1],by simp (disch:=(try simp only [sPu]);omega),by simp (disch:=(try simp only [sPu]);omega),by omega,Below.refl _ _⟩ ?_)
  rintro a4 w5 ⟨j,q,qd,q0,q1,q12,q13,hj,hb5⟩
  refine SC.wp_seq (SC.wp_reg ?_)
  repeat (apply ops_1;(focus (simp (disch:=(try simp only [sPu]);omega) [hst,q12,q13];try rfl)))
  refine oNi ?_
  simp only [Exit.then]
  refine SC.wp_seq (SC.wp_cond (t:=decide ((j:Int) < (xs.length:Int))) (by simp (disch:=(try simp only [sPu]);omega)) ?_)
  cases e1:decide ((j:Int) < (xs.length:Int))
  · rw [if_neg (by simp)]
    refine SC.wp_exit ?_
    simp only [Exit.then,Exit.inBlock,if_true]
    refine SC.wp_seq (SC.wp_reg ?_)
    repeat (apply ops_1;(focus (simp (disch:=(try simp only [sPu]);omega) ;try rfl)))
    refine oNi (SC.wp_ret (ret_tmp hr (by simp [dPu,qd]) ⟨?_,hb5⟩))
    simp (disch:=(try simp only [sPu]);omega)
  · have hjl:j < xs.length:=by simp at e1;omega
    rw [if_pos rfl]
    refine SC.wp_skip ?_
    simp only [Exit.then]
    rcases h1 with e | ⟨g1,o1,rfl,hg1,hc1⟩
    · subst e;simp at hjl
    rcases h2 with e | ⟨g2,o2,rfl,hg2,hc2⟩
    · subst e;simp at hjl
    have hx:=List.getElem?_eq_getElem hjl
    have hd1:w5.drew.cell? ⟨g1,o1+j,none⟩=some (cell xs[j]):=(World.cell?_of_block (w:=w) (w':=w5.drew) (a:=⟨g1,o1+j,none⟩) (hb5.block g1 hg1)).trans (hc1 j _ hx)
    have hd2:w5.drew.cell? ⟨g2,o2+j,none⟩=some (cell xs[j]):=(World.cell?_of_block (w:=w) (w':=w5.drew) (a:=⟨g2,o2+j,none⟩) (hb5.block g2 hg2)).trans (hc2 j _ hx)
    have ej:(0:Int)≤(j:Int)∧(j:Int) < (xs.length:Int):=by omega
    have hcell:cell xs[j]=.int .u8 (xs[j].toNat:Int):=rfl
    rw [hcell] at hd1 hd2
    generalize xs[j].toNat=cj at *
    refine SC.wp_seq (SC.wp_block (SC.wp_seq (SC.wp_reg ?_)))
    repeat (apply ops_1;(focus (simp (disch:=(try simp only [sPu]);omega) [q13];try rfl)))
    refine oNi ?_
    simp only [Exit.then]
    refine SC.wp_seq (SC.wp_dreg hm (Below w.heap.size w5.drew) [(0,true),(1,true),(2,true),(3,true),(4,true),(5,true),(6,true),(7,true),(8,true)] (by rfl) (by rfl) (by decide) (Below.refl _ _) ?_)
    repeat (apply dr_1;(focus rfl);(focus (simp (disch:=(try simp only [sPu]);omega) [hst,q0,q1,ej,hd1,hd2,hg1,hg2,hjl];try rfl)))
    refine dreg_nil ?_
    simp only [Exit.then]
    refine SC.wp_cond (t:=false) (by simp (disch:=(try simp only [sPu]);omega)) ?_
    rw [if_neg (by simp)]
    refine SC.wp_skip ?_
    simp only [Exit.inBlock,Exit.then]
    have ew:IntKind.i64.wrap ((j:Int)+1)=((j+1:Nat):Int):=by rw [wrap_i64'];split <;> omega
    refine SC.wp_reg ?_
    repeat (apply ops_1;(focus (simp (disch:=(try simp only [sPu]);omega) [q13,ew];try rfl)))
    refine oNi ?_
    refine ⟨⟨j+1,by simp [sPu,q],by simp [dPu,qd],by simp (disch:=(try simp only [sPu]);omega) [q0],by simp (disch:=(try simp only [sPu]);omega) [q1],by simp (disch:=(try simp only [sPu]);omega) [q12],by simp (disch:=(try simp only [sPu]);omega),by omega,hb5.drew⟩,?_⟩
    rw [q13]
    simp (disch:=(try simp only [sPu]);omega);omega
end
end Go.Proofs.YtcchakpiemhpeaaDoor.K
namespace Go.Proofs.YtcchakpiemhpeaaDoor.T
set_option linter.unusedVariables false
set_option linter.unusedSimpArgs false
abbrev Rd (α:Type):=Bytes→Option (α × Bytes)
def rOk {α:Type} (x:α):Rd α:=fun b=>some (x,b)
def rThen {α β:Type} (p:Rd α) (f:α→Rd β):Rd β:=fun b=>(p b).bind fun x=>f x.1 x.2
def unfix:Bytes→Nat
  | []=>0
  | u :: r=>u.toNat * 256 ^ r.length+unfix r
def sgn (k n:Nat):Int:=if n < 256 ^ k / 2 then (n:Int) else (n:Int) - (256 ^ k:Nat)
def pFix (k:Nat):Rd Nat:=fun b=>if b.length < k then none else some (unfix (b.take k),b.drop k)
def pInt (k:Nat):Rd Int:=rThen (pFix k) fun n=>rOk (sgn k n)
def pSpan (l:Int):Rd Bytes:=fun b=>if (b.length:Int) < l∨l < 0 then none else some (b.take l.toNat,b.drop l.toNat)
def pUvGo:Nat→Nat→Rd Nat
  | _,_,[]=>none
  | 0,m,u :: r=>if u.toNat≤15 then some (u.toNat * m,r) else none
  | k+1,m,u :: r=>if u.toNat < 128 then some (u.toNat * m,r) else (pUvGo k (m * 128) r).map fun x=>(u.toNat % 128 * m+x.1,x.2)
def pUv:Rd Nat:=pUvGo 4 1
def pLen (flex:Bool):Rd Int :=
  rThen (if flex then rThen pUv fun n=>rOk (if n=2147483648 then 2147483647 else (if n < 2147483648 then (n:Int) else (n:Int) - 4294967296) - 1) else pInt 4)
    fun l b=>if (b.length:Int) < l then none else some (l,b)
def tN (n:Int):Tree:=.mk n [] false [] []
def tS (s:Bytes):Tree:=.mk 0 s false [] []
def tNull:Tree:=.mk 0 [] true [] []
def tL (l:List Tree):Tree:=.mk 0 [] false l []
def pCount (flex:Bool) (size:Nat):Rd Int:=if flex then rThen pUv fun n=>rOk ((n:Int) - 1) else pInt size
def pPrim (flex nul:Bool):PK→Rd Tree
  | .bool=>rThen (pFix 1) fun n=>rOk (tN (if n=0 then 0 else 1))
  | .u16=>rThen (pFix 2) fun n=>rOk (tN n)
  | .uuid=>rThen (pSpan 16) fun s=>rOk (tS s)
  | .str=>rThen (pCount flex 2) fun l=>if nul && decide (l < 0) then rOk tNull else rThen (pSpan l) fun s=>rOk (tS s)
  | .bytes=>rThen (pCount flex 4) fun l=>if nul && decide (l < 0) then rOk tNull else if !nul && decide (l=-1) then rOk (tS []) else rThen (pSpan l) fun s=>rOk (tS s)
  | k=>rThen (pInt k.width) fun n=>rOk (tN n)
def pMany {α:Type} (p:Rd α):Nat→Rd (List α)
  | 0=>rOk []
  | n+1=>rThen p fun x=>rThen (pMany p n) fun xs=>rOk (x :: xs)
def setTag (t:Nat × Bytes):List (Nat × Bytes)→List (Nat × Bytes)
  | []=>[t]
  | x :: r=>if x.1 < t.1 then x :: setTag t r else if x.1=t.1 then t :: r else t :: x :: r
def pTagN:Nat→List (Nat × Bytes)→Rd (List (Nat × Bytes))
  | 0,acc=>rOk acc
  | n+1,acc=>rThen pUv fun k=>rThen pUv fun s=>rThen (pSpan s) fun v=>pTagN n (setTag (k,v) acc)
def pTags (flex:Bool):Rd (List (Nat × Bytes)):=if flex then rThen pUv fun n=>pTagN n [] else rOk []
def nulAt (ver:Int) (h:Hd):Ty→Bool
  | .struct _ _ _ _ _=>decide (0≤h.null)
  | _=>decide (0≤h.null) && decide (h.null≤ver)
mutual
def pTy (ver:Int) (flex:Bool):Ty→Bool→Rd Tree
  | .prim k,nul=>pPrim flex nul k
  | .list _ _ _ of,nul=>rThen (pLen flex) fun l=>if nul && decide (l < 0) then rOk tNull else rThen (pMany (pTy ver flex of false) l.toNat) fun xs=>rOk (tL xs)
  | .struct _ _ _ _ fs,nul =>
    rThen (if nul then pInt 1 else rOk 0) fun p=>if nul && decide (p=-1) then rOk tNull else
      rThen (pFs ver flex fs) fun xs=>rThen (pTags flex) fun u=>rOk (.mk 0 [] false xs u)
def pFs (ver:Int) (flex:Bool):Fs→Rd (List Tree)
  | .nil=>rOk []
  | .cons h ty r=>rThen (if h.has ver then pTy ver flex ty (nulAt ver h ty) else rOk Tree.zero) fun x=>rThen (pFs ver flex r) fun xs=>rOk (x :: xs)
end
def Ext {α:Type} (p:Rd α):Prop:=∀ b x r c,p b=some (x,r)→p (b ++ c)=some (x,r ++ c)
section
variable {α β:Type}
theorem rThen_some {p:Rd α} {f:α→Rd β} {b r:Bytes} {y:β} (h:rThen p f b=some (y,r)):∃ x r1,p b=some (x,r1)∧f x r1=some (y,r):=by
  unfold rThen at h
  cases hp:p b with
  | none=>rw [hp] at h;simp at h
  | some z=>rw [hp] at h;exact ⟨z.1,z.2,rfl,h⟩
theorem rThen_of {p:Rd α} {f:α→Rd β} {b r1:Bytes} {x:α} (h:p b=some (x,r1)):rThen p f b=f x r1:=by simp [rThen,h]
theorem Ext.ok (x:α):Ext (rOk x):=fun b y r c h=>by simp only [rOk,Option.some.injEq,Prod.mk.injEq] at h ⊢;obtain ⟨rfl,rfl⟩:=h;simp
theorem Ext.then {p:Rd α} {f:α→Rd β} (hp:Ext p) (hf:∀ x,Ext (f x)):Ext (rThen p f):=by
  intro b y r c h
  obtain ⟨x,r1,h1,h2⟩:=rThen_some h
  rw [rThen_of (hp _ _ _ _ h1)]
  exact hf x _ _ _ _ h2
end
end Go.Proofs.YtcchakpiemhpeaaDoor.T
namespace Go.Proofs.YtcchakpiemhpeaaDoor.T
set_option linter.unusedVariables false
set_option linter.unusedSimpArgs false
theorem fixed_length (n:Int):∀ k,(fixed n k).length=k
  | 0=>rfl
  | k+1=>by simp [fixed,fixed_length n k]
theorem byteOf_nat (n:Int):(byteOf n).toNat=(n % 256).toNat:=by
  have h0:0≤n % 256:=Int.emod_nonneg _ (by decide)
  have h1:n % 256 < 256:=Int.emod_lt_of_pos _ (by decide)
  simp [byteOf]
  omega
theorem pow_pos256 (k:Nat):0 < (256:Int) ^ k:=Int.pow_pos (by decide)
theorem div_mod_pow (n:Int) (k:Nat):n / 256 ^ k % 256=n % 256 ^ (k+1) / 256 ^ k:=by
  have hp:=pow_pos256 k
  have e:(256:Int) ^ (k+1)=256 ^ k * 256:=Int.pow_succ _ _
  have h1:n % 256 ^ (k+1)=n+256 ^ k * (-(256 * (n / 256 ^ (k+1)))):=by
    have:=Int.mul_ediv_add_emod n (256 ^ (k+1))
    rw [e] at this ⊢
    have e2:(256:Int) ^ k * -(256 * (n / (256 ^ k * 256)))=-(256 ^ k * 256 * (n / (256 ^ k * 256))):=by
      rw [Int.mul_neg,Int.mul_assoc]
    omega
  rw [h1,Int.add_mul_ediv_left _ _ (by omega)]
  have h2:n / 256 ^ (k+1)=n / 256 ^ k / 256:=by rw [e,Int.ediv_ediv_of_nonneg (by omega)]
  rw [h2]
  omega
theorem fixed_mod {n m:Int}:∀ {k:Nat},n % 256 ^ k=m % 256 ^ k→fixed n k=fixed m k
  | 0,_=>rfl
  | k+1,h=>by
    have hd:n % 256 ^ k=m % 256 ^ k:=by
      have e:(256:Int) ^ (k+1)=256 ^ k * 256:=Int.pow_succ _ _
      have d:(256:Int) ^ k ∣ 256 ^ (k+1):=⟨256,e⟩
      rw [← Int.emod_emod_of_dvd n d,← Int.emod_emod_of_dvd m d,h]
    have hb:byteOf (n / 256 ^ k)=byteOf (m / 256 ^ k):=by
      unfold byteOf
      rw [div_mod_pow,div_mod_pow,h]
    simp [fixed,hb,fixed_mod hd]
theorem unfix_fixed (n:Int):∀ k,((unfix (fixed n k):Nat):Int)=n % 256 ^ k
  | 0=>by simp [fixed,unfix,Int.emod_one]
  | k+1=>by
    have hp:=pow_pos256 k
    have h0:0≤n / 256 ^ k % 256:=Int.emod_nonneg _ (by decide)
    simp only [fixed,unfix,fixed_length,byteOf_nat]
    rw [Int.natCast_add,Int.natCast_mul,unfix_fixed n k,Int.toNat_of_nonneg h0,div_mod_pow]
    have e:(256:Int) ^ (k+1)=256 ^ k * 256:=Int.pow_succ _ _
    have d:(256:Int) ^ k ∣ 256 ^ (k+1):=⟨256,e⟩
    rw [← Int.emod_emod_of_dvd n d]
    have:=Int.mul_ediv_add_emod (n % 256 ^ (k+1)) (256 ^ k)
    have ec:((256 ^ k:Nat):Int)=(256:Int) ^ k:=by rw [Int.natCast_pow];rfl
    rw [ec,Int.mul_comm]
    exact this
theorem pFix_fixed (n:Int) (k:Nat) (rest:Bytes):pFix k (fixed n k ++ rest)=some ((n % 256 ^ k).toNat,rest):=by
  have hl:=fixed_length n k
  unfold pFix
  rw [if_neg (by rw [List.length_append];omega),List.take_append_of_le_length (by omega),List.drop_append_of_le_length (by omega)]
  have h:=unfix_fixed n k
  have e1:(fixed n k).take k=fixed n k:=List.take_of_length_le (by omega)
  have e2:(fixed n k).drop k=[]:=List.drop_of_length_le (by omega)
  rw [e1,e2,← h]
  simp
theorem sgn_mod (k:Nat) (n:Nat):sgn k n % 256 ^ k=(n:Int) % 256 ^ k:=by
  unfold sgn
  split
  · rfl
  · have:((256 ^ k:Nat):Int)=(256:Int) ^ k:=by simp
    rw [this,Int.sub_emod_right]
theorem fixed_sgn (n:Int) (k:Nat):fixed (sgn k (n % 256 ^ k).toNat) k=fixed n k:=by
  refine fixed_mod ?_
  rw [sgn_mod,Int.toNat_of_nonneg (Int.emod_nonneg _ (by have:=pow_pos256 k;omega)),Int.emod_emod]
theorem pInt_fixed (n:Int) (k:Nat) (rest:Bytes):pInt k (fixed n k ++ rest)=some (sgn k (n % 256 ^ k).toNat,rest):=by
  unfold pInt
  rw [rThen_of (pFix_fixed n k rest)]
  rfl
theorem pInt_small {n:Nat} (k:Nat) (h:n < 256 ^ k / 2) (rest:Bytes):pInt k (fixed n k ++ rest)=some ((n:Int),rest):=by
  rw [pInt_fixed]
  have h2:(n:Int) % 256 ^ k=n:=by
    refine Int.emod_eq_of_lt (by omega) ?_
    have:((256 ^ k:Nat):Int)=(256:Int) ^ k:=by simp
    rw [← this]
    omega
  rw [h2]
  simp only [Int.toNat_natCast,sgn,if_pos h]
theorem uvarint_le {n:Nat} (h:n≤127):uvarint n=[UInt8.ofNat n]:=by unfold uvarint;simp [h]
theorem uvarint_gt {n:Nat} (h:¬ n≤127):uvarint n=UInt8.ofNat (n % 128+128) :: uvarint (n / 128):=by rw [uvarint];simp [h]
theorem pUvGo_uvarint:∀ (k m n:Nat) (rest:Bytes),n < 16 * 128 ^ k→pUvGo k m (uvarint n ++ rest)=some (n * m,rest)
  | 0,m,n,rest,h=>by
    have hn:n < 16:=by simpa using h
    rw [uvarint_le (by omega)]
    simp only [List.cons_append,List.nil_append,pUvGo]
    rw [if_pos (by simp;omega)]
    have:(UInt8.ofNat n).toNat=n:=by simp;omega
    rw [this]
  | k+1,m,n,rest,h=>by
    by_cases hn:n≤127
    · rw [uvarint_le hn]
      have:(UInt8.ofNat n).toNat=n:=by simp;omega
      simp only [List.cons_append,List.nil_append,pUvGo,this]
      rw [if_pos (by omega)]
    · rw [uvarint_gt hn]
      have e:(UInt8.ofNat (n % 128+128)).toNat=n % 128+128:=by simp;omega
      simp only [List.cons_append,pUvGo,e]
      rw [if_neg (by omega)]
      have hlt:n / 128 < 16 * 128 ^ k:=by
        rw [Nat.div_lt_iff_lt_mul (by decide)]
        have:16 * 128 ^ (k+1)=16 * 128 ^ k * 128:=by rw [Nat.pow_succ,Nat.mul_assoc]
        omega
      rw [pUvGo_uvarint k (m * 128) (n / 128) rest hlt]
      simp only [Option.map_some,Option.some.injEq,Prod.mk.injEq,and_true]
      have e1:(n % 128+128) % 128=n % 128:=by omega
      have e2:n / 128 * (m * 128)=n / 128 * 128 * m:=by
        rw [Nat.mul_comm m 128,Nat.mul_assoc]
      rw [e1,e2,← Nat.add_mul]
      congr 1
      omega
theorem pUv_uvarint {n:Nat} (h:n < 4294967296) (rest:Bytes):pUv (uvarint n ++ rest)=some (n,rest):=by
  unfold pUv
  rw [pUvGo_uvarint 4 1 n rest (by omega),Nat.mul_one]
theorem uvarint_pos (n:Nat):1≤(uvarint n).length:=by
  by_cases h:n≤127
  · simp [uvarint_le h]
  · simp [uvarint_gt h]
theorem pSpan_append (s rest:Bytes):pSpan (s.length:Int) (s ++ rest)=some (s,rest):=by
  unfold pSpan
  rw [if_neg (by simp;omega)]
  simp
theorem pCount_of {flex:Bool} {n size:Nat} (hn:n≤most) (hs:size=2∨size=4) (rest:Bytes):pCount flex size (counted flex false n size ++ rest)=some ((n:Int),rest):=by
  have hn':n≤32767:=hn
  cases flex
  · simp only [pCount,counted,Bool.false_eq_true,if_false]
    exact pInt_small size (by rcases hs with rfl | rfl <;> simp <;> omega) rest
  · simp only [pCount,counted,Bool.false_eq_true,if_false,if_true]
    rw [rThen_of (pUv_uvarint (by omega) rest)]
    simp only [rOk,Option.some.injEq,Prod.mk.injEq,and_true]
    omega
theorem pCount_null {flex:Bool} {n size:Nat} (hs:size=2∨size=4) (rest:Bytes):pCount flex size (counted flex true n size ++ rest)=some (-1,rest):=by
  cases flex
  · simp only [pCount,counted,Bool.false_eq_true,if_false,if_true]
    rw [pInt_fixed]
    rcases hs with rfl | rfl <;> rfl
  · simp only [pCount,counted,if_true]
    have:pUv ([0] ++ rest)=some (0,rest):=by simp [pUv,pUvGo]
    rw [rThen_of this]
    rfl
theorem pLen_of {flex:Bool} {n:Nat} (hn:n≤most) (rest:Bytes) (hr:n≤rest.length):pLen flex (counted flex false n 4 ++ rest)=some ((n:Int),rest):=by
  have hn':n≤32767:=hn
  unfold pLen
  have:(if flex then rThen pUv fun n=>rOk (if n=2147483648 then (2147483647:Int) else (if n < 2147483648 then (n:Int) else (n:Int) - 4294967296) - 1) else pInt 4) (counted flex false n 4 ++ rest)=some ((n:Int),rest):=by
    cases flex
    · simp only [counted,Bool.false_eq_true,if_false]
      exact pInt_small 4 (by omega) rest
    · simp only [counted,Bool.false_eq_true,if_false,if_true]
      rw [rThen_of (pUv_uvarint (by omega) rest),if_neg (by omega),if_pos (by omega)]
      simp only [rOk,Option.some.injEq,Prod.mk.injEq,and_true]
      omega
  rw [rThen_of this,if_neg (by omega)]
theorem pLen_null {flex:Bool} {n:Nat} (rest:Bytes):pLen flex (counted flex true n 4 ++ rest)=some (-1,rest):=by
  unfold pLen
  have:(if flex then rThen pUv fun n=>rOk (if n=2147483648 then (2147483647:Int) else (if n < 2147483648 then (n:Int) else (n:Int) - 4294967296) - 1) else pInt 4) (counted flex true n 4 ++ rest)=some (-1,rest):=by
    cases flex
    · simp only [counted,Bool.false_eq_true,if_false,if_true]
      rw [pInt_fixed]
      rfl
    · simp only [counted,if_true]
      have:pUv ([0] ++ rest)=some (0,rest):=by simp [pUv,pUvGo]
      rw [rThen_of this]
      rfl
  rw [rThen_of this,if_neg (by omega)]
theorem counted_pos (flex null:Bool) (n size:Nat) (hs:1≤size):1≤(counted flex null n size).length:=by
  unfold counted
  cases flex <;> cases null <;> simp [fixed_length,hs]
  exact uvarint_pos _
theorem whole_length (b:Bytes):(whole b).length≤most:=by simp [whole];omega
theorem whole_whole (b:Bytes):whole (whole b)=whole b:=by unfold whole;rw [List.take_take,Nat.min_self]
theorem whole_of {b:Bytes} (h:b.length≤most):whole b=b:=by simp [whole,List.take_of_length_le h]
def Sorted (l:List (Nat × Bytes)):Prop:=l.Pairwise fun a b=>a.1 < b.1
theorem insTag_mem {t x:Nat × Bytes}:∀ {l:List (Nat × Bytes)},x ∈ insTag t l→x=t∨x ∈ l
  | [],h=>by simp [insTag] at h;exact .inl h
  | y :: l,h=>by
    simp only [insTag] at h
    split at h
    · rcases List.mem_cons.1 h with rfl | h
      · exact .inr (by simp)
      · exact (insTag_mem h).imp id fun h=>List.mem_cons_of_mem _ h
    · split at h
      · exact .inr h
      · rcases List.mem_cons.1 h with rfl | h
        · exact .inl rfl
        · exact .inr h
theorem insTag_sorted {t:Nat × Bytes}:∀ {l:List (Nat × Bytes)},Sorted l→Sorted (insTag t l)
  | [],_=>by simp [insTag,Sorted]
  | y :: l,h=>by
    have h':=List.pairwise_cons.1 h
    simp only [insTag]
    split
    · rename_i hy
      refine List.pairwise_cons.2 ⟨fun a ha=>?_,insTag_sorted h'.2⟩
      rcases insTag_mem ha with rfl | ha
      · exact hy
      · exact h'.1 _ ha
    · split
      · exact h
      · refine List.pairwise_cons.2 ⟨fun a ha=>?_,h⟩
        rcases List.mem_cons.1 ha with rfl | ha
        · omega
        · have:=h'.1 _ ha
          omega
theorem insTag_length (t:Nat × Bytes):∀ l:List (Nat × Bytes),(insTag t l).length≤l.length+1
  | []=>by simp [insTag]
  | y :: l=>by
    have:=insTag_length t l
    simp only [insTag]
    split
    · simp;omega
    · split <;> simp
theorem insTag_end {t:Nat × Bytes}:∀ {l:List (Nat × Bytes)},(∀ x ∈ l,x.1 < t.1)→insTag t l=l ++ [t]
  | [],_=>rfl
  | y :: l,h=>by
    simp only [insTag,List.cons_append]
    rw [if_pos (h y (by simp)),insTag_end fun x hx=>h x (List.mem_cons_of_mem _ hx)]
theorem setTag_end {t:Nat × Bytes}:∀ {l:List (Nat × Bytes)},(∀ x ∈ l,x.1 < t.1)→setTag t l=l ++ [t]
  | [],_=>rfl
  | y :: l,h=>by
    simp only [setTag,List.cons_append]
    rw [if_pos (h y (by simp)),setTag_end fun x hx=>h x (List.mem_cons_of_mem _ hx)]
theorem foldl_ins {u:List (Nat × Bytes)}:∀ (l:List (Nat × Bytes)),Sorted l→(∀ x ∈ l,x ∈ u)→∀ v:List (Nat × Bytes),(∀ x ∈ v,x ∈ u) →
    Sorted (v.foldl (fun acc t=>insTag t acc) l)∧(∀ x ∈ v.foldl (fun acc t=>insTag t acc) l,x ∈ u)∧(v.foldl (fun acc t=>insTag t acc) l).length≤l.length+v.length:=by
  intro l hl hm v
  induction v generalizing l with
  | nil=>intro _;exact ⟨hl,hm,by simp⟩
  | cons t v ih =>
    intro hv
    have:=ih (insTag t l) (insTag_sorted hl) (fun x hx=>by
      rcases insTag_mem hx with rfl | hx
      · exact hv _ (by simp)
      · exact hm _ hx) (fun x hx=>hv x (List.mem_cons_of_mem _ hx))
    refine ⟨this.1,this.2.1,?_⟩
    have h1:=insTag_length t l
    have h2:=this.2.2
    simp only [List.foldl_cons,List.length_cons]
    omega
theorem unknown_facts (u:List (Nat × Bytes)):Sorted (unknown u)∧(∀ x ∈ unknown u,x ∈ u)∧(unknown u).length≤most:=by
  have h:=foldl_ins (u:=u) [] (by simp [Sorted]) (by simp) (u.take most) (fun x hx=>List.mem_of_mem_take hx)
  refine ⟨h.1,h.2.1,?_⟩
  have:=h.2.2
  have h2:(u.take most).length≤most:=by simp;omega
  unfold unknown
  simp only [List.length_nil] at this
  omega
theorem foldl_sorted:∀ (v acc:List (Nat × Bytes)),Sorted (acc ++ v)→v.foldl (fun acc t=>insTag t acc) acc=acc ++ v
  | [],acc,_=>by simp
  | t :: v,acc,h=>by
    have h':=List.pairwise_append.1 h
    simp only [List.foldl_cons]
    rw [insTag_end fun x hx=>h'.2.2 x hx t (by simp),foldl_sorted v (acc ++ [t]) (by simpa [Sorted] using h)]
    simp
theorem unknown_id {u:List (Nat × Bytes)} (h:Sorted u) (hl:u.length≤most):unknown u=u:=by
  unfold unknown
  rw [List.take_of_length_le hl]
  exact foldl_sorted u [] h
def FitTags (u:List (Nat × Bytes)):Prop:=unknown u=u∧u.length≤most∧∀ x ∈ u,x.1 < 4294967296∧x.2.length≤most
theorem pTagN_of:∀ (l acc:List (Nat × Bytes)) (rest:Bytes),(∀ x ∈ l,x.1 < 4294967296)→Sorted (acc ++ l) →
    pTagN l.length acc (l.flatMap wTag ++ rest)=some (acc ++ l.map fun x=>(x.1,whole x.2),rest)
  | [],acc,rest,_,_=>by simp [pTagN,rOk]
  | t :: l,acc,rest,hk,hs=>by
    have h':=List.pairwise_append.1 hs
    have hw:=whole_length t.2
    have hw':(whole t.2).length≤32767:=hw
    simp only [List.flatMap_cons,List.length_cons,pTagN,wTag,List.append_assoc]
    rw [rThen_of (pUv_uvarint (hk t (by simp)) _),rThen_of (pUv_uvarint (by omega) _),rThen_of (pSpan_append _ _),setTag_end (t:=(t.1,whole t.2)) fun x hx=>h'.2.2 x hx t (by simp)]
    rw [pTagN_of l (acc ++ [(t.1,whole t.2)]) rest (fun x hx=>hk x (List.mem_cons_of_mem _ hx)) ?_]
    · simp
    · have h2:=(List.pairwise_cons.1 h'.2.1)
      rw [List.append_assoc]
      refine List.pairwise_append.2 ⟨h'.1,List.pairwise_cons.2 ⟨fun a ha=>h2.1 a ha,h2.2⟩,fun a ha b hb=>?_⟩
      rcases List.mem_cons.1 hb with rfl | hb
      · exact h'.2.2 a ha t (by simp)
      · exact h'.2.2 a ha b (List.mem_cons_of_mem _ hb)
theorem pTags_of (flex:Bool) (u:List (Nat × Bytes)) (rest:Bytes) (hk:∀ x ∈ u,x.1 < 4294967296) :
    ∃ u',pTags flex (wTags flex u ++ rest)=some (u',rest)∧FitTags u'∧wTags flex u'=wTags flex u:=by
  cases flex
  · exact ⟨[],rfl,⟨rfl,by simp,by simp⟩,rfl⟩
  · obtain ⟨h1,h2,h3⟩:=unknown_facts u
    have hl:((unknown u).map fun x=>(x.1,whole x.2)).length=(unknown u).length:=by simp
    have hs:Sorted ((unknown u).map fun x=>(x.1,whole x.2)):=by
      unfold Sorted
      rw [List.pairwise_map]
      exact h1
    have hid:=unknown_id hs (by omega)
    have h3':(unknown u).length≤32767:=h3
    refine ⟨(unknown u).map fun x=>(x.1,whole x.2),?_,⟨hid,by omega,?_⟩,?_⟩
    · simp only [pTags,wTags,if_true,List.append_assoc]
      rw [rThen_of (pUv_uvarint (by omega) _),pTagN_of _ [] rest (fun x hx=>hk x (h2 x hx)) (by simpa using h1)]
      simp
    · intro x hx
      obtain ⟨y,hy,rfl⟩:=List.mem_map.1 hx
      exact ⟨hk y (h2 y hy),whole_length _⟩
    · simp only [wTags,if_true,hid,hl]
      congr 1
      rw [List.flatMap_map]
      congr 1
      funext x
      simp only [wTag,whole_whole]
theorem pPrim_of (flex nul:Bool) (t:Tree) (k:PK) (rest:Bytes):∃ t',pPrim flex nul k (wPrim flex false t k ++ rest)=some (t',rest)∧t'.s.length≤most∧t'.null=false∧wPrim flex false t' k=wPrim flex false t k:=by
  have hm:(16:Nat)≤most:=by decide
  have hint:∀ w:Nat,∃ t',(rThen (pInt w) fun n=>rOk (tN n)) (fixed t.n w ++ rest)=some (t',rest)∧t'.s.length≤most∧t'.null=false∧fixed t'.n w=fixed t.n w:=by
    intro w
    refine ⟨tN (sgn w (t.n % 256 ^ w).toNat),?_,by simp [tN,Tree.s],rfl,fixed_sgn t.n w⟩
    rw [rThen_of (pInt_fixed t.n w rest)]
    rfl
  cases k
  case bool =>
    have hb:t.n % 2=0∨t.n % 2=1:=by omega
    rcases hb with hb | hb
    · refine ⟨tN 0,?_,by simp [tN,Tree.s],rfl,?_⟩
      · simp only [pPrim,wPrim,hb]
        rfl
      · show [byteOf (0 % 2)]=[byteOf (t.n % 2)]
        rw [hb]
        rfl
    · refine ⟨tN 1,?_,by simp [tN,Tree.s],rfl,?_⟩
      · simp only [pPrim,wPrim,hb]
        rfl
      · show [byteOf (1 % 2)]=[byteOf (t.n % 2)]
        rw [hb]
        rfl
  case u16 =>
    refine ⟨tN (t.n % 256 ^ 2).toNat,?_,by simp [tN,Tree.s],rfl,?_⟩
    · simp only [pPrim,wPrim,PK.width]
      rw [rThen_of (pFix_fixed t.n 2 rest)]
      rfl
    · simp only [wPrim,PK.width,tN,Tree.n]
      refine fixed_mod ?_
      rw [Int.toNat_of_nonneg (Int.emod_nonneg _ (by decide)),Int.emod_emod]
  case uuid =>
    have hl:((t.s ++ List.replicate 16 0).take 16).length=16:=by simp
    refine ⟨tS ((t.s ++ List.replicate 16 0).take 16),?_,by show List.length (List.take 16 (t.s ++ List.replicate 16 0))≤most;omega,rfl,?_⟩
    · simp only [pPrim,wPrim]
      have:=pSpan_append ((t.s ++ List.replicate 16 0).take 16) rest
      rw [hl] at this
      rw [rThen_of (p:=pSpan 16) this]
      rfl
    · show List.take 16 (List.take 16 (t.s ++ List.replicate 16 0) ++ List.replicate 16 0)=List.take 16 (t.s ++ List.replicate 16 0)
      rw [List.take_append_of_le_length (by omega),List.take_take,Nat.min_self]
  case str =>
    refine ⟨tS (whole t.s),?_,whole_length _,rfl,?_⟩
    · simp only [pPrim,wPrim,Bool.false_eq_true,if_false,List.append_assoc]
      rw [rThen_of (pCount_of (whole_length t.s) (.inl rfl) _),if_neg (by simp),rThen_of (pSpan_append _ _)]
      rfl
    · simp [wPrim,tS,Tree.s,whole_whole]
  case bytes =>
    refine ⟨tS (whole t.s),?_,whole_length _,rfl,?_⟩
    · simp only [pPrim,wPrim,Bool.false_eq_true,if_false,List.append_assoc]
      rw [rThen_of (pCount_of (whole_length t.s) (.inr rfl) _),if_neg (by simp),if_neg (by simp),rThen_of (pSpan_append _ _)]
      rfl
    · simp [wPrim,tS,Tree.s,whole_whole]
  all_goals exact hint _
theorem wPrim_pos (flex null:Bool) (t:Tree) (k:PK):1≤(wPrim flex null t k).length:=by
  cases k <;> simp [wPrim,fixed_length,PK.width]
  case str=>have:=counted_pos flex null (if null then ([]:Bytes) else whole t.s).length 2 (by decide);cases null <;> simp at this ⊢ <;> omega
  case bytes=>have:=counted_pos flex null (if null then ([]:Bytes) else whole t.s).length 4 (by decide);cases null <;> simp at this ⊢ <;> omega
mutual
def neTy (ver:Int) (flex:Bool):Ty→Bool
  | .prim _=>true
  | .list _ _ _ _=>true
  | .struct _ _ _ _ fs=>flex || neFs ver flex fs
def neFs (ver:Int) (flex:Bool):Fs→Bool
  | .nil=>false
  | .cons h ty r=>(h.has ver && (decide (0≤h.null) || neTy ver flex ty)) || neFs ver flex r
end
def canNull:Ty→Bool
  | .prim k=>k == .str || k == .bytes
  | _=>true
mutual
def okTy (ver:Int) (flex:Bool):Ty→Bool
  | .prim _=>true
  | .list _ _ _ of=>neTy ver flex of && okTy ver flex of
  | .struct _ _ _ _ fs=>okFsR ver flex fs
def okFsR (ver:Int) (flex:Bool):Fs→Bool
  | .nil=>true
  | .cons h ty r=>(!h.has ver || (okTy ver flex ty && (decide (h.null < 0) || canNull ty))) && okFsR ver flex r
end
mutual
theorem ne_ty (ver:Int) (flex:Bool):∀ (ty:Ty) (t:Tree),neTy ver flex ty=true→1≤(wTy ver flex ty false t).length
  | .prim k,t,_=>by simp only [wTy];exact wPrim_pos _ _ _ _
  | .list _ _ _ of,t,_=>by
    simp only [wTy,Bool.false_eq_true,if_false,List.length_append]
    have:=counted_pos flex false (t.l.take most).length 4 (by decide)
    omega
  | .struct _ _ _ _ fs,t,h=>by
    simp only [wTy,List.length_append]
    simp only [neTy,Bool.or_eq_true] at h
    rcases h with rfl | h
    · simp only [wTags,if_true,List.length_append]
      have:=uvarint_pos (unknown t.u).length
      omega
    · have:=ne_fs ver flex fs t.l h
      omega
theorem ne_fs (ver:Int) (flex:Bool):∀ (fs:Fs) (ts:List Tree),neFs ver flex fs=true→1≤(wFs ver flex fs ts).length
  | .nil,_,h=>by simp [neFs] at h
  | .cons hd ty r,ts,h=>by
    rw [wFs_cons]
    simp only [neFs,Bool.or_eq_true,Bool.and_eq_true] at h
    simp only [List.length_append]
    rcases h with ⟨h1,h2⟩ | h
    · rw [if_pos h1]
      have ih:=ne_ty ver flex ty (ts.headD Tree.zero)
      have:1≤(wField ver flex hd ty (ts.headD Tree.zero)).length:=by
        cases ty with
        | prim k=>simp only [wField,wTy];exact wPrim_pos _ _ _ _
        | list a b c of =>
          simp only [wField,wTy,List.length_append]
          have:=counted_pos flex (hd.isNull ver (ts.headD Tree.zero)) (if hd.isNull ver (ts.headD Tree.zero) then ([]:List Tree) else (ts.headD Tree.zero).l.take most).length 4 (by decide)
          omega
        | struct a b c d fs' =>
          simp only [wField]
          by_cases hn:0≤hd.null
          · rw [if_pos hn]
            split <;> simp
          · rw [if_neg hn]
            exact ih (by simpa [hn] using h2)
      omega
    · have:=ne_fs ver flex r ts.tail h
      omega
end
mutual
def KTy (ver:Int):Ty→Tree→Prop
  | .prim _,_=>True
  | .list _ _ _ of,t=>∀ x ∈ t.l,KTy ver of x
  | .struct _ _ _ _ fs,t=>KFs ver fs t.l∧∀ x ∈ t.u,x.1 < 4294967296
def KFs (ver:Int):Fs→List Tree→Prop
  | .nil,_=>True
  | .cons h ty r,ts=>(h.has ver=true→KTy ver ty (ts.headD Tree.zero))∧KFs ver r ts.tail
end
mutual
def FitTy (ver:Int):Ty→Tree→Prop
  | .prim _,t=>t.s.length≤most
  | .list _ _ _ of,t=>t.l.length≤most∧∀ x ∈ t.l,FitTy ver of x
  | .struct _ _ _ _ fs,t=>t=tNull∨(FitFs ver fs t.l∧FitTags t.u)
def FitFs (ver:Int):Fs→List Tree→Prop
  | .nil,_=>True
  | .cons h ty r,ts=>(h.has ver=true→FitTy ver ty (ts.headD Tree.zero))∧FitFs ver r ts.tail
end
theorem pMany_of {p:Rd Tree} {w:Tree→Bytes} {R:Tree→Prop} (hp:∀ t rest,R t→∃ t',p (w t ++ rest)=some (t',rest)∧w t'=w t) {Fit:Tree→Prop} (hp':∀ t rest t' ,R t→p (w t ++ rest)=some (t',rest)→Fit t') :
    ∀ (l:List Tree) (rest:Bytes),(∀ x ∈ l,R x)→∃ l',pMany p l.length (l.flatMap w ++ rest)=some (l',rest)∧l'.length=l.length∧(∀ x ∈ l',Fit x)∧l'.flatMap w=l.flatMap w
  | [],rest,_=>⟨[],by simp [pMany,rOk]⟩
  | t :: l,rest,hR=>by
    obtain ⟨t',h1,h2⟩:=hp t (l.flatMap w ++ rest) (hR t (by simp))
    obtain ⟨l',q1,q2,q3,q4⟩:=pMany_of hp hp' l rest fun x hx=>hR x (List.mem_cons_of_mem _ hx)
    refine ⟨t' :: l',?_,by simp [q2],?_,by simp [h2,q4]⟩
    · simp only [List.flatMap_cons,List.length_cons,pMany,List.append_assoc]
      rw [rThen_of h1,rThen_of q1]
      rfl
    · intro x hx
      rcases List.mem_cons.1 hx with rfl | hx
      · exact hp' t _ _ (hR t (by simp)) h1
      · exact q3 x hx
theorem flatMap_len {w:Tree→Bytes} (h:∀ t,1≤(w t).length):∀ l:List Tree,l.length≤(l.flatMap w).length
  | []=>by simp
  | t :: l=>by
    have:=flatMap_len h l
    have:=h t
    simp only [List.flatMap_cons,List.length_cons,List.length_append]
    omega
def wN (ver:Int) (flex:Bool) (ty:Ty) (nul:Bool) (t:Tree):Bytes :=
  match ty with
  | .struct _ _ _ _ _=>if nul then 1 :: wTy ver flex ty false t else wTy ver flex ty false t
  | _=>wTy ver flex ty false t
theorem isNull_false {h:Hd} {ver:Int} {t:Tree} (ht:t.null=false):h.isNull ver t=false:=by simp [Hd.isNull,ht]
mutual
theorem rt_ty (ver:Int) (flex:Bool):∀ (ty:Ty) (nul:Bool) (t:Tree) (rest:Bytes),okTy ver flex ty=true→KTy ver ty t →
    ∃ t',pTy ver flex ty nul (wN ver flex ty nul t ++ rest)=some (t',rest)∧FitTy ver ty t'∧t'.null=false∧wTy ver flex ty false t'=wTy ver flex ty false t
  | .prim k,nul,t,rest,_,_=>by
    obtain ⟨t',h1,h2,h3,h4⟩:=pPrim_of flex nul t k rest
    exact ⟨t',by simpa [pTy,wTy,wN] using h1,by simpa [FitTy] using h2,h3,by simpa [wTy] using h4⟩
  | .list a b c of,nul,t,rest,hok,hk=>by
    simp only [okTy,Bool.and_eq_true] at hok
    simp only [KTy] at hk
    have hne:=fun t=>ne_ty ver flex of t hok.1
    have hml:(t.l.take most).length≤most:=by simp;omega
    have e:∀ x r,wN ver flex of false x ++ r=wTy ver flex of false x ++ r:=by intro x r;cases of <;> simp [wN]
    obtain ⟨l',h1,h2,h3,h4⟩:=pMany_of (p:=pTy ver flex of false) (w:=fun x=>wTy ver flex of false x) (R:=fun x=>KTy ver of x)
      (fun x r hx=>by
        obtain ⟨t',q1,q2,q3,q4⟩:=rt_ty ver flex of false x r hok.2 hx
        exact ⟨t',by rw [← e];exact q1,q4⟩) (Fit:=FitTy ver of)
      (fun x r t' hx hp=>by
        obtain ⟨t2,q1,q2,q3,q4⟩:=rt_ty ver flex of false x r hok.2 hx
        rw [e,hp] at q1
        simp only [Option.some.injEq,Prod.mk.injEq,and_true] at q1
        rw [q1]
        exact q2)
      (t.l.take most) rest (fun x hx=>hk x (List.mem_of_mem_take hx))
    refine ⟨tL l',?_,⟨by simp only [tL,Tree.l];omega,by simpa [tL,Tree.l] using h3⟩,rfl,?_⟩
    · simp only [pTy,wN,wTy,Bool.false_eq_true,if_false,List.append_assoc]
      have hfl:=flatMap_len (w:=fun x=>wTy ver flex of false x) hne (t.l.take most)
      rw [rThen_of (pLen_of hml _ (by rw [List.length_append];omega)),if_neg (by simp)]
      simp only [Int.toNat_natCast]
      rw [rThen_of h1]
      rfl
    · simp only [wTy,Bool.false_eq_true,if_false]
      rw [show (tL l').l=l' from rfl,List.take_of_length_le (by omega),h2,h4]
  | .struct a b c d fs,nul,t,rest,hok,hk=>by
    simp only [okTy] at hok
    simp only [KTy] at hk
    obtain ⟨u',q1,q2,q3⟩:=pTags_of flex t.u rest hk.2
    obtain ⟨ts',h1,h2,h3⟩:=rt_fs ver flex fs t.l (wTags flex t.u ++ rest) hok hk.1
    refine ⟨.mk 0 [] false ts' u',?_,by simp only [FitTy];exact .inr ⟨h2,q2⟩,rfl,?_⟩
    · simp only [pTy,wN,wTy]
      have e:(if nul then pInt 1 else rOk 0) ((if nul then 1 :: (wFs ver flex fs t.l ++ wTags flex t.u) else wFs ver flex fs t.l ++ wTags flex t.u) ++ rest)=some ((if nul then 1 else 0:Int),wFs ver flex fs t.l ++ (wTags flex t.u ++ rest)):=by
        cases nul
        · simp [rOk]
        · simp only [if_true,List.cons_append,List.append_assoc]
          exact pInt_small (n:=1) 1 (by decide) (wFs ver flex fs t.l ++ (wTags flex t.u ++ rest))
      rw [rThen_of e,if_neg (by cases nul <;> simp),rThen_of h1,rThen_of q1]
      rfl
    · simp only [wTy,Tree.l,Tree.u,h3,q3]
theorem rt_fs (ver:Int) (flex:Bool):∀ (fs:Fs) (ts:List Tree) (rest:Bytes),okFsR ver flex fs=true→KFs ver fs ts →
    ∃ ts',pFs ver flex fs (wFs ver flex fs ts ++ rest)=some (ts',rest)∧FitFs ver fs ts'∧wFs ver flex fs ts'=wFs ver flex fs ts
  | .nil,ts,rest,_,_=>⟨[],by simp [pFs,wFs,rOk],by simp [FitFs],rfl⟩
  | .cons h ty r,ts,rest,hok,hk=>by
    simp only [okFsR,Bool.and_eq_true,Bool.or_eq_true,Bool.not_eq_true'] at hok
    simp only [KFs] at hk
    obtain ⟨xs,h1,h2,h3⟩:=rt_fs ver flex r ts.tail rest hok.2 hk.2
    by_cases hh:h.has ver=true
    · obtain ⟨ho1,ho2⟩:okTy ver flex ty=true∧(decide (h.null < 0)=true∨canNull ty=true):=by
        rcases hok.1 with h0 | h0
        · rw [hh] at h0;simp at h0
        · exact h0
      have key:∃ t',pTy ver flex ty (nulAt ver h ty) (wField ver flex h ty (ts.headD Tree.zero) ++ (wFs ver flex r ts.tail ++ rest))=some (t',wFs ver flex r ts.tail ++ rest)∧FitTy ver ty t'∧wField ver flex h ty t'=wField ver flex h ty (ts.headD Tree.zero):=by
        have hk1:=hk.1 hh
        generalize ts.headD Tree.zero=t at hk1
        generalize wFs ver flex r ts.tail ++ rest=rest'
        cases hn:h.isNull ver t with
        | true =>
          have hn':(0≤h.null)∧h.null≤ver:=by
            simp only [Hd.isNull,Bool.and_eq_true,decide_eq_true_eq] at hn
            exact hn.2
          have hn2:h.isNull ver tNull=true:=by simp [Hd.isNull,tNull,Tree.null,hn']
          have hcan:canNull ty=true:=by
            rcases ho2 with h0 | h0
            · simp at h0;omega
            · exact h0
          refine ⟨tNull,?_,?_,?_⟩
          · cases ty with
            | prim k =>
              simp only [wField,hn,pTy,nulAt,wTy]
              cases k <;> simp [canNull] at hcan
              · simp only [pPrim,wPrim,if_true,List.length_nil,List.append_nil,hn',decide_true,Bool.and_self]
                rw [rThen_of (pCount_null (.inl rfl) _),if_pos (by simp)]
                rfl
              · simp only [pPrim,wPrim,if_true,List.length_nil,List.append_nil,hn',decide_true,Bool.and_self]
                rw [rThen_of (pCount_null (.inr rfl) _),if_pos (by simp)]
                rfl
            | list a b c of =>
              simp only [wField,hn,pTy,nulAt,wTy,if_true,List.length_nil,List.flatMap_nil,List.append_nil,hn',decide_true,Bool.and_self]
              rw [rThen_of (pLen_null _),if_pos (by simp)]
              rfl
            | struct a b c d fs =>
              simp only [wField,hn,pTy,nulAt,if_pos hn'.1,if_true,decide_eq_true hn'.1]
              have:pInt 1 ([255] ++ rest')=some (-1,rest'):=by
                simp [pInt,pFix,rThen,rOk,unfix,sgn]
              rw [rThen_of this,if_pos (by simp)]
              rfl
          · cases ty with
            | prim k=>simp [FitTy,tNull,Tree.s]
            | list a b c of=>simp [FitTy,tNull,Tree.l]
            | struct a b c d fs=>simp only [FitTy];exact .inl trivial
          · cases ty with
            | prim k =>
              simp only [wField,hn,hn2,wTy]
              cases k <;> simp [canNull] at hcan <;> simp [wPrim]
            | list a b c of=>simp [wField,hn,hn2,wTy]
            | struct a b c d fs=>simp only [wField,hn,hn2,if_pos hn'.1,if_true]
        | false =>
          obtain ⟨t',q1,q2,q3,q4⟩:=rt_ty ver flex ty (nulAt ver h ty) t rest' ho1 hk1
          refine ⟨t',?_,q2,?_⟩
          · have e:wField ver flex h ty t=wN ver flex ty (nulAt ver h ty) t:=by
              cases ty <;> simp only [wField,wN,hn,nulAt,decide_eq_true_eq,Bool.false_eq_true,if_false]
            rw [e]
            exact q1
          · have hn2:h.isNull ver t'=false:=isNull_false q3
            cases ty <;> simp only [wField,hn,hn2,Bool.false_eq_true,if_false,q4]
      obtain ⟨t',k1,k2,k3⟩:=key
      refine ⟨t' :: xs,?_,?_,?_⟩
      · simp only [pFs]
        rw [wFs_cons,if_pos hh,if_pos hh,List.append_assoc,rThen_of k1,rThen_of h1]
        rfl
      · simp only [FitFs,List.headD_cons,List.tail_cons]
        exact ⟨fun _=>k2,h2⟩
      · rw [wFs_cons,wFs_cons,if_pos hh,if_pos hh]
        simp only [List.headD_cons,List.tail_cons,k3,h3]
    · refine ⟨Tree.zero :: xs,?_,?_,?_⟩
      · simp only [pFs]
        rw [wFs_cons,if_neg hh,if_neg hh,List.nil_append,rThen_of (show rOk Tree.zero _=some (Tree.zero,_) from rfl),rThen_of h1]
        rfl
      · simp only [FitFs,List.tail_cons]
        exact ⟨fun h=>absurd h hh,h2⟩
      · rw [wFs_cons,wFs_cons,if_neg hh,if_neg hh]
        simp only [List.tail_cons,h3]
end
end Go.Proofs.YtcchakpiemhpeaaDoor.T
namespace Go.Proofs.YtcchakpiemhpeaaDoor.T
set_option linter.unusedVariables false
set_option linter.unusedSimpArgs false
theorem setTag_mem {t x:Nat × Bytes}:∀ {l:List (Nat × Bytes)},x ∈ setTag t l→x=t∨x ∈ l
  | [],h=>by simp [setTag] at h;exact .inl h
  | y :: l,h=>by
    simp only [setTag] at h
    split at h
    · rcases List.mem_cons.1 h with rfl | h
      · exact .inr (by simp)
      · exact (setTag_mem h).imp id fun h=>List.mem_cons_of_mem _ h
    · split at h
      · exact (List.mem_cons.1 h).imp id fun h=>List.mem_cons_of_mem _ h
      · exact (List.mem_cons.1 h).imp id fun h=>h
theorem setTag_sorted {t:Nat × Bytes}:∀ {l:List (Nat × Bytes)},Sorted l→Sorted (setTag t l)
  | [],_=>by simp [setTag,Sorted]
  | y :: l,h=>by
    have h':=List.pairwise_cons.1 h
    simp only [setTag]
    split
    · rename_i hy
      refine List.pairwise_cons.2 ⟨fun a ha=>?_,setTag_sorted h'.2⟩
      rcases setTag_mem ha with rfl | ha
      · exact hy
      · exact h'.1 _ ha
    · split
      · rename_i he
        exact List.pairwise_cons.2 ⟨fun a ha=>by have:=h'.1 a ha;omega,h'.2⟩
      · refine List.pairwise_cons.2 ⟨fun a ha=>?_,h⟩
        rcases List.mem_cons.1 ha with rfl | ha
        · omega
        · have:=h'.1 _ ha
          omega
theorem setTag_length (t:Nat × Bytes):∀ l:List (Nat × Bytes),(setTag t l).length≤l.length+1
  | []=>by simp [setTag]
  | y :: l=>by
    have:=setTag_length t l
    simp only [setTag]
    split
    · simp;omega
    · split <;> simp
theorem pUvGo_facts:∀ (k m:Nat) (b r:Bytes) (n:Nat),0 < m→pUvGo k m b=some (n,r)→n < 16 * 128 ^ k * m∧r.length+1≤b.length
  | k,m,[],r,n,_,h=>by simp [pUvGo] at h
  | 0,m,u :: b,r,n,hm,h=>by
    simp only [pUvGo] at h
    split at h
    · simp only [Option.some.injEq,Prod.mk.injEq] at h
      obtain ⟨rfl,rfl⟩:=h
      refine ⟨?_,by simp⟩
      have:u.toNat * m≤15 * m:=Nat.mul_le_mul_right _ (by assumption)
      simp only [Nat.pow_zero,Nat.mul_one]
      omega
    · simp at h
  | k+1,m,u :: b,r,n,hm,h=>by
    have h128:1≤128 ^ k:=Nat.pow_pos (by decide)
    have e:16 * 128 ^ (k+1) * m=128 * (16 * 128 ^ k * m):=by
      rw [Nat.pow_succ]
      simp only [Nat.mul_comm,Nat.mul_left_comm]
    have hge:16 * m≤16 * 128 ^ k * m:=Nat.mul_le_mul_right _ (by omega)
    simp only [pUvGo] at h
    split at h
    · simp only [Option.some.injEq,Prod.mk.injEq] at h
      obtain ⟨rfl,rfl⟩:=h
      refine ⟨?_,by simp⟩
      have:u.toNat * m≤127 * m:=Nat.mul_le_mul_right _ (by omega)
      omega
    · cases hp:pUvGo k (m * 128) b with
      | none=>rw [hp] at h;simp at h
      | some z =>
        rw [hp] at h
        simp only [Option.map_some,Option.some.injEq,Prod.mk.injEq] at h
        obtain ⟨h1,h2⟩:=pUvGo_facts k (m * 128) b z.2 z.1 (by omega) hp
        obtain ⟨rfl,rfl⟩:=h
        refine ⟨?_,by simp;omega⟩
        have hd:=pUvGo_dvd k (m * 128) b z.2 z.1 hp
        obtain ⟨q,hq⟩:=hd
        have hq1:q < 16 * 128 ^ k:=by
          rw [hq,Nat.mul_comm (16 * 128 ^ k)] at h1
          exact Nat.lt_of_mul_lt_mul_left h1
        have hu:u.toNat % 128 * m≤127 * m:=Nat.mul_le_mul_right _ (by omega)
        have hq2:m * 128 * q≤m * 128 * (16 * 128 ^ k - 1):=Nat.mul_le_mul_left _ (by omega)
        have e2:m * 128 * (16 * 128 ^ k - 1)+m * 128=128 * (16 * 128 ^ k * m):=by
          rw [← Nat.mul_succ,Nat.succ_eq_add_one,Nat.sub_add_cancel (by omega)]
          simp only [Nat.mul_assoc,Nat.mul_comm,Nat.mul_left_comm]
        rw [e,hq]
        omega
where pUvGo_dvd:∀ (k m:Nat) (b r:Bytes) (n:Nat),pUvGo k m b=some (n,r)→m ∣ n
  | k,m,[],r,n,h=>by simp [pUvGo] at h
  | 0,m,u :: b,r,n,h=>by
    simp only [pUvGo] at h
    split at h
    · simp only [Option.some.injEq,Prod.mk.injEq] at h
      rw [← h.1]
      exact Nat.dvd_mul_left _ _
    · simp at h
  | k+1,m,u :: b,r,n,h=>by
    simp only [pUvGo] at h
    split at h
    · simp only [Option.some.injEq,Prod.mk.injEq] at h
      rw [← h.1]
      exact Nat.dvd_mul_left _ _
    · cases hp:pUvGo k (m * 128) b with
      | none=>rw [hp] at h;simp at h
      | some z =>
        rw [hp] at h
        simp only [Option.map_some,Option.some.injEq,Prod.mk.injEq] at h
        rw [← h.1]
        exact Nat.dvd_add (Nat.dvd_mul_left _ _) (Nat.dvd_trans (Nat.dvd_mul_right m 128) (pUvGo_dvd k (m * 128) b z.2 z.1 hp))
theorem pUv_facts {b r:Bytes} {n:Nat} (h:pUv b=some (n,r)):n < 4294967296∧r.length+1≤b.length:=by
  have:=pUvGo_facts 4 1 b r n (by decide) h
  simpa using this
theorem pSpan_facts {l:Int} {b r s:Bytes} (h:pSpan l b=some (s,r)):0≤l∧(s.length:Int)=l∧s.length+r.length=b.length∧b=s ++ r:=by
  unfold pSpan at h
  split at h
  · simp at h
  · simp only [Option.some.injEq,Prod.mk.injEq] at h
    obtain ⟨rfl,rfl⟩:=h
    refine ⟨by omega,by simp;omega,by simp;omega,by simp⟩
theorem pFix_facts {k n:Nat} {b r:Bytes} (h:pFix k b=some (n,r)):r.length+k=b.length∧n=unfix (b.take k)∧r=b.drop k:=by
  unfold pFix at h
  split at h
  · simp at h
  · simp only [Option.some.injEq,Prod.mk.injEq] at h
    obtain ⟨rfl,rfl⟩:=h
    exact ⟨by simp;omega,rfl,rfl⟩
theorem pInt_facts {k:Nat} {n:Int} {b r:Bytes} (h:pInt k b=some (n,r)):r.length+k=b.length:=by
  obtain ⟨x,r1,h1,h2⟩:=rThen_some h
  simp only [rOk,Option.some.injEq,Prod.mk.injEq] at h2
  rw [← h2.2]
  exact (pFix_facts h1).1
theorem pLen_facts {flex:Bool} {l:Int} {b r:Bytes} (h:pLen flex b=some (l,r)):r.length≤b.length∧l≤r.length:=by
  obtain ⟨x,r1,h1,h2⟩:=rThen_some h
  split at h2
  · simp at h2
  · simp only [Option.some.injEq,Prod.mk.injEq] at h2
    obtain ⟨rfl,rfl⟩:=h2
    refine ⟨?_,by omega⟩
    cases flex
    · have:=pInt_facts h1
      omega
    · rw [if_pos rfl] at h1
      obtain ⟨y,r2,q1,q2⟩:=rThen_some h1
      simp only [rOk,Option.some.injEq,Prod.mk.injEq] at q2
      have:=(pUv_facts q1).2
      rw [← q2.2]
      omega
theorem pCount_facts {flex:Bool} {k:Nat} {l:Int} {b r:Bytes} (h:pCount flex k b=some (l,r)):r.length≤b.length:=by
  unfold pCount at h
  cases flex
  · have:=pInt_facts h
    omega
  · rw [if_pos rfl] at h
    obtain ⟨y,r2,q1,q2⟩:=rThen_some h
    simp only [rOk,Option.some.injEq,Prod.mk.injEq] at q2
    have:=(pUv_facts q1).2
    rw [← q2.2]
    omega
theorem rOk_some {α:Type} {x y:α} {b r:Bytes} (h:rOk x b=some (y,r)):x=y∧b=r:=by simpa [rOk] using h
theorem fit_tagN:∀ (n:Nat) (acc:List (Nat × Bytes)) (b r:Bytes) (u:List (Nat × Bytes)),pTagN n acc b=some (u,r)→Sorted acc→(∀ x ∈ acc,x.1 < 4294967296∧x.2.length≤most)→b.length≤most →
    Sorted u∧(∀ x ∈ u,x.1 < 4294967296∧x.2.length≤most)∧u.length+r.length≤acc.length+b.length
  | 0,acc,b,r,u,h,hs,hm,_=>by
    obtain ⟨rfl,rfl⟩:=rOk_some h
    exact ⟨hs,hm,Nat.le_refl _⟩
  | n+1,acc,b,r,u,h,hs,hm,hb=>by
    obtain ⟨k,r1,h1,h⟩:=rThen_some h
    obtain ⟨s,r2,h2,h⟩:=rThen_some h
    obtain ⟨v,r3,h3,h⟩:=rThen_some h
    have f1:=pUv_facts h1
    have f2:=pUv_facts h2
    have f3:=pSpan_facts h3
    have fl:=setTag_length (k,v) acc
    have:=fit_tagN n (setTag (k,v) acc) r3 r u h (setTag_sorted hs) (fun x hx=>by
      rcases setTag_mem hx with rfl | hx
      · exact ⟨f1.1,by simp only;omega⟩
      · exact hm x hx) (by omega)
    exact ⟨this.1,this.2.1,by omega⟩
theorem fit_tags {flex:Bool} {b r:Bytes} {u:List (Nat × Bytes)} (h:pTags flex b=some (u,r)) (hb:b.length≤most):FitTags u∧r.length≤b.length:=by
  cases flex
  · obtain ⟨rfl,rfl⟩:=rOk_some h
    exact ⟨⟨rfl,by simp,by simp⟩,Nat.le_refl _⟩
  · unfold pTags at h
    rw [if_pos rfl] at h
    obtain ⟨n,r1,h1,h⟩:=rThen_some h
    have f1:=pUv_facts h1
    have:=fit_tagN n [] r1 r u h (by simp [Sorted]) (by simp) (by omega)
    have hl:u.length≤most:=by have:=this.2.2;simp at this;omega
    refine ⟨⟨unknown_id this.1 hl,hl,this.2.1⟩,?_⟩
    have:=this.2.2
    simp at this
    omega
theorem fit_prim {flex nul:Bool} {k:PK} {b r:Bytes} {t:Tree} (h:pPrim flex nul k b=some (t,r)) (hb:b.length≤most):t.s.length≤most∧r.length≤b.length:=by
  have hint:∀ w,(rThen (pInt w) fun n=>rOk (tN n)) b=some (t,r)→t.s.length≤most∧r.length≤b.length:=by
    intro w h
    obtain ⟨x,r1,h1,h2⟩:=rThen_some h
    obtain ⟨rfl,rfl⟩:=rOk_some h2
    exact ⟨by simp [tN,Tree.s],by have:=pInt_facts h1;omega⟩
  cases k <;> simp only [pPrim] at h
  case bool =>
    obtain ⟨x,r1,h1,h2⟩:=rThen_some h
    obtain ⟨rfl,rfl⟩:=rOk_some h2
    exact ⟨by simp [tN,Tree.s],by have:=(pFix_facts h1).1;omega⟩
  case u16 =>
    obtain ⟨x,r1,h1,h2⟩:=rThen_some h
    obtain ⟨rfl,rfl⟩:=rOk_some h2
    exact ⟨by simp [tN,Tree.s],by have:=(pFix_facts h1).1;omega⟩
  case uuid =>
    obtain ⟨x,r1,h1,h2⟩:=rThen_some h
    obtain ⟨rfl,rfl⟩:=rOk_some h2
    have:=pSpan_facts h1
    exact ⟨by simp only [tS,Tree.s];omega,by omega⟩
  case str =>
    obtain ⟨x,r1,h1,h2⟩:=rThen_some h
    have f1:=pCount_facts h1
    split at h2
    · obtain ⟨rfl,rfl⟩:=rOk_some h2
      exact ⟨by simp [tNull,Tree.s],f1⟩
    · obtain ⟨s,r2,h3,h4⟩:=rThen_some h2
      obtain ⟨rfl,rfl⟩:=rOk_some h4
      have:=pSpan_facts h3
      exact ⟨by simp only [tS,Tree.s];omega,by omega⟩
  case bytes =>
    obtain ⟨x,r1,h1,h2⟩:=rThen_some h
    have f1:=pCount_facts h1
    split at h2
    · obtain ⟨rfl,rfl⟩:=rOk_some h2
      exact ⟨by simp [tNull,Tree.s],f1⟩
    · split at h2
      · obtain ⟨rfl,rfl⟩:=rOk_some h2
        exact ⟨by simp [tS,Tree.s],f1⟩
      · obtain ⟨s,r2,h3,h4⟩:=rThen_some h2
        obtain ⟨rfl,rfl⟩:=rOk_some h4
        have:=pSpan_facts h3
        exact ⟨by simp only [tS,Tree.s];omega,by omega⟩
  all_goals exact hint _ h
theorem fit_many {p:Rd Tree} {Fit:Tree→Prop} (hp:∀ b r t,b.length≤most→p b=some (t,r)→Fit t∧r.length≤b.length) :
    ∀ (n:Nat) (b r:Bytes) (l:List Tree),b.length≤most→pMany p n b=some (l,r)→l.length=n∧(∀ x ∈ l,Fit x)∧r.length≤b.length
  | 0,b,r,l,_,h=>by
    obtain ⟨rfl,rfl⟩:=rOk_some h
    exact ⟨rfl,by simp,Nat.le_refl _⟩
  | n+1,b,r,l,hb,h=>by
    obtain ⟨x,r1,h1,h⟩:=rThen_some h
    obtain ⟨xs,r2,h2,h⟩:=rThen_some h
    obtain ⟨rfl,rfl⟩:=rOk_some h
    have f1:=hp b r1 x hb h1
    have f2:=fit_many hp n r1 r2 xs (by omega) h2
    refine ⟨by simp [f2.1],fun y hy=>?_,by omega⟩
    rcases List.mem_cons.1 hy with rfl | hy
    · exact f1.1
    · exact f2.2.1 y hy
mutual
theorem fit_ty (ver:Int) (flex:Bool):∀ (ty:Ty) (nul:Bool) (b r:Bytes) (t:Tree),b.length≤most→pTy ver flex ty nul b=some (t,r)→FitTy ver ty t∧r.length≤b.length
  | .prim k,nul,b,r,t,hb,h=>by
    simp only [pTy] at h
    have:=fit_prim h hb
    exact ⟨by simpa [FitTy] using this.1,this.2⟩
  | .list _ _ _ of,nul,b,r,t,hb,h=>by
    simp only [pTy] at h
    obtain ⟨l,r1,h1,h⟩:=rThen_some h
    have f1:=pLen_facts h1
    split at h
    · obtain ⟨rfl,rfl⟩:=rOk_some h
      exact ⟨by simp [FitTy,tNull,Tree.l],f1.1⟩
    · obtain ⟨xs,r2,h2,h⟩:=rThen_some h
      obtain ⟨rfl,rfl⟩:=rOk_some h
      have f2:=fit_many (fun b r t hb h=>fit_ty ver flex of false b r t hb h) l.toNat r1 r2 xs (by omega) h2
      exact ⟨by simp only [FitTy];exact ⟨by show xs.length≤most;omega,f2.2.1⟩,by omega⟩
  | .struct _ _ _ _ fs,nul,b,r,t,hb,h=>by
    simp only [pTy] at h
    obtain ⟨p,r1,h1,h⟩:=rThen_some h
    have f1:r1.length≤b.length:=by
      cases nul
      · obtain ⟨rfl,rfl⟩:=rOk_some h1
        exact Nat.le_refl _
      · have:=pInt_facts h1
        omega
    split at h
    · obtain ⟨rfl,rfl⟩:=rOk_some h
      exact ⟨by simp [FitTy],f1⟩
    · obtain ⟨xs,r2,h2,h⟩:=rThen_some h
      obtain ⟨u,r3,h3,h⟩:=rThen_some h
      obtain ⟨rfl,rfl⟩:=rOk_some h
      have f2:=fit_fs ver flex fs r1 r2 xs (by omega) h2
      have f3:=fit_tags h3 (by omega)
      exact ⟨by simp only [FitTy];exact .inr ⟨f2.1,f3.1⟩,by omega⟩
theorem fit_fs (ver:Int) (flex:Bool):∀ (fs:Fs) (b r:Bytes) (ts:List Tree),b.length≤most→pFs ver flex fs b=some (ts,r)→FitFs ver fs ts∧r.length≤b.length
  | .nil,b,r,ts,_,h=>by
    simp only [pFs] at h
    obtain ⟨rfl,rfl⟩:=rOk_some h
    exact ⟨by simp [FitFs],Nat.le_refl _⟩
  | .cons hd ty rr,b,r,ts,hb,h=>by
    simp only [pFs] at h
    obtain ⟨x,r1,h1,h⟩:=rThen_some h
    obtain ⟨xs,r2,h2,h⟩:=rThen_some h
    obtain ⟨rfl,rfl⟩:=rOk_some h
    by_cases hh:hd.has ver=true
    · rw [if_pos hh] at h1
      have f1:=fit_ty ver flex ty _ b r1 x hb h1
      have f2:=fit_fs ver flex rr r1 r2 xs (by omega) h2
      exact ⟨by simp only [FitFs,List.headD_cons,List.tail_cons];exact ⟨fun _=>f1.1,f2.1⟩,by omega⟩
    · rw [if_neg hh] at h1
      obtain ⟨rfl,rfl⟩:=rOk_some h1
      have f2:=fit_fs ver flex rr b r2 xs hb h2
      exact ⟨by simp only [FitFs,List.headD_cons,List.tail_cons];exact ⟨fun h=>absurd h hh,f2.1⟩,f2.2⟩
end
mutual
theorem k_zero (ver:Int):∀ ty:Ty,KTy ver ty Tree.zero
  | .prim _=>by simp [KTy]
  | .list _ _ _ _=>by simp [KTy,Tree.zero,Tree.l]
  | .struct _ _ _ _ fs=>by simp only [KTy];exact ⟨kFs_nil ver fs,by simp [Tree.zero,Tree.u]⟩
theorem kFs_nil (ver:Int):∀ fs:Fs,KFs ver fs []
  | .nil=>by simp [KFs]
  | .cons _ ty r=>by simp only [KFs,List.headD_nil,List.tail_nil];exact ⟨fun _=>k_zero ver ty,kFs_nil ver r⟩
end
mutual
theorem fit_k (ver:Int):∀ (ty:Ty) (t:Tree),FitTy ver ty t→KTy ver ty t
  | .prim _,_,_=>by simp [KTy]
  | .list _ _ _ of,t,h=>by
    simp only [FitTy] at h
    simp only [KTy]
    exact fun x hx=>fit_k ver of x (h.2 x hx)
  | .struct _ _ _ _ fs,t,h=>by
    simp only [FitTy] at h
    simp only [KTy]
    rcases h with rfl | ⟨h1,h2⟩
    · exact ⟨kFs_nil ver fs,by simp [tNull,Tree.u]⟩
    · exact ⟨fitFs_k ver fs t.l h1,fun x hx=>(h2.2.2 x hx).1⟩
theorem fitFs_k (ver:Int):∀ (fs:Fs) (ts:List Tree),FitFs ver fs ts→KFs ver fs ts
  | .nil,_,_=>by simp [KFs]
  | .cons _ ty r,ts,h=>by
    simp only [FitFs] at h
    simp only [KFs]
    exact ⟨fun hh=>fit_k ver ty _ (h.1 hh),fitFs_k ver r _ h.2⟩
end
def pMsg (ver:Int) (flex:Bool) (fs:Fs):Rd (List Tree × List (Nat × Bytes)):=rThen (pFs ver flex fs) fun xs=>rThen (pTags flex) fun u=>rOk (xs,u)
def wMsg (ver:Int) (flex:Bool) (fs:Fs) (ts:List Tree) (u:List (Nat × Bytes)):Bytes:=wFs ver flex fs ts ++ wTags flex u
theorem msg_again {ver:Int} {flex:Bool} {fs:Fs} {ts:List Tree} {u:List (Nat × Bytes)} (hok:okFsR ver flex fs=true) (hk:KFs ver fs ts) (hu:∀ x ∈ u,x.1 < 4294967296) :
    ∃ ts' u',pMsg ver flex fs (wMsg ver flex fs ts u)=some ((ts',u'),[])∧FitFs ver fs ts'∧FitTags u'∧wMsg ver flex fs ts' u'=wMsg ver flex fs ts u:=by
  obtain ⟨ts',h1,h2,h3⟩:=rt_fs ver flex fs ts (wTags flex u) hok hk
  obtain ⟨u',q1,q2,q3⟩:=pTags_of flex u [] hu
  rw [List.append_nil] at q1
  refine ⟨ts',u',?_,h2,q2,by simp only [wMsg,h3,q3]⟩
  unfold pMsg wMsg
  rw [rThen_of h1,rThen_of q1]
  rfl
theorem msg_fit {ver:Int} {flex:Bool} {fs:Fs} {ts:List Tree} {u:List (Nat × Bytes)} {b r:Bytes} (hb:b.length≤most) (h:pMsg ver flex fs b=some ((ts,u),r)):FitFs ver fs ts∧FitTags u:=by
  obtain ⟨xs,r1,h1,h⟩:=rThen_some h
  obtain ⟨u',r2,h2,h⟩:=rThen_some h
  obtain ⟨h3,rfl⟩:=rOk_some h
  simp only [Prod.mk.injEq] at h3
  obtain ⟨rfl,rfl⟩:=h3
  have f1:=fit_fs ver flex fs b r1 xs hb h1
  have f2:=fit_tags h2 (by omega)
  exact ⟨f1.1,f2.1⟩
end Go.Proofs.YtcchakpiemhpeaaDoor.T
namespace Go.Proofs.YtcchakpiemhpeaaDoor.T
set_option linter.unusedVariables false
set_option linter.unusedSimpArgs false
inductive KAll:Tree→Prop where
  | mk (n:Int) (s:Bytes) (null:Bool) (l:List Tree) (u:List (Nat × Bytes)) (hl:∀ (i:Nat) (x:Tree),l[i]?=some x→KAll x) (hu:∀ x ∈ u,x.1 < 4294967296):KAll (.mk n s null l u)
theorem KAll.l {t:Tree} (h:KAll t):∀ x ∈ t.l,KAll x:=by
  cases h with
  | mk n s null l u hl hu =>
    intro x hx
    obtain ⟨i,hi⟩:=List.getElem?_of_mem hx
    exact hl i x hi
theorem KAll.u {t:Tree} (h:KAll t):∀ x ∈ t.u,x.1 < 4294967296:=by
  cases h with
  | mk n s null l u hl hu=>exact hu
theorem KAll.zero:KAll Tree.zero:=.mk _ _ _ _ _ (fun i x h=>by simp at h) (fun x h=>by cases h)
end Go.Proofs.YtcchakpiemhpeaaDoor.T
