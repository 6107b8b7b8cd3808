/- Generic texts: Y20 Y21 Y22 Y23. No condition. -/
import Derived.Test.YtoiipagmhmohdaaDoorN14
namespace Go.Proofs.YtoiipagmhmohdaaDoor.K
open Go Go.RowKit Go.Proofs.YtoiipagmhmohdaaDoor.T
attribute [local simp] eTm eCo pNo gTp gTn qv qcall vop iop
set_option linter.unusedSimpArgs false
set_option linter.unusedVariables false
set_option maxHeartbeats 4000000
theorem ownds_at {bs r:Bytes} {l:List Ownd} {p j:Nat} (h:bs.drop p=l.flatMap wOwnd ++ r) (hj:j≤l.length):bs.drop (p+((l.take j).flatMap wOwnd).length)=(l.drop j).flatMap wOwnd ++ r:=by
  have e:l.flatMap wOwnd=(l.take j).flatMap wOwnd ++ (l.drop j).flatMap wOwnd:=by rw [← List.flatMap_append,List.take_append_drop]
  rw [← List.drop_drop,h,e,List.append_assoc,List.drop_append,Nat.sub_self,List.drop_zero,List.drop_of_length_le (Nat.le_refl _),List.nil_append]
def sc_ReadSt (T0 T1 T2 T3 T4 T5 T6 T7 T8 T9 T10 F0 F1 F2:Nat):SC:=.seq (.reg [⟨some 2,.alloc T0,none⟩,⟨some 3,.assign (.const (.int .i64 0)),none⟩,⟨some 4,.assign (.const (.int .i64 0)),none⟩]) (.seq (.reg [mv 12 0,⟨some 13,.build T1 #[(0,(.tmp 12))],none⟩,⟨some 14,.box T1 (.tmp 13),none⟩,asg 5 14]) (.seq (.reg [mv 15 5,⟨some 16,.call ⟨.value (.func F0),#[(.tmp 15),(.const (.int .i64 4))],#[]⟩,none⟩,asg 6 16]) (.seq (.seq (.reg [mv 17 6,⟨some 18,.binOp .lss T2 (.tmp 17) (.const (.int .i64 0)) T2,none⟩]) (.cond (.tmp 18) (.reg [mv 19 5,⟨some 20,.call ⟨.value (.func F1),#[(.tmp 19),(.const (.int .i64 3))],#[]⟩,none⟩]) (.skip))) (.seq (.seq (.reg [⟨some 7,.assign (.const (.int .i64 0)),none⟩]) (.block 0 (.loop (.seq (.seq (.reg [mv 21 7,mv 22 6,⟨some 23,.binOp .lss T2 (.tmp 21) (.tmp 22) T2,none⟩,mv 24 23,⟨some 25,.move (.tmp 5),some (3,true)⟩,⟨some 26,.nilCheck (.tmp 25),some (3,true)⟩,⟨some 27,.fieldAddr T1 (.tmp 26) 2,some (3,true)⟩,⟨some 28,.load T3 (.tmp 27),some (3,true)⟩,⟨some 29,.binOp .eql T3 (.tmp 28) (.const (.int .i64 0)) T3,some (3,true)⟩,⟨some 30,.pick (.tmp 24) (.tmp 29) (.const (.bool false)),none⟩]) (.cond (.tmp 30) (.skip) (.exit 0))) (.seq (.block 1 (sc_rdRound T0 T1 T2 T3 T4 T5 T6 T7 T8 T9 T10 F0 F1 F2)) (.reg [mv 31 7,⟨some 32,.binOp .add T2 (.tmp 31) (.const (.int .i64 1)) T2,none⟩,asg 7 32])))))) (.seq (.reg [fa 77 T0 2 1,⟨none,.store T9 (.tmp 77) (.const (.int .i32 (-1))),none⟩]) (.seq (.seq (.reg [mv 78 5,nilc 79 78,fa 80 T1 79 2,ld 81 T3 80,⟨some 82,.binOp .eql T3 (.tmp 81) (.const (.int .i64 0)) T3,none⟩,mv 83 82,⟨some 84,.move (.tmp 0),some (5,true)⟩,⟨some 85,.call ⟨.builtin .len,#[(.tmp 84)],#[T5]⟩,some (5,true)⟩,⟨some 86,.move (.tmp 5),some (5,true)⟩,⟨some 87,.nilCheck (.tmp 86),some (5,true)⟩,⟨some 88,.fieldAddr T1 (.tmp 87) 1,some (5,true)⟩,⟨some 89,.load T3 (.tmp 88),some (5,true)⟩,⟨some 90,.binOp .sub T3 (.tmp 85) (.tmp 89) T3,some (5,true)⟩,⟨some 91,.binOp .geq T3 (.tmp 90) (.const (.int .i64 4)) T3,some (5,true)⟩,⟨some 92,.pick (.tmp 83) (.tmp 91) (.const (.bool false)),none⟩]) (.cond (.tmp 92) (.reg [mv 93 5,⟨some 94,.call ⟨.value (.func F0),#[(.tmp 93),(.const (.int .i64 4))],#[]⟩,none⟩,⟨some 95,.convert T2 T9 (.tmp 94),none⟩,fa 96 T0 2 1,⟨none,.store T9 (.tmp 96) (.tmp 95),none⟩]) (.skip))) (.seq (.dreg [ld 97 T0 2,mv 98 5,nilc 99 98,fa 100 T1 99 1,ld 101 T3 100,mv 102 5,nilc 103 102,fa 104 T1 103 2,ld 105 T3 104,⟨none,.store T0 (.tmp 2) (.tmp 97),none⟩,asg 3 101,asg 4 105] [[],[],[1],[2],[3],[],[5],[6],[7],[0,0],[4,9,0,1,2,3,4,9],[8,10,0,1,2,3,4,5,6,7,8,9,10]]) (.ret))))))))
section
variable {P:Program} {f:FuncId} {fn:Func}
theorem res_ctt {a:Act} {w:World} {r1 r2 r3 T b:Nat} {cs:List Value} {v2 v3:Value} (hr:fn.results=#[.cell r1 T,.tmp r2,.tmp r3]) (hT:aggB P T cs.length=true) (hx:getT a r1=.pointer (some ⟨b,0,none⟩)) (hc:∀ j v,cs[j]?=some v→w.cell? ⟨b,j,none⟩=some v) (h2:getT a r2=v2) (h3:getT a r3=v3) :
    (results fn a.tmps).run P w=.ok (.tuple #[.agg cs.toArray,v2,v3]) w:=by
  obtain ⟨i,hi,hs,ha⟩:=agg_of (w:=w) hT
  have hl:=run_loadCells_list (P:=P) w ⟨b,0,none⟩ cs (fun j v hj=>by rw [add_none,Nat.zero_add];exact hc j v hj)
  have hx':a.tmps[r1]?.getD undef=.pointer (some ⟨b,0,none⟩):=by simpa [getT,Array.getD_eq_getD_getElem?] using hx
  have h2':a.tmps[r2]?.getD undef=v2:=by simpa [getT,Array.getD_eq_getD_getElem?] using h2
  have h3':a.tmps[r3]?.getD undef=v3:=by simpa [getT,Array.getD_eq_getD_getElem?] using h3
  simp [results,hr,hx',h2',h3',asAddr,loadVar,ha,sizeOf,typeInfo,hi,hs,hl]
def ReadStC (P:Program) (F:FuncId):Prop:=FnOK P F∧∀ (w:World) (S:Option Nat) (base:Option Addr) (cap:Nat) (l:List Ownd) (g:Int),SmallL l→RngL l g→SrcAt w S base (wSt l g)→(∀ sb,S=some sb→sb < w.heap.size)→(wSt l g).length≤cap →
  Calls P F #[.slice base (wSt l g).length cap] w fun e w'=>Below w.heap.size w w'∧∃ v0 v1 n1 n2:Value,v0.oneCell'=true∧v1.oneCell'=true∧e=.returned (.tuple #[.agg #[v0,v1],n1,n2])∧StV w' (· < w'.heap.size) l g (.agg #[v0,v1])
theorem readSt_ok {T0 T1 T2 T3 T4 T5 T6 T7 T8 T9 T10 F0 F1 F2 tU8:Nat} (hm:P.follows .mixedOrders=true) (hT:RTy2 P T1 T3 T5 tU8) (hR:RowT P T10 T7) (o8:oneB P T8=true) (i2:intK P T2=some .i64) (i9:intK P T9=some .i32) (o9:oneB P T9=true) (e8:ElT P T8 T9 1) (e10:ElT P T10 T7 2) (hf0:fieldOff P T0 0=some 0) (hf1:fieldOff P T0 1=some 1) (o10:oneB P T10=true) (hfl:fldB P T4 1=true) (hbs:bstrB P T5 T6=true) (hB7:∀ s:ByteArray,P.built T7 [(0,.string s)]=some #[.string s,.slice none 0 0])
    (hA:aggB P T0 2=true) (h0o:oneB P T0=false) (h0a:aggN P T0=some 2) (hz0:∃ i z,P.info? T0=some i∧i.zero=some z∧z.cells=#[.slice none 0 0,.int .i32 0]) (hB1:∀ (b:Option Addr) (l c:Nat),P.built T1 [(0,.slice b l c)]=some #[.slice b l c,.int .i64 0,.int .i64 0])
    (cF : RFixC P T1 F0) (cO : ROctC P T1 F2) (hf : P.funcs[f]? = some fn) (hb : fn.body.map strip = some (sc_ReadSt T0 T1 T2 T3 T4 T5 T6 T7 T8 T9 T10 F0 F1 F2)) (hnm : (fn.name == "runtime.NumGoroutine") = false) (hn : fn.ntmps = 106) (hr : fn.results = #[.cell 2 T0, .tmp 3, .tmp 4]) : ReadStC P f := by
  refine ⟨fnOK_of hf hb hnm,fun w S base cap l g hsm hrg hsr hS hlc=>?_⟩
  obtain ⟨i0,z0,hi0,hzz0,hzc0⟩:=hz0
  have hg0:=hT.f1
  have hg2:=hT.f2
  have hoI:=hT.oI
  have hsB:=hT.sB
  have hwl:=wSt_len g hsm
  have hll:=hsm.1
  obtain ⟨bs,hbs'⟩:∃ bs,bs=wSt l g:=⟨_,rfl⟩
  obtain ⟨tl,htl⟩:∃ tl:Bytes,tl=if g=-1 then [] else fixed g 4:=⟨_,rfl⟩
  have hb0:bs=fixed (l.length:Int) 4 ++ (l.flatMap wOwnd ++ tl):=by rw [hbs',htl];unfold wSt wStL;rw [List.append_assoc]
  have hb4:bs.drop 4=l.flatMap wOwnd ++ tl:=by rw [hb0,List.drop_append,fixed_length,Nat.sub_self,List.drop_zero,List.drop_of_length_le (by rw [fixed_length];omega),List.nil_append]
  have hbl:bs.length=4+(l.flatMap wOwnd).length+tl.length:=by rw [hb0,List.length_append,List.length_append,fixed_length];omega
  rw [← hbs'] at hsr hlc hwl ⊢
  have hmany:sgn 4 (unfix ((bs.drop 0).take 4))=(l.length:Int):=rd_of (by rw [List.drop_zero];exact hb0) (pI32_of (by omega) (by omega) _)
  refine fCa hf hb hn (by simp) fun a0 hs hd ha=>?_
  have h0:=ha 0 _ rfl
  simp only [List.getElem_toArray,List.getElem_cons_zero,List.getElem_cons_succ] at h0
  refine SC.wp_seq (SC.wp_reg (oNo rfl (opw_alloc hi0 hzz0 ?_)))
  repeat (first | (apply ops_1;(focus (simp (disch:=(try simp only [sPu]);omega) ;try rfl))) | (apply ops_y;(focus rfl);(focus ((try simp only [sPu]);omega));(focus (simp (disch:=(try simp only [sPu]);omega);done));(focus (simp (disch:=(try simp only [sPu]);omega) ;try rfl))) | (apply ops_n;(focus rfl);(focus ((try simp only [sPu]);omega));(focus (first | (left;simp (disch:=(try simp only [sPu]);omega);done) | (right;simp (disch:=(try simp only [sPu]);omega);done)))))
  refine oNi ?_
  simp only [Exit.then]
  have hn1:=heap_alloc_new w (.cells z0.cells T0)
  have hb1:Below w.heap.size w (w.alloc (.cells z0.cells T0)):=(Below.refl _ _).alloc (Nat.le_refl _) _
  have hs1:(w.alloc (.cells z0.cells T0)).heap.size=w.heap.size+1:=by simp
  rw [hzc0] at hn1 hb1 hs1 ⊢
  generalize w.alloc (.cells #[.slice none 0 0,.int .i32 0] T0)=w1 at hn1 hb1 hs1 ⊢
  refine SC.wp_seq (SC.wp_reg ?_)
  iterate 1 (first | (apply ops_1;(focus (simp (disch:=(try simp only [sPu]);omega) [h0];try rfl))) | (apply ops_y;(focus rfl);(focus ((try simp only [sPu]);omega));(focus (simp (disch:=(try simp only [sPu]);omega) [h0];done));(focus (simp (disch:=(try simp only [sPu]);omega) [h0];try rfl))) | (apply ops_n;(focus rfl);(focus ((try simp only [sPu]);omega));(focus (first | (left;simp (disch:=(try simp only [sPu]);omega) [h0];done) | (right;simp (disch:=(try simp only [sPu]);omega);done)))))
  refine oNo rfl (opw_build (cs:=#[.slice base bs.length cap,.int .i64 0,.int .i64 0]) (by simp (disch:=(try simp only [sPu]);omega) [h0];exact hB1 _ _ _) ?_)
  refine ops_box (B:=w.heap.size) (w0:=w) (cs:=#[.slice base bs.length cap,.int .i64 0,.int .i64 0]) (by simp (disch:=(try simp only [sPu]);omega)) (by omega) hb1 fun w2 q1 q2 q3 hc2 hrd2=>?_
  repeat (first | (apply ops_1;(focus (simp (disch:=(try simp only [sPu]);omega) ;try rfl))) | (apply ops_y;(focus rfl);(focus ((try simp only [sPu]);omega));(focus (simp (disch:=(try simp only [sPu]);omega);done));(focus (simp (disch:=(try simp only [sPu]);omega) ;try rfl))) | (apply ops_n;(focus rfl);(focus ((try simp only [sPu]);omega));(focus (first | (left;simp (disch:=(try simp only [sPu]);omega);done) | (right;simp (disch:=(try simp only [sPu]);omega);done)))))
  refine oNi ?_
  simp only [Exit.then]
  obtain ⟨rb,hrb⟩:∃ rb,rb=w1.heap.size:=⟨_,rfl⟩
  rw [← hrb] at hrd2 ⊢
  have hrd2':RdrAt T1 w2 rb base bs.length cap 0:=hrd2
  have hsr2:SrcAt w2 S base bs:=hsr.frame fun sb h=>q2.block sb (hS sb h)
  have hr22:w2.heap[w.heap.size]?=some (.cells #[.slice none 0 0,.int .i32 0] T0 (0,0)):=by rw [q1.block _ (by omega)];exact hn1
  refine SC.wp_seq (SC.wp_reg ?_)
  iterate 1 (first | (apply ops_1;(focus (simp (disch:=(try simp only [sPu]);omega) ;try rfl))) | (apply ops_y;(focus rfl);(focus ((try simp only [sPu]);omega));(focus (simp (disch:=(try simp only [sPu]);omega);done));(focus (simp (disch:=(try simp only [sPu]);omega) ;try rfl))) | (apply ops_n;(focus rfl);(focus ((try simp only [sPu]);omega));(focus (first | (left;simp (disch:=(try simp only [sPu]);omega);done) | (right;simp (disch:=(try simp only [sPu]);omega);done)))))
  refine ops_call (argsV:=#[.pointer (some ⟨rb,0,none⟩),.int .i64 ((4:Nat):Int)]) cF.1 (cF.2 w2 rb 0 4 cap base S bs hrd2' hsr2 (fun sb h=>⟨by have:=hS sb h;omega,by have:=hS sb h;omega⟩) (by omega) (by decide) (by decide) hlc hwl) (by simp (disch:=(try simp only [sPu]);omega)) ?_
  rintro e w3 ⟨rfl,hon3,hsz3,hrd3⟩
  rw [hmany]
  refine ⟨_,rfl,?_⟩
  repeat (first | (apply ops_1;(focus (simp (disch:=(try simp only [sPu]);omega) ;try rfl))) | (apply ops_y;(focus rfl);(focus ((try simp only [sPu]);omega));(focus (simp (disch:=(try simp only [sPu]);omega);done));(focus (simp (disch:=(try simp only [sPu]);omega) ;try rfl))) | (apply ops_n;(focus rfl);(focus ((try simp only [sPu]);omega));(focus (first | (left;simp (disch:=(try simp only [sPu]);omega);done) | (right;simp (disch:=(try simp only [sPu]);omega);done)))))
  refine oNi ?_
  simp only [Exit.then]
  have hk0:¬ ((l.length:Int) < 0):=by omega
  refine SC.wp_seq (SC.wp_seq (SC.wp_reg ?_))
  repeat (first | (apply ops_1;(focus (simp (disch:=(try simp only [sPu]);omega) [hk0];try rfl))) | (apply ops_y;(focus rfl);(focus ((try simp only [sPu]);omega));(focus (simp (disch:=(try simp only [sPu]);omega) [hk0];done));(focus (simp (disch:=(try simp only [sPu]);omega) [hk0];try rfl))) | (apply ops_n;(focus rfl);(focus ((try simp only [sPu]);omega));(focus (first | (left;simp (disch:=(try simp only [sPu]);omega) [hk0];done) | (right;simp (disch:=(try simp only [sPu]);omega);done)))))
  refine oNi (SC.wp_cond (t:=false) (by simp (disch:=(try simp only [sPu]);omega) [hk0]) ?_)
  rw [if_neg (by simp)]
  refine SC.wp_skip ?_
  simp only [Exit.then]
  refine SC.wp_seq (SC.wp_seq (SC.wp_reg ?_))
  repeat (first | (apply ops_1;(focus (simp (disch:=(try simp only [sPu]);omega) ;try rfl))) | (apply ops_y;(focus rfl);(focus ((try simp only [sPu]);omega));(focus (simp (disch:=(try simp only [sPu]);omega);done));(focus (simp (disch:=(try simp only [sPu]);omega) ;try rfl))) | (apply ops_n;(focus rfl);(focus ((try simp only [sPu]);omega));(focus (first | (left;simp (disch:=(try simp only [sPu]);omega);done) | (right;simp (disch:=(try simp only [sPu]);omega);done)))))
  refine oNi ?_
  simp only [Exit.then]
  have hr23:w3.heap[w.heap.size]?=some (.cells #[.slice none 0 0,.int .i32 0] T0 (0,0)):=by rw [hon3.block _ (by omega) (by omega)];exact hr22
  have hb3:Below w.heap.size w w3:=q2.trans (hon3.below (by omega) (by omega))
  have hsr3:SrcAt w3 S base bs:=hsr.frame fun sb h=>hb3.block sb (hS sb h)
  obtain ⟨Bo,hBo⟩:∃ Bo,Bo=w3.heap.size:=⟨_,rfl⟩
  refine SC.wp_block (SC.wp_loop (fun a4 w5=>∃ (j:Nat) (lv:Value),a4.tmps.size=106∧a4.defers=[]∧getT a4 0=.slice base bs.length cap∧getT a4 2=.pointer (some ⟨w.heap.size,0,none⟩)∧getT a4 5=.pointer (some ⟨rb,0,none⟩)∧getT a4 6=.int .i64 (l.length:Int)∧getT a4 7=.int .i64 (j:Int)∧j≤l.length∧RdrAt T1 w5 rb base bs.length cap (4+((l.take j).flatMap wOwnd).length)∧w5.heap[w.heap.size]?=some (.cells #[lv,.int .i32 0] T0 (0,0))∧OutL w5 Bo T7 lv j l∧Keep (fun k=>k=rb∨k=w.heap.size∨Bo≤k) w3 w5)
    (fun a4 _=>match getT a4 7 with | .int _ m=>(l.length - m).toNat | _=>0) ⟨0,.slice none 0 0,by simp [sPu,hs],by simp [dPu,hd],by simp (disch:=(try simp only [sPu]);omega) [h0],by simp (disch:=(try simp only [sPu]);omega),by simp (disch:=(try simp only [sPu]);omega),by simp (disch:=(try simp only [sPu]);omega),by simp (disch:=(try simp only [sPu]);omega),by omega,hrd3,hr23,OutL.nil _ _ _ _,Keep.refl _ _⟩ ?_)
  rintro a4 w5 ⟨j,lv,q,qd,p0,p2,p5,p6,p7,hj,hrd5,hr25,hout,hk5⟩
  have hs5:=hk5.size
  obtain ⟨c0,c1,c2⟩:=hrd5.cells
  have hbel5:Below w.heap.size w w5:=hb3.trans (hk5.below (fun k h=>by omega) (by omega))
  have hsr5:SrcAt w5 S base bs:=hsr.frame fun sb h=>hbel5.block sb (hS sb h)
  have htk:=wOwnds_split l j
  refine SC.wp_seq (SC.wp_seq (SC.wp_reg ?_))
  refine Decidable.byCases (p:=j < l.length) (fun hjl=>?_) (fun hjl=>?_)
  · have hjl':(j:Int) < (l.length:Int):=by omega
    repeat (first | (apply ops_1;(focus (simp (disch:=(try simp only [sPu]);omega) [p5,p6,p7,hjl,hjl',hg2,hoI,c2];try rfl))) | (apply ops_y;(focus rfl);(focus ((try simp only [sPu]);omega));(focus (simp (disch:=(try simp only [sPu]);omega) [p5,p6,p7,hjl,hjl',hg2,hoI,c2];done));(focus (simp (disch:=(try simp only [sPu]);omega) [p5,p6,p7,hjl,hjl',hg2,hoI,c2];try rfl))) | (apply ops_n;(focus rfl);(focus ((try simp only [sPu]);omega));(focus (first | (left;simp (disch:=(try simp only [sPu]);omega) [p5,p6,p7,hjl,hjl',hg2,hoI,c2];done) | (right;simp (disch:=(try simp only [sPu]);omega);done)))))
    refine oNi (SC.wp_cond (t:=true) (by simp (disch:=(try simp only [sPu]);omega)) ?_)
    rw [if_pos rfl]
    refine SC.wp_skip ?_
    simp only [Exit.then]
    obtain ⟨x,hx⟩:∃ x,x=l[j]:=⟨_,rfl⟩
    have hxm:x ∈ l:=by rw [hx];exact List.getElem_mem hjl
    obtain ⟨m1,m2,m3⟩:=small_all hsm hrg x hxm
    have hat:bs.drop (4+((l.take j).flatMap wOwnd).length)=wOwnd x ++ ((l.drop (j+1)).flatMap wOwnd ++ tl):=by
      rw [ownds_at hb4 hj,List.drop_eq_getElem_cons hjl,List.flatMap_cons,← hx,List.append_assoc]
    refine SC.wp_seq (SC.wp_block ?_)
    refine rdRound_ok (rb:=rb) (r2:=w.heap.size) (at_:=4+((l.take j).flatMap wOwnd).length) (cap:=cap) (i:=j) (Bo:=Bo) (base:=base) (S:=S) (bs:=bs) (rr:=(l.drop (j+1)).flatMap wOwnd ++ tl) (l:=l) (x:=x) (lv:=lv) (gv:=.int .i32 0) hm hT hR o8 i2 i9 e8 e10 hf0 o10 hfl hbs hB7 cF cO (by simp [sPu,q]) (by simp [dPu,qd]) (by simp (disch:=(try simp only [sPu]);omega) [p2]) (by simp (disch:=(try simp only [sPu]);omega) [p5]) hrd5 hr25 hsr5 (fun sb h=>⟨by have:=hS sb h;omega,by have:=hS sb h;omega,by have:=hS sb h;omega⟩) (by omega) (by omega) (by omega) (by omega) hat (by rw [hx];exact List.getElem?_eq_getElem hjl) hout (by omega) hlc hwl (by omega) m1 m2 m3 fun a8 w8 lv8 f1 f2 f3 f4 f5 f6 f7=>?_
    have y0:getT a8 0=.slice base bs.length cap:=by rw [f3 0 (by omega)];simp (disch:=(try simp only [sPu]);omega) [p0]
    have y2:getT a8 2=.pointer (some ⟨w.heap.size,0,none⟩):=by rw [f3 2 (by omega)];simp (disch:=(try simp only [sPu]);omega) [p2]
    have y5:getT a8 5=.pointer (some ⟨rb,0,none⟩):=by rw [f3 5 (by omega)];simp (disch:=(try simp only [sPu]);omega) [p5]
    have y6:getT a8 6=.int .i64 (l.length:Int):=by rw [f3 6 (by omega)];simp (disch:=(try simp only [sPu]);omega) [p6]
    have y7:getT a8 7=.int .i64 (j:Int):=by rw [f3 7 (by omega)];simp (disch:=(try simp only [sPu]);omega) [p7]
    have ew:IntKind.i64.wrap ((j:Int)+1)=((j:Int)+1):=by rw [wrap_i64'];split <;> omega
    simp only [Exit.inBlock,Exit.then]
    refine SC.wp_reg ?_
    repeat (first | (apply ops_1;(focus (simp (disch:=(try simp only [sPu]);omega) [y7,ew];try rfl))) | (apply ops_y;(focus rfl);(focus ((try simp only [sPu]);omega));(focus (simp (disch:=(try simp only [sPu]);omega) [y7,ew];done));(focus (simp (disch:=(try simp only [sPu]);omega) [y7,ew];try rfl))) | (apply ops_n;(focus rfl);(focus ((try simp only [sPu]);omega));(focus (first | (left;simp (disch:=(try simp only [sPu]);omega) [y7,ew];done) | (right;simp (disch:=(try simp only [sPu]);omega);done)))))
    refine oNi ?_
    have hst:((l.take (j+1)).flatMap wOwnd).length=((l.take j).flatMap wOwnd).length+(wOwnd x).length:=by
      rw [List.take_add_one,List.getElem?_eq_getElem hjl,← hx,Option.toList_some,List.flatMap_append,List.flatMap_cons,List.flatMap_nil,List.append_nil,List.length_append]
    refine ⟨⟨j+1,lv8,by simp [sPu,f1],by simp [dPu,f2],by simp (disch:=(try simp only [sPu]);omega) [y0],by simp (disch:=(try simp only [sPu]);omega) [y2],by simp (disch:=(try simp only [sPu]);omega) [y5],by simp (disch:=(try simp only [sPu]);omega) [y6],by simp (disch:=(try simp only [sPu]);omega),by omega,by rw [hst,← Nat.add_assoc];exact f4,f5,f6,hk5.trans f7⟩,?_⟩
    rw [p7]
    simp (disch:=(try simp only [sPu]);omega)
    omega
  · have hk0:j=l.length:=by omega
    have hjl':¬ (j:Int) < (l.length:Int):=by omega
    repeat (first | (apply ops_1;(focus (simp (disch:=(try simp only [sPu]);omega) [p5,p6,p7,hjl,hjl',hg2,hoI,c2];try rfl))) | (apply ops_y;(focus rfl);(focus ((try simp only [sPu]);omega));(focus (simp (disch:=(try simp only [sPu]);omega) [p5,p6,p7,hjl,hjl',hg2,hoI,c2];done));(focus (simp (disch:=(try simp only [sPu]);omega) [p5,p6,p7,hjl,hjl',hg2,hoI,c2];try rfl))) | (apply ops_n;(focus rfl);(focus ((try simp only [sPu]);omega));(focus (first | (left;simp (disch:=(try simp only [sPu]);omega) [p5,p6,p7,hjl,hjl',hg2,hoI,c2];done) | (right;simp (disch:=(try simp only [sPu]);omega);done)))))
    refine oNi (SC.wp_cond (t:=false) (by simp (disch:=(try simp only [sPu]);omega) [hjl]) ?_)
    rw [if_neg (by simp)]
    refine SC.wp_exit ?_
    simp only [Exit.then,Exit.inBlock,if_true]
    subst hk0
    rw [List.take_length] at hrd5 c1
    have hlv1:=hout.one
    refine SC.wp_seq (SC.wp_reg ?_)
    iterate 1 (first | (apply ops_1;(focus (simp (disch:=(try simp only [sPu]);omega) [p2,hf1];try rfl))) | (apply ops_y;(focus rfl);(focus ((try simp only [sPu]);omega));(focus (simp (disch:=(try simp only [sPu]);omega) [p2,hf1];done));(focus (simp (disch:=(try simp only [sPu]);omega) [p2,hf1];try rfl))) | (apply ops_n;(focus rfl);(focus ((try simp only [sPu]);omega));(focus (first | (left;simp (disch:=(try simp only [sPu]);omega) [p2,hf1];done) | (right;simp (disch:=(try simp only [sPu]);omega);done)))))
    refine oNo rfl (opw_store_one (ad:=⟨w.heap.size,1,none⟩) (v:=.int .i32 (-1)) (v0:=.int .i32 0) o9 (by simp (disch:=(try simp only [sPu]);omega)) (by simp (disch:=(try simp only [sPu]);omega)) rfl (by rw [cell_of_row _ _ _ _ _ _ hr25];rfl) (by simp [World.frozen?,hr25]) (oNi ?_))
    rw [pNo,setCell_eq_setRow _ _ _ _ _ _ _ hr25]
    simp only [Exit.then]
    have hrow6:(w5.setRow w.heap.size (#[lv,.int .i32 0].setIfInBounds 1 (.int .i32 (-1)))).heap[w.heap.size]?=some (.cells #[lv,.int .i32 (-1)] T0 (0,0)):=setRow_heap w5 w.heap.size _ (#[lv,.int .i32 0].setIfInBounds 1 (.int .i32 (-1))) _ _ hr25
    have hk6:Keep (fun k=>k=rb∨k=w.heap.size∨Bo≤k) w3 (w5.setRow w.heap.size (#[lv,.int .i32 0].setIfInBounds 1 (.int .i32 (-1)))):=hk5.setRow (.inl (.inr (.inl rfl))) _
    have hrd6:RdrAt T1 (w5.setRow w.heap.size (#[lv,.int .i32 0].setIfInBounds 1 (.int .i32 (-1)))) rb base bs.length cap (4+(l.flatMap wOwnd).length):=by
      unfold RdrAt
      rw [setRow_other _ _ _ _ (by omega)]
      exact hrd5
    have hout6:OutL (w5.setRow w.heap.size (#[lv,.int .i32 0].setIfInBounds 1 (.int .i32 (-1)))) Bo T7 lv l.length l:=hout.keep (fun k hk _=>setRow_other _ _ _ _ (by omega)) (by simp)
    generalize w5.setRow w.heap.size (#[lv,.int .i32 0].setIfInBounds 1 (.int .i32 (-1)))=w6 at *
    have hs6:=hk6.size
    have hbel6:Below w.heap.size w w6:=hb3.trans (hk6.below (fun k h=>by omega) (by omega))
    have hsr6:SrcAt w6 S base bs:=hsr.frame fun sb h=>hbel6.block sb (hS sb h)
    obtain ⟨d0,d1,d2⟩:=hrd6.cells
    have finish:∀ (a7:Act) (w7:World) (at7:Nat),a7.tmps.size=106→a7.defers=[]→getT a7 2=.pointer (some ⟨w.heap.size,0,none⟩)→getT a7 5=.pointer (some ⟨rb,0,none⟩)→w7.heap[w.heap.size]?=some (.cells #[lv,.int .i32 g] T0 (0,0))→RdrAt T1 w7 rb base bs.length cap at7→OutL w7 Bo T7 lv l.length l→Below w.heap.size w w7→w3.heap.size≤w7.heap.size →
        (SC.seq (.dreg [ld 97 T0 2,mv 98 5,nilc 99 98,fa 100 T1 99 1,ld 101 T3 100,mv 102 5,nilc 103 102,fa 104 T1 103 2,ld 105 T3 104,⟨none,.store T0 (.tmp 2) (.tmp 97),none⟩,asg 3 101,asg 4 105] [[],[],[1],[2],[3],[],[5],[6],[7],[0,0],[4,9,0,1,2,3,4,9],[8,10,0,1,2,3,4,5,6,7,8,9,10]]) (.ret)).wp P (bodyPost P fn fun e w'=>Below w.heap.size w w'∧∃ v0 v1 n1 n2:Value,v0.oneCell'=true∧v1.oneCell'=true∧e=.returned (.tuple #[.agg #[v0,v1],n1,n2])∧StV w' (· < w'.heap.size) l g (.agg #[v0,v1])) a7 w7:=by
      intro a7 w7 at7 z1 z2 z3 z4 z5 z6 z7 z8 z9
      obtain ⟨u0,u1,u2⟩:=z6.cells
      have hk2:∀ o,w7.cell? ⟨w.heap.size,o,none⟩=#[lv,.int .i32 g][o]?:=fun o=>cell_of_row _ _ _ _ _ _ z5
      have hrv:rangeV w7 w.heap.size 0 2=some [lv,.int .i32 g]:=by simp [rangeV,hk2]
      obtain ⟨SS,hSS⟩:∃ SS:World→Prop,SS=fun w'=>w'.heap[w.heap.size]?=some (.cells #[lv,.int .i32 g] T0 (0,0))∧w'.heap[rb]?=w7.heap[rb]?:=⟨_,rfl⟩
      have hS0:SS w7.drew:=by rw [hSS];exact ⟨z5,rfl⟩
      have hSc:∀ w',SS w'→∀ b' o',(fun b'=>decide (b'=w.heap.size) || decide (b'=rb)) b'=true→w'.cell? ⟨b',o',none⟩=w7.cell? ⟨b',o',none⟩:=fun w' h b' o' hb'=>by
        rw [hSS] at h
        simp only [Bool.or_eq_true,decide_eq_true_eq] at hb'
        rcases hb' with rfl | rfl
        · rw [cell_of_row _ _ _ _ _ _ h.1,cell_of_row _ _ _ _ _ _ z5]
        · exact World.cell?_of_block h.2
      refine SC.wp_seq (SC.wp_dreg hm SS [(0,true),(1,true),(2,true),(3,true),(4,true),(5,true),(6,true),(7,true),(8,true),(9,false),(10,true),(11,true)] (by rfl) (by rfl) (by decide) hS0 ?_)
      refine dr_S (v:=.agg #[lv,.int .i32 g]) hSc rfl (by simp (disch:=(try simp only [sPu]);omega) [qv,z3,h0o,h0a,hrv]) ?_
      refine dr_S (v:=.pointer (some ⟨rb,0,none⟩)) hSc rfl (by simp (disch:=(try simp only [sPu]);omega) [qv,z4]) ?_
      refine dr_S (v:=.pointer (some ⟨rb,0,none⟩)) hSc rfl (by simp (disch:=(try simp only [sPu]);omega) [qv]) ?_
      refine dr_S (v:=.pointer (some ⟨rb,1,none⟩)) hSc rfl (by simp (disch:=(try simp only [sPu]);omega) [qv,hg0]) ?_
      refine dr_S (v:=.int .i64 (at7:Int)) hSc rfl (by simp (disch:=(try simp only [sPu]);omega) [qv,hoI];exact u1) ?_
      refine dr_S (v:=.pointer (some ⟨rb,0,none⟩)) hSc rfl (by simp (disch:=(try simp only [sPu]);omega) [qv,z4]) ?_
      refine dr_S (v:=.pointer (some ⟨rb,0,none⟩)) hSc rfl (by simp (disch:=(try simp only [sPu]);omega) [qv]) ?_
      refine dr_S (v:=.pointer (some ⟨rb,2,none⟩)) hSc rfl (by simp (disch:=(try simp only [sPu]);omega) [qv,hg2]) ?_
      refine dr_S (v:=.int .i64 0) hSc rfl (by simp (disch:=(try simp only [sPu]);omega) [qv,hoI];exact u2) ?_
      have z5':w7.drew.heap[w.heap.size]?=some (.cells #[lv,.int .i32 g] T0 (0,0)):=z5
      refine dreg_n rfl rfl (opw_store_agg (cs:=[lv,.int .i32 g]) (cur:=#[lv,.int .i32 g]) (b:=w.heap.size) (E:=T0) hA (by simp (disch:=(try simp only [sPu]);omega) [z3]) (by simp (disch:=(try simp only [sPu]);omega)) z5' rfl (by intro v hv;simp at hv;rcases hv with rfl | rfl;exact hlv1;rfl) ?_)
      rw [pNo]
      have hrow8:=setRow_heap w7.drew w.heap.size _ [lv,Value.int .i32 g].toArray _ _ z5'
      have hS8:SS (w7.drew.setRow w.heap.size [lv,Value.int .i32 g].toArray):=by
        rw [hSS]
        exact ⟨hrow8,setRow_other _ _ _ _ (by omega)⟩
      refine ⟨hS8,?_⟩
      refine dr_S (v:=.int .i64 (at7:Int)) hSc rfl (by simp (disch:=(try simp only [sPu]);omega) [qv]) ?_
      refine dr_S (v:=.int .i64 0) hSc rfl (by simp (disch:=(try simp only [sPu]);omega) [qv]) ?_
      refine dreg_nil ?_
      simp only [Exit.then]
      refine SC.wp_ret ?_
      try simp only [Exit.then]
      have hb8:Below w.heap.size w (w7.drew.setRow w.heap.size [lv,Value.int .i32 g].toArray):=below_setRow z8.drew (Nat.le_refl _) _
      have hout8:OutL (w7.drew.setRow w.heap.size [lv,Value.int .i32 g].toArray) Bo T7 lv l.length l:=z7.keep (fun k hk _=>(setRow_other _ _ _ _ (by omega)).trans rfl) (by show w7.heap.size≤_;simp)
      obtain ⟨ob,oc,rfl,hol⟩:=hout8.list
      refine bodyPost_ret_by (v:=.tuple #[.agg [Value.slice ob l.length oc,Value.int .i32 g].toArray,.int .i64 (at7:Int),.int .i64 0]) (res_ctt (b:=w.heap.size) hr hA (by simp (disch:=(try simp only [sPu]);omega) [z3]) (fun j v hj=>by rw [cell_of_row _ _ _ _ _ _ hrow8];simpa using hj) (by simp (disch:=(try simp only [sPu]);omega)) (by simp (disch:=(try simp only [sPu]);omega))) (by simp [dPu,z2]) ⟨hb8,.slice ob l.length oc,.int .i32 g,_,_,rfl,rfl,rfl,ob,oc,rfl,hol.mono (fun k hk=>hk.2) (fun _ _=>rfl)⟩
    have ew:IntKind.i64.wrap ((bs.length:Int) - ((4+(l.flatMap wOwnd).length:Nat):Int))=(tl.length:Int):=by rw [hbl,wrap_i64'];split <;> omega
    generalize hPp:((4+(l.flatMap wOwnd).length:Nat):Int)=Pp at *
    refine SC.wp_seq (SC.wp_seq (SC.wp_reg ?_))
    by_cases hg:g=-1
    · have htl0:tl=[]:=by rw [htl,if_pos hg]
      have ew0:IntKind.i64.wrap ((bs.length:Int) - Pp)=0:=by rw [ew,htl0];rfl
      repeat (first | (apply ops_1;(focus (simp (disch:=(try simp only [sPu]);omega) [p0,p5,hg0,hg2,hoI,hsB,d1,d2,ew0];try rfl))) | (apply ops_y;(focus rfl);(focus ((try simp only [sPu]);omega));(focus (simp (disch:=(try simp only [sPu]);omega) [p0,p5,hg0,hg2,hoI,hsB,d1,d2,ew0];done));(focus (simp (disch:=(try simp only [sPu]);omega) [p0,p5,hg0,hg2,hoI,hsB,d1,d2,ew0];try rfl))) | (apply ops_n;(focus rfl);(focus ((try simp only [sPu]);omega));(focus (first | (left;simp (disch:=(try simp only [sPu]);omega) [p0,p5,hg0,hg2,hoI,hsB,d1,d2,ew0];done) | (right;simp (disch:=(try simp only [sPu]);omega);done)))))
      refine oNi (SC.wp_cond (t:=false) (by simp (disch:=(try simp only [sPu]);omega)) ?_)
      rw [if_neg (by simp)]
      refine SC.wp_skip ?_
      simp only [Exit.then]
      exact finish _ w6 _ (by simp [sPu,q]) (by simp [dPu,qd]) (by simp (disch:=(try simp only [sPu]);omega) [p2]) (by simp (disch:=(try simp only [sPu]);omega) [p5]) (by rw [hg];exact hrow6) hrd6 hout6 hbel6 hs6
    · have htl4:tl=fixed g 4:=by rw [htl,if_neg hg]
      have htl4':tl.length=4:=by rw [htl4,fixed_length]
      have ew0:IntKind.i64.wrap ((bs.length:Int) - Pp)=4:=by rw [ew,htl4'];rfl
      repeat (first | (apply ops_1;(focus (simp (disch:=(try simp only [sPu]);omega) [p0,p5,hg0,hg2,hoI,hsB,d1,d2,ew0];try rfl))) | (apply ops_y;(focus rfl);(focus ((try simp only [sPu]);omega));(focus (simp (disch:=(try simp only [sPu]);omega) [p0,p5,hg0,hg2,hoI,hsB,d1,d2,ew0];done));(focus (simp (disch:=(try simp only [sPu]);omega) [p0,p5,hg0,hg2,hoI,hsB,d1,d2,ew0];try rfl))) | (apply ops_n;(focus rfl);(focus ((try simp only [sPu]);omega));(focus (first | (left;simp (disch:=(try simp only [sPu]);omega) [p0,p5,hg0,hg2,hoI,hsB,d1,d2,ew0];done) | (right;simp (disch:=(try simp only [sPu]);omega);done)))))
      refine oNi (SC.wp_cond (t:=true) (by simp (disch:=(try simp only [sPu]);omega)) ?_)
      rw [if_pos rfl]
      have hgat:bs.drop (4+(l.flatMap wOwnd).length)=fixed g 4 ++ []:=by
        have:=ownds_at hb4 (Nat.le_refl l.length)
        rw [List.take_length,List.drop_length,List.flatMap_nil,List.nil_append,htl4] at this
        rw [this,List.append_nil]
      have hgv:sgn 4 (unfix ((bs.drop (4+(l.flatMap wOwnd).length)).take 4))=g:=rd_of hgat (pI32_of hrg.2.1 hrg.2.2 _)
      refine SC.wp_reg ?_
      iterate 1 (first | (apply ops_1;(focus (simp (disch:=(try simp only [sPu]);omega) [p5];try rfl))) | (apply ops_y;(focus rfl);(focus ((try simp only [sPu]);omega));(focus (simp (disch:=(try simp only [sPu]);omega) [p5];done));(focus (simp (disch:=(try simp only [sPu]);omega) [p5];try rfl))) | (apply ops_n;(focus rfl);(focus ((try simp only [sPu]);omega));(focus (first | (left;simp (disch:=(try simp only [sPu]);omega) [p5];done) | (right;simp (disch:=(try simp only [sPu]);omega);done)))))
      refine ops_call (argsV:=#[.pointer (some ⟨rb,0,none⟩),.int .i64 ((4:Nat):Int)]) cF.1 (cF.2 w6 rb (4+(l.flatMap wOwnd).length) 4 cap base S bs hrd6 hsr6 (fun sb h=>⟨by have:=hS sb h;omega,by have:=hS sb h;omega⟩) (by omega) (by decide) (by decide) hlc hwl) (by simp (disch:=(try simp only [sPu]);omega) [p5]) ?_
      rintro e w7 ⟨rfl,hon7,hsz7,hrd7⟩
      rw [hgv]
      refine ⟨_,rfl,?_⟩
      have wg:IntKind.i32.wrap g=g:=w32 hrg.2.1 hrg.2.2
      have hrow7:w7.heap[w.heap.size]?=some (.cells #[lv,.int .i32 (-1)] T0 (0,0)):=by rw [hon7.block _ (by omega) (by omega)];exact hrow6
      iterate 2 (first | (apply ops_1;(focus (simp (disch:=(try simp only [sPu]);omega) [p2,i2,i9,wg,hf1];try rfl))) | (apply ops_y;(focus rfl);(focus ((try simp only [sPu]);omega));(focus (simp (disch:=(try simp only [sPu]);omega) [p2,i2,i9,wg,hf1];done));(focus (simp (disch:=(try simp only [sPu]);omega) [p2,i2,i9,wg,hf1];try rfl))) | (apply ops_n;(focus rfl);(focus ((try simp only [sPu]);omega));(focus (first | (left;simp (disch:=(try simp only [sPu]);omega) [p2,i2,i9,wg,hf1];done) | (right;simp (disch:=(try simp only [sPu]);omega);done)))))
      refine oNo rfl (opw_store_one (ad:=⟨w.heap.size,1,none⟩) (v:=.int .i32 g) (v0:=.int .i32 (-1)) o9 (by simp (disch:=(try simp only [sPu]);omega)) (by simp (disch:=(try simp only [sPu]);omega)) rfl (by rw [cell_of_row _ _ _ _ _ _ hrow7];rfl) (by simp [World.frozen?,hrow7]) (oNi ?_))
      rw [pNo,setCell_eq_setRow _ _ _ _ _ _ _ hrow7]
      simp only [Exit.then]
      have hrow8:(w7.setRow w.heap.size (#[lv,.int .i32 (-1)].setIfInBounds 1 (.int .i32 g))).heap[w.heap.size]?=some (.cells #[lv,.int .i32 g] T0 (0,0)):=setRow_heap w7 w.heap.size _ (#[lv,.int .i32 (-1)].setIfInBounds 1 (.int .i32 g)) _ _ hrow7
      refine finish _ _ (4+(l.flatMap wOwnd).length+4) (by simp [sPu,q]) (by simp [dPu,qd]) (by simp (disch:=(try simp only [sPu]);omega) [p2]) (by simp (disch:=(try simp only [sPu]);omega) [p5]) hrow8 ?_ ?_ (below_setRow (hbel6.trans (hon7.below (by omega) (by omega))) (Nat.le_refl _) _) (by simp;omega)
      · unfold RdrAt
        rw [setRow_other _ _ _ _ (by omega)]
        exact hrd7
      · refine hout6.keep (fun k hk hk2=>(setRow_other _ _ _ _ (by omega)).trans (hon7.block k hk2 ?_)) (by simp;omega)
        rintro rfl
        omega
end
end Go.Proofs.YtoiipagmhmohdaaDoor.K
namespace Go.Proofs.YtoiipagmhmohdaaDoor.K
open Go Go.RowKit Go.Proofs.YtoiipagmhmohdaaDoor.T
attribute [local simp] eTm eCo pNo gTp gTn qv qcall vop iop
set_option linter.unusedSimpArgs false
set_option linter.unusedVariables false
set_option maxHeartbeats 4000000
def sc_LawSt (T0 T1 T2 T3 T4 T5 F0 F1 F2 F3 F4 F5:Nat):SC:=.seq (.reg [⟨some 2,.box T0 (.tmp 0),none⟩,⟨some 4,.assign (.const (.bool false)),none⟩]) (.seq (.seq (.reg [ld 14 T0 2,cal 15 F0 [14],⟨some 16,.unOp .not T1 (.tmp 15),none⟩]) (.cond (.tmp 16) (.seq (.reg [⟨some 4,.assign (.const (.bool true)),none⟩]) (.ret)) (.skip))) (.seq (.seq (.reg [ld 17 T0 2,cal 18 F1 [17],⟨some 19,.unOp .not T1 (.tmp 18),none⟩]) (.cond (.tmp 19) (.seq (.reg [⟨some 4,.assign (.const (.bool true)),none⟩]) (.ret)) (.skip))) (.seq (.reg [ld 20 T0 2,cal 21 F2 [20],asg 5 21]) (.seq (.reg [mv 23 5,cal 24 F3 [23],mv 22 24,⟨some 25,.extract (.tmp 22) 0,none⟩,⟨some 26,.extract (.tmp 22) 1,none⟩,⟨some 6,.alloc T0,none⟩,⟨none,.store T0 (.tmp 6) (.tmp 25),none⟩,asg 7 26]) (.seq (.reg [fa 27 T0 2 1,⟨none,.store T2 (.tmp 27) (.const (.int .i32 (-1))),none⟩]) (.seq (.reg [ld 28 T0 2,cal 29 F2 [28],lenOp 30 T3 29,asg 8 30]) (.seq (.reg [mv 32 5,mv 33 1,⟨some 34,.convert T4 T5 (.tmp 33),none⟩,mv 35 8,⟨some 36,.binOp .rem T5 (.tmp 34) (.tmp 35) T5,none⟩,⟨some 37,.slice T3 (.tmp 32) none (some (.tmp 36)) none,none⟩,cal 38 F3 [37],mv 31 38,⟨some 39,.extract (.tmp 31) 0,none⟩,⟨some 40,.extract (.tmp 31) 1,none⟩,⟨some 9,.alloc T0,none⟩,⟨none,.store T0 (.tmp 9) (.tmp 39),none⟩,asg 10 40]) (.seq (.reg [mv 42 5,cal 43 F4 [42],mv 41 43,⟨some 44,.extract (.tmp 41) 0,none⟩,⟨some 45,.extract (.tmp 41) 1,none⟩,⟨some 46,.extract (.tmp 41) 2,none⟩,⟨some 11,.alloc T0,none⟩,⟨none,.store T0 (.tmp 11) (.tmp 44),none⟩,asg 12 45,asg 13 46]) (.seq (.reg [mv 47 7,mv 48 47,⟨some 49,.move (.tmp 10),some (1,true)⟩,⟨some 50,.unOp .not T1 (.tmp 49),some (1,true)⟩,⟨some 51,.pick (.tmp 48) (.tmp 50) (.const (.bool false)),none⟩,mv 52 51,⟨some 53,.load T0 (.tmp 6),some (5,true)⟩,⟨some 54,.load T0 (.tmp 11),some (5,true)⟩,⟨some 55,.call ⟨.value (.func F5),#[(.tmp 53),(.tmp 54)],#[]⟩,some (5,true)⟩,⟨some 56,.pick (.tmp 52) (.tmp 55) (.const (.bool false)),none⟩,asg 4 56]) (.ret))))))))))
section
variable {P:Program} {f:FuncId} {fn:Func}
theorem ops_var2 {all r:List SOp} {a:Act} {w:World} {K:Act→World→Prop} {T s d:Nat} {v1 v2:Value} (hA:aggB P T 2=true) (hz:∃ i z,P.info? T=some i∧i.zero=some z∧z.cells.size=2) (hs:getT a s=.agg #[v1,v2]) (o1:v1.oneCell'=true) (o2:v2.oneCell'=true) (hd:d < a.tmps.size) (hds:s ≠ d)
    (h:∀ w',Below w.heap.size w w'→w'.heap.size=w.heap.size+1→w'.heap[w.heap.size]?=some (.cells #[v1,v2] T (0,0))→opsw P all r K (a.put (some d) (.pointer (some ⟨w.heap.size,0,none⟩))) w') :
    opsw P all (⟨some d,.alloc T,none⟩ :: ⟨none,.store T (.tmp d) (.tmp s),none⟩ :: r) K a w:=by
  obtain ⟨it,z,hi0,hz0,hzs⟩:=hz
  refine oNo rfl (opw_alloc hi0 hz0 ?_)
  have hb1:Below w.heap.size w (w.alloc (.cells z.cells T)):=(Below.refl _ _).alloc (Nat.le_refl _) _
  have hrow:=heap_alloc_new w (.cells z.cells T)
  have hsz:(w.alloc (.cells z.cells T)).heap.size=w.heap.size+1:=by simp
  generalize w.alloc (.cells z.cells T)=w1 at *
  refine oNo rfl (opw_store_agg (b:=w.heap.size) (cs:=[v1,v2]) (cur:=z.cells) hA (by rw [eTm,gTp hd]) (by rw [eTm,gTn hds];exact hs) hrow hzs (by intro v hv;simp at hv;rcases hv with rfl | rfl <;> assumption) ?_)
  rw [pNo]
  exact h _ (below_setRow hb1 (Nat.le_refl _) _) (by rw [← hsz];simp [World.setRow]) (setRow_heap w1 w.heap.size _ [v1,v2].toArray _ _ hrow)
theorem lawSt_ok {T0 T1 T2 T3 T4 T5 F0 F1 F2 F3 F4 F5 gb tU8:Nat} {Gl:World→Prop} (hA:aggB P T0 2=true) (h0o:oneB P T0=false) (h0a:aggN P T0=some 2) (hz:∃ i z,P.info? T0=some i∧i.zero=some z∧z.cells.size=2) (hf1:fieldOff P T0 1=some 1) (h2:oneB P T2=true) (hs3:sliceN P T3=some 1) (i4:intK P T4=some .u16) (i5:intK P T5=some .i64)
    (c0:Fits14C P F0) (c1:SmallLC P F1) (c2:StBC P tU8 F2) (c3:TellStC P gb Gl F3) (c4:ReadStC P F4) (c5:SameStC P F5)
    (hf:P.funcs[f]?=some fn) (hb:fn.body.map strip=some (sc_LawSt T0 T1 T2 T3 T4 T5 F0 F1 F2 F3 F4 F5)) (hn:fn.ntmps=57) (hr:fn.results=#[.tmp 4]) (w:World) (l:List Ownd) (g:Int) (v:Value) (at':Nat) (hrg:RngL l g) (hv:StV w (· < w.heap.size) l g v) (hgb:gb < w.heap.size) (hgl:∀ w',Below w.heap.size w w'→Gl w') (hat:at' < 65536) :
    Calls P f #[v,.int .u16 (at':Int)] w fun e w'=>e=.returned (.bool true)∧Below w.heap.size w w':=by
  have hv0:=hv
  obtain ⟨base,cap,rfl,hl⟩:=hv
  refine fCa hf hb hn (by simp) fun a0 hs hd ha=>?_
  have u0:=ha 0 _ rfl
  have u1:=ha 1 _ rfl
  simp only [List.getElem_toArray,List.getElem_cons_zero,List.getElem_cons_succ] at u0 u1
  refine SC.wp_seq (SC.wp_reg (ops_box (B:=w.heap.size) (w0:=w) (cs:=#[.slice base l.length cap,.int .i32 g]) (by rw [eTm,u0]) (Nat.le_refl _) (Below.refl _ _) fun w1 q1 q2 q3 hc q5=>?_))
  repeat (first | (apply ops_1;(focus (simp (disch:=(try simp only [sPu]);omega) ;try rfl))) | (apply ops_y;(focus rfl);(focus ((try simp only [sPu]);omega));(focus (simp (disch:=(try simp only [sPu]);omega);done));(focus (simp (disch:=(try simp only [sPu]);omega) ;try rfl))) | (apply ops_n;(focus rfl);(focus ((try simp only [sPu]);omega));(focus (first | (left;simp (disch:=(try simp only [sPu]);omega);done) | (right;simp (disch:=(try simp only [sPu]);omega);done)))))
  refine oNi (SC.wp_seq (SC.wp_seq (SC.wp_reg ?_)))
  have hrg0:∀ {w':World} {g':Int},w'.heap[w.heap.size]?=some (.cells #[.slice base l.length cap,.int .i32 g'] T0 (0,0))→rangeV w' w.heap.size 0 2=some [.slice base l.length cap,.int .i32 g']:=fun h=>by simp [rangeV,cell_of_row _ _ _ _ _ _ h]
  have hv1:StV w1 (· < w1.heap.size) l g (.agg #[.slice base l.length cap,.int .i32 g]):=hv0.down q2
  have r1:=hrg0 q5
  iterate 1 (first | (apply ops_1;(focus (simp (disch:=(try simp only [sPu]);omega) [h0o,h0a,r1];try rfl))) | (apply ops_y;(focus rfl);(focus ((try simp only [sPu]);omega));(focus (simp (disch:=(try simp only [sPu]);omega) [h0o,h0a,r1];done));(focus (simp (disch:=(try simp only [sPu]);omega) [h0o,h0a,r1];try rfl))) | (apply ops_n;(focus rfl);(focus ((try simp only [sPu]);omega));(focus (first | (left;simp (disch:=(try simp only [sPu]);omega) [h0o,h0a,r1];done) | (right;simp (disch:=(try simp only [sPu]);omega);done)))))
  refine ops_call c0.1 (c0.2 w1 l g _ hv1) (by simp (disch:=(try simp only [sPu]);omega)) ?_
  rintro e w2 ⟨⟨bo,rfl,hbp⟩,hb2⟩
  refine ⟨_,rfl,?_⟩
  have hs2:=hb2.size
  have hb2':Below w.heap.size w w2:=q2.trans (hb2.mono (by omega))
  repeat (first | (apply ops_1;(focus (simp (disch:=(try simp only [sPu]);omega) ;try rfl))) | (apply ops_y;(focus rfl);(focus ((try simp only [sPu]);omega));(focus (simp (disch:=(try simp only [sPu]);omega);done));(focus (simp (disch:=(try simp only [sPu]);omega) ;try rfl))) | (apply ops_n;(focus rfl);(focus ((try simp only [sPu]);omega));(focus (first | (left;simp (disch:=(try simp only [sPu]);omega);done) | (right;simp (disch:=(try simp only [sPu]);omega);done)))))
  refine oNi (SC.wp_cond (t:=!bo) (by simp (disch:=(try simp only [sPu]);omega)) ?_)
  cases bo with
  | false =>
    rw [if_pos (by rfl)]
    refine SC.wp_seq (SC.wp_reg ?_)
    repeat (first | (apply ops_1;(focus (simp (disch:=(try simp only [sPu]);omega) ;try rfl))) | (apply ops_y;(focus rfl);(focus ((try simp only [sPu]);omega));(focus (simp (disch:=(try simp only [sPu]);omega);done));(focus (simp (disch:=(try simp only [sPu]);omega) ;try rfl))) | (apply ops_n;(focus rfl);(focus ((try simp only [sPu]);omega));(focus (first | (left;simp (disch:=(try simp only [sPu]);omega);done) | (right;simp (disch:=(try simp only [sPu]);omega);done)))))
    refine oNi (SC.wp_ret ?_)
    try simp only [Exit.then]
    exact ret_tmp hr (by simp [dPu,hd]) ⟨by simp (disch:=(try simp only [sPu]);omega),hb2'⟩
  | true =>
  rw [if_neg (by simp)]
  refine SC.wp_skip ?_
  simp only [Exit.then]
  have hfit:=hbp rfl
  have p2:w2.heap[w.heap.size]?=some (.cells #[.slice base l.length cap,.int .i32 g] T0 (0,0)):=by rw [hb2.block _ (by omega)];exact q5
  have hv2:StV w2 (· < w2.heap.size) l g (.agg #[.slice base l.length cap,.int .i32 g]):=hv0.down hb2'
  have r2:=hrg0 p2
  refine SC.wp_seq (SC.wp_seq (SC.wp_reg ?_))
  iterate 1 (first | (apply ops_1;(focus (simp (disch:=(try simp only [sPu]);omega) [h0o,h0a,r2];try rfl))) | (apply ops_y;(focus rfl);(focus ((try simp only [sPu]);omega));(focus (simp (disch:=(try simp only [sPu]);omega) [h0o,h0a,r2];done));(focus (simp (disch:=(try simp only [sPu]);omega) [h0o,h0a,r2];try rfl))) | (apply ops_n;(focus rfl);(focus ((try simp only [sPu]);omega));(focus (first | (left;simp (disch:=(try simp only [sPu]);omega) [h0o,h0a,r2];done) | (right;simp (disch:=(try simp only [sPu]);omega);done)))))
  refine ops_call c1.1 (c1.2 w2 l g _ hfit hv2) (by simp (disch:=(try simp only [sPu]);omega)) ?_
  rintro e w3 ⟨⟨bo,rfl,hbp2⟩,hb3⟩
  refine ⟨_,rfl,?_⟩
  have hs3':=hb3.size
  have hb3':Below w.heap.size w w3:=hb2'.trans (hb3.mono (by omega))
  repeat (first | (apply ops_1;(focus (simp (disch:=(try simp only [sPu]);omega) ;try rfl))) | (apply ops_y;(focus rfl);(focus ((try simp only [sPu]);omega));(focus (simp (disch:=(try simp only [sPu]);omega);done));(focus (simp (disch:=(try simp only [sPu]);omega) ;try rfl))) | (apply ops_n;(focus rfl);(focus ((try simp only [sPu]);omega));(focus (first | (left;simp (disch:=(try simp only [sPu]);omega);done) | (right;simp (disch:=(try simp only [sPu]);omega);done)))))
  refine oNi (SC.wp_cond (t:=!bo) (by simp (disch:=(try simp only [sPu]);omega)) ?_)
  cases bo with
  | false =>
    rw [if_pos (by rfl)]
    refine SC.wp_seq (SC.wp_reg ?_)
    repeat (first | (apply ops_1;(focus (simp (disch:=(try simp only [sPu]);omega) ;try rfl))) | (apply ops_y;(focus rfl);(focus ((try simp only [sPu]);omega));(focus (simp (disch:=(try simp only [sPu]);omega);done));(focus (simp (disch:=(try simp only [sPu]);omega) ;try rfl))) | (apply ops_n;(focus rfl);(focus ((try simp only [sPu]);omega));(focus (first | (left;simp (disch:=(try simp only [sPu]);omega);done) | (right;simp (disch:=(try simp only [sPu]);omega);done)))))
    refine oNi (SC.wp_ret ?_)
    try simp only [Exit.then]
    exact ret_tmp hr (by simp [dPu,hd]) ⟨by simp (disch:=(try simp only [sPu]);omega),hb3'⟩
  | true =>
  rw [if_neg (by simp)]
  refine SC.wp_skip ?_
  simp only [Exit.then]
  have hsm:=hbp2 rfl
  have p3:w3.heap[w.heap.size]?=some (.cells #[.slice base l.length cap,.int .i32 g] T0 (0,0)):=by rw [hb3.block _ (by omega)];exact p2
  have hv3:StV w3 (· < w3.heap.size) l g (.agg #[.slice base l.length cap,.int .i32 g]):=hv0.down hb3'
  have r3:=hrg0 p3
  have hwl:=wSt_len g hsm
  refine SC.wp_seq (SC.wp_reg ?_)
  iterate 1 (first | (apply ops_1;(focus (simp (disch:=(try simp only [sPu]);omega) [h0o,h0a,r3];try rfl))) | (apply ops_y;(focus rfl);(focus ((try simp only [sPu]);omega));(focus (simp (disch:=(try simp only [sPu]);omega) [h0o,h0a,r3];done));(focus (simp (disch:=(try simp only [sPu]);omega) [h0o,h0a,r3];try rfl))) | (apply ops_n;(focus rfl);(focus ((try simp only [sPu]);omega));(focus (first | (left;simp (disch:=(try simp only [sPu]);omega) [h0o,h0a,r3];done) | (right;simp (disch:=(try simp only [sPu]);omega);done)))))
  refine ops_call c2.1 (c2.2 w3 l g _ hsm hrg hv3) (by simp (disch:=(try simp only [sPu]);omega)) ?_
  rintro e w4 ⟨dv,rfl,ho4,hb4⟩
  refine ⟨_,rfl,?_⟩
  obtain ⟨S,bb,bc,rfl,hbc,hsr4,hS4⟩:=own_src2 ho4
  have hs4:=hb4.size
  have hb4':Below w.heap.size w w4:=hb3'.trans (hb4.mono (by omega))
  have p4:w4.heap[w.heap.size]?=some (.cells #[.slice base l.length cap,.int .i32 g] T0 (0,0)):=by rw [hb4.block _ (by omega)];exact p3
  obtain ⟨bs,hbs⟩:∃ bs,bs=wSt l g:=⟨_,rfl⟩
  rw [← hbs] at hbc hsr4 hwl ⊢
  repeat (first | (apply ops_1;(focus (simp (disch:=(try simp only [sPu]);omega) ;try rfl))) | (apply ops_y;(focus rfl);(focus ((try simp only [sPu]);omega));(focus (simp (disch:=(try simp only [sPu]);omega);done));(focus (simp (disch:=(try simp only [sPu]);omega) ;try rfl))) | (apply ops_n;(focus rfl);(focus ((try simp only [sPu]);omega));(focus (first | (left;simp (disch:=(try simp only [sPu]);omega);done) | (right;simp (disch:=(try simp only [sPu]);omega);done)))))
  refine oNi ?_
  simp only [Exit.then]
  have hps:pSt bs=some ((l,g),[]):=by rw [hbs];exact pSt_of hsm hrg
  refine SC.wp_seq (SC.wp_reg ?_)
  iterate 1 (first | (apply ops_1;(focus (simp (disch:=(try simp only [sPu]);omega) ;try rfl))) | (apply ops_y;(focus rfl);(focus ((try simp only [sPu]);omega));(focus (simp (disch:=(try simp only [sPu]);omega);done));(focus (simp (disch:=(try simp only [sPu]);omega) ;try rfl))) | (apply ops_n;(focus rfl);(focus ((try simp only [sPu]);omega));(focus (first | (left;simp (disch:=(try simp only [sPu]);omega);done) | (right;simp (disch:=(try simp only [sPu]);omega);done)))))
  refine ops_call c3.1 (c3.2 w4 S bb bs bc (by omega) (fun w' h=>hgl w' (hb4'.trans (h.mono (by omega)))) hsr4 (fun sb h=>(hS4 sb h).2) hwl) (by simp (disch:=(try simp only [sPu]);omega)) ?_
  rintro e w5 ⟨hb5,x0,x1,ox0,ox1,rfl,hst5⟩
  refine ⟨_,rfl,?_⟩
  have hok:(after (some bs) pSt).isSome=true:=by rw [after_ok hps];rfl
  rw [hok]
  have hst5':=hst5 l g [] hps
  have hs5:=hb5.size
  have hb5':Below w.heap.size w w5:=hb4'.trans (hb5.mono (by omega))
  have p5:w5.heap[w.heap.size]?=some (.cells #[.slice base l.length cap,.int .i32 g] T0 (0,0)):=by rw [hb5.block _ (by omega)];exact p4
  iterate 1 (first | (apply ops_1;(focus (simp (disch:=(try simp only [sPu]);omega) ;try rfl))) | (apply ops_y;(focus rfl);(focus ((try simp only [sPu]);omega));(focus (simp (disch:=(try simp only [sPu]);omega);done));(focus (simp (disch:=(try simp only [sPu]);omega) ;try rfl))) | (apply ops_n;(focus rfl);(focus ((try simp only [sPu]);omega));(focus (first | (left;simp (disch:=(try simp only [sPu]);omega);done) | (right;simp (disch:=(try simp only [sPu]);omega);done)))))
  refine oNo rfl (opw_extract (v:=.agg #[x0,x1]) (vs:=#[.agg #[x0,x1],.bool true]) (by simp (disch:=(try simp only [sPu]);omega)) rfl ?_)
  refine oNo rfl (opw_extract (v:=.bool true) (vs:=#[.agg #[x0,x1],.bool true]) (by simp (disch:=(try simp only [sPu]);omega)) rfl ?_)
  refine ops_var2 (v1:=x0) (v2:=x1) hA hz (by simp (disch:=(try simp only [sPu]);omega)) ox0 ox1 (by (try simp only [sPu]);omega) (by decide) fun w6 hb6 hs6 p66=>?_
  repeat (first | (apply ops_1;(focus (simp (disch:=(try simp only [sPu]);omega) ;try rfl))) | (apply ops_y;(focus rfl);(focus ((try simp only [sPu]);omega));(focus (simp (disch:=(try simp only [sPu]);omega);done));(focus (simp (disch:=(try simp only [sPu]);omega) ;try rfl))) | (apply ops_n;(focus rfl);(focus ((try simp only [sPu]);omega));(focus (first | (left;simp (disch:=(try simp only [sPu]);omega);done) | (right;simp (disch:=(try simp only [sPu]);omega);done)))))
  refine oNi ?_
  simp only [Exit.then]
  have hb6':Below w.heap.size w w6:=hb5'.trans (hb6.mono (by omega))
  have p6:w6.heap[w.heap.size]?=some (.cells #[.slice base l.length cap,.int .i32 g] T0 (0,0)):=by rw [hb6.block _ (by omega)];exact p5
  refine SC.wp_seq (SC.wp_reg ?_)
  iterate 1 (first | (apply ops_1;(focus (simp (disch:=(try simp only [sPu]);omega) [hf1];try rfl))) | (apply ops_y;(focus rfl);(focus ((try simp only [sPu]);omega));(focus (simp (disch:=(try simp only [sPu]);omega) [hf1];done));(focus (simp (disch:=(try simp only [sPu]);omega) [hf1];try rfl))) | (apply ops_n;(focus rfl);(focus ((try simp only [sPu]);omega));(focus (first | (left;simp (disch:=(try simp only [sPu]);omega) [hf1];done) | (right;simp (disch:=(try simp only [sPu]);omega);done)))))
  refine oNo rfl (opw_store_one (ad:=⟨w.heap.size,1,none⟩) (v:=.int .i32 (-1)) (v0:=.int .i32 g) h2 (by simp (disch:=(try simp only [sPu]);omega)) (by simp (disch:=(try simp only [sPu]);omega)) rfl (by rw [cell_of_row _ _ _ _ _ _ p6];rfl) (by simp [World.frozen?,p6]) (oNi ?_))
  rw [pNo,setCell_eq_setRow _ _ _ _ _ _ _ p6]
  simp only [Exit.then]
  have p7:(w6.setRow w.heap.size (#[.slice base l.length cap,.int .i32 g].setIfInBounds 1 (.int .i32 (-1)))).heap[w.heap.size]?=some (.cells #[.slice base l.length cap,.int .i32 (-1)] T0 (0,0)):=setRow_heap w6 w.heap.size _ (#[.slice base l.length cap,.int .i32 g].setIfInBounds 1 (.int .i32 (-1))) _ _ p6
  have hb7':Below w.heap.size w (w6.setRow w.heap.size (#[.slice base l.length cap,.int .i32 g].setIfInBounds 1 (.int .i32 (-1)))):=below_setRow hb6' (Nat.le_refl _) _
  have hk7:∀ k,k ≠ w.heap.size→(w6.setRow w.heap.size (#[.slice base l.length cap,.int .i32 g].setIfInBounds 1 (.int .i32 (-1)))).heap[k]?=w6.heap[k]?:=fun k hk=>setRow_other _ _ _ _ hk
  have hs7:(w6.setRow w.heap.size (#[.slice base l.length cap,.int .i32 g].setIfInBounds 1 (.int .i32 (-1)))).heap.size=w6.heap.size:=by simp
  generalize w6.setRow w.heap.size (#[.slice base l.length cap,.int .i32 g].setIfInBounds 1 (.int .i32 (-1)))=w7 at *
  have hv7:StV w7 (· < w7.heap.size) l (-1) (.agg #[.slice base l.length cap,.int .i32 (-1)]):=by
    obtain ⟨b',c',e',hl'⟩:=hv0
    simp only [Value.agg.injEq,Array.mk.injEq,List.cons.injEq,Value.slice.injEq,and_true,true_and] at e'
    exact ⟨base,cap,rfl,hl.mono (fun k hk=>by have:=hb7'.size;show k < w7.heap.size;omega) (fun k hk=>hb7'.block k hk)⟩
  have hrgm:RngL l (-1):=⟨hrg.1,by decide,by decide⟩
  have r7:=hrg0 p7
  refine SC.wp_seq (SC.wp_reg ?_)
  iterate 1 (first | (apply ops_1;(focus (simp (disch:=(try simp only [sPu]);omega) [h0o,h0a,r7];try rfl))) | (apply ops_y;(focus rfl);(focus ((try simp only [sPu]);omega));(focus (simp (disch:=(try simp only [sPu]);omega) [h0o,h0a,r7];done));(focus (simp (disch:=(try simp only [sPu]);omega) [h0o,h0a,r7];try rfl))) | (apply ops_n;(focus rfl);(focus ((try simp only [sPu]);omega));(focus (first | (left;simp (disch:=(try simp only [sPu]);omega) [h0o,h0a,r7];done) | (right;simp (disch:=(try simp only [sPu]);omega);done)))))
  refine ops_call c2.1 (c2.2 w7 l (-1) _ hsm hrgm hv7) (by simp (disch:=(try simp only [sPu]);omega)) ?_
  rintro e w8 ⟨dv8,rfl,ho8,hb8⟩
  refine ⟨_,rfl,?_⟩
  have hs8:=hb8.size
  have hb8':Below w.heap.size w w8:=hb7'.trans (hb8.mono (by omega))
  obtain ⟨S8,bb8,bc8,rfl,_,_,_⟩:=own_src2 ho8
  have hw8:(wSt l (-1)).length=(wStL l).length:=by unfold wSt;rw [if_pos rfl,List.append_nil]
  rw [hw8]
  repeat (first | (apply ops_1;(focus (simp (disch:=(try simp only [sPu]);omega) [hs3];try rfl))) | (apply ops_y;(focus rfl);(focus ((try simp only [sPu]);omega));(focus (simp (disch:=(try simp only [sPu]);omega) [hs3];done));(focus (simp (disch:=(try simp only [sPu]);omega) [hs3];try rfl))) | (apply ops_n;(focus rfl);(focus ((try simp only [sPu]);omega));(focus (first | (left;simp (disch:=(try simp only [sPu]);omega) [hs3];done) | (right;simp (disch:=(try simp only [sPu]);omega);done)))))
  refine oNi ?_
  simp only [Exit.then]
  have hpos:0 < (wStL l).length:=by unfold wStL;rw [List.length_append,fixed_length];omega
  have hle:(wStL l).length≤bs.length:=by rw [hbs];unfold wSt;rw [List.length_append];omega
  obtain ⟨q,hq⟩:∃ q,q=at' % (wStL l).length:=⟨_,rfl⟩
  have hql:q < (wStL l).length:=by rw [hq];exact Nat.mod_lt _ hpos
  have eat:IntKind.i64.wrap (at':Int)=(at':Int):=by rw [wrap_i64'];split <;> omega
  have eqc:(0:Int)≤(q:Int)∧(q:Int)≤(bc:Int):=by omega
  have hkS:∀ sb,S=some sb→w8.heap[sb]?=w4.heap[sb]?:=fun sb h=>by
    have:=hS4 sb h
    rw [hb8.block sb (by omega),hk7 sb (by omega),hb6.block sb (by omega),hb5.block sb (by omega)]
  have hsr8:SrcAt w8 S bb bs:=hsr4.frame hkS
  have ltk:(bs.take q).length=q:=by rw [List.length_take];omega
  have htk:=c3.2 w8 S bb (bs.take q) bc (by omega) (fun w' h=>hgl w' (hb8'.trans (h.mono (by omega)))) (SrcAt.take hsr8) (fun sb h=>by have:=(hS4 sb h).2;omega) (by omega)
  rw [ltk] at htk
  refine SC.wp_seq (SC.wp_reg ?_)
  iterate 4 (first | (apply ops_1;(focus (simp (disch:=(try simp only [sPu]);omega) [i4,i5,u1,eat];try rfl))) | (apply ops_y;(focus rfl);(focus ((try simp only [sPu]);omega));(focus (simp (disch:=(try simp only [sPu]);omega) [i4,i5,u1,eat];done));(focus (simp (disch:=(try simp only [sPu]);omega) [i4,i5,u1,eat];try rfl))) | (apply ops_n;(focus rfl);(focus ((try simp only [sPu]);omega));(focus (first | (left;simp (disch:=(try simp only [sPu]);omega) [i4,i5,u1,eat];done) | (right;simp (disch:=(try simp only [sPu]);omega);done)))))
  refine oNo rfl (opw_rem (m:=at') (n:=(wStL l).length) (by simp (disch:=(try simp only [sPu]);omega)) (by simp (disch:=(try simp only [sPu]);omega)) hpos ?_)
  rw [← hq]
  iterate 1 (first | (apply ops_1;(focus (simp (disch:=(try simp only [sPu]);omega) [hs3,eqc];try rfl))) | (apply ops_y;(focus rfl);(focus ((try simp only [sPu]);omega));(focus (simp (disch:=(try simp only [sPu]);omega) [hs3,eqc];done));(focus (simp (disch:=(try simp only [sPu]);omega) [hs3,eqc];try rfl))) | (apply ops_n;(focus rfl);(focus ((try simp only [sPu]);omega));(focus (first | (left;simp (disch:=(try simp only [sPu]);omega) [hs3,eqc];done) | (right;simp (disch:=(try simp only [sPu]);omega);done)))))
  refine ops_call c3.1 htk (by simp (disch:=(try simp only [sPu]);omega)) ?_
  rintro e w9 ⟨hb9,y0,y1,oy0,oy1,rfl,_⟩
  refine ⟨_,rfl,?_⟩
  have hno:(after (some (bs.take q)) pSt).isSome=false:=by rw [hbs,after_no (pSt_cut hsm hrg hql)];rfl
  rw [hno]
  have hs9:=hb9.size
  iterate 1 (first | (apply ops_1;(focus (simp (disch:=(try simp only [sPu]);omega) ;try rfl))) | (apply ops_y;(focus rfl);(focus ((try simp only [sPu]);omega));(focus (simp (disch:=(try simp only [sPu]);omega);done));(focus (simp (disch:=(try simp only [sPu]);omega) ;try rfl))) | (apply ops_n;(focus rfl);(focus ((try simp only [sPu]);omega));(focus (first | (left;simp (disch:=(try simp only [sPu]);omega);done) | (right;simp (disch:=(try simp only [sPu]);omega);done)))))
  refine oNo rfl (opw_extract (v:=.agg #[y0,y1]) (vs:=#[.agg #[y0,y1],.bool false]) (by simp (disch:=(try simp only [sPu]);omega)) rfl ?_)
  refine oNo rfl (opw_extract (v:=.bool false) (vs:=#[.agg #[y0,y1],.bool false]) (by simp (disch:=(try simp only [sPu]);omega)) rfl ?_)
  refine ops_var2 (v1:=y0) (v2:=y1) hA hz (by simp (disch:=(try simp only [sPu]);omega)) oy0 oy1 (by (try simp only [sPu]);omega) (by decide) fun wA hbA hsA pAA=>?_
  repeat (first | (apply ops_1;(focus (simp (disch:=(try simp only [sPu]);omega) ;try rfl))) | (apply ops_y;(focus rfl);(focus ((try simp only [sPu]);omega));(focus (simp (disch:=(try simp only [sPu]);omega);done));(focus (simp (disch:=(try simp only [sPu]);omega) ;try rfl))) | (apply ops_n;(focus rfl);(focus ((try simp only [sPu]);omega));(focus (first | (left;simp (disch:=(try simp only [sPu]);omega);done) | (right;simp (disch:=(try simp only [sPu]);omega);done)))))
  refine oNi ?_
  simp only [Exit.then]
  have hkA:∀ k,k < w8.heap.size→wA.heap[k]?=w8.heap[k]?:=fun k hk=>by rw [hbA.block k (by omega),hb9.block k hk]
  have hsrA:SrcAt wA S bb bs:=hsr8.frame fun sb h=>hkA sb (by have:=(hS4 sb h).2;omega)
  have hbA':Below w.heap.size w wA:=(hb8'.trans (hb9.mono (by omega))).trans (hbA.mono (by omega))
  have hc4:=c4.2 wA S bb bc l g hsm hrg (by rw [← hbs];exact hsrA) (fun sb h=>by have:=(hS4 sb h).2;omega) (by rw [← hbs];exact hbc)
  rw [← hbs] at hc4
  refine SC.wp_seq (SC.wp_reg ?_)
  iterate 1 (first | (apply ops_1;(focus (simp (disch:=(try simp only [sPu]);omega) ;try rfl))) | (apply ops_y;(focus rfl);(focus ((try simp only [sPu]);omega));(focus (simp (disch:=(try simp only [sPu]);omega);done));(focus (simp (disch:=(try simp only [sPu]);omega) ;try rfl))) | (apply ops_n;(focus rfl);(focus ((try simp only [sPu]);omega));(focus (first | (left;simp (disch:=(try simp only [sPu]);omega);done) | (right;simp (disch:=(try simp only [sPu]);omega);done)))))
  refine ops_call c4.1 hc4 (by simp (disch:=(try simp only [sPu]);omega)) ?_
  rintro e wB ⟨hbB,z0,z1,n1,n2,oz0,oz1,rfl,hstB⟩
  refine ⟨_,rfl,?_⟩
  have hsB:=hbB.size
  iterate 1 (first | (apply ops_1;(focus (simp (disch:=(try simp only [sPu]);omega) ;try rfl))) | (apply ops_y;(focus rfl);(focus ((try simp only [sPu]);omega));(focus (simp (disch:=(try simp only [sPu]);omega);done));(focus (simp (disch:=(try simp only [sPu]);omega) ;try rfl))) | (apply ops_n;(focus rfl);(focus ((try simp only [sPu]);omega));(focus (first | (left;simp (disch:=(try simp only [sPu]);omega);done) | (right;simp (disch:=(try simp only [sPu]);omega);done)))))
  refine oNo rfl (opw_extract (v:=.agg #[z0,z1]) (vs:=#[.agg #[z0,z1],n1,n2]) (by simp (disch:=(try simp only [sPu]);omega)) rfl ?_)
  refine oNo rfl (opw_extract (v:=n1) (vs:=#[.agg #[z0,z1],n1,n2]) (by simp (disch:=(try simp only [sPu]);omega)) rfl ?_)
  refine oNo rfl (opw_extract (v:=n2) (vs:=#[.agg #[z0,z1],n1,n2]) (by simp (disch:=(try simp only [sPu]);omega)) rfl ?_)
  refine ops_var2 (v1:=z0) (v2:=z1) hA hz (by simp (disch:=(try simp only [sPu]);omega)) oz0 oz1 (by (try simp only [sPu]);omega) (by decide) fun wC hbC hsC pCC=>?_
  repeat (first | (apply ops_1;(focus (simp (disch:=(try simp only [sPu]);omega) ;try rfl))) | (apply ops_y;(focus rfl);(focus ((try simp only [sPu]);omega));(focus (simp (disch:=(try simp only [sPu]);omega);done));(focus (simp (disch:=(try simp only [sPu]);omega) ;try rfl))) | (apply ops_n;(focus rfl);(focus ((try simp only [sPu]);omega));(focus (first | (left;simp (disch:=(try simp only [sPu]);omega);done) | (right;simp (disch:=(try simp only [sPu]);omega);done)))))
  refine oNi ?_
  simp only [Exit.then]
  have hkC:∀ k,k < wA.heap.size→wC.heap[k]?=wA.heap[k]?:=fun k hk=>by rw [hbC.block k (by omega),hbB.block k hk]
  have hbC':Below w.heap.size w wC:=(hbA'.trans (hbB.mono (by omega))).trans (hbC.mono (by omega))
  have hb5k:∀ k,k < w5.heap.size→k ≠ w.heap.size→wC.heap[k]?=w5.heap[k]?:=fun k hk hn=>by
    rw [hkC k (by omega),hkA k (by omega),hb8.block k (by omega),hk7 k hn,hb6.block k hk]
  have p6C:wC.heap[w5.heap.size]?=some (.cells #[x0,x1] T0 (0,0)):=by
    rw [hkC _ (by omega),hkA _ (by omega),hb8.block _ (by omega),hk7 _ (by omega)]
    exact p66
  have rX:rangeV wC w5.heap.size 0 2=some [x0,x1]:=by simp [rangeV,cell_of_row _ _ _ _ _ _ p6C]
  have rZ:rangeV wC wB.heap.size 0 2=some [z0,z1]:=by simp [rangeV,cell_of_row _ _ _ _ _ _ pCC]
  have hstX:StV wC (· < wC.heap.size) l g (.agg #[x0,x1]):=hst5'.mono (fun k hk=>by have:=hk.2;omega) (fun k hk=>hb5k k hk.2 (by have:=hk.1;omega))
  have hstZ:StV wC (· < wC.heap.size) l g (.agg #[z0,z1]):=hstB.down hbC
  refine SC.wp_seq (SC.wp_reg ?_)
  iterate 8 (first | (apply ops_1;(focus (simp (disch:=(try simp only [sPu]);omega) [h0o,h0a,rX,rZ];try rfl))) | (apply ops_y;(focus rfl);(focus ((try simp only [sPu]);omega));(focus (simp (disch:=(try simp only [sPu]);omega) [h0o,h0a,rX,rZ];done));(focus (simp (disch:=(try simp only [sPu]);omega) [h0o,h0a,rX,rZ];try rfl))) | (apply ops_n;(focus rfl);(focus ((try simp only [sPu]);omega));(focus (first | (left;simp (disch:=(try simp only [sPu]);omega) [h0o,h0a,rX,rZ];done) | (right;simp (disch:=(try simp only [sPu]);omega);done)))))
  refine ops_callg (argsV:=#[.agg #[x0,x1],.agg #[z0,z1]]) rfl (by (try simp only [sPu]);omega) (by simp (disch:=(try simp only [sPu]);omega)) c5.1 (c5.2 wC l g _ _ hsm hrg hstX hstZ) (by simp (disch:=(try simp only [sPu]);omega)) ?_
  rintro e wD ⟨rfl,hbD⟩
  refine ⟨_,rfl,?_⟩
  repeat (first | (apply ops_1;(focus (simp (disch:=(try simp only [sPu]);omega) ;try rfl))) | (apply ops_y;(focus rfl);(focus ((try simp only [sPu]);omega));(focus (simp (disch:=(try simp only [sPu]);omega);done));(focus (simp (disch:=(try simp only [sPu]);omega) ;try rfl))) | (apply ops_n;(focus rfl);(focus ((try simp only [sPu]);omega));(focus (first | (left;simp (disch:=(try simp only [sPu]);omega);done) | (right;simp (disch:=(try simp only [sPu]);omega);done)))))
  refine oNi (SC.wp_ret ?_)
  try simp only [Exit.then]
  exact ret_tmp hr (by simp [dPu,hd]) ⟨by simp (disch:=(try simp only [sPu]);omega),hbC'.trans (hbD.mono (by have:=hbC'.size;omega))⟩
end
end Go.Proofs.YtoiipagmhmohdaaDoor.K
namespace Go.Proofs.YtoiipagmhmohdaaDoor.K
open Go Go.RowKit Go.Proofs.YtoiipagmhmohdaaDoor.T
open Go.ChangeShapes Go.WideShapes Go.Deep
set_option linter.unusedSimpArgs false
set_option linter.unusedVariables false
section
variable {H:Type} {enc:TypeId × Value→H} {P:Program} {w:World} {B:DataW H→Nat}
theorem open_parts {t e fuel:Nat} {cs:List Value} {x:DataW H × List MemPlace} (ht:P.underlying t=some (.slice e)) (he:P.underlying e=some (.int .i32)) (hc:P.cellsOf e=1) (h:DataW.trod enc P w 0 (fun _=>true) true fuel t cs=some x) (hB:BulkC B) :
    ∃ (base:Option Addr) (cap:Nat) (xs:List Int),cs=[.slice base xs.length cap]∧PartsAt w (· < w.heap.size) base xs∧∀ p ∈ xs,-2147483648≤p∧p < 2147483648:=by
  obtain ⟨base,cap,n,b,o,es,rfl,rfl,q1,q2,q3,q4⟩:=open_els ht hc (by decide) h hB
  obtain ⟨U,hU⟩:=choose_lt (α:=Int) (n:=es.length) (p:=fun i u=>w.cell? ⟨b,o+i,none⟩=some (.int .i32 u)∧-2147483648≤u∧u < 2147483648) (fun i hi=>by
    obtain ⟨cs',c1,c2,c3⟩:=q4 i es[i] (List.getElem?_eq_getElem hi)
    obtain ⟨m,rfl,_,hwf⟩:=DataW.trod_int he c3
    obtain ⟨_,hcell⟩:=rangeV_get _ _ _ c1
    have hc:=hcell 0 _ rfl
    rw [Nat.mul_one,Nat.add_zero] at hc
    refine ⟨m,hc,?_⟩
    have:-2147483648≤m∧m≤2147483647:=by simpa [Lit.wf,IntKind.min,IntKind.max,IntKind.signed,IntKind.bits] using hwf
    omega)
  refine ⟨base,cap,(List.range es.length).map U,by simp,?_,fun p hp=>?_⟩
  · by_cases hne:es=[]
    · subst hne;exact .inl rfl
    · obtain ⟨e1,e2⟩:=q3 hne
      refine .inr ⟨b,o,e1,e2,fun j u hu=>?_⟩
      rw [List.getElem?_map] at hu
      obtain ⟨j',hj',rfl⟩:=Option.map_eq_some_iff.1 hu
      obtain ⟨hj1,hj2⟩:=List.getElem?_eq_some_iff.1 hj'
      rw [List.getElem_range] at hj2
      subst hj2
      exact (hU j (by simpa using hj1)).1
  · obtain ⟨j,hj,rfl⟩:=List.mem_map.1 hp
    exact (hU j (List.mem_range.1 hj)).2
theorem open_ownd {T T9 T36 T21 fuel:Nat} {cs:List Value} {x:DataW H × List MemPlace} (ht:twoF P T T9 T36=true) (k:P.cellsOf T=2) (k9:P.cellsOf T9=1) (k36:P.cellsOf T36=1) (u9:P.underlying T9=some .string) (u36:P.underlying T36=some (.slice T21)) (u21:P.underlying T21=some (.int .i32)) (k21:P.cellsOf T21=1) (h:DataW.trod enc P w 0 (fun _=>true) true fuel T cs=some x) (hB:BulkC B) :
    ∃ (y:Ownd) (v1 v2:Value),cs=[v1,v2]∧OwndV w (· < w.heap.size) y v1 v2∧∀ p ∈ y.2,-2147483648≤p∧p < 2147483648:=by
  obtain ⟨n,x0,x1,hl,a0,a1⟩:=open_two (k0:=1) (k1:=1) ht k k9 k36 rfl h
  match cs,hl with
  | [v0,v1],_ =>
    simp only [List.take_succ_cons,List.take_zero,List.drop_succ_cons,List.drop_zero] at a0 a1
    obtain ⟨s,e0,_,_⟩:=DataW.trod_string u9 a0
    obtain ⟨base,cap,xs,e1,hp,hr⟩:=open_parts u36 u21 k21 a1 hB
    simp only [List.cons.injEq,and_true] at e0 e1
    subst e0;subst e1
    obtain ⟨⟨t⟩⟩:=s
    exact ⟨(t,xs),_,_,rfl,⟨rfl,base,cap,rfl,hp⟩,hr⟩
theorem open_st {T0 T22 T21 T38 T9 T36 fuel:Nat} {cs:List Value} {x:DataW H × List MemPlace} (hB:BulkC B) (h0:twoF P T0 T22 T21=true) (k0:P.cellsOf T0=2) (k22:P.cellsOf T22=1) (u22:P.underlying T22=some (.slice T38)) (k38:P.cellsOf T38=2) (ht:twoF P T38 T9 T36=true) (k9:P.cellsOf T9=1) (k36:P.cellsOf T36=1) (u9:P.underlying T9=some .string) (u36:P.underlying T36=some (.slice T21)) (u21:P.underlying T21=some (.int .i32)) (k21:P.cellsOf T21=1) (h:DataW.trod enc P w 0 (fun _=>true) true fuel T0 cs=some x) :
    ∃ (l:List Ownd) (g:Int) (base:Option Addr) (cap:Nat),cs=[.slice base l.length cap,.int .i32 g]∧ListAt w (· < w.heap.size) base l∧RngL l g:=by
  obtain ⟨n,x0,x1,hl,a0,a1⟩:=open_two (k0:=1) (k1:=1) h0 k0 k22 k21 rfl h
  match cs,hl with
  | [v0,v1],_ =>
    simp only [List.take_succ_cons,List.take_zero,List.drop_succ_cons,List.drop_zero] at a0 a1
    obtain ⟨g,e1,_,hwf⟩:=DataW.trod_int u21 a1
    have hg:-2147483648≤g∧g≤2147483647:=by simpa [Lit.wf,IntKind.min,IntKind.max,IntKind.signed,IntKind.bits] using hwf
    obtain ⟨base,cap,m,b,o,es,rfl,e0,q1,q2,q3,q4⟩:=open_els u22 k38 (by decide) a0 hB
    simp only [List.cons.injEq,and_true] at e0 e1
    subst e0;subst e1
    obtain ⟨U,hU⟩:=choose_lt (α:=Ownd) (n:=es.length) (p:=fun i y=>(∃ v1 v2,w.cell? ⟨b,o+i * 2,none⟩=some v1∧w.cell? ⟨b,o+i * 2+1,none⟩=some v2∧OwndV w (· < w.heap.size) y v1 v2)∧∀ p ∈ y.2,-2147483648≤p∧p < 2147483648) (fun i hi=>by
      obtain ⟨cs',c1,c2,c3⟩:=q4 i es[i] (List.getElem?_eq_getElem hi)
      obtain ⟨y,v1,v2,rfl,hv,hr⟩:=open_ownd ht k38 k9 k36 u9 u36 u21 k21 c3 hB
      obtain ⟨_,hcell⟩:=rangeV_get _ _ _ c1
      exact ⟨y,⟨v1,v2,by simpa using hcell 0 _ rfl,hcell 1 _ rfl,hv⟩,hr⟩)
    refine ⟨(List.range es.length).map U,g,base,cap,by simp,?_,⟨fun x hx p hp=>?_,by omega,by omega⟩⟩
    · by_cases hne:es=[]
      · subst hne;exact .inl rfl
      · obtain ⟨e1,e2⟩:=q3 hne
        refine .inr ⟨b,o,e1,e2,fun j u hu=>?_⟩
        rw [List.getElem?_map] at hu
        obtain ⟨j',hj',rfl⟩:=Option.map_eq_some_iff.1 hu
        obtain ⟨hj1,hj2⟩:=List.getElem?_eq_some_iff.1 hj'
        rw [List.getElem_range] at hj2
        subst hj2
        exact (hU j (by simpa using hj1)).1
    · obtain ⟨j,hj,rfl⟩:=List.mem_map.1 hx
      exact (hU j (List.mem_range.1 hj)).2 p hp
end
def isStZ:List Value→Bool
  | [.slice none 0 0,.int .i32 0]=>true
  | _=>false
theorem zero_st {P:Program} {T:Nat} (h:zeroB P T isStZ=true):∃ i z,P.info? T=some i∧i.zero=some z∧z.cells=#[.slice none 0 0,.int .i32 0]:=by
  obtain ⟨i,z,h1,h2,h3⟩:=zeroB_of h
  refine ⟨i,z,h1,h2,?_⟩
  unfold isStZ at h3
  split at h3
  · rename_i e
    rw [← Array.toArray_toList (xs:=z.cells),e]
  · cases h3
def szB5 (P:Program) (T n:Nat) (ok:List Value→Bool):Bool:=match P.info? T with
  | some i=>decide (i.size=n) && decide (i.bytes≤1000) && (match i.zero with
    | some z=>decide (z.cells.size=n) && ok z.cells.toList
    | none=>false)
  | none=>false
theorem szB5_of {P:Program} {T n:Nat} {ok:List Value→Bool} (h:szB5 P T n ok=true):∃ i z,P.info? T=some i∧i.zero=some z∧i.size=n∧z.cells.size=n∧i.bytes≤1000∧ok z.cells.toList=true:=by
  unfold szB5 at h
  split at h
  · rename_i i hi
    simp only [Bool.and_eq_true,decide_eq_true_eq] at h
    obtain ⟨⟨h1,h2⟩,h3⟩:=h
    split at h3
    · rename_i z hz
      simp only [Bool.and_eq_true,decide_eq_true_eq] at h3
      exact ⟨i,z,hi,hz,h1,h3.1,h2,h3.2⟩
    · cases h3
  · cases h
theorem elT_of {P:Program} {T E n:Nat} (hu:P.underlying T=some (.slice E)) (h:szB5 P E n (fun _=>true)=true) (hn:0 < n):ElT P T E n:=by
  obtain ⟨i,z,h1,h2,h3,h4,h5,_⟩:=szB5_of h
  exact ⟨hu,⟨i,z,h1,h2,h3,h4,h5⟩,hn⟩
theorem z5_of {P:Program} {T:Nat} (h:szB5 P T 2 isHd=true):∃ i z,P.info? T=some i∧i.zero=some z∧0 < i.size∧i.bytes≤131072∧z.cells=#[.string ⟨#[]⟩,.slice none 0 0]:=by
  obtain ⟨i,z,h1,h2,h3,h4,h5,h6⟩:=szB5_of h
  refine ⟨i,z,h1,h2,by omega,by omega,?_⟩
  unfold isHd at h6
  split at h6
  · rename_i s e
    obtain ⟨⟨l⟩⟩:=s
    simp at h6
    subst h6
    rw [← Array.toArray_toList (xs:=z.cells),e]
  · cases h6
theorem z1_of {P:Program} {T:Nat} (h:szB5 P T 1 (fun _=>true)=true):∃ i z,P.info? T=some i∧i.zero=some z∧0 < i.size∧i.bytes≤131072∧z.cells.size=1:=by
  obtain ⟨i,z,h1,h2,h3,h4,h5,_⟩:=szB5_of h
  exact ⟨i,z,h1,h2,by omega,by omega,h4⟩
end Go.Proofs.YtoiipagmhmohdaaDoor.K
namespace Go.Proofs.YtoiipagmhmohdaaDoor.K
open Go Go.RowKit Go.Proofs.YtoiipagmhmohdaaDoor.T
attribute [local simp] eTm eCo pNo gTp gTn qv qcall vop iop
set_option linter.unusedSimpArgs false
set_option linter.unusedVariables false
set_option maxHeartbeats 1000000
section
variable {P:Program} {f:FuncId} {fn:Func}
theorem sFix2_ok {TI T64 TU TB:Nat} (k1:intK P TI=some .i64) (k2:intK P T64=some .i64) (k3:intK P TU=some .u8) (o1:oneB P TI=true) (o2:oneB P T64=true) (o3:oneB P TU=true) (o4:oneB P TB=true) (sB:sliceN P TB=some 1) (hU8s:u8sB P TB TU=true) (hf:P.funcs[f]?=some fn) (hb:fn.body.map strip=some (sc_Fixed TI T64 TU TB)) (hn:fn.ntmps=22) (hr:fn.results=#[.tmp 4])
    (w:World) (n:Int) (size:Nat) (hs8:size≤8):Calls P f #[.int .i64 n,.int .i64 (size:Int)] w (RetOwn TU w (fixed n size)):=by
  have hst:=And.intro k1 (And.intro k2 (And.intro k3 (And.intro o1 (And.intro o2 (And.intro o3 (And.intro o4 sB))))))
  refine fCa hf hb hn (by simp) fun a0 hs hd ha=>?_
  have h0:=ha 0 _ rfl
  have h1:=ha 1 _ rfl
  simp only [List.getElem_toArray,List.getElem_cons_zero,List.getElem_cons_succ] at h0 h1
  have hlim:lim=70368744177664:=rfl
  have ew:IntKind.i64.wrap ((size:Int) - 1)=(size:Int) - 1:=by rw [wrap_i64'];split <;> omega
  refine SC.wp_seq (SC.wp_reg ?_)
  repeat (apply ops_1;(focus (simp (disch:=(try simp only [sPu]);omega) ;try rfl)))
  refine oNi (SC.wp_seq (SC.wp_reg ?_))
  repeat (apply ops_1;(focus (simp (disch:=(try simp only [sPu]);omega) ;try rfl)))
  refine oNi (SC.wp_seq (SC.wp_seq (SC.wp_reg ?_)))
  repeat (apply ops_1;(focus (simp (disch:=(try simp only [sPu]);omega) [h1,ew];try rfl)))
  refine oNi (SC.wp_block ?_)
  refine SC.wp_loop (fun a w1=>∃ (j:Nat) (xs:Bytes),a.tmps.size=22∧a.defers=[]∧getT a 0=.int .i64 n∧getT a 6=.int .i64 ((j:Int) - 1)∧j≤size∧Own TU w1 w.heap.size (getT a 5) xs∧xs ++ fixed n j=fixed n size∧Below w.heap.size w w1∧w.heap.size≤w1.heap.size)
    (fun a _=>match getT a 6 with | .int _ m=>(m+1).toNat | _=>0) ⟨size,[],by simp [sPu,hs],by simp [dPu,hd],by simp (disch:=(try simp only [sPu]);omega) [h0],by simp (disch:=(try simp only [sPu]);omega),Nat.le_refl _,by simp (disch:=(try simp only [sPu]);omega);exact own_nil _ _ _,by simp,Below.refl _ _,Nat.le_refl _⟩ ?_
  rintro a w1 ⟨j,xs,hs1,hd1,g0,g6,hj,ho,hx,hbw,hsz⟩
  have hxl:xs.length+j≤8:=by
    have:=congrArg List.length hx
    rw [List.length_append,fixed_length,fixed_length] at this
    omega
  refine SC.wp_seq (SC.wp_seq (SC.wp_reg ?_))
  repeat (apply ops_1;(focus (simp (disch:=(try simp only [sPu]);omega) [hst,g6];try rfl)))
  refine oNi (SC.wp_cond (t:=decide ((0:Int)≤(j:Int) - 1)) (by simp (disch:=(try simp only [sPu]);omega)) ?_)
  cases j with
  | zero =>
    rw [if_neg (by simp)]
    refine SC.wp_exit ?_
    simp only [Exit.then,Exit.inBlock,if_true]
    refine SC.wp_seq (SC.wp_reg ?_)
    repeat (apply ops_1;(focus (simp (disch:=(try simp only [sPu]);omega) ;try rfl)))
    refine oNi (SC.wp_ret (ret_tmp hr (by simp [dPu,hd1]) ⟨_,rfl,?_,hbw⟩))
    rw [fixed,List.append_nil] at hx
    rw [← hx]
    refine own_eq ho ?_
    simp (disch:=(try simp only [sPu]);omega)
  | succ i =>
    have ei:((i+1:Nat):Int) - 1=(i:Int):=by omega
    rw [ei] at g6
    rw [if_pos (by simp)]
    refine SC.wp_skip ?_
    simp only [Exit.then]
    refine SC.wp_seq (SC.wp_block (SC.wp_reg ?_))
    have ew8:IntKind.i64.wrap (8 * (i:Int))=8 * (i:Int):=by rw [wrap_i64'];split <;> omega
    have h8b:(8 * (i:Int)).toNat=8 * i:=by omega
    have h8a:(0:Int)≤8 * (i:Int):=by omega
    have h8c:8 * i≤64:=by omega
    have e256:(2:Int) ^ (8 * i)=256 ^ i:=by rw [Int.pow_mul];rfl
    iterate 6 (apply ops_1;(focus (simp (disch:=(try simp only [sPu]);omega) [hst,g0,g6,ew8,h8b,h8a,h8c,e256,IntKind.bits,wrap_u8];try rfl)))
    refine ops_u8app (B:=w.heap.size) (dv:=getT a 5) (xs:=xs) (bs:=[T.byteOf (n / 256 ^ i)]) hU8s rfl (by decide) (by decide) ?_ ho hsz (by simp;omega) ?_ (by decide) (by simp only [sPu];omega) ?_
    · simp only [cellsOf,List.map_cons,List.map_nil]
      rw [byteOf_cell]
      simp (disch:=(try simp only [sPu]);omega) [List.range']
    · simp (disch:=(try simp only [sPu]);omega)
    intro dv' w2 v1 q1 q2 q3
    have ewi:IntKind.i64.wrap ((i:Int) - 1)=(i:Int) - 1:=by rw [wrap_i64'];split <;> omega
    repeat (apply ops_1;(focus (simp (disch:=(try simp only [sPu]);omega) ;try rfl)))
    refine oNi ?_
    simp only [Exit.inBlock,Exit.then]
    refine SC.wp_reg ?_
    repeat (apply ops_1;(focus (simp (disch:=(try simp only [sPu]);omega) [g6,ewi];try rfl)))
    refine oNi ?_
    try simp only [Exit.then]
    refine ⟨⟨i,xs ++ [T.byteOf (n / 256 ^ i)],by simp [sPu,hs1],by simp [dPu,hd1],?_,?_,by omega,?_,?_,hbw.trans q2,q3⟩,?_⟩
    · simp (disch:=(try simp only [sPu]);omega) [g0]
    · simp (disch:=(try simp only [sPu]);omega)
    · refine own_eq q1 ?_
      simp (disch:=(try simp only [sPu]);omega)
    · rw [List.append_assoc];exact hx
    · simp (disch:=(try simp only [sPu]);omega) [g6]
end
end Go.Proofs.YtoiipagmhmohdaaDoor.K
