/- Generic texts: R23 S18 R24 Z3 S14 S15 R29 R31. No condition. -/
import Derived.Test.YtgaplicnofhliaaDoorM10
import Derived.Great.BuildSlice
import Derived.Great.FillDense
namespace Go.Proofs.YtgaplicnofhliaaDoor.K
open Go Go.RowKit Go.Proofs.YtgaplicnofhliaaDoor.T
attribute [local simp] eTm eCo pNo gTp gTn qv qcall vop iop
set_option linter.unusedVariables false
set_option linter.unusedSimpArgs false
set_option maxHeartbeats 2000000
theorem after_bind {α:Type} {st:Option Bytes} {p:Rd α}:after st p=(st.bind p).map (·.2):=by
  cases st <;> rfl
theorem tagN_step {st:Option Bytes} {n k:Nat} {s:Int} {x:Bytes} {acc:List (Nat × Bytes)} (h1:∀ b y r,st=some b→pUv b=some (y,r)→k=y) (h2:∀ b (y:Nat) r,after st pUv=some b→pUv b=some (y,r)→s=(y:Int)) (h3:∀ b y r,after (after st pUv) pUv=some b→pSpan s b=some (y,r)→x=y) :
    st.bind (pTagN (n+1) acc)=(after (after (after st pUv) pUv) (pSpan s)).bind (pTagN n (setTag (k,x) acc)):=by
  cases st with
  | none=>rfl
  | some b =>
    cases hp:pUv b with
    | none =>
      have e1:after (some b) pUv=none:=after_no hp
      rw [e1]
      simp [pTagN,rThen,hp,after]
    | some z =>
      obtain ⟨y,r⟩:=z
      have e1:after (some b) pUv=some r:=after_ok hp
      obtain rfl:=h1 b y r rfl hp
      rw [e1] at h2 h3 ⊢
      cases hp2:pUv r with
      | none =>
        have e2:after (some r) pUv=none:=after_no hp2
        rw [e2]
        simp [pTagN,rThen,hp,hp2,after]
      | some z2 =>
        obtain ⟨y2,r2⟩:=z2
        have e2:after (some r) pUv=some r2:=after_ok hp2
        obtain rfl:=h2 r y2 r2 rfl hp2
        rw [e2] at h3 ⊢
        cases hp3:pSpan (y2:Int) r2 with
        | none =>
          rw [after_no hp3]
          simp [pTagN,rThen,hp,hp2,hp3]
        | some z3 =>
          obtain ⟨y3,r3⟩:=z3
          obtain rfl:=h3 r2 y3 r3 rfl hp3
          rw [after_ok hp3]
          simp [pTagN,rThen,hp,hp2,hp3]
section
variable {P:Program} {R:RTy} {f:FuncId} {fn:Func}
structure TLoop (P:Program) (TR:Nat) (T0:Nat) (w:World) (S:Option Nat) (rb:Nat) (st:Option Bytes) (a:Act) (w':World):Prop where
  size:a.tmps.size=24
  defers:a.defers=[]
  rd:getT a 0=.pointer (some ⟨rb,0,none⟩)
  res:getT a 2=.pointer (some ⟨w.heap.size,0,none⟩)
  tag:getT a 3=.pointer (some ⟨w.heap.size+1,0,none⟩)
  only:Only rb w w'
  heap:w.heap.size+2≤w'.heap.size
  row2:w'.heap[w.heap.size]?=some (.cells #[.map none] T0 (0,0))
  ex:∃ (n:Nat) (acc:List (Nat × Bytes)) (m:Option Nat) (st':Option Bytes),getT a 4=.int .u32 (n:Int)∧n < 4294967296∧RdAt TR w' S rb st'∧w'.heap[w.heap.size+1]?=some (.cells #[.map m] T0 (0,0))∧MapV w' (w.heap.size+1) (w.heap.size+1) S acc m∧Sorted acc∧st.bind (pTags true)=st'.bind (pTagN n acc)
def tMu (a:Act) (_:World):Nat:=match getT a 4 with
  | .int _ n=>n.toNat
  | _=>0
theorem rTagsFn_ok {TR gb T0 T1 T2 F0 F1 F2:Nat} (hm:aggB P T0 1=true) (hz:∃ i z,P.info? T0=some i∧i.zero=some z∧z.cells=#[.map none]) (h1k:intK P T1=some .u32) (h2k:intK P T2=some .i64)
    (hU:RC P TR gb F0 pUv (fun v=>∃ n:Nat,n < 4294967296∧v=.int .u32 (n:Int)) (fun _ _ n v=>v=.int .u32 (n:Int))) (hSp:SpC P TR F1) (hSet:SetC P T0 F2)
    (hf : P.funcs[f]? = some fn) (hb : fn.body.map strip = some (sc_ReadTags T0 T1 T2 F0 F1 F2)) (hnm : (fn.name == "runtime.NumGoroutine") = false) (hn : fn.ntmps = 24) (hr : fn.results = #[.cell 2 T0]) :
    RC P TR gb f (pTags true) (fun v=>∃ m,v=.agg #[m]∧m.oneCell'=true) (fun w F u v=>∃ m,v=.agg #[m]∧TagsV w F u m):=by
  refine ⟨fnOK_of hf hb hnm,fun w S rb st hgb hrd hsrc=>?_⟩
  obtain ⟨iz,z,hiz,hzz,hzc⟩:=hz
  have hrbl:rb < w.heap.size:=RdAt.lt hrd
  refine fCa hf hb hn (by simp) fun a0 hs hd ha=>?_
  have h0:=ha 0 _ rfl
  simp only [List.getElem_toArray,List.getElem_cons_zero,List.getElem_cons_succ] at h0
  refine SC.wp_seq (SC.wp_reg (oNo rfl (opw_alloc hiz hzz (oNi ?_))))
  simp only [Exit.then]
  refine SC.wp_seq (SC.wp_reg (oNo rfl (opw_alloc hiz hzz (oNi ?_))))
  simp only [Exit.then]
  rw [hzc]
  have hn1:=heap_alloc_new w (.cells #[.map none] T0)
  have hn2:=heap_alloc_new (w.alloc (.cells #[.map none] T0)) (.cells #[.map none] T0)
  have hsz1:(w.alloc (.cells #[.map none] T0)).heap.size=w.heap.size+1:=by simp
  rw [hsz1] at hn2 ⊢
  obtain ⟨w2,hw2⟩:∃ w2,w2=(w.alloc (.cells #[.map none] T0)).alloc (.cells #[.map none] T0):=⟨_,rfl⟩
  rw [← hw2] at hn2 ⊢
  have hsz2:w2.heap.size=w.heap.size+2:=by rw [hw2];simp
  have hold:∀ k,k < w.heap.size→w2.heap[k]?=w.heap[k]?:=fun k hk=>by
    rw [hw2,Below.heap_alloc _ _ _ (by simp;omega),Below.heap_alloc _ _ _ hk]
  have hr2:w2.heap[w.heap.size]?=some (.cells #[.map none] T0 (0,0)):=by
    rw [hw2,Below.heap_alloc _ _ _ (by simp)]
    exact hn1
  have hon2:Only rb w w2:=by rw [hw2];exact ((Only.refl rb w).alloc _).alloc _
  have hrd2:RdAt TR w2 S rb st:=RdAt.frame hrd (hold _ hrbl) fun sb h=>hold _ (hsrc sb h).2
  have hsrc2:∀ (w':World),Only rb w w'→∀ sb,S=some sb→sb ≠ rb∧sb < w'.heap.size:=fun w' ho sb h=>⟨(hsrc sb h).1,Nat.lt_of_lt_of_le (hsrc sb h).2 ho.size⟩
  refine SC.wp_seq (SC.wp_seq (SC.wp_reg ?_))
  iterate 1 (first | (apply ops_1;(focus (simp (disch:=(try simp only [sPu]);omega) [h0];try rfl))) | (apply ops_y;(focus rfl);(focus ((try simp only [sPu]);omega));(focus (simp (disch:=(try simp only [sPu]);omega) [h0];done));(focus (simp (disch:=(try simp only [sPu]);omega) [h0];try rfl))) | (apply ops_n;(focus rfl);(focus ((try simp only [sPu]);omega));(focus (first | (left;simp (disch:=(try simp only [sPu]);omega) [h0];done) | (right;simp (disch:=(try simp only [sPu]);omega);done)))))
  refine ops_call hU.1 (hU.2 w2 S rb st (by omega) hrd2 (hsrc2 w2 hon2)) (by simp (disch:=(try simp only [sPu]);omega) [h0]) ?_
  rintro e w3 ⟨v,rfl,q1,q2,⟨n,hnl,rfl⟩,q4⟩
  refine ⟨_,rfl,?_⟩
  repeat (first | (apply ops_1;(focus (simp (disch:=(try simp only [sPu]);omega) ;try rfl))) | (apply ops_y;(focus rfl);(focus ((try simp only [sPu]);omega));(focus (simp (disch:=(try simp only [sPu]);omega);done));(focus (simp (disch:=(try simp only [sPu]);omega) ;try rfl))) | (apply ops_n;(focus rfl);(focus ((try simp only [sPu]);omega));(focus (first | (left;simp (disch:=(try simp only [sPu]);omega);done) | (right;simp (disch:=(try simp only [sPu]);omega);done)))))
  refine oNi ?_
  simp only [Exit.then]
  refine SC.wp_block ?_
  refine SC.wp_loop (TLoop P TR T0 w S rb st) tMu ?_ ?_
  · refine ⟨by simp [sPu,hs],by simp [dPu,hd],by simp (disch:=(try simp only [sPu]);omega) [h0],by simp (disch:=(try simp only [sPu]);omega),by simp (disch:=(try simp only [sPu]);omega),hon2.trans q2,by have:=q2.size;omega,?_,n,[],none,after st pUv,by simp (disch:=(try simp only [sPu]);omega),hnl,q1,?_,.inl ⟨rfl,rfl⟩,List.Pairwise.nil,?_⟩
    · rw [q2.block _ (by omega) (by omega)];exact hr2
    · rw [q2.block _ (by omega) (by omega)];exact hn2
    · cases st with
      | none=>rfl
      | some b =>
        cases hp:pUv b with
        | none=>simp [pTags,rThen,hp,after]
        | some zz =>
          obtain ⟨y,r⟩:=zz
          have:=q4 b y r rfl hp
          simp only [Value.int.injEq,true_and] at this
          obtain rfl:n=y:=by omega
          simp [pTags,rThen,hp,after]
  · rintro a w4 ⟨p1,p2,p3,p4,p5,p6,p7,p8,n,acc,m,st',p9,p10,p11,p12,p13,p14,p15⟩
    have hmu:tMu a w4=n:=by simp [tMu,p9]
    refine SC.wp_seq (SC.wp_seq (SC.wp_reg ?_))
    repeat (first | (apply ops_1;(focus (simp (disch:=(try simp only [sPu]);omega) [p9];try rfl))) | (apply ops_y;(focus rfl);(focus ((try simp only [sPu]);omega));(focus (simp (disch:=(try simp only [sPu]);omega) [p9];done));(focus (simp (disch:=(try simp only [sPu]);omega) [p9];try rfl))) | (apply ops_n;(focus rfl);(focus ((try simp only [sPu]);omega));(focus (first | (left;simp (disch:=(try simp only [sPu]);omega) [p9];done) | (right;simp (disch:=(try simp only [sPu]);omega);done)))))
    refine oNi (SC.wp_cond (t:=decide ((n:Int) > 0)) (by simp (disch:=(try simp only [sPu]);omega)) ?_)
    by_cases h0n:n=0
    · subst h0n
      rw [if_neg (by simp)]
      refine SC.wp_exit ?_
      simp only [Exit.then,Exit.inBlock,if_true]
      have hcell:∀ j v,[Value.map m][j]?=some v→w4.cell? ⟨w.heap.size+1,0+j,none⟩=some v:=by
        intro j v hj
        rw [Nat.zero_add,cell_of_row _ _ _ _ _ _ p12]
        rw [← List.getElem?_toArray] at hj
        exact hj
      refine SC.wp_seq (SC.wp_reg (oNo rfl (opw_load_agg (cs:=[.map m]) (b:=w.heap.size+1) (o:=0) hm (by simp (disch:=(try simp only [sPu]);omega) [p5]) hcell (oNo rfl (opw_store_agg (cs:=[.map m]) (cur:=#[.map none]) (b:=w.heap.size) (E:=T0) hm (by simp (disch:=(try simp only [sPu]);omega) [p4]) (by simp (disch:=(try simp only [sPu]);omega)) p8 rfl (by intro v hv;simp at hv;subst hv;rfl) (oNi ?_))))))
      rw [pNo]
      simp only [Exit.then]
      refine SC.wp_ret ?_
      have hfin:=setRow_heap w4 w.heap.size _ [Value.map m].toArray _ _ p8
      have hoth:∀ k,k ≠ w.heap.size→(w4.setRow w.heap.size [Value.map m].toArray).heap[k]?=w4.heap[k]?:=fun k hk=>setRow_other _ _ _ _ hk
      have hst':after st (pTags true)=st':=by
        rw [after_bind,p15]
        cases st' <;> simp [pTagN,rOk]
      refine ret_cellAgg (cs:=[.map m]) (b:=w.heap.size) hr hm (by simp (disch:=(try simp only [sPu]);omega) [p4]) ?_ (by simp [dPu,p2]) ⟨_,rfl,?_,?_,⟨.map m,rfl,rfl⟩,fun b x r hst hp=>⟨.map m,rfl,?_⟩⟩
      · intro j v hj
        rw [cell_of_row _ _ _ _ _ _ hfin,List.getElem?_toArray]
        exact hj
      · rw [hst']
        exact RdAt.frame p11 (hoth _ (by omega)) fun sb h=>hoth _ (by have:=(hsrc sb h).2;omega)
      · exact p6.own (Nat.le_refl _) _
      · have hacc:x=acc:=by
          rw [hst] at p15
          simp only [Option.bind_some,hp] at p15
          cases st' with
          | none=>cases p15
          | some r' =>
            simp only [Option.bind_some,pTagN,rOk,Option.some.injEq,Prod.mk.injEq] at p15
            exact p15.1
        subst hacc
        have hmv:=p13.frame (w':=w4.setRow w.heap.size [Value.map m].toArray) (fun k h1 _=>hoth k (by omega)) (fun sb h=>hoth _ (by have:=(hsrc sb h).2;omega))
        rcases hmv with ⟨rfl,rfl⟩ | ⟨r',es,clock,rfl,e2,e3,e4,e5,e6,e7⟩
        · exact .inl ⟨rfl,rfl⟩
        · refine .inr ⟨r',es,clock,rfl,.inr ⟨by omega,(Array.getElem?_eq_some_iff.1 e4).1⟩,e4,e5,e6,fun e he x hx hk=>?_⟩
          obtain ⟨b2,c2,k1,k2⟩:=e7 e he x hx hk
          exact ⟨b2,c2,k1,bytesAt_F k2 fun k hk=>.inl hk⟩
    · rw [if_pos (by simp;omega)]
      refine SC.wp_skip ?_
      simp only [Exit.then]
      obtain ⟨n',rfl⟩:∃ n',n=n'+1:=⟨n - 1,by omega⟩
      refine SC.wp_seq (SC.wp_block (SC.wp_seq (SC.wp_reg ?_)))
      iterate 1 (first | (apply ops_1;(focus (simp (disch:=(try simp only [sPu]);omega) [p3];try rfl))) | (apply ops_y;(focus rfl);(focus ((try simp only [sPu]);omega));(focus (simp (disch:=(try simp only [sPu]);omega) [p3];done));(focus (simp (disch:=(try simp only [sPu]);omega) [p3];try rfl))) | (apply ops_n;(focus rfl);(focus ((try simp only [sPu]);omega));(focus (first | (left;simp (disch:=(try simp only [sPu]);omega) [p3];done) | (right;simp (disch:=(try simp only [sPu]);omega);done)))))
      refine ops_call hU.1 (hU.2 w4 S rb st' (by omega) p11 (hsrc2 w4 p6)) (by simp (disch:=(try simp only [sPu]);omega) [p3]) ?_
      rintro e w5 ⟨v,rfl,k1,k2,⟨k,hkl,rfl⟩,k4⟩
      refine ⟨_,rfl,?_⟩
      iterate 1 (first | (apply ops_1;(focus (simp (disch:=(try simp only [sPu]);omega) [p3];try rfl))) | (apply ops_y;(focus rfl);(focus ((try simp only [sPu]);omega));(focus (simp (disch:=(try simp only [sPu]);omega) [p3];done));(focus (simp (disch:=(try simp only [sPu]);omega) [p3];try rfl))) | (apply ops_n;(focus rfl);(focus ((try simp only [sPu]);omega));(focus (first | (left;simp (disch:=(try simp only [sPu]);omega) [p3];done) | (right;simp (disch:=(try simp only [sPu]);omega);done)))))
      refine ops_call hU.1 (hU.2 w5 S rb _ (by have:=k2.size;omega) k1 (hsrc2 w5 (p6.trans k2))) (by simp (disch:=(try simp only [sPu]);omega) [p3]) ?_
      rintro e w6 ⟨v,rfl,l1,l2,⟨s,hsl,rfl⟩,l4⟩
      refine ⟨_,rfl,?_⟩
      repeat (first | (apply ops_1;(focus (simp (disch:=(try simp only [sPu]);omega) ;try rfl))) | (apply ops_y;(focus rfl);(focus ((try simp only [sPu]);omega));(focus (simp (disch:=(try simp only [sPu]);omega);done));(focus (simp (disch:=(try simp only [sPu]);omega) ;try rfl))) | (apply ops_n;(focus rfl);(focus ((try simp only [sPu]);omega));(focus (first | (left;simp (disch:=(try simp only [sPu]);omega);done) | (right;simp (disch:=(try simp only [sPu]);omega);done)))))
      refine oNi (SC.wp_reg ?_)
      have hws:IntKind.i64.wrap (s:Int)=(s:Int):=wrap64 (by omega) (by omega)
      iterate 4 (first | (apply ops_1;(focus (simp (disch:=(try simp only [sPu]);omega) [p3,h1k,h2k,hws];try rfl))) | (apply ops_y;(focus rfl);(focus ((try simp only [sPu]);omega));(focus (simp (disch:=(try simp only [sPu]);omega) [p3,h1k,h2k,hws];done));(focus (simp (disch:=(try simp only [sPu]);omega) [p3,h1k,h2k,hws];try rfl))) | (apply ops_n;(focus rfl);(focus ((try simp only [sPu]);omega));(focus (first | (left;simp (disch:=(try simp only [sPu]);omega) [p3,h1k,h2k,hws];done) | (right;simp (disch:=(try simp only [sPu]);omega);done)))))
      refine ops_call hSp.1 (hSp.2 w6 S rb _ (s:Int) l1 (hsrc2 w6 ((p6.trans k2).trans l2))) (by simp (disch:=(try simp only [sPu]);omega) [p3]) ?_
      rintro e w7 ⟨S',base,cap,x,rfl,m1,m2,m3,m4,m5⟩
      refine ⟨_,rfl,?_⟩
      have ho7:Only rb w4 w7:=(k2.trans l2).trans m2
      have hrow7:w7.heap[w.heap.size+1]?=some (.cells #[.map m] T0 (0,0)):=by rw [ho7.block _ (by omega) (by omega)];exact p12
      have hmv7:MapV w7 (w.heap.size+1) (w.heap.size+1) S acc m:=p13.frame (fun k h1 h2=>ho7.block k h2 (by omega)) fun sb h=>ho7.block sb (by have:=(hsrc sb h).2;omega) (hsrc sb h).1
      have hb7:BytesAt w7 (fun k=>S=some k) base x:=by
        rcases m5 with rfl | rfl
        · exact .inl m3.2
        · exact bytesAt_src m3 fun sb h=>h
      refine ops_call hSet.1 (hSet.2 w7 (w.heap.size+1) (w.heap.size+1) k cap S m acc base x (Nat.le_refl _) (by have:=ho7.size;omega) (fun sb h=>by have:=(hsrc sb h).2;omega) hrow7 hmv7 p14 hb7) (by simp (disch:=(try simp only [sPu]);omega) [p5]) ?_
      rintro e w8 ⟨rfl,n1,n2,n3,m',n4,n5⟩
      refine ⟨_,rfl,oNi ?_⟩
      simp only [Exit.then,Exit.inBlock]
      have hwn:IntKind.u32.wrap (n':Int)=(n':Int):=wrap_uN (k:=.u32) rfl (n:=n') (by simp only [IntKind.bits];omega)
      refine SC.wp_reg ?_
      repeat (first | (apply ops_1;(focus (simp (disch:=(try simp only [sPu]);omega) [p9,hwn];try rfl))) | (apply ops_y;(focus rfl);(focus ((try simp only [sPu]);omega));(focus (simp (disch:=(try simp only [sPu]);omega) [p9,hwn];done));(focus (simp (disch:=(try simp only [sPu]);omega) [p9,hwn];try rfl))) | (apply ops_n;(focus rfl);(focus ((try simp only [sPu]);omega));(focus (first | (left;simp (disch:=(try simp only [sPu]);omega) [p9,hwn];done) | (right;simp (disch:=(try simp only [sPu]);omega);done)))))
      refine oNi ?_
      have ho8:Only rb w w8:=by
        have ho:=p6.trans ho7
        exact ⟨n1.os.trans ho.os,n1.tape.trans ho.tape,n1.output.trans ho.output,Nat.le_trans ho.size n1.size,fun k hk hr=>(n1.block k (by omega)).trans (ho.block k hk hr)⟩
      refine ⟨⟨by simp [sPu,p1],by simp [dPu,p2],by simp (disch:=(try simp only [sPu]);omega) [p3],by simp (disch:=(try simp only [sPu]);omega) [p4],by simp (disch:=(try simp only [sPu]);omega) [p5],ho8,by have:=n1.size;have:=ho7.size;omega,?_,n',setTag (k,x) acc,m',after (after (after st' pUv) pUv) (pSpan (s:Int)),by simp (disch:=(try simp only [sPu]);omega),by omega,?_,n4,n5,setTag_sorted p14,?_⟩,?_⟩
      · rw [n1.block _ (by omega),ho7.block _ (by omega) (by omega)]
        exact p8
      · exact RdAt.frame m1 (n1.block _ (by omega)) fun sb h=>n1.block _ (by have:=(hsrc sb h).2;omega)
      · rw [p15]
        refine tagN_step (fun b y r hb hp=>?_) (fun b y r hb hp=>?_) (fun b y r hb hp=>(m4 b y r hb hp).1)
        · have:=k4 b y r hb hp
          simp only [Value.int.injEq,true_and] at this
          omega
        · have:=l4 b y r hb hp
          simp only [Value.int.injEq,true_and] at this
          omega
      · rw [hmu]
        simp only [tMu]
        simp (disch:=(try simp only [sPu]);omega)
end
end Go.Proofs.YtgaplicnofhliaaDoor.K
namespace Go.Proofs.YtgaplicnofhliaaDoor.K
open Go Go.RowKit Go.Proofs.YtgaplicnofhliaaDoor.T
attribute [local simp] eTm eCo pNo gTp gTn qv qcall vop iop
set_option linter.unusedSimpArgs false
set_option linter.unusedVariables false
set_option maxHeartbeats 4000000
def sc_NewPtr (T fDef:Nat):SC:=.seq (.reg [⟨some 0,.assign (.const (.pointer none)),none⟩]) (.seq (.reg [⟨some 1,.alloc T,none⟩]) (.seq (.reg [cal 2 fDef [1]]) (.seq (.reg [asg 0 1]) .ret)))
def sc_MaxV (n:Int):SC:=.seq (.reg [⟨some 2,.assign (.const (.int .i16 0)),none⟩]) (.seq (.reg [⟨some 2,.assign (.const (.int .i16 n)),none⟩]) .ret)
def sc_SetV (T T16:Nat):SC:=.reg [mv 4 0,mv 5 1,nilc 6 4,fa 7 T 6 0,⟨none,.store T16 (.tmp 7) (.tmp 5),none⟩]
def sc_Max (fNP fMV T16 TI:Nat):SC:=.seq (.reg [⟨some 0,.assign (.const (.int .i64 0)),none⟩]) (.seq (.reg [cal 1 fNP [],cal 2 fMV [1],⟨some 3,.convert T16 TI (.tmp 2),none⟩,asg 0 3]) .ret)
def sc_New (fNP fSV fAT TI T16:Nat):SC:=.seq (.reg [⟨some 2,.assign (.const (.slice none 0 0)),none⟩]) (.seq (.reg [cal 4 fNP [],asg 3 4]) (.seq (.reg [mv 5 3,mv 6 0,⟨some 7,.convert TI T16 (.tmp 6),none⟩,cal 8 fSV [5,7]]) (.seq (.reg [mv 9 3,⟨some 10,.call ⟨.value (.func fAT),#[.tmp 9,.const (.slice none 0 0)],#[]⟩,none⟩,asg 2 10]) .ret)))
section
variable {P:Program} {X:STy} {f:FuncId} {fn:Func}
def DefFn (P:Program) (f T:Nat) (cs0 cs:Array Value):Prop :=
  FnOK P f∧∀ (w:World) (b:Nat),w.heap[b]?=some (.cells cs0 T (0,0))→Calls P f #[.pointer (some ⟨b,0,none⟩)] w fun e w'=>e=.returned (.tuple #[])∧w'=w.setRow b cs
theorem newPtr_ok {T fDef:Nat} {cs0 cs:Array Value} (hT:∃ i z,P.info? T=some i∧i.zero=some z∧z.cells=cs0) (hD:DefFn P fDef T cs0 cs) (hf:P.funcs[f]?=some fn) (hb:fn.body.map strip=some (sc_NewPtr T fDef)) (hn:fn.ntmps=3) (hr:fn.results=#[.tmp 0]) (w:World) :
    Calls P f #[] w fun e w'=>∃ b,e=.returned (.pointer (some ⟨b,0,none⟩))∧w.heap.size≤b∧w'.heap[b]?=some (.cells cs T (0,0))∧Below w.heap.size w w':=by
  obtain ⟨i,z,hi,hz,rfl⟩:=hT
  refine fCa hf hb hn (by simp) fun a0 hs hd ha=>?_
  refine SC.wp_seq (SC.wp_reg ?_)
  repeat (first | (apply ops_1;(focus (simp (disch:=(try simp only [sPu]);omega) ;try rfl))) | (apply ops_y;(focus rfl);(focus ((try simp only [sPu]);omega));(focus (simp (disch:=(try simp only [sPu]);omega);done));(focus (simp (disch:=(try simp only [sPu]);omega) ;try rfl))) | (apply ops_n;(focus rfl);(focus ((try simp only [sPu]);omega));(focus (first | (left;simp (disch:=(try simp only [sPu]);omega);done) | (right;simp (disch:=(try simp only [sPu]);omega);done)))))
  refine oNi (SC.wp_seq (SC.wp_reg (oNo rfl (opw_alloc hi hz (oNi ?_)))))
  have hnew:=heap_alloc_new w (.cells z.cells T)
  have hbn:Below w.heap.size w (w.alloc (.cells z.cells T)):=(Below.refl _ _).alloc (Nat.le_refl _) _
  generalize w.alloc (.cells z.cells T)=w1 at *
  simp only [Exit.then]
  refine SC.wp_seq (SC.wp_reg (ops_cal hD.1 (R:=fun e w'=>e=.returned (.tuple #[])∧w'=w1.setRow w.heap.size cs) ?_ ?_))
  · refine Eq.mp (congrArg (fun z=>Calls P fDef z w1 _) ?_) (hD.2 w1 w.heap.size hnew)
    simp (disch:=(try simp only [sPu]);omega)
  rintro e w2 ⟨rfl,rfl⟩
  refine ⟨_,rfl,oNi ?_⟩
  simp only [Exit.then]
  refine SC.wp_seq (SC.wp_reg ?_)
  repeat (first | (apply ops_1;(focus (simp (disch:=(try simp only [sPu]);omega) ;try rfl))) | (apply ops_y;(focus rfl);(focus ((try simp only [sPu]);omega));(focus (simp (disch:=(try simp only [sPu]);omega);done));(focus (simp (disch:=(try simp only [sPu]);omega) ;try rfl))) | (apply ops_n;(focus rfl);(focus ((try simp only [sPu]);omega));(focus (first | (left;simp (disch:=(try simp only [sPu]);omega);done) | (right;simp (disch:=(try simp only [sPu]);omega);done)))))
  refine oNi (SC.wp_ret (ret_tmp hr (by simp [dPu,hd]) ⟨w.heap.size,?_,Nat.le_refl _,setRow_heap w1 _ _ cs _ _ hnew,below_setRow hbn (Nat.le_refl _) _⟩))
  simp (disch:=(try simp only [sPu]);omega)
theorem maxV_ok {n:Int} (hf:P.funcs[f]?=some fn) (hb:fn.body.map strip=some (sc_MaxV n)) (hn:fn.ntmps=3) (hr:fn.results=#[.tmp 2]) (w:World) (v:Value) :
    Calls P f #[v] w fun e w'=>e=.returned (.int .i16 n)∧w'=w:=by
  refine fCa hf hb hn (by simp) fun a0 hs hd ha=>?_
  refine SC.wp_seq (SC.wp_reg ?_)
  repeat (first | (apply ops_1;(focus (simp (disch:=(try simp only [sPu]);omega) ;try rfl))) | (apply ops_y;(focus rfl);(focus ((try simp only [sPu]);omega));(focus (simp (disch:=(try simp only [sPu]);omega);done));(focus (simp (disch:=(try simp only [sPu]);omega) ;try rfl))) | (apply ops_n;(focus rfl);(focus ((try simp only [sPu]);omega));(focus (first | (left;simp (disch:=(try simp only [sPu]);omega);done) | (right;simp (disch:=(try simp only [sPu]);omega);done)))))
  refine oNi (SC.wp_seq (SC.wp_reg ?_))
  repeat (first | (apply ops_1;(focus (simp (disch:=(try simp only [sPu]);omega) ;try rfl))) | (apply ops_y;(focus rfl);(focus ((try simp only [sPu]);omega));(focus (simp (disch:=(try simp only [sPu]);omega);done));(focus (simp (disch:=(try simp only [sPu]);omega) ;try rfl))) | (apply ops_n;(focus rfl);(focus ((try simp only [sPu]);omega));(focus (first | (left;simp (disch:=(try simp only [sPu]);omega);done) | (right;simp (disch:=(try simp only [sPu]);omega);done)))))
  refine oNi (SC.wp_ret (ret_tmp hr (by simp [dPu,hd]) ⟨?_,rfl⟩))
  simp (disch:=(try simp only [sPu]);omega)
theorem max_ok {fNP fMV T16 TI T:Nat} {n:Nat} {cs:Array Value} (h16:intK P T16=some .i16) (hI:intK P TI=some .i64) (hn16:n < 32768) (oNP:FnOK P fNP) (cNP:∀ w:World,Calls P fNP #[] w fun e w'=>∃ b,e=.returned (.pointer (some ⟨b,0,none⟩))∧w.heap.size≤b∧w'.heap[b]?=some (.cells cs T (0,0))∧Below w.heap.size w w')
    (oMV:FnOK P fMV) (cMV:∀ (w:World) (v:Value),Calls P fMV #[v] w fun e w'=>e=.returned (.int .i16 (n:Int))∧w'=w)
    (hf:P.funcs[f]?=some fn) (hb:fn.body.map strip=some (sc_Max fNP fMV T16 TI)) (hn:fn.ntmps=4) (hr:fn.results=#[.tmp 0]) (w:World) :
    Calls P f #[] w fun e w'=>e=.returned (.int .i64 (n:Int))∧Below w.heap.size w w':=by
  refine fCa hf hb hn (by simp) fun a0 hs hd ha=>?_
  have ew:IntKind.i64.wrap (n:Int)=(n:Int):=by rw [wrap_i64'];split <;> omega
  refine SC.wp_seq (SC.wp_reg ?_)
  repeat (first | (apply ops_1;(focus (simp (disch:=(try simp only [sPu]);omega) ;try rfl))) | (apply ops_y;(focus rfl);(focus ((try simp only [sPu]);omega));(focus (simp (disch:=(try simp only [sPu]);omega);done));(focus (simp (disch:=(try simp only [sPu]);omega) ;try rfl))) | (apply ops_n;(focus rfl);(focus ((try simp only [sPu]);omega));(focus (first | (left;simp (disch:=(try simp only [sPu]);omega);done) | (right;simp (disch:=(try simp only [sPu]);omega);done)))))
  refine oNi (SC.wp_seq (SC.wp_reg (ops_cal oNP (cNP w) ?_)))
  rintro e w1 ⟨b,rfl,hb,hc,hbw⟩
  refine ⟨_,rfl,ops_cal oMV (R:=fun e w'=>e=.returned (.int .i16 (n:Int))∧w'=w1) ?_ ?_⟩
  · refine Eq.mp (congrArg (fun z=>Calls P fMV z w1 _) ?_) (cMV w1 (.pointer (some ⟨b,0,none⟩)))
    simp (disch:=(try simp only [sPu]);omega)
  rintro e w2 ⟨rfl,rfl⟩
  refine ⟨_,rfl,?_⟩
  repeat (first | (apply ops_1;(focus (simp (disch:=(try simp only [sPu]);omega) [h16,hI,ew];try rfl))) | (apply ops_y;(focus rfl);(focus ((try simp only [sPu]);omega));(focus (simp (disch:=(try simp only [sPu]);omega) [h16,hI,ew];done));(focus (simp (disch:=(try simp only [sPu]);omega) [h16,hI,ew];try rfl))) | (apply ops_n;(focus rfl);(focus ((try simp only [sPu]);omega));(focus (first | (left;simp (disch:=(try simp only [sPu]);omega) [h16,hI,ew];done) | (right;simp (disch:=(try simp only [sPu]);omega);done)))))
  refine oNi (SC.wp_ret (ret_tmp hr (by simp [dPu,hd]) ⟨?_,hbw⟩))
  simp (disch:=(try simp only [sPu]);omega)
theorem setV_ok {T T16:Nat} (h0:fieldOff P T 0=some 0) (h1:oneB P T16=true) (hf:P.funcs[f]?=some fn) (hb:fn.body.map strip=some (sc_SetV T T16)) (hn:fn.ntmps=8) (hr:fn.results=#[]) (w:World) (b:Nat) (cs:Array Value) (E:TypeId) (hc:w.heap[b]?=some (.cells cs E (0,0))) (hcs:0 < cs.size) (n:Int) :
    Calls P f #[.pointer (some ⟨b,0,none⟩),.int .i16 n] w fun e w'=>e=.returned (.tuple #[])∧w'=w.setRow b (cs.setIfInBounds 0 (.int .i16 n)):=by
  refine fCa hf hb hn (by simp) fun a0 hs hd ha=>?_
  have k0:=ha 0 _ rfl
  have k1:=ha 1 _ rfl
  simp only [List.getElem_toArray,List.getElem_cons_zero,List.getElem_cons_succ] at k0 k1
  refine SC.wp_reg ?_
  iterate 4 (first | (apply ops_1;(focus (simp (disch:=(try simp only [sPu]);omega) [k0,k1,h0];try rfl))) | (apply ops_y;(focus rfl);(focus ((try simp only [sPu]);omega));(focus (simp (disch:=(try simp only [sPu]);omega) [k0,k1,h0];done));(focus (simp (disch:=(try simp only [sPu]);omega) [k0,k1,h0];try rfl))) | (apply ops_n;(focus rfl);(focus ((try simp only [sPu]);omega));(focus (first | (left;simp (disch:=(try simp only [sPu]);omega) [k0,k1,h0];done) | (right;simp (disch:=(try simp only [sPu]);omega);done)))))
  refine oNo rfl (opw_store_one (ad:=⟨b,0,none⟩) (v:=.int .i16 n) (v0:=cs[0]) h1 (by simp (disch:=(try simp only [sPu]);omega)) (by simp (disch:=(try simp only [sPu]);omega)) rfl (by rw [cell_of_row _ _ _ _ _ _ hc];exact Array.getElem?_eq_getElem hcs) (by simp [World.frozen?,hc]) (oNi ?_))
  refine ⟨by simp [dPu,pNo,hd],.tuple #[],by simp [results,hr],rfl,setCell_eq_setRow _ _ _ _ _ _ _ hc⟩
theorem new_ok {fNP fSV fAT TI T16 T tU8:Nat} {cs:Array Value} {out:Int→Bytes} (h16:intK P T16=some .i16) (hI:intK P TI=some .i64) (oNP:FnOK P fNP) (cNP:∀ w:World,Calls P fNP #[] w fun e w'=>∃ b,e=.returned (.pointer (some ⟨b,0,none⟩))∧w.heap.size≤b∧w'.heap[b]?=some (.cells cs T (0,0))∧Below w.heap.size w w')
    (oSV:FnOK P fSV) (cSV:∀ (w:World) (b:Nat),w.heap[b]?=some (.cells cs T (0,0))→∀ n:Int,Calls P fSV #[.pointer (some ⟨b,0,none⟩),.int .i16 n] w fun e w'=>e=.returned (.tuple #[])∧w'=w.setRow b (cs.setIfInBounds 0 (.int .i16 n)))
    (oAT:FnOK P fAT) (cAT:∀ (w:World) (b:Nat) (n:Int),w.heap[b]?=some (.cells (cs.setIfInBounds 0 (.int .i16 n)) T (0,0))→0≤n→n < 32768→Calls P fAT #[.pointer (some ⟨b,0,none⟩),.slice none 0 0] w fun e w'=>∃ dv,e=.returned dv∧Own tU8 w' w.heap.size dv (out n)∧Below w.heap.size w w')
    (hf:P.funcs[f]?=some fn) (hb:fn.body.map strip=some (sc_New fNP fSV fAT TI T16)) (hn:fn.ntmps=11) (hr:fn.results=#[.tmp 2]) (w:World) (ver:Nat) (hv:ver < 32768) :
    Calls P f #[.int .i64 (ver:Int)] w (RetOwn tU8 w (out ver)):=by
  refine fCa hf hb hn (by simp) fun a0 hs hd ha=>?_
  have k0:=ha 0 _ rfl
  simp only [List.getElem_toArray,List.getElem_cons_zero,List.getElem_cons_succ] at k0
  have ew:IntKind.i16.wrap (ver:Int)=(ver:Int):=by rw [wrap_i16'];split <;> omega
  refine SC.wp_seq (SC.wp_reg ?_)
  repeat (first | (apply ops_1;(focus (simp (disch:=(try simp only [sPu]);omega) ;try rfl))) | (apply ops_y;(focus rfl);(focus ((try simp only [sPu]);omega));(focus (simp (disch:=(try simp only [sPu]);omega);done));(focus (simp (disch:=(try simp only [sPu]);omega) ;try rfl))) | (apply ops_n;(focus rfl);(focus ((try simp only [sPu]);omega));(focus (first | (left;simp (disch:=(try simp only [sPu]);omega);done) | (right;simp (disch:=(try simp only [sPu]);omega);done)))))
  refine oNi (SC.wp_seq (SC.wp_reg (ops_cal oNP (cNP w) ?_)))
  rintro e w1 ⟨b,rfl,hb,hc,hbw⟩
  refine ⟨_,rfl,?_⟩
  have hsw:w.heap.size≤w1.heap.size:=hbw.size
  repeat (first | (apply ops_1;(focus (simp (disch:=(try simp only [sPu]);omega) ;try rfl))) | (apply ops_y;(focus rfl);(focus ((try simp only [sPu]);omega));(focus (simp (disch:=(try simp only [sPu]);omega);done));(focus (simp (disch:=(try simp only [sPu]);omega) ;try rfl))) | (apply ops_n;(focus rfl);(focus ((try simp only [sPu]);omega));(focus (first | (left;simp (disch:=(try simp only [sPu]);omega);done) | (right;simp (disch:=(try simp only [sPu]);omega);done)))))
  refine oNi ?_
  simp only [Exit.then]
  refine SC.wp_seq (SC.wp_reg ?_)
  iterate 3 (first | (apply ops_1;(focus (simp (disch:=(try simp only [sPu]);omega) [h16,hI,k0,ew];try rfl))) | (apply ops_y;(focus rfl);(focus ((try simp only [sPu]);omega));(focus (simp (disch:=(try simp only [sPu]);omega) [h16,hI,k0,ew];done));(focus (simp (disch:=(try simp only [sPu]);omega) [h16,hI,k0,ew];try rfl))) | (apply ops_n;(focus rfl);(focus ((try simp only [sPu]);omega));(focus (first | (left;simp (disch:=(try simp only [sPu]);omega) [h16,hI,k0,ew];done) | (right;simp (disch:=(try simp only [sPu]);omega);done)))))
  refine ops_cal oSV (R:=fun e w'=>e=.returned (.tuple #[])∧w'=w1.setRow b (cs.setIfInBounds 0 (.int .i16 (ver:Int)))) ?_ ?_
  · refine Eq.mp (congrArg (fun z=>Calls P fSV z w1 _) ?_) (cSV w1 b hc (ver:Int))
    simp (disch:=(try simp only [sPu]);omega)
  rintro e w2 ⟨rfl,rfl⟩
  refine ⟨_,rfl,oNi ?_⟩
  have hc2:=setRow_heap w1 b _ (cs.setIfInBounds 0 (.int .i16 (ver:Int))) _ _ hc
  have hb2:Below w.heap.size w (w1.setRow b (cs.setIfInBounds 0 (.int .i16 (ver:Int)))):=below_setRow hbw hb _
  have hs2:(w1.setRow b (cs.setIfInBounds 0 (.int .i16 (ver:Int)))).heap.size=w1.heap.size:=by simp
  generalize w1.setRow b (cs.setIfInBounds 0 (.int .i16 (ver:Int)))=w3 at *
  simp only [Exit.then]
  refine SC.wp_seq (SC.wp_reg ?_)
  iterate 1 (first | (apply ops_1;(focus (simp (disch:=(try simp only [sPu]);omega) ;try rfl))) | (apply ops_y;(focus rfl);(focus ((try simp only [sPu]);omega));(focus (simp (disch:=(try simp only [sPu]);omega);done));(focus (simp (disch:=(try simp only [sPu]);omega) ;try rfl))) | (apply ops_n;(focus rfl);(focus ((try simp only [sPu]);omega));(focus (first | (left;simp (disch:=(try simp only [sPu]);omega);done) | (right;simp (disch:=(try simp only [sPu]);omega);done)))))
  refine ops_call oAT (cAT w3 b ver hc2 (by omega) (by omega)) (by simp (disch:=(try simp only [sPu]);omega)) ?_
  rintro e w4 ⟨dv,rfl,ho,hb4⟩
  refine ⟨dv,rfl,?_⟩
  repeat (first | (apply ops_1;(focus (simp (disch:=(try simp only [sPu]);omega) ;try rfl))) | (apply ops_y;(focus rfl);(focus ((try simp only [sPu]);omega));(focus (simp (disch:=(try simp only [sPu]);omega);done));(focus (simp (disch:=(try simp only [sPu]);omega) ;try rfl))) | (apply ops_n;(focus rfl);(focus ((try simp only [sPu]);omega));(focus (first | (left;simp (disch:=(try simp only [sPu]);omega);done) | (right;simp (disch:=(try simp only [sPu]);omega);done)))))
  refine oNi (SC.wp_ret (ret_tmp hr (by simp [dPu,hd]) ⟨dv,?_,own_down ho (by omega),hb2.trans (hb4.mono (by omega))⟩))
  simp (disch:=(try simp only [sPu]);omega)
def sc_LawNew (fMax fSp fVer fNew fDef fWr fSame TI M Fs_:Nat):SC:=.seq (.reg [⟨some 2,.assign (.const (.bool false)),none⟩]) (.seq (.reg [cal 5 fMax [],asg 3 5]) (.seq (.seq (.reg [mv 6 3,⟨some 7,.binOp .lss TI (.tmp 6) (.const (.int .i64 0)) TI,none⟩]) (.cond (.tmp 7) (.seq (.reg [⟨some 2,.assign (.const (.bool false)),none⟩]) .ret) .skip)) (.seq (.reg [cal 8 fSp [],⟨some 4,.alloc M,none⟩,⟨none,.store M (.tmp 4) (.tmp 8),none⟩]) (.seq (.dreg [mv 9 0,mv 10 3,cal 11 fVer [9,10],cal 12 fNew [11],ld 13 M 4,mv 14 0,mv 15 3,cal 16 fVer [14,15],fa 17 M 4 0,ld 18 Fs_ 17,cal 19 fDef [18],cal 20 fWr [13,16,19],cal 21 fSame [12,20],asg 2 21] [[],[],[0,1],[2,2],[],[],[],[5,6,3],[],[8],[9,7],[4,7,10,10],[3,11,11],[12,12,0,1,2,3,4,5,6,7,8,9,10,11,12]]) .ret))))
end
end Go.Proofs.YtgaplicnofhliaaDoor.K
namespace Go.Proofs.YtgaplicnofhliaaDoor.K
open Go Go.RowKit Go.Proofs.YtgaplicnofhliaaDoor.T
attribute [local simp] eTm eCo pNo gTp gTn qv qcall vop iop
set_option linter.unusedVariables false
set_option linter.unusedSimpArgs false
set_option maxHeartbeats 2000000
def sc_ReadFromW (F0:Nat):SC:=.seq (.reg [⟨some 4,.assign (.const .nilIface),none⟩]) (.seq (.reg [mv 5 0,mv 6 1,⟨some 7,.call ⟨.value (.func F0),#[(.tmp 5),(.tmp 6),(.const (.bool false))],#[]⟩,none⟩,asg 4 7]) (.ret))
def sc_Again (T0 T1 T2 T3 F0 F1 F2 F3:Nat):SC:=.seq (.reg [⟨some 4,.assign (.const (.slice none 0 0)),none⟩,⟨some 5,.assign (.const (.bool false)),none⟩]) (.seq (.reg [cal 7 F0 [],asg 6 7]) (.seq (.reg [mv 8 6,mv 9 0,⟨some 10,.convert T0 T1 (.tmp 9),none⟩,cal 11 F1 [8,10]]) (.seq (.seq (.reg [mv 12 6,mv 13 1,⟨some 14,.call ⟨.builtin .append,#[(.const (.slice none 0 0)),(.tmp 13)],#[T2,T2]⟩,none⟩,cal 15 F2 [12,14],⟨some 16,.binOp .neq T3 (.tmp 15) (.const .nilIface) T3,none⟩]) (.cond (.tmp 16) (.seq (.reg [⟨some 4,.assign (.const (.slice none 0 0)),none⟩,⟨some 5,.assign (.const (.bool false)),none⟩]) (.ret)) (.skip))) (.seq (.reg [mv 17 6,⟨some 18,.call ⟨.value (.func F3),#[(.tmp 17),(.const (.slice none 0 0))],#[]⟩,none⟩,asg 4 18,⟨some 5,.assign (.const (.bool true)),none⟩]) (.ret)))))
section
variable {P:Program} {f:FuncId} {fn:Func}
theorem readFromW_ok {F0:Nat} (oF:FnOK P F0) (hf:P.funcs[f]?=some fn) (hb:fn.body.map strip=some (sc_ReadFromW F0)) (hn:fn.ntmps=8) (hr:fn.results=#[.tmp 4]) (w:World) (x y:Value) (R:Ending→World→Prop)
    (hc:Calls P F0 #[x,y,.bool false] w fun e w'=>∃ v,e=.returned v∧R e w'):Calls P f #[x,y] w R:=by
  refine fCa hf hb hn (by simp) fun a0 hs hd ha=>?_
  have h0:=ha 0 _ rfl
  have h1:=ha 1 _ rfl
  simp only [List.getElem_toArray,List.getElem_cons_zero,List.getElem_cons_succ] at h0 h1
  refine SC.wp_seq (SC.wp_reg ?_)
  repeat (first | (apply ops_1;(focus (simp (disch:=(try simp only [sPu]);omega) ;try rfl))) | (apply ops_y;(focus rfl);(focus ((try simp only [sPu]);omega));(focus (simp (disch:=(try simp only [sPu]);omega);done));(focus (simp (disch:=(try simp only [sPu]);omega) ;try rfl))) | (apply ops_n;(focus rfl);(focus ((try simp only [sPu]);omega));(focus (first | (left;simp (disch:=(try simp only [sPu]);omega);done) | (right;simp (disch:=(try simp only [sPu]);omega);done)))))
  refine oNi (SC.wp_seq (SC.wp_reg ?_))
  iterate 2 (first | (apply ops_1;(focus (simp (disch:=(try simp only [sPu]);omega) [h0,h1];try rfl))) | (apply ops_y;(focus rfl);(focus ((try simp only [sPu]);omega));(focus (simp (disch:=(try simp only [sPu]);omega) [h0,h1];done));(focus (simp (disch:=(try simp only [sPu]);omega) [h0,h1];try rfl))) | (apply ops_n;(focus rfl);(focus ((try simp only [sPu]);omega));(focus (first | (left;simp (disch:=(try simp only [sPu]);omega) [h0,h1];done) | (right;simp (disch:=(try simp only [sPu]);omega);done)))))
  refine ops_call oF hc (by simp (disch:=(try simp only [sPu]);omega) [h0,h1]) ?_
  rintro e w1 ⟨v,rfl,hR⟩
  refine ⟨_,rfl,?_⟩
  repeat (first | (apply ops_1;(focus (simp (disch:=(try simp only [sPu]);omega) ;try rfl))) | (apply ops_y;(focus rfl);(focus ((try simp only [sPu]);omega));(focus (simp (disch:=(try simp only [sPu]);omega);done));(focus (simp (disch:=(try simp only [sPu]);omega) ;try rfl))) | (apply ops_n;(focus rfl);(focus ((try simp only [sPu]);omega));(focus (first | (left;simp (disch:=(try simp only [sPu]);omega);done) | (right;simp (disch:=(try simp only [sPu]);omega);done)))))
  refine oNi (SC.wp_ret (ret_tmp hr (by simp [dPu,hd]) ?_))
  simp (disch:=(try simp only [sPu]);omega)
  exact hR
def isErr:Value→Bool
  | .iface _ _=>true
  | _=>false
def ifaceT (P:Program) (T:Nat):Bool:=match P.underlying T with
  | some (.interface _)=>true
  | _=>false
theorem opw_isErr {a:Act} {w:World} {K:Act→World→Prop} {d:Option Tmp} {g:Option (Nat × Bool)} {T T':Nat} {x:Operand} {v:Value} (hT:ifaceT P T=true) (hx:a.eval x=v) (hv:v=.nilIface∨∃ t y,v=.iface t y) (h:K (a.put d (.bool (isErr v))) w) :
    opw P ⟨d,.binOp .neq T x (.const .nilIface) T',g⟩ a w K:=by
  unfold ifaceT at hT
  split at hT <;> try (simp at hT;done)
  rename_i ms hu
  refine oVa (v:=.bool (isErr v)) (by simp) (fun p hp=>?_) h
  have he:(Op.equal T v .nilIface).run P w=.ok (!isErr v) w:=by
    have hd:∀ d,(Op.equalIn (d+1) T v .nilIface).run P w=.ok (!isErr v) w:=fun d=>by
      rcases hv with rfl | ⟨t,y,rfl⟩ <;> simp [Op.equalIn,run_underlying hu,isErr]
    exact hd 9999
  rcases hv with rfl | ⟨t,y,rfl⟩ <;> simp [execOp,hp,hx,eCo,eqGuard,binOp,he,isErr]
def AgC (P:Program) (tU8:Nat) (flex:Option Int) (fs:Fs) (gb m:Nat) (Gl:World→Prop) (F:FuncId):Prop:=FnOK P F∧∀ (w:World) (S:Option Nat) (base:Option Addr) (src:Bytes) (cap v:Nat),v≤m→gb < w.heap.size→(∀ w',Below w.heap.size w w'→Gl w')→SrcAt w S base src→(∀ sb,S=some sb→sb < w.heap.size)→src.length≤lim →
  (∀ xs u r,pMsg v (flexAt flex v) fs src=some ((xs,u),r)→FitFs v fs xs∧FitTags u∧(wMsg v (flexAt flex v) fs xs u).length≤lim) →
  Calls P F #[.int .i64 (v:Int),.slice base src.length cap] w fun e w'=>Below w.heap.size w w' ∧
    match pMsg v (flexAt flex v) fs src with
    | none=>e=.returned (.tuple #[.slice none 0 0,.bool false])
    | some ((xs,u),r)=>∃ dv,e=.returned (.tuple #[dv,.bool true])∧Own tU8 w' w.heap.size dv (wMsg v (flexAt flex v) fs xs u)
theorem res2 {a:Act} {w:World} {r1 r2:Nat} {v1 v2:Value} (hr:fn.results=#[.tmp r1,.tmp r2]) (h1:getT a r1=v1) (h2:getT a r2=v2):(results fn a.tmps).run P w=.ok (.tuple #[v1,v2]) w:=by
  have e1:a.tmps.getD r1 undef=v1:=h1
  have e2:a.tmps.getD r2 undef=v2:=h2
  simp only [Array.getD_eq_getD_getElem?] at e1 e2
  simp [results,hr,e1,e2]
theorem own_base {tU8:Nat} {w:World} {B B':Nat} {dv:Value} {xs:Bytes} (h:Own tU8 w B dv xs) (hB:B'≤B):Own tU8 w B' dv xs:=by
  obtain ⟨h1,h2 | ⟨g,cap,cur,e1,e2,e3⟩⟩:=h
  · exact ⟨h1,.inl h2⟩
  · exact ⟨h1,.inr ⟨g,cap,cur,e1,Nat.le_trans hB e2,e3⟩⟩
theorem pMsg_body {ver:Int} {flex:Bool} {fs:Fs} {b:Bytes}:pMsg ver flex fs b=(pBody ver flex fs b).map fun z=>((z.1.l,z.1.u),z.2):=by
  simp only [pMsg,pBody,rThen]
  cases h1:pFs ver flex fs b with
  | none=>rfl
  | some z =>
    obtain ⟨xs,r⟩:=z
    simp only [Option.bind_some]
    cases h2:pTags flex r with
    | none=>rfl
    | some z2=>rfl
theorem again_ok {I:RIds} {M:RTop} {tU8 gb m T0 T1 T2 T3 F0 F1 F2 F3 FR:Nat} {G:List (Nat × Bytes)→Prop} {Gl:World→Prop} {err:Value} {cs:Array Value} {T:TypeId}
    (h0k:intK P T0=some .i64) (h1k:intK P T1=some .i16) (hT2:u8sB P T2 tU8=true) (hT3:ifaceT P T3=true) (hm:m < 32768) (herr:∃ t y,err=.iface t y)
    (oNP:FnOK P F0) (cNP:∀ w:World,Calls P F0 #[] w fun e w'=>∃ b,e=.returned (.pointer (some ⟨b,0,none⟩))∧w.heap.size≤b∧w'.heap[b]?=some (.cells cs T (0,0))∧Below w.heap.size w w')
    (oSV:FnOK P F1) (cSV:∀ (w:World) (b:Nat) (cs:Array Value) (E:TypeId),w.heap[b]?=some (.cells cs E (0,0))→0 < cs.size→∀ n:Int,Calls P F1 #[.pointer (some ⟨b,0,none⟩),.int .i16 n] w fun e w'=>e=.returned (.tuple #[])∧w'=w.setRow b (cs.setIfInBounds 0 (.int .i16 n)))
    (oRF:FnOK P F2) (cRF:∀ (w:World) (x y:Value) (R:Ending→World→Prop),(Calls P FR #[x,y,.bool false] w fun e w'=>∃ v,e=.returned v∧R e w')→Calls P F2 #[x,y] w R)
    (cR:∀ (B:Nat) (w0:World),gb < B→(∀ w',Below B w0 w'→Gl w')→ReadC P I M B G err FR w0)
    (oAT:FnOK P F3) (cAT:∀ (w:World) (b:Nat) (ver:Int) (ts:List Tree) (u:List (Nat × Bytes)),b < w.heap.size→w.cell? ⟨b,0,none⟩=some (.int .i16 ver)→0≤ver→HFs G w (· < w.heap.size) ver (flexAt M.flex ver) M.fs b 0 ts→TagsAt G w (· < w.heap.size) (flexAt M.flex ver) b 0 M.tags u →
      (wFs ver (flexAt M.flex ver) M.fs ts ++ wTags (flexAt M.flex ver) u).length≤lim→Calls P F3 #[.pointer (some ⟨b,0,none⟩),.slice none 0 0] w fun e w'=>∃ dv,e=.returned dv∧Own tU8 w' w.heap.size dv (wFs ver (flexAt M.flex ver) M.fs ts ++ wTags (flexAt M.flex ver) u)∧Below w.heap.size w w')
    (hsz:M.size≤cs.size) (hs1:1≤M.size) (hlay:layFs 1 (topEnd M.size M.tags) M.fs=true) (hfr:frFsB (fun j=>cs[j]?) M.fs 0=true)
    (hf : P.funcs[f]? = some fn) (hb : fn.body.map strip = some (sc_Again T0 T1 T2 T3 F0 F1 F2 F3)) (hnm : (fn.name == "runtime.NumGoroutine") = false) (hn : fn.ntmps = 19) (hr : fn.results = #[.tmp 4, .tmp 5]) : AgC P tU8 M.flex M.fs gb m Gl f := by
  refine ⟨fnOK_of hf hb hnm,fun w S base src cap v hv hgb hgl hsr hS hlen hfit=>?_⟩
  refine fCa hf hb hn (by simp) fun a0 hs hd ha=>?_
  have h0:=ha 0 _ rfl
  have h1:=ha 1 _ rfl
  simp only [List.getElem_toArray,List.getElem_cons_zero,List.getElem_cons_succ] at h0 h1
  refine SC.wp_seq (SC.wp_reg ?_)
  repeat (first | (apply ops_1;(focus (simp (disch:=(try simp only [sPu]);omega) ;try rfl))) | (apply ops_y;(focus rfl);(focus ((try simp only [sPu]);omega));(focus (simp (disch:=(try simp only [sPu]);omega);done));(focus (simp (disch:=(try simp only [sPu]);omega) ;try rfl))) | (apply ops_n;(focus rfl);(focus ((try simp only [sPu]);omega));(focus (first | (left;simp (disch:=(try simp only [sPu]);omega);done) | (right;simp (disch:=(try simp only [sPu]);omega);done)))))
  refine oNi (SC.wp_seq (SC.wp_reg ?_))
  refine ops_call oNP (cNP w) (by simp (disch:=(try simp only [sPu]);omega)) ?_
  rintro e w1 ⟨b,rfl,hbw,hrow,hb1⟩
  refine ⟨_,rfl,?_⟩
  have hbl1:b < w1.heap.size:=(Array.getElem?_eq_some_iff.1 hrow).1
  repeat (first | (apply ops_1;(focus (simp (disch:=(try simp only [sPu]);omega) ;try rfl))) | (apply ops_y;(focus rfl);(focus ((try simp only [sPu]);omega));(focus (simp (disch:=(try simp only [sPu]);omega);done));(focus (simp (disch:=(try simp only [sPu]);omega) ;try rfl))) | (apply ops_n;(focus rfl);(focus ((try simp only [sPu]);omega));(focus (first | (left;simp (disch:=(try simp only [sPu]);omega);done) | (right;simp (disch:=(try simp only [sPu]);omega);done)))))
  refine oNi (SC.wp_seq (SC.wp_reg ?_))
  have hwv:IntKind.i16.wrap (v:Int)=(v:Int):=by
    simp only [IntKind.wrap,IntKind.bits,IntKind.signed]
    simp
    split <;> omega
  iterate 3 (first | (apply ops_1;(focus (simp (disch:=(try simp only [sPu]);omega) [h0,h0k,h1k,hwv];try rfl))) | (apply ops_y;(focus rfl);(focus ((try simp only [sPu]);omega));(focus (simp (disch:=(try simp only [sPu]);omega) [h0,h0k,h1k,hwv];done));(focus (simp (disch:=(try simp only [sPu]);omega) [h0,h0k,h1k,hwv];try rfl))) | (apply ops_n;(focus rfl);(focus ((try simp only [sPu]);omega));(focus (first | (left;simp (disch:=(try simp only [sPu]);omega) [h0,h0k,h1k,hwv];done) | (right;simp (disch:=(try simp only [sPu]);omega);done)))))
  refine ops_call oSV (cSV w1 b cs T hrow (by omega) (v:Int)) (by simp (disch:=(try simp only [sPu]);omega)) ?_
  rintro e w2 ⟨rfl,hw2⟩
  refine ⟨_,rfl,oNi ?_⟩
  simp only [Exit.then]
  have hrow2:w2.heap[b]?=some (.cells (cs.setIfInBounds 0 (.int .i16 v)) T (0,0)):=by rw [hw2];exact setRow_heap _ _ _ _ _ _ hrow
  have hb2:Below w.heap.size w w2:=by rw [hw2];exact hb1.trans ⟨rfl,rfl,rfl,by simp,fun k hk=>setRow_other _ _ _ _ (by omega)⟩
  have hsz2:w2.heap.size=w1.heap.size:=by rw [hw2];simp
  refine SC.wp_seq (SC.wp_seq (SC.wp_reg ?_))
  iterate 2 (first | (apply ops_1;(focus (simp (disch:=(try simp only [sPu]);omega) [h1];try rfl))) | (apply ops_y;(focus rfl);(focus ((try simp only [sPu]);omega));(focus (simp (disch:=(try simp only [sPu]);omega) [h1];done));(focus (simp (disch:=(try simp only [sPu]);omega) [h1];try rfl))) | (apply ops_n;(focus rfl);(focus ((try simp only [sPu]);omega));(focus (first | (left;simp (disch:=(try simp only [sPu]);omega) [h1];done) | (right;simp (disch:=(try simp only [sPu]);omega);done)))))
  have hS2:SrcAt w2 S base src:=hsr.frame fun sb h=>hb2.block sb (hS sb h)
  have hu8:=(u8s_of hT2).1
  have hsrc:Src P 1 T2 (.slice base src.length cap) src.length (cellsOf src) w2:=by
    cases S with
    | none =>
      obtain ⟨rfl,rfl⟩:=hS2
      exact Src.ofNil w2 hu8 _
    | some sb =>
      obtain ⟨o,rfl,hc⟩:=hS2
      refine Src.ofSlice w2 hu8 ⟨sb,o,none⟩ src.length cap (cellsOf src) (by simp [cLen]) (fun j u hj=>?_) (fun u hu=>?_)
      · rw [add_none]
        simp only [cellsOf,List.getElem?_map,Option.map_eq_some_iff] at hj
        obtain ⟨u',hu',rfl⟩:=hj
        exact hc j u' hu'
      · simp only [cellsOf,List.mem_map] at hu
        obtain ⟨u',_,rfl⟩:=hu
        rfl
  refine oNo rfl (opw_appendU8 (B:=w2.heap.size) (xs:=[]) (bs:=src) (dv:=.slice none 0 0) (xv:=.slice base src.length cap) hT2 (eCo _ _) (by simp (disch:=(try simp only [sPu]);omega)) rfl (World.ownsRow_nil _ _ _ _) (Nat.le_refl _) hsrc (by simpa using hlen) fun dv w3 ho hb3 hbs3 _=>?_)
  rw [List.nil_append] at ho
  have hrow3:w3.heap[b]?=some (.cells (cs.setIfInBounds 0 (.int .i16 v)) T (0,0)):=by rw [hb3.block b (by omega)];exact hrow2
  have hb3':Below w.heap.size w w3:=hb2.trans ⟨hb3.os,hb3.tape,hb3.output,hb3.size,fun k hk=>hb3.block k (by have:=hb2.size;omega)⟩
  obtain ⟨S3,base3,cap3,rfl,hcap3,hsr3,hS3⟩:∃ S3 base3 cap3,dv=.slice base3 src.length cap3∧src.length≤cap3∧SrcAt w3 S3 base3 src∧∀ sb,S3=some sb→sb ≠ b∧sb < w3.heap.size:=by
    obtain ⟨ho1,⟨e1,e2⟩ | ⟨g,c3,cur,e1,e2,e3,e4,e5,e6,e7⟩⟩:=ho
    · have hnil:src=[]:=List.length_eq_zero_iff.1 e2
      subst hnil
      exact ⟨none,none,0,e1,Nat.le_refl _,⟨rfl,rfl⟩,fun sb h=>by cases h⟩
    · refine ⟨some g,some ⟨g,0,none⟩,c3,e1,e4,⟨0,rfl,fun j u hu=>?_⟩,fun sb h=>by cases h;exact ⟨by omega,(Array.getElem?_eq_some_iff.1 e3).1⟩⟩
      rw [cell_of_row _ _ _ _ _ _ e3,Nat.zero_add]
      have hj:(cellsOf src)[j]?=some (cell u):=by simp [cellsOf,hu]
      rw [← e7,List.getElem?_take] at hj
      split at hj
      · rwa [Array.getElem?_toList] at hj
      · cases hj
  have hfr1:FrFs w1 b M.fs 0:=by
    have:=frFsB_ok (w:=w1) (b:=b) (q:=0) (get:=fun j=>cs[j]?) (fun j v hj=>by rw [Nat.zero_add,cell_of_row _ _ _ _ _ _ hrow];exact hj) M.fs 0 hfr
    simpa using this
  have hfr3:FrFs w3 b M.fs 0:=by
    refine frFs_frame (w:=w1) M.fs 1 (topEnd M.size M.tags) 0 hlay (fun j h1 h2=>?_) hfr1
    rw [cell_of_row _ _ _ _ _ _ hrow,cell_of_row _ _ _ _ _ _ hrow3]
    exact Array.getElem?_setIfInBounds_ne (by omega)
  have hcr:=cR w.heap.size w3 hgb (fun w' h=>hgl w' (hb3'.trans h)) S3 b _ T base3 src cap3 (v:Int) (by omega) hbw (by have:=hb3'.size;omega) hrow3 (by rw [Array.size_setIfInBounds];exact hsz) (by simp [show 0 < cs.size by omega]) hfr3 hcap3 hsr3 hS3
  obtain ⟨R,hR⟩:∃ R:Ending→World→Prop,R=fun e w'=>∃ v',e=.returned v'∧((v'=.nilIface∨∃ t y,v'=.iface t y)∧Below w.heap.size w3 w'∧w.heap.size≤w'.heap.size ∧
      match pMsg v (flexAt M.flex v) M.fs src with
      | none=>v'=err
      | some ((xs,u),r)=>v'=.nilIface∧b < w'.heap.size∧w'.cell? ⟨b,0,none⟩=some (.int .i16 v)∧HFs G w' (· < w'.heap.size) v (flexAt M.flex v) M.fs b 0 xs∧TagsAt G w' (· < w'.heap.size) (flexAt M.flex v) b 0 M.tags u):=⟨_,rfl⟩
  refine ops_call oRF (cRF w3 (.pointer (some ⟨b,0,none⟩)) (.slice base3 src.length cap3) R (hcr.mono fun e w' h=>?_)) (by simp (disch:=(try simp only [sPu]);omega)) ?_
  · obtain ⟨z1,z2,z3⟩:=h
    rw [hR]
    simp only [pMsg_body]
    cases hp:pBody v (flexAt M.flex v) M.fs src with
    | none =>
      rw [hp] at z3
      simp only at z3
      subst z3
      exact ⟨_,rfl,_,rfl,.inr herr,z1,z2,rfl⟩
    | some zz =>
      obtain ⟨x,r⟩:=zz
      rw [hp] at z3
      obtain ⟨rfl,y1,y2,y3⟩:=z3
      have hft:=hfit x.l x.u r (by rw [pMsg_body,hp];rfl)
      obtain ⟨F,hF,q1,q2⟩:=y3 hft.1 hft.2.1
      refine ⟨_,rfl,_,rfl,.inl rfl,z1,z2,rfl,y1,y2,?_,?_⟩
      · exact hFs_frame (fun k hk=>⟨hF k hk,rfl⟩) _ _ M.fs 1 (topEnd M.size M.tags) b 0 x.l hlay (fun _ _ _=>rfl) q1
      · cases ht:M.tags with
        | none=>rw [ht] at q2;exact q2
        | some z =>
          rw [ht] at q2
          exact fun hfl=>hTags_frame (fun k hk=>⟨hF k hk,rfl⟩) rfl (q2 hfl)
  rw [hR]
  rintro e w4 ⟨v',rfl,hv',hb4,hs4,hpost⟩
  refine ⟨_,rfl,?_⟩
  refine oNo rfl (opw_isErr (v:=v') hT3 (by simp (disch:=(try simp only [sPu]);omega)) hv' (oNi ?_))
  simp only [Exit.then]
  refine SC.wp_cond (t:=isErr v') (by simp (disch:=(try simp only [sPu]);omega)) ?_
  have hb4':Below w.heap.size w w4:=hb3'.trans hb4
  cases hp:pMsg v (flexAt M.flex v) M.fs src with
  | none =>
    rw [hp] at hpost
    simp only at hpost
    subst hpost
    obtain ⟨t,y,rfl⟩:=herr
    simp only [isErr,if_true]
    refine SC.wp_seq (SC.wp_reg ?_)
    repeat (first | (apply ops_1;(focus (simp (disch:=(try simp only [sPu]);omega) ;try rfl))) | (apply ops_y;(focus rfl);(focus ((try simp only [sPu]);omega));(focus (simp (disch:=(try simp only [sPu]);omega);done));(focus (simp (disch:=(try simp only [sPu]);omega) ;try rfl))) | (apply ops_n;(focus rfl);(focus ((try simp only [sPu]);omega));(focus (first | (left;simp (disch:=(try simp only [sPu]);omega);done) | (right;simp (disch:=(try simp only [sPu]);omega);done)))))
    refine oNi (SC.wp_ret ?_)
    try simp only [Exit.then]
    exact bodyPost_ret_by (v:=.tuple #[.slice none 0 0,.bool false]) (res2 hr (by simp (disch:=(try simp only [sPu]);omega)) (by simp (disch:=(try simp only [sPu]);omega))) (by simp [dPu,hd]) ⟨hb4',rfl⟩
  | some zz =>
    obtain ⟨⟨xs,u⟩,r⟩:=zz
    rw [hp] at hpost
    obtain ⟨rfl,y1,y2,y3,y4⟩:=hpost
    simp only [isErr,Bool.false_eq_true,if_false]
    refine SC.wp_skip ?_
    simp only [Exit.then]
    refine SC.wp_seq (SC.wp_reg ?_)
    iterate 1 (first | (apply ops_1;(focus (simp (disch:=(try simp only [sPu]);omega) ;try rfl))) | (apply ops_y;(focus rfl);(focus ((try simp only [sPu]);omega));(focus (simp (disch:=(try simp only [sPu]);omega);done));(focus (simp (disch:=(try simp only [sPu]);omega) ;try rfl))) | (apply ops_n;(focus rfl);(focus ((try simp only [sPu]);omega));(focus (first | (left;simp (disch:=(try simp only [sPu]);omega);done) | (right;simp (disch:=(try simp only [sPu]);omega);done)))))
    refine ops_call oAT (cAT w4 b v xs u y1 y2 (by omega) y3 y4 (hfit xs u r hp).2.2) (by simp (disch:=(try simp only [sPu]);omega)) ?_
    rintro e w5 ⟨dv5,rfl,ho5,hb5⟩
    refine ⟨_,rfl,?_⟩
    repeat (first | (apply ops_1;(focus (simp (disch:=(try simp only [sPu]);omega) ;try rfl))) | (apply ops_y;(focus rfl);(focus ((try simp only [sPu]);omega));(focus (simp (disch:=(try simp only [sPu]);omega);done));(focus (simp (disch:=(try simp only [sPu]);omega) ;try rfl))) | (apply ops_n;(focus rfl);(focus ((try simp only [sPu]);omega));(focus (first | (left;simp (disch:=(try simp only [sPu]);omega);done) | (right;simp (disch:=(try simp only [sPu]);omega);done)))))
    refine oNi (SC.wp_ret ?_)
    try simp only [Exit.then]
    exact bodyPost_ret_by (v:=.tuple #[dv5,.bool true]) (res2 hr (by simp (disch:=(try simp only [sPu]);omega)) (by simp (disch:=(try simp only [sPu]);omega))) (by simp [dPu,hd]) ⟨hb4'.trans ⟨hb5.os,hb5.tape,hb5.output,hb5.size,fun k hk=>hb5.block k (by omega)⟩,dv5,rfl,own_base ho5 (by omega)⟩
end
end Go.Proofs.YtgaplicnofhliaaDoor.K
namespace Go.Proofs.YtgaplicnofhliaaDoor.K
open Go Go.RowKit Go.Proofs.YtgaplicnofhliaaDoor.T
set_option linter.unusedVariables false
section
variable {P:Program} {f:FuncId} {fn:Func}
theorem ops_callg {all:List SOp} {a:Act} {w:World} {t g j dj:Nat} {want:Bool} {args:Array Operand} {argsV:Array Value} {r:List SOp} {K:Act→World→Prop} {R:Ending→World→Prop} (hj:(all[j]?).bind (·.dst)=some dj) (hlt:dj < a.tmps.size) (hb:getT a dj=.bool want) (hf:FnOK P g) (hc:Calls P g argsV w R) (hargs:args.map a.eval=argsV)
    (hR:∀ e w',R e w'→∃ v,e=.returned v∧opsw P all r K (a.put (some t) v) w'):opsw P all (⟨some t,.call ⟨.value (.func g),args,#[]⟩,some (j,want)⟩ :: r) K a w:=by
  obtain ⟨fn,h1,h2,h3⟩:=hf
  refine ⟨dj,want,hj,hlt,.inl hb,?_⟩
  rw [if_pos rfl]
  exact opw_call (R:=R) h1 h2 h3 (by rw [hargs];exact hc) hR
theorem own_src {tU8:Nat} {w:World} {B:Nat} {dv:Value} {xs:Bytes} (h:Own tU8 w B dv xs):∃ S base cap,dv=.slice base xs.length cap∧SrcAt w S base xs∧∀ sb,S=some sb→B≤sb∧sb < w.heap.size:=by
  obtain ⟨ho1,⟨e1,e2⟩ | ⟨g,c3,cur,e1,e2,e3,e4,e5,e6,e7⟩⟩:=h
  · have hnil:xs=[]:=List.length_eq_zero_iff.1 e2
    subst hnil
    exact ⟨none,none,0,e1,⟨rfl,rfl⟩,fun sb h=>by cases h⟩
  · refine ⟨some g,some ⟨g,0,none⟩,c3,e1,⟨0,rfl,fun j u hu=>?_⟩,fun sb h=>by cases h;exact ⟨e2,(Array.getElem?_eq_some_iff.1 e3).1⟩⟩
    rw [cell_of_row _ _ _ _ _ _ e3,Nat.zero_add]
    have hj:(cellsOf xs)[j]?=some (cell u):=by simp [cellsOf,hu]
    rw [← e7,List.getElem?_take] at hj
    split at hj
    · rwa [Array.getElem?_toList] at hj
    · cases hj
end
end Go.Proofs.YtgaplicnofhliaaDoor.K
namespace Go.Proofs.YtgaplicnofhliaaDoor.K
open Go Go.RowKit Go.Proofs.YtgaplicnofhliaaDoor.T
set_option linter.unusedSimpArgs false
set_option linter.unusedVariables false
set_option maxHeartbeats 4000000
def hasSub:Ty→Bool
  | .struct _ _ _ _ _=>true
  | .list _ _ _ of=>hasSub of
  | .prim _=>false
def ofPart:Ty→List (Nat × Int)
  | .list _ _ _ of=>[(6,kindOf of)]
  | _=>[]
def fldInts (h:Hd) (ty:Ty):List (Nat × Int) :=
  (0,kindOf ty) :: (if h.from_=0 then [] else [(1,h.from_)]) ++ [(2,h.to),(3,h.null),(4,-1)] ++ (if h.dflt=0 then [] else [(5,h.dflt)]) ++ ofPart ty
def fldParts (h:Hd) (ty:Ty) (sub:Option Nat):List (Nat × Operand) :=
  (fldInts h ty).map (fun x=>(x.1,.const (.int .i64 x.2))) ++ (match sub with | some t=>[(7,.tmp t)] | none=>[])
def bOps (F:Nat):Fs→List Nat→Nat→List SOp
  | .nil,_,_=>[]
  | .cons h ty r,subs,t =>
    if hasSub ty then cal t (subs.headD 0) [] :: ⟨some (t+1),.build F (fldParts h ty (some t)).toArray,none⟩ :: bOps F r subs.tail (t+2)
    else ⟨some t,.build F (fldParts h ty none).toArray,none⟩ :: bOps F r subs (t+1)
def bSlots:Fs→Nat→List Nat
  | .nil,_=>[]
  | .cons _ ty r,t=>if hasSub ty then (t+1) :: bSlots r (t+2) else t :: bSlots r (t+1)
def bEnd:Fs→Nat→Nat
  | .nil,t=>t
  | .cons _ ty r,t=>if hasSub ty then bEnd r (t+2) else bEnd r (t+1)
def bSlice (Fs_:Nat) (fs:Fs):SOp:=⟨some (bEnd fs 1),.buildSlice Fs_ (Fs.len fs) (((bSlots fs 1).zipIdx 0).map fun x=>(x.2,.tmp x.1)).toArray,none⟩
def sc_bSub (F Fs_:Nat) (fs:Fs) (subs:List Nat):SC :=
  .seq (.reg [⟨some 0,.assign (.const (.slice none 0 0)),none⟩]) (.seq (.reg (bOps F fs subs 1 ++ [bSlice Fs_ fs,asg 0 (bEnd fs 1)])) .ret)
def sc_bTop (F Fs_ M:Nat) (fs:Fs) (flex:Int) (subs:List Nat):SC :=
  .seq (.reg [⟨some 0,.alloc M,none⟩]) (.seq (.reg (bOps F fs subs 1 ++ [bSlice Fs_ fs,⟨some (bEnd fs 1+1),.build M #[(1,.const (.int .i64 flex)),(0,.tmp (bEnd fs 1))],none⟩,⟨none,.store M (.tmp 0) (.tmp (bEnd fs 1+1)),none⟩])) .ret)
def zeroF:List Value:=[.int .i64 0,.int .i64 0,.int .i64 0,.int .i64 0,.int .i64 0,.int .i64 0,.int .i64 0,.slice none 0 0]
def fOK (P:Program) (F:Nat):Bool :=
  match P.info? F,P.underlying F with
  | some it,some (.struct fields) =>
    match it.zero,fields.toList.mapM (fun f=>(P.info? f.type).map fun i=>(f.offset,i.size)) with
    | some (.agg ⟨[.int .i64 0,.int .i64 0,.int .i64 0,.int .i64 0,.int .i64 0,.int .i64 0,.int .i64 0,.slice none 0 0]⟩),some [(0,1),(1,1),(2,1),(3,1),(4,1),(5,1),(6,1),(7,1)]=>true
    | _,_=>false
  | _,_=>false
def setAll:List (Nat × Value)→List Value→List Value
  | [],cs=>cs
  | (i,v) :: r,cs=>setAll r (cs.set i v)
section
variable {P:Program} {X:STy} {f:FuncId} {fn:Func}
theorem fill8:∀ (parts:List (Nat × Value)) (cs:List Value),cs.length=8→(∀ x ∈ parts,x.1 < 8∧x.2.cells=#[x.2]) →
    Instr.fill (fun x=>(#[(0,1),(1,1),(2,1),(3,1),(4,1),(5,1),(6,1),(7,1)]:Array (Nat × Nat))[x]?) cs.toArray parts=some (setAll parts cs).toArray
  | [],cs,_,_=>by simp [Instr.fill,setAll]
  | (i,v) :: r,cs,hl,h=>by
    obtain ⟨h1,h2⟩:=h (i,v) List.mem_cons_self
    have ih:=fill8 r (cs.set i v) (by simpa using hl) (fun x hx=>h x (List.mem_cons_of_mem _ hx))
    have hp:(#[(0,1),(1,1),(2,1),(3,1),(4,1),(5,1),(6,1),(7,1)]:Array (Nat × Nat))[i]?=some (i,1):=by
      have:i=0∨i=1∨i=2∨i=3∨i=4∨i=5∨i=6∨i=7:=by simp only at h1;omega
      rcases this with rfl | rfl | rfl | rfl | rfl | rfl | rfl | rfl <;> rfl
    simp only at h1 h2
    unfold Instr.fill
    rw [hp]
    simp only [h2,setAll]
    have hc:¬ (i+1 > cs.length):=by omega
    simp [hl,show ¬ (8 < i+1) by omega]
    simpa using ih
theorem built8 (h:fOK P X.F=true) (parts:List (Nat × Value)) (hp:∀ x ∈ parts,x.1 < 8∧x.2.cells=#[x.2]):P.built X.F parts=some (setAll parts zeroF).toArray:=by
  unfold fOK at h
  split at h <;> try (simp at h;done)
  rename_i it fields hi hu
  split at h <;> try (simp at h;done)
  rename_i hz hpl
  unfold Program.built
  simp only [hi,hu,hz,hpl]
  exact fill8 parts zeroF rfl hp
def ofOK2 (of_:Int):Ty→Prop
  | .list _ _ _ of=>of_=kindOf of
  | _=>True
theorem fldInts_set (h:Hd) (ty:Ty):∃ of_,ofOK2 of_ ty∧setAll ((fldInts h ty).map fun x=>(x.1,Value.int .i64 x.2)) zeroF=[.int .i64 (kindOf ty),.int .i64 h.from_,.int .i64 h.to,.int .i64 h.null,.int .i64 (-1),.int .i64 h.dflt,.int .i64 of_,.slice none 0 0]:=by
  have e:∀ (l:List (Nat × Int)) (of_:Int),ofPart ty=l→(l=[]∧of_=0∨l=[(6,of_)])→setAll ((fldInts h ty).map fun x=>(x.1,Value.int .i64 x.2)) zeroF=[.int .i64 (kindOf ty),.int .i64 h.from_,.int .i64 h.to,.int .i64 h.null,.int .i64 (-1),.int .i64 h.dflt,.int .i64 of_,.slice none 0 0]:=by
    intro l of_ hl ho
    unfold fldInts
    rw [hl]
    rcases ho with ⟨rfl,rfl⟩ | rfl <;> by_cases e1:h.from_=0 <;> by_cases e2:h.dflt=0 <;> simp [e1,e2,setAll,zeroF]
  cases ty with
  | prim k=>exact ⟨0,trivial,e [] 0 rfl (.inl ⟨rfl,rfl⟩)⟩
  | struct _ _ _ _ _=>exact ⟨0,trivial,e [] 0 rfl (.inl ⟨rfl,rfl⟩)⟩
  | list _ _ _ of=>exact ⟨kindOf of,rfl,e [(6,kindOf of)] _ rfl (.inr rfl)⟩
def SubFns (P:Program):Fs→List Nat→Prop
  | .nil,_=>True
  | .cons _ ty r,subs=>if hasSub ty then
      (FnOK P (subs.headD 0)∧∀ w:World,Calls P (subs.headD 0) #[] w fun e w'=>∃ v,e=.returned v∧v.oneCell'=true∧SubV w' (fun k=>w.heap.size≤k∧k < w'.heap.size) ty v∧Below w.heap.size w w')∧SubFns P r subs.tail
    else SubFns P r subs
def flatTy:Ty→Bool
  | .list _ _ _ of=>!isList of
  | _=>true
def flatFs:Fs→Bool
  | .nil=>true
  | .cons _ ty r=>flatTy ty && flatFs r
def FsRows (w:World) (F:Nat→Prop):Fs→List (List Value)→Prop
  | .nil,rows=>rows=[]
  | .cons h ty r,rows=>∃ of_ sub rest,rows=[.int .i64 (kindOf ty),.int .i64 h.from_,.int .i64 h.to,.int .i64 h.null,.int .i64 (-1),.int .i64 h.dflt,.int .i64 of_,sub] :: rest∧sub.oneCell'=true∧ofOK of_ ty∧SubV w F ty sub∧FsRows w F r rest
theorem FsRows.mono {w0 w:World} {F F':Nat→Prop} (hF:∀ k,F k→F' k) (hw:∀ k,F k→w.heap[k]?=w0.heap[k]?):∀ (fs:Fs) (rows:List (List Value)),FsRows w0 F fs rows→FsRows w F' fs rows
  | .nil,_,h=>h
  | .cons h ty r,rows,hh=>by
    simp only [FsRows] at hh ⊢
    obtain ⟨of_,sub,rest,h1,h2,h3,h4,h5⟩:=hh
    exact ⟨of_,sub,rest,h1,h2,h3,SubV.mono hF hw ty sub h4,FsRows.mono hF hw r rest h5⟩
theorem fsAt_rows {w:World} {F:Nat→Prop} {b:Nat}:∀ (fs:Fs) (rows:List (List Value)) (o:Nat),FsRows w F fs rows→(∀ i v,rows.flatten[i]?=some v→w.cell? ⟨b,o+i,none⟩=some v)→FsAt w F fs b o
  | .nil,_,_,_,_=>by simp [FsAt]
  | .cons h ty r,rows,o,hh,hc=>by
    simp only [FsRows] at hh
    obtain ⟨of_,sub,rest,rfl,h2,h3,h4,h5⟩:=hh
    simp only [FsAt]
    refine ⟨⟨of_,sub,?_,h2,h3,h4⟩,fsAt_rows r rest (o+8) h5 (fun i v hv=>?_)⟩
    · refine rangeV_of [.int .i64 (kindOf ty),.int .i64 h.from_,.int .i64 h.to,.int .i64 h.null,.int .i64 (-1),.int .i64 h.dflt,.int .i64 of_,sub] o (fun j v hv=>hc j v ?_)
      rw [List.flatten_cons,List.getElem?_append_left (by have:=(List.getElem?_eq_some_iff.1 hv).1;simpa using this)]
      exact hv
    · rw [show o+8+i=o+(i+8) by omega]
      refine hc (i+8) v ?_
      rw [List.flatten_cons,List.getElem?_append_right (by simp)]
      simpa using hv
theorem fsRows_len {w:World} {F:Nat→Prop}:∀ (fs:Fs) (rows:List (List Value)),FsRows w F fs rows→rows.length=Fs.len fs∧∀ r ∈ rows,r.length=8
  | .nil,rows,h=>by simp only [FsRows] at h;subst h;simp [Fs.len]
  | .cons h ty r,rows,hh=>by
    simp only [FsRows] at hh
    obtain ⟨of_,sub,rest,rfl,h2,h3,h4,h5⟩:=hh
    obtain ⟨q1,q2⟩:=fsRows_len r rest h5
    refine ⟨by simp [Fs.len,q1],fun x hx=>?_⟩
    rcases List.mem_cons.1 hx with rfl | hx
    · rfl
    · exact q2 x hx
theorem ofOK_of {of_:Int} {ty:Ty} (hfl:flatTy ty=true) (h:ofOK2 of_ ty):ofOK of_ ty:=by
  cases ty with
  | list _ _ _ of =>
    simp only [flatTy,Bool.not_eq_true'] at hfl
    exact ⟨h,hfl⟩
  | prim k=>exact trivial
  | struct _ _ _ _ _=>exact trivial
theorem fldInts_lt (h:Hd) (ty:Ty):∀ x ∈ fldInts h ty,x.1 < 7:=by
  intro x hx
  have a1:∀ (c:Prop) [Decidable c] (k:Nat) (v:Int),x ∈ (if c then [] else [(k,v)])→x.1=k:=by
    intro c _ k v hx
    split at hx
    · simp at hx
    · simp at hx;rw [hx]
  have a2:x ∈ ofPart ty→x.1=6:=by
    intro hx
    cases ty <;> simp [ofPart] at hx
    rw [hx]
  simp only [fldInts,List.mem_append,List.mem_cons,List.not_mem_nil,or_false] at hx
  rcases hx with (((hx | hx) | (hx | hx | hx)) | hx) | hx
  · rw [hx];simp
  · have:=a1 _ _ _ hx;omega
  · rw [hx];simp
  · rw [hx];simp
  · rw [hx];simp
  · have:=a1 _ _ _ hx;omega
  · have:=a2 hx;omega
theorem setAll_append:∀ (l l':List (Nat × Value)) (cs:List Value),setAll (l ++ l') cs=setAll l' (setAll l cs)
  | [],_,_=>rfl
  | (i,v) :: l,l',cs=>by simp only [List.cons_append,setAll,setAll_append l l']
theorem bEnd_ge:∀ (fs:Fs) (t:Nat),t≤bEnd fs t
  | .nil,t=>Nat.le_refl _
  | .cons _ ty r,t=>by
    simp only [bEnd]
    split
    · have:=bEnd_ge r (t+2);omega
    · have:=bEnd_ge r (t+1);omega
theorem subV_none {w:World} {F:Nat→Prop}:∀ (ty:Ty) (v:Value),hasSub ty=false→SubV w F ty v
  | .prim _,_,_=>by simp [SubV]
  | .struct _ _ _ _ _,_,h=>by simp [hasSub] at h
  | .list _ _ _ of,v,h=>by
    simp only [hasSub] at h
    simp only [SubV]
    exact subV_none of v h
theorem cells_one {v:Value} (h:v.oneCell'=true):v.cells=#[v]:=cells_oneCell h
theorem bOps_ok (hX:fOK P X.F=true):∀ (fs:Fs) (subs:List Nat) (t:Nat) (all r:List SOp) (K:Act→World→Prop) (a:Act) (w:World),flatFs fs=true→SubFns P fs subs→bEnd fs t≤a.tmps.size →
    (∀ (a':Act) (w':World) (rows:List (List Value)),a'.tmps.size=a.tmps.size→a'.defers=a.defers→(∀ s,s < t→getT a' s=getT a s)→FsRows w' (fun k=>w.heap.size≤k∧k < w'.heap.size) fs rows→((bSlots fs t).map (getT a'))=rows.map (fun r=>Value.agg r.toArray)→Below w.heap.size w w'→opsw P all r K a' w') →
    opsw P all (bOps X.F fs subs t ++ r) K a w
  | .nil,subs,t,all,r,K,a,w,_,_,_,h=>h a w [] rfl rfl (fun _ _=>rfl) rfl rfl (Below.refl _ _)
  | .cons hd ty rs,subs,t,all,r,K,a,w,hfl,hsf,hsz,h=>by
    simp only [flatFs,Bool.and_eq_true] at hfl
    obtain ⟨of_,hof,hset⟩:=fldInts_set hd ty
    have hints:∀ x ∈ (fldInts hd ty).map (fun x=>(x.1,Value.int .i64 x.2)),x.1 < 8∧x.2.cells=#[x.2]:=by
      intro x hx
      obtain ⟨y,hy,rfl⟩:=List.mem_map.1 hx
      have:=fldInts_lt hd ty y hy
      exact ⟨by simp only;omega,rfl⟩
    cases hs:hasSub ty
    · simp only [SubFns,hs,Bool.false_eq_true,if_false] at hsf
      simp only [bEnd,hs,Bool.false_eq_true,if_false] at hsz
      have hge:=bEnd_ge rs (t+1)
      simp only [bOps,bSlots,hs,Bool.false_eq_true,if_false,List.cons_append] at h ⊢
      refine oNo rfl (opw_build (cs:=#[.int .i64 (kindOf ty),.int .i64 hd.from_,.int .i64 hd.to,.int .i64 hd.null,.int .i64 (-1),.int .i64 hd.dflt,.int .i64 of_,.slice none 0 0]) ?_ ?_)
      · have:=built8 hX _ hints
        rw [hset] at this
        rw [← this]
        simp [fldParts]
        rfl
      refine bOps_ok hX rs subs (t+1) all r K _ w hfl.2 hsf (by rw [sPu];exact hsz) ?_
      intro a' w' rows q qd qs qr qm qb
      refine h a' w' ([.int .i64 (kindOf ty),.int .i64 hd.from_,.int .i64 hd.to,.int .i64 hd.null,.int .i64 (-1),.int .i64 hd.dflt,.int .i64 of_,.slice none 0 0] :: rows) (by rw [q,sPu]) (by rw [qd,dPu]) ?_ ?_ ?_ qb
      · intro s hs
        rw [qs s (by omega),gTn (by omega)]
      · simp only [FsRows]
        exact ⟨of_,_,rows,rfl,rfl,ofOK_of hfl.1 hof,subV_none ty _ hs,qr⟩
      · simp only [List.map_cons]
        rw [qm,qs t (by omega),gTp (by omega)]
    · simp only [SubFns,hs,if_true] at hsf
      obtain ⟨⟨oF,cF⟩,hsf⟩:=hsf
      simp only [bEnd,hs,if_true] at hsz
      have hge:=bEnd_ge rs (t+2)
      simp only [bOps,bSlots,hs,if_true,List.cons_append] at h ⊢
      refine ops_cal oF (R:=fun e w'=>∃ v,e=.returned v∧v.oneCell'=true∧SubV w' (fun k=>w.heap.size≤k∧k < w'.heap.size) ty v∧Below w.heap.size w w') (cF w) ?_
      rintro e w1 ⟨v,rfl,hv1,hsv,hb1⟩
      refine ⟨v,rfl,?_⟩
      have hs1:w.heap.size≤w1.heap.size:=hb1.size
      refine oNo rfl (opw_build (cs:=#[.int .i64 (kindOf ty),.int .i64 hd.from_,.int .i64 hd.to,.int .i64 hd.null,.int .i64 (-1),.int .i64 hd.dflt,.int .i64 of_,v]) ?_ ?_)
      · have:=built8 hX ((fldInts hd ty).map (fun x=>(x.1,Value.int .i64 x.2)) ++ [(7,v)]) (by
          intro x hx
          rcases List.mem_append.1 hx with hx | hx
          · exact hints x hx
          · simp at hx
            subst hx
            exact ⟨by simp,cells_one hv1⟩)
        rw [setAll_append,hset] at this
        simp only [setAll,List.set_cons_succ,List.set_cons_zero] at this
        rw [← this]
        have ht:getT (a.put (some t) v) t=v:=gTp (by omega)
        simp [fldParts,eTm,ht]
        rfl
      refine bOps_ok hX rs subs.tail (t+2) all r K _ w1 hfl.2 hsf (by rw [sPu,sPu];exact hsz) ?_
      intro a' w' rows q qd qs qr qm qb
      have hs2:w1.heap.size≤w'.heap.size:=qb.size
      refine h a' w' ([.int .i64 (kindOf ty),.int .i64 hd.from_,.int .i64 hd.to,.int .i64 hd.null,.int .i64 (-1),.int .i64 hd.dflt,.int .i64 of_,v] :: rows) (by rw [q,sPu,sPu]) (by rw [qd,dPu,dPu]) ?_ ?_ ?_ (hb1.trans (qb.mono hs1))
      · intro s hs
        rw [qs s (by omega),gTn (by omega),gTn (by omega)]
      · simp only [FsRows]
        refine ⟨of_,v,rows,rfl,hv1,ofOK_of hfl.1 hof,SubV.mono (fun k hk=>?_) (fun k hk=>qb.block k hk.2) ty v hsv,FsRows.mono (w0:=w') (fun k hk=>?_) (fun _ _=>rfl) rs rows qr⟩
        · omega
        · omega
      · simp only [List.map_cons]
        rw [qm,qs (t+1) (by omega),gTp (by rw [sPu];omega)]
theorem opw_buildFs (hX:fOK P X.F=true) (hS:P.underlying X.Fs=some (.slice X.F)) (hF8:∃ i,P.info? X.F=some i∧i.size=8) {a:Act} {w:World} {K:Act→World→Prop} {d:Option Tmp} {g:Option (Nat × Bool)} {n:Nat} {slots:List Nat} {rows:List (List Value)} (hn:n=rows.length) (hn0:0 < n) (hn1:n≤1000) (hm:slots.map (getT a)=rows.map (fun r=>Value.agg r.toArray)) (hr:∀ r ∈ rows,r.length=8)
    (h:K (a.put d (.slice (some ⟨w.heap.size,0,none⟩) n n)) (w.alloc (.cells rows.flatten.toArray X.F))):opw P ⟨d,.buildSlice X.Fs n (((slots.zipIdx 0).map fun x=>(x.2,Operand.tmp x.1)).toArray),g⟩ a w K:=by
  obtain ⟨i,hi,hs8⟩:=hF8
  have hz:∃ z,i.zero=some z:=by
    unfold fOK at hX
    rw [hi] at hX
    split at hX <;> try (simp at hX;done)
    rename_i it fields h1 h2
    split at hX <;> try (simp at hX;done)
    rename_i hz _
    cases h1
    exact ⟨_,hz⟩
  obtain ⟨z,hz⟩:=hz
  have hparts:((((slots.zipIdx 0).map fun x=>(x.2,Operand.tmp x.1)).toArray).map fun x=>(x.1,a.eval x.2)).toList=(((rows.map fun r=>Value.agg r.toArray).zipIdx 0).map fun x=>(x.2,x.1)):=by
    rw [← hm,List.zipIdx_map,List.map_map]
    simp [eTm,Function.comp_def]
  have hfill:=Go.Great.fill_whole (s:=8) (by decide) (rows.map fun r=>Value.agg r.toArray) ((Array.range (n * i.size)).map (z.cells[· % z.cells.size]!)) (by
    intro v hv
    obtain ⟨r,hr',rfl⟩:=List.mem_map.1 hv
    simpa [Value.cells] using hr r hr') (by rw [hs8];simp [hn])
  have hfl:(rows.map fun r=>Value.agg r.toArray).flatMap (fun v=>v.cells.toList)=rows.flatten:=by
    rw [List.flatMap_map]
    simp [Value.cells,List.flatMap_def]
  rw [hfl] at hfill
  refine oVa (v:=.slice (some ⟨w.heap.size,0,none⟩) n n) (w':=w.alloc (.cells rows.flatten.toArray X.F)) (by simp) (fun p hp=>?_) h
  have hrun:=run_buildSlice (P:=P) w X.Fs X.F n ((((slots.zipIdx 0).map fun x=>(x.2,Operand.tmp x.1)).toArray).map fun x=>(x.1,a.eval x.2)) rows.flatten.toArray i z hS hi hz (by rw [hs8];omega) (by rw [hs8];omega) (by rw [hparts,hs8] at *;exact hfill)
  simp only [execOp,hp]
  simp only [Sem.run_bind]
  rw [hrun]
  rfl
end
end Go.Proofs.YtgaplicnofhliaaDoor.K
namespace Go.Proofs.YtgaplicnofhliaaDoor.K
open Go Go.RowKit Go.Proofs.YtgaplicnofhliaaDoor.T
set_option linter.unusedSimpArgs false
set_option linter.unusedVariables false
set_option maxHeartbeats 4000000
section
variable {P:Program} {X:STy} {f:FuncId} {fn:Func}
theorem bSlots_lt:∀ (fs:Fs) (t:Nat),∀ s ∈ bSlots fs t,s < bEnd fs t
  | .nil,_,s,h=>by simp [bSlots] at h
  | .cons _ ty r,t,s,h=>by
    simp only [bSlots,bEnd] at h ⊢
    cases hs:hasSub ty
    · simp only [hs,Bool.false_eq_true,if_false] at h ⊢
      rcases List.mem_cons.1 h with rfl | h
      · have:=bEnd_ge r (s+1);omega
      · exact bSlots_lt r (t+1) s h
    · simp only [hs,if_true] at h ⊢
      rcases List.mem_cons.1 h with rfl | h
      · have:=bEnd_ge r (t+2);omega
      · exact bSlots_lt r (t+2) s h
theorem bSlice_ok (hX:stOK P X=true) (hF:fOK P X.F=true) (hS:P.underlying X.Fs=some (.slice X.F)) (fs:Fs) (subs:List Nat) (hfl:flatFs fs=true) (hsf:SubFns P fs subs) (hlen:0 < Fs.len fs∧Fs.len fs≤1000) {all r:List SOp} {K:Act→World→Prop} {a:Act} {w:World} (hsz:bEnd fs 1 < a.tmps.size)
    (h:∀ (a':Act) (w':World) (v:Value),a'.tmps.size=a.tmps.size→a'.defers=a.defers→getT a' 0=getT a 0→getT a' (bEnd fs 1)=v→(∃ b l c,v=.slice b l c)→FsV w' (fun k=>w.heap.size≤k∧k < w'.heap.size) fs v→Below w.heap.size w w'→opsw P all r K a' w') :
    opsw P all (bOps X.F fs subs 1 ++ bSlice X.Fs fs :: r) K a w:=by
  have hst:=st_facts hX
  have hF8:∃ i,P.info? X.F=some i∧i.size=8:=by
    obtain ⟨i,hi,hs,_⟩:=agg_of (w:=w) (aggB_of hst.2.2.1.2.1)
    exact ⟨i,hi,hs⟩
  refine bOps_ok hF fs subs 1 all _ K a w hfl hsf (by omega) ?_
  intro a' w' rows q qd qs qr qm qb
  obtain ⟨hrl,hr8⟩:=fsRows_len fs rows qr
  have h1:=bEnd_ge fs 1
  refine oNo rfl (opw_buildFs hF hS hF8 hrl.symm hlen.1 hlen.2 qm hr8 ?_)
  have hnew:=heap_alloc_new w' (.cells rows.flatten.toArray X.F)
  have hbn:Below w'.heap.size w' (w'.alloc (.cells rows.flatten.toArray X.F)):=(Below.refl _ _).alloc (Nat.le_refl _) _
  have hsn:(w'.alloc (.cells rows.flatten.toArray X.F)).heap.size=w'.heap.size+1:=by simp
  have hsw:w.heap.size≤w'.heap.size:=qb.size
  generalize w'.alloc (.cells rows.flatten.toArray X.F)=w2 at *
  refine h _ w2 (.slice (some ⟨w'.heap.size,0,none⟩) (Fs.len fs) (Fs.len fs)) (by rw [sPu,q]) (by rw [dPu,qd]) (by rw [gTn (by omega),qs 0 (by omega)]) (by rw [gTp (by omega)]) ⟨_,_,_,rfl⟩ ⟨_,_,rfl,.inr ⟨w'.heap.size,0,rfl,⟨by omega,by omega⟩,?_⟩⟩ (qb.trans (hbn.mono hsw))
  refine fsAt_rows fs rows 0 (FsRows.mono (fun k hk=>⟨hk.1,by omega⟩) (fun k hk=>hbn.block k hk.2) fs rows qr) (fun i v hv=>?_)
  rw [cell_of_row _ _ _ _ _ _ hnew]
  simpa using hv
theorem bSub_ok (hX:stOK P X=true) (hF:fOK P X.F=true) (hS:P.underlying X.Fs=some (.slice X.F)) (fs:Fs) (subs:List Nat) (hfl:flatFs fs=true) (hsf:SubFns P fs subs) (hlen:0 < Fs.len fs∧Fs.len fs≤1000)
    (hf:P.funcs[f]?=some fn) (hb:fn.body.map strip=some (sc_bSub X.F X.Fs fs subs)) (hn:fn.ntmps=bEnd fs 1+1) (hr:fn.results=#[.tmp 0]) (w:World) :
    Calls P f #[] w fun e w'=>∃ v,e=.returned v∧v.oneCell'=true∧FsV w' (fun k=>w.heap.size≤k∧k < w'.heap.size) fs v∧Below w.heap.size w w':=by
  refine fCa hf hb hn (by simp) fun a0 hs hd ha=>?_
  refine SC.wp_seq (SC.wp_reg (oNo rfl (opw_assign (oNi ?_))))
  refine SC.wp_seq (SC.wp_reg ?_)
  refine bSlice_ok hX hF hS fs subs hfl hsf hlen (by rw [sPu,hs];omega) ?_
  intro a' w' v q qd q0 qe hv qf qb
  refine ops_asg (oNi (SC.wp_ret (ret_tmp hr (by rw [dPu,qd,dPu,hd]) ⟨v,?_,?_,qf,qb⟩)))
  · rw [gTp (by rw [q,sPu,hs];omega),qe]
  · obtain ⟨b,l,c,rfl⟩:=hv;rfl
theorem bTop_ok (hX:stOK P X=true) (hF:fOK P X.F=true) (hS:P.underlying X.Fs=some (.slice X.F)) (hM:arrB P X.M 2=true) (hMb:∀ (n:Int) (b:Option Addr) (l c:Nat),P.built X.M [(1,.int .i64 n),(0,.slice b l c)]=some #[.slice b l c,.int .i64 n])
    (fs:Fs) (flex:Int) (subs:List Nat) (hfl:flatFs fs=true) (hsf:SubFns P fs subs) (hlen:0 < Fs.len fs∧Fs.len fs≤1000)
    (hf:P.funcs[f]?=some fn) (hb:fn.body.map strip=some (sc_bTop X.F X.Fs X.M fs flex subs)) (hn:fn.ntmps=bEnd fs 1+2) (hr:fn.results=#[.cell 0 X.M]) (w:World) :
    Calls P f #[] w fun e w'=>∃ v,e=.returned (msgV v flex)∧v.oneCell'=true∧FsV w' (fun k=>w.heap.size≤k∧k < w'.heap.size) fs v∧Below w.heap.size w w':=by
  have hst:=st_facts hX
  obtain ⟨hM1,iM,zM,hiM,hzM,hzMs⟩:=arr_of hM
  refine fCa hf hb hn (by simp) fun a0 hs hd ha=>?_
  refine SC.wp_seq (SC.wp_reg (oNo rfl (opw_alloc hiM hzM (oNi ?_))))
  have hnew:=heap_alloc_new w (.cells zM.cells X.M)
  have hbn:Below w.heap.size w (w.alloc (.cells zM.cells X.M)):=(Below.refl _ _).alloc (Nat.le_refl _) _
  have hsn:(w.alloc (.cells zM.cells X.M)).heap.size=w.heap.size+1:=by simp
  generalize w.alloc (.cells zM.cells X.M)=w1 at *
  refine SC.wp_seq (SC.wp_reg ?_)
  have hge:=bEnd_ge fs 1
  refine bSlice_ok hX hF hS fs subs hfl hsf hlen (by rw [sPu,hs];omega) ?_
  intro a' w' v q qd q0 qe hv qf qb
  rw [gTp (by omega)] at q0
  rw [sPu,hs] at q
  rw [dPu,hd] at qd
  obtain ⟨b,l,c,rfl⟩:=hv
  have hsw:w1.heap.size≤w'.heap.size:=qb.size
  refine oNo rfl (opw_build (cs:=#[.slice b l c,.int .i64 flex]) ?_ ?_)
  · rw [← hMb]
    congr 1
    simp [eCo,eTm,qe]
  have hn1:w'.heap[w.heap.size]?=_:=(qb.block w.heap.size (by omega)).trans hnew
  refine oNo rfl (opw_store_agg (b:=w.heap.size) (cs:=[.slice b l c,.int .i64 flex]) hM1 ?_ ?_ hn1 (by simp [hzMs]) (by simp [Value.oneCell']) (oNi (SC.wp_ret ?_)))
  · rw [eTm,gTn (by omega)];exact q0
  · rw [eTm,gTp (by omega)]
  have hnf:=setRow_heap w' w.heap.size _ #[Value.slice b l c,.int .i64 flex] _ _ hn1
  refine ret_cell hr (by simp [hst]) (b:=w.heap.size) ?_ hnf (by rw [pNo,dPu,qd]) ⟨.slice b l c,rfl,rfl,?_,below_setRow (hbn.trans (qb.mono (by omega))) (Nat.le_refl _) _⟩
  · rw [pNo,gTn (by omega)];exact q0
  · exact qf.mono (fun k hk=>⟨by omega,by simp;omega⟩) (fun k hk=>setRow_other _ _ _ _ (by omega))
end
end Go.Proofs.YtgaplicnofhliaaDoor.K
namespace Go.Proofs.YtgaplicnofhliaaDoor.K
open Go Go.RowKit Go.Proofs.YtgaplicnofhliaaDoor.T
attribute [local simp] eTm eCo pNo gTp gTn qv qcall vop iop
set_option linter.unusedVariables false
set_option linter.unusedSimpArgs false
set_option maxHeartbeats 4000000
def sc_LawAgain (T0 T1 T2 F0 F1 F2 F3 F4 F5 F6:Nat):SC:=.seq (.reg [⟨some 3,.box T0 (.tmp 1),none⟩,⟨some 4,.assign (.const (.bool false)),none⟩]) (.seq (.seq (.reg [ld 9 T0 3,cal 10 F0 [9],⟨some 11,.unOp .not T1 (.tmp 10),none⟩]) (.cond (.tmp 11) (.seq (.reg [⟨some 4,.assign (.const (.bool true)),none⟩]) (.ret)) (.skip))) (.seq (.reg [cal 12 F1 [],asg 5 12]) (.seq (.seq (.reg [mv 13 5,⟨some 14,.binOp .lss T2 (.tmp 13) (.const (.int .i64 0)) T2,none⟩]) (.cond (.tmp 14) (.seq (.reg [⟨some 4,.assign (.const (.bool false)),none⟩]) (.ret)) (.skip))) (.seq (.dreg [cal 15 F2 [],mv 16 0,mv 17 5,cal 18 F3 [16,17],ld 19 T0 3,cal 20 F4 [15,18,19],asg 6 20] [[],[],[],[1,2,0],[],[0,3,4,3],[5,5,0,1,2,3,4,5]]) (.seq (.reg [mv 22 0,mv 23 5,cal 24 F3 [22,23],mv 25 6,cal 26 F5 [24,25],mv 21 26,⟨some 27,.extract (.tmp 21) 0,none⟩,⟨some 28,.extract (.tmp 21) 1,none⟩,asg 7 27,asg 8 28]) (.seq (.reg [mv 29 8,mv 30 29,⟨some 31,.move (.tmp 7),some (1,true)⟩,⟨some 32,.move (.tmp 6),some (1,true)⟩,⟨some 33,.call ⟨.value (.func F6),#[(.tmp 31),(.tmp 32)],#[]⟩,some (1,true)⟩,⟨some 34,.pick (.tmp 30) (.tmp 33) (.const (.bool false)),none⟩,asg 4 34]) (.ret)))))))
section
variable {G:List (Nat × Bytes)→Prop} {P:Program} {X:STy} {f:FuncId} {fn:Func}
theorem lawAgain_ok (hX:stOK P X=true) (hm:P.follows .mixedOrders=true) {fFit fMax fSp fVer fWr fAg fSame T1:FuncId} {gb m:Nat} {Gl:World→Prop} (hm16:m < 32768) (fs:Fs) (mflex:Int) (flexO:Option Int)
    (hfl:∀ v:Nat,flexAt flexO v=(decide (0≤mflex) && decide (mflex≤(v:Int))))
    (oFit:FnOK P fFit) (cFit:∀ (w:World) (t:Tree) (tv:Value),TV G w (· < w.heap.size) t tv→Calls P fFit #[tv] w (Asks w))
    (oMax:FnOK P fMax) (cMax:∀ w:World,Calls P fMax #[] w fun e w'=>e=.returned (.int .i64 (m:Int))∧Below w.heap.size w w')
    (oSp:FnOK P fSp) (cSp:∀ w:World,Calls P fSp #[] w fun e w'=>∃ v,e=.returned (msgV v mflex)∧v.oneCell'=true∧FsV w' (fun k=>w.heap.size≤k∧k < w'.heap.size) fs v∧Below w.heap.size w w')
    (oVer:FnOK P fVer) (cVer:∀ (w:World) (n m:Nat),n < 256→m < 65536→Calls P fVer #[.int .u8 (n:Int),.int .i64 (m:Int)] w fun e w'=>e=.returned (.int .i64 ((n % (m+1):Nat):Int))∧w=w')
    (oWr:FnOK P fWr) (cWr:∀ (w:World) (fv:Value) (mflex ver:Int) (t:Tree) (tv:Value),FsV w (· < w.heap.size) fs fv→TV G w (· < w.heap.size) t tv→(wFs ver (decide (0≤mflex) && decide (mflex≤ver)) fs t.l ++ wTags (decide (0≤mflex) && decide (mflex≤ver)) t.u).length≤lim →
      Calls P fWr #[msgV fv mflex,.int .i64 ver,tv] w (RetOwn X.U8 w (wFs ver (decide (0≤mflex) && decide (mflex≤ver)) fs t.l ++ wTags (decide (0≤mflex) && decide (mflex≤ver)) t.u)))
    (cAg:AgC P X.U8 flexO fs gb m Gl fAg)
    (oSame:FnOK P fSame) (cSame:∀ (w:World) (xs:Bytes) (b1 b2:Option Addr) (c1 c2:Nat),BytesAt w (fun k=>k < w.heap.size) b1 xs→BytesAt w (fun k=>k < w.heap.size) b2 xs→xs.length≤lim→Calls P fSame #[.slice b1 xs.length c1,.slice b2 xs.length c2] w fun e w'=>e=.returned (.bool true)∧Below w.heap.size w w')
    (hf:P.funcs[f]?=some fn) (hb:fn.body.map strip=some (sc_LawAgain X.T T1 X.I fFit fMax fSp fVer fWr fAg fSame)) (hn:fn.ntmps=35) (hr:fn.results=#[.tmp 4]) (w:World) (n:Nat) (hn8:n < 256) (t:Tree) (tv:Value) (ht:TV G w (· < w.heap.size) t tv) (hgb:gb < w.heap.size) (hgl:∀ w',Below w.heap.size w w'→Gl w')
    (hok:∀ v:Nat,v≤m→okFsR v (flexAt flexO v) fs=true) (hk:∀ v:Nat,v≤m→KFs v fs t.l) (hu:∀ x ∈ t.u,x.1 < 4294967296) (hlim:∀ v:Nat,v≤m→(wMsg v (flexAt flexO v) fs t.l t.u).length≤lim) :
    Calls P f #[.int .u8 (n:Int),tv] w fun e w'=>e=.returned (.bool true)∧Below w.heap.size w w':=by
  have hst:=st_facts hX
  obtain ⟨vs,hvs,hvs5⟩:∃ vs:List Value,tv=.agg vs.toArray∧vs.length=5:=by
    cases ht
    exact ⟨[_,_,_,_,_],rfl,rfl⟩
  refine fCa hf hb hn (by simp) fun a0 hs hd ha=>?_
  have k0:=ha 0 _ rfl
  have k1:=ha 1 _ rfl
  simp only [List.getElem_toArray,List.getElem_cons_zero,List.getElem_cons_succ] at k0 k1
  refine SC.wp_seq (SC.wp_reg (oNo rfl (opw_box (v:=tv) k1 ?_)))
  have hnew:=heap_alloc_new w (.cells tv.cells X.T)
  have hb1:Below w.heap.size w (w.alloc (.cells tv.cells X.T)):=(Below.refl _ _).alloc (Nat.le_refl _) _
  have hs1:(w.alloc (.cells tv.cells X.T)).heap.size=w.heap.size+1:=by simp
  have hbox:rangeV (w.alloc (.cells tv.cells X.T)) w.heap.size 0 5=some vs:=by
    have:=rangeV_of (w:=w.alloc (.cells tv.cells X.T)) (b:=w.heap.size) vs 0 (fun j v hj=>by
      rw [Nat.zero_add,cell_of_row _ _ _ _ _ _ hnew,hvs]
      simpa [Value.cells] using hj)
    rwa [hvs5] at this
  generalize w.alloc (.cells tv.cells X.T)=w1 at hb1 hs1 hbox ⊢
  have ht1:TV G w1 (· < w1.heap.size) t tv:=ht.down hb1 (by omega)
  repeat (first | (apply ops_1;(focus (simp (disch:=(try simp only [sPu]);omega) ;try rfl))) | (apply ops_y;(focus rfl);(focus ((try simp only [sPu]);omega));(focus (simp (disch:=(try simp only [sPu]);omega);done));(focus (simp (disch:=(try simp only [sPu]);omega) ;try rfl))) | (apply ops_n;(focus rfl);(focus ((try simp only [sPu]);omega));(focus (first | (left;simp (disch:=(try simp only [sPu]);omega);done) | (right;simp (disch:=(try simp only [sPu]);omega);done)))))
  refine oNi (SC.wp_seq (SC.wp_seq (SC.wp_reg ?_)))
  iterate 1 (first | (apply ops_1;(focus (simp (disch:=(try simp only [sPu]);omega) [hst,hbox];try rfl))) | (apply ops_y;(focus rfl);(focus ((try simp only [sPu]);omega));(focus (simp (disch:=(try simp only [sPu]);omega) [hst,hbox];done));(focus (simp (disch:=(try simp only [sPu]);omega) [hst,hbox];try rfl))) | (apply ops_n;(focus rfl);(focus ((try simp only [sPu]);omega));(focus (first | (left;simp (disch:=(try simp only [sPu]);omega) [hst,hbox];done) | (right;simp (disch:=(try simp only [sPu]);omega);done)))))
  refine ops_call oFit (cFit w1 t tv ht1) (by rw [hvs];simp (disch:=(try simp only [sPu]);omega)) ?_
  rintro e w2 ⟨⟨bo,rfl⟩,hb2⟩
  refine ⟨_,rfl,?_⟩
  have hbw2:Below w.heap.size w w2:=hb1.trans ⟨hb2.os,hb2.tape,hb2.output,hb2.size,fun k hk=>hb2.block k (by omega)⟩
  repeat (first | (apply ops_1;(focus (simp (disch:=(try simp only [sPu]);omega) ;try rfl))) | (apply ops_y;(focus rfl);(focus ((try simp only [sPu]);omega));(focus (simp (disch:=(try simp only [sPu]);omega);done));(focus (simp (disch:=(try simp only [sPu]);omega) ;try rfl))) | (apply ops_n;(focus rfl);(focus ((try simp only [sPu]);omega));(focus (first | (left;simp (disch:=(try simp only [sPu]);omega);done) | (right;simp (disch:=(try simp only [sPu]);omega);done)))))
  refine oNi (SC.wp_cond (t:=!bo) (by simp (disch:=(try simp only [sPu]);omega)) ?_)
  cases bo
  · rw [if_pos (by rfl)]
    refine SC.wp_seq (SC.wp_reg ?_)
    repeat (first | (apply ops_1;(focus (simp (disch:=(try simp only [sPu]);omega) ;try rfl))) | (apply ops_y;(focus rfl);(focus ((try simp only [sPu]);omega));(focus (simp (disch:=(try simp only [sPu]);omega);done));(focus (simp (disch:=(try simp only [sPu]);omega) ;try rfl))) | (apply ops_n;(focus rfl);(focus ((try simp only [sPu]);omega));(focus (first | (left;simp (disch:=(try simp only [sPu]);omega);done) | (right;simp (disch:=(try simp only [sPu]);omega);done)))))
    refine oNi (SC.wp_ret ?_)
    try simp only [Exit.then]
    exact ret_tmp hr (by simp [dPu,hd]) ⟨by simp (disch:=(try simp only [sPu]);omega),hbw2⟩
  rw [if_neg (by simp)]
  refine SC.wp_skip ?_
  simp only [Exit.then]
  have hs2:=hb2.size
  refine SC.wp_seq (SC.wp_reg (ops_call oMax (cMax w2) (by simp (disch:=(try simp only [sPu]);omega)) ?_))
  rintro e w3 ⟨rfl,hb3⟩
  refine ⟨_,rfl,?_⟩
  repeat (first | (apply ops_1;(focus (simp (disch:=(try simp only [sPu]);omega) ;try rfl))) | (apply ops_y;(focus rfl);(focus ((try simp only [sPu]);omega));(focus (simp (disch:=(try simp only [sPu]);omega);done));(focus (simp (disch:=(try simp only [sPu]);omega) ;try rfl))) | (apply ops_n;(focus rfl);(focus ((try simp only [sPu]);omega));(focus (first | (left;simp (disch:=(try simp only [sPu]);omega);done) | (right;simp (disch:=(try simp only [sPu]);omega);done)))))
  refine oNi (SC.wp_seq (SC.wp_seq (SC.wp_reg ?_)))
  have em:decide ((m:Int) < 0)=false:=by simp
  repeat (first | (apply ops_1;(focus (simp (disch:=(try simp only [sPu]);omega) [em];try rfl))) | (apply ops_y;(focus rfl);(focus ((try simp only [sPu]);omega));(focus (simp (disch:=(try simp only [sPu]);omega) [em];done));(focus (simp (disch:=(try simp only [sPu]);omega) [em];try rfl))) | (apply ops_n;(focus rfl);(focus ((try simp only [sPu]);omega));(focus (first | (left;simp (disch:=(try simp only [sPu]);omega) [em];done) | (right;simp (disch:=(try simp only [sPu]);omega);done)))))
  refine oNi (SC.wp_cond (t:=false) (by simp (disch:=(try simp only [sPu]);omega)) ?_)
  rw [if_neg (by simp)]
  refine SC.wp_skip ?_
  simp only [Exit.then]
  have hs3:=hb3.size
  have hbw3:Below w.heap.size w w3:=hbw2.trans ⟨hb3.os,hb3.tape,hb3.output,hb3.size,fun k hk=>hb3.block k (by omega)⟩
  have hb13:Below w1.heap.size w1 w3:=hb2.trans ⟨hb3.os,hb3.tape,hb3.output,hb3.size,fun k hk=>hb3.block k (by omega)⟩
  have hbox3:rangeV w3.drew w.heap.size 0 5=some vs:=by
    have:rangeV w3 w.heap.size 0 5=some vs:=by rw [rangeV_mono (hb13.block w.heap.size (by omega))];exact hbox
    exact this
  have hbx3:w.heap.size < w3.heap.size:=by omega
  refine SC.wp_seq (SC.wp_dreg hm (Below w3.heap.size w3.drew) [(1,true),(2,true),(4,true),(0,false),(3,false),(5,false),(6,true)] (by rfl) (by rfl) (by decide) (Below.refl _ _) ?_)
  iterate 3 (first | (apply dr_1;(focus rfl);(focus (simp (disch:=(try simp only [sPu]);omega) [hst,k0,hbox3,hbx3];try rfl))) | (apply dr_y;(focus rfl);(focus rfl);(focus ((try simp only [sPu]);omega));(focus (simp (disch:=(try simp only [sPu]);omega) [hst,k0,hbox3,hbx3];done));(focus (simp (disch:=(try simp only [sPu]);omega) [hst,k0,hbox3,hbx3];try rfl))) | (apply dr_n;(focus rfl);(focus rfl);(focus ((try simp only [sPu]);omega));(focus (first | (left;simp (disch:=(try simp only [sPu]);omega) [hst,k0,hbox3,hbx3];done) | (right;simp (disch:=(try simp only [sPu]);omega);done)))))
  refine dreg_call (argsV:=#[]) rfl oSp (cSp w3.drew) (by simp (disch:=(try simp only [sPu]);omega)) ?_
  rintro e w4 ⟨fv,rfl,hfv1,hfv,hb4⟩
  refine ⟨_,rfl,hb4,?_⟩
  refine dreg_call (argsV:=#[.int .u8 (n:Int),.int .i64 (m:Int)]) rfl oVer (cVer w4 n m hn8 (by omega)) (by simp (disch:=(try simp only [sPu]);omega) [k0]) ?_
  rintro e w5 ⟨rfl,rfl⟩
  refine ⟨_,rfl,hb4,?_⟩
  obtain ⟨v,hv⟩:∃ v,v=n % (m+1):=⟨_,rfl⟩
  rw [← hv]
  have hvm:v≤m:=by rw [hv];exact Nat.lt_succ_iff.1 (Nat.mod_lt _ (by omega))
  have hw35:w3.drew.heap.size=w3.heap.size:=rfl
  have hs4:=hb4.size
  have hbw5:Below w.heap.size w w4:=hbw3.trans ⟨hb4.os,hb4.tape,hb4.output,hb4.size,fun k hk=>hb4.block k (by omega)⟩
  have ht5:TV G w4 (· < w4.heap.size) t tv:=ht.down hbw5 (by omega)
  have hfv5:FsV w4 (· < w4.heap.size) fs fv:=FsV.mono (fun k hk=>hk.2) (fun _ _=>rfl) hfv
  have hfv':=hfl v
  obtain ⟨fl,hfl'⟩:∃ fl,fl=flexAt flexO v:=⟨_,rfl⟩
  have hlimv:=hlim v hvm
  refine dreg_call (argsV:=#[msgV fv mflex,.int .i64 (v:Int),tv]) rfl oWr (cWr w4 fv mflex v t tv hfv5 ht5 (by rw [← hfv'];exact hlimv)) (by rw [hvs];simp (disch:=(try simp only [sPu]);omega)) ?_
  rintro e w6 ⟨dv,rfl,hown,hb6⟩
  rw [← hfv'] at hown
  refine ⟨_,rfl,hb4.trans ⟨hb6.os,hb6.tape,hb6.output,hb6.size,fun k hk=>hb6.block k (by omega)⟩,?_⟩
  repeat (first | (apply dr_1;(focus rfl);(focus (simp (disch:=(try simp only [sPu]);omega) ;try rfl))) | (apply dr_y;(focus rfl);(focus rfl);(focus ((try simp only [sPu]);omega));(focus (simp (disch:=(try simp only [sPu]);omega);done));(focus (simp (disch:=(try simp only [sPu]);omega) ;try rfl))) | (apply dr_n;(focus rfl);(focus rfl);(focus ((try simp only [sPu]);omega));(focus (first | (left;simp (disch:=(try simp only [sPu]);omega);done) | (right;simp (disch:=(try simp only [sPu]);omega);done)))))
  refine dreg_nil ?_
  simp only [Exit.then]
  have hs6:=hb6.size
  have hbw6:Below w.heap.size w w6:=hbw5.trans ⟨hb6.os,hb6.tape,hb6.output,hb6.size,fun k hk=>hb6.block k (by omega)⟩
  have hown':Own X.U8 w6 w4.heap.size dv (wMsg v (flexAt flexO v) fs t.l t.u):=hown
  obtain ⟨S,base,cap,rfl,hsr,hS⟩:=own_src hown'
  refine SC.wp_seq (SC.wp_reg ?_)
  iterate 2 (first | (apply ops_1;(focus (simp (disch:=(try simp only [sPu]);omega) [k0];try rfl))) | (apply ops_y;(focus rfl);(focus ((try simp only [sPu]);omega));(focus (simp (disch:=(try simp only [sPu]);omega) [k0];done));(focus (simp (disch:=(try simp only [sPu]);omega) [k0];try rfl))) | (apply ops_n;(focus rfl);(focus ((try simp only [sPu]);omega));(focus (first | (left;simp (disch:=(try simp only [sPu]);omega) [k0];done) | (right;simp (disch:=(try simp only [sPu]);omega);done)))))
  refine ops_call oVer (cVer w6 n m hn8 (by omega)) (by simp (disch:=(try simp only [sPu]);omega) [k0]) ?_
  rintro e w7 ⟨rfl,rfl⟩
  refine ⟨_,rfl,?_⟩
  rw [← hv]
  iterate 1 (first | (apply ops_1;(focus (simp (disch:=(try simp only [sPu]);omega) ;try rfl))) | (apply ops_y;(focus rfl);(focus ((try simp only [sPu]);omega));(focus (simp (disch:=(try simp only [sPu]);omega);done));(focus (simp (disch:=(try simp only [sPu]);omega) ;try rfl))) | (apply ops_n;(focus rfl);(focus ((try simp only [sPu]);omega));(focus (first | (left;simp (disch:=(try simp only [sPu]);omega);done) | (right;simp (disch:=(try simp only [sPu]);omega);done)))))
  obtain ⟨ts',u',hpm,hft1,hft2,hwm⟩:=msg_again (hok v hvm) (hk v hvm) hu
  refine ops_call cAg.1 (cAg.2 w6 S base _ cap v hvm (by omega) (fun w' h=>hgl w' (hbw6.trans ⟨h.os,h.tape,h.output,h.size,fun k hk=>h.block k (by omega)⟩)) hsr (fun sb h=>(hS sb h).2) hlimv (fun xs u r h=>by
    rw [hpm] at h
    cases h
    exact ⟨hft1,hft2,by rw [hwm];exact hlimv⟩)) (by simp (disch:=(try simp only [sPu]);omega)) ?_
  rw [hpm]
  rintro e w8 ⟨hb8,dv8,rfl,hown8⟩
  rw [hwm] at hown8
  refine ⟨_,rfl,?_⟩
  iterate 1 (first | (apply ops_1;(focus (simp (disch:=(try simp only [sPu]);omega) ;try rfl))) | (apply ops_y;(focus rfl);(focus ((try simp only [sPu]);omega));(focus (simp (disch:=(try simp only [sPu]);omega);done));(focus (simp (disch:=(try simp only [sPu]);omega) ;try rfl))) | (apply ops_n;(focus rfl);(focus ((try simp only [sPu]);omega));(focus (first | (left;simp (disch:=(try simp only [sPu]);omega);done) | (right;simp (disch:=(try simp only [sPu]);omega);done)))))
  refine oNo rfl (opw_extract (vs:=#[dv8,.bool true]) (v:=dv8) (by simp (disch:=(try simp only [sPu]);omega)) rfl ?_)
  refine oNo rfl (opw_extract (vs:=#[dv8,.bool true]) (v:=.bool true) (by simp (disch:=(try simp only [sPu]);omega)) rfl ?_)
  repeat (first | (apply ops_1;(focus (simp (disch:=(try simp only [sPu]);omega) ;try rfl))) | (apply ops_y;(focus rfl);(focus ((try simp only [sPu]);omega));(focus (simp (disch:=(try simp only [sPu]);omega);done));(focus (simp (disch:=(try simp only [sPu]);omega) ;try rfl))) | (apply ops_n;(focus rfl);(focus ((try simp only [sPu]);omega));(focus (first | (left;simp (disch:=(try simp only [sPu]);omega);done) | (right;simp (disch:=(try simp only [sPu]);omega);done)))))
  refine oNi ?_
  simp only [Exit.then]
  have hs8:=hb8.size
  have hbw8:Below w.heap.size w w8:=hbw6.trans ⟨hb8.os,hb8.tape,hb8.output,hb8.size,fun k hk=>hb8.block k (by omega)⟩
  obtain ⟨S8,base8,cap8,rfl,hsr8,hS8⟩:=own_src hown8
  have hB1:BytesAt w8 (fun k=>k < w8.heap.size) base8 (wMsg v (flexAt flexO v) fs t.l t.u):=bytesAt_src hsr8 fun sb h=>(hS8 sb h).2
  have hB2:BytesAt w8 (fun k=>k < w8.heap.size) base (wMsg v (flexAt flexO v) fs t.l t.u):=bytesAt_src (hsr.frame fun sb h=>hb8.block sb (hS sb h).2) fun sb h=>by have:=(hS sb h).2;omega
  refine SC.wp_seq (SC.wp_reg ?_)
  iterate 4 (first | (apply ops_1;(focus (simp (disch:=(try simp only [sPu]);omega) ;try rfl))) | (apply ops_y;(focus rfl);(focus ((try simp only [sPu]);omega));(focus (simp (disch:=(try simp only [sPu]);omega);done));(focus (simp (disch:=(try simp only [sPu]);omega) ;try rfl))) | (apply ops_n;(focus rfl);(focus ((try simp only [sPu]);omega));(focus (first | (left;simp (disch:=(try simp only [sPu]);omega);done) | (right;simp (disch:=(try simp only [sPu]);omega);done)))))
  refine ops_callg (argsV:=#[.slice base8 _ cap8,.slice base _ cap]) rfl (by simp [sPu,hs]) (by simp (disch:=(try simp only [sPu]);omega)) oSame (cSame w8 _ base8 base cap8 cap hB1 hB2 hlimv) (by simp (disch:=(try simp only [sPu]);omega)) ?_
  rintro e w9 ⟨rfl,hb9⟩
  refine ⟨_,rfl,?_⟩
  repeat (first | (apply ops_1;(focus (simp (disch:=(try simp only [sPu]);omega) ;try rfl))) | (apply ops_y;(focus rfl);(focus ((try simp only [sPu]);omega));(focus (simp (disch:=(try simp only [sPu]);omega);done));(focus (simp (disch:=(try simp only [sPu]);omega) ;try rfl))) | (apply ops_n;(focus rfl);(focus ((try simp only [sPu]);omega));(focus (first | (left;simp (disch:=(try simp only [sPu]);omega);done) | (right;simp (disch:=(try simp only [sPu]);omega);done)))))
  refine oNi (SC.wp_ret ?_)
  try simp only [Exit.then]
  exact ret_tmp hr (by simp [dPu,hd]) ⟨by simp (disch:=(try simp only [sPu]);omega),hbw8.trans ⟨hb9.os,hb9.tape,hb9.output,hb9.size,fun k hk=>hb9.block k (by omega)⟩⟩
end
end Go.Proofs.YtgaplicnofhliaaDoor.K
namespace Go.Proofs.YtgaplicnofhliaaDoor.K
open Go Go.RowKit Go.Proofs.YtgaplicnofhliaaDoor.T
attribute [local simp] eTm eCo pNo gTp gTn qv qcall vop iop
set_option linter.unusedVariables false
set_option linter.unusedSimpArgs false
set_option maxHeartbeats 4000000
def sc_LawCut (T0 T1 T2 T3 T4 F0 F1 F2 F3 F4 F5:Nat):SC:=.seq (.reg [⟨some 4,.box T0 (.tmp 1),none⟩,⟨some 6,.assign (.const (.bool false)),none⟩]) (.seq (.seq (.reg [ld 13 T0 4,cal 14 F0 [13],⟨some 15,.unOp .not T1 (.tmp 14),none⟩]) (.cond (.tmp 15) (.seq (.reg [⟨some 6,.assign (.const (.bool true)),none⟩]) (.ret)) (.skip))) (.seq (.reg [cal 16 F1 [],asg 7 16]) (.seq (.seq (.reg [mv 17 7,⟨some 18,.binOp .lss T2 (.tmp 17) (.const (.int .i64 0)) T2,none⟩]) (.cond (.tmp 18) (.seq (.reg [⟨some 6,.assign (.const (.bool false)),none⟩]) (.ret)) (.skip))) (.seq (.dreg [cal 19 F2 [],mv 20 0,mv 21 7,cal 22 F3 [20,21],ld 23 T0 4,cal 24 F4 [19,22,23],asg 8 24] [[],[],[],[1,2,0],[],[0,3,4,3],[5,5,0,1,2,3,4,5]]) (.seq (.reg [mv 26 0,mv 27 7,cal 28 F3 [26,27],mv 29 8,cal 30 F5 [28,29],mv 25 30,⟨some 31,.extract (.tmp 25) 0,none⟩,⟨some 32,.extract (.tmp 25) 1,none⟩,asg 9 31,asg 10 32]) (.seq (.seq (.reg [mv 33 8,lenOp 34 T3 33,⟨some 35,.binOp .eql T2 (.tmp 34) (.const (.int .i64 0)) T2,none⟩]) (.cond (.tmp 35) (.seq (.reg [mv 36 10,asg 6 36]) (.ret)) (.skip))) (.seq (.dreg [mv 38 0,mv 39 7,cal 40 F3 [38,39],mv 41 8,mv 42 2,⟨some 43,.convert T4 T2 (.tmp 42),none⟩,mv 44 8,lenOp 45 T3 44,⟨some 46,.binOp .rem T2 (.tmp 43) (.tmp 45) T2,none⟩,⟨some 47,.slice T3 (.tmp 41) none (some (.tmp 46)) none,none⟩,cal 48 F5 [40,47],mv 37 48,⟨some 49,.extract (.tmp 37) 0,none⟩,⟨some 50,.extract (.tmp 37) 1,none⟩,asg 11 49,asg 12 50] [[],[],[0,1],[],[],[4],[],[6],[5,7],[3,8],[2,9,2],[10],[11],[11],[12,10,0,1,2,3,4,5,6,7,8,9,10,11,12],[13,14,0,1,2,3,4,5,6,7,8,9,10,11,12,13,14]]) (.seq (.reg [mv 51 10,mv 52 51,⟨some 53,.move (.tmp 12),some (1,true)⟩,⟨some 54,.unOp .not T1 (.tmp 53),some (1,true)⟩,⟨some 55,.pick (.tmp 52) (.tmp 54) (.const (.bool false)),none⟩,asg 6 55]) (.ret)))))))))
section
variable {G:List (Nat × Bytes)→Prop} {P:Program} {X:STy} {f:FuncId} {fn:Func}
theorem own_src2 {tU8:Nat} {w:World} {B:Nat} {dv:Value} {xs:Bytes} (h:Own tU8 w B dv xs):∃ S base cap,dv=.slice base xs.length cap∧xs.length≤cap∧SrcAt w S base xs∧∀ sb,S=some sb→B≤sb∧sb < w.heap.size:=by
  obtain ⟨S,base,cap,rfl,q1,q2⟩:=own_src h
  refine ⟨S,base,cap,rfl,?_,q1,q2⟩
  obtain ⟨-,⟨e1,e2⟩ | ⟨g,c3,cur,e1,e2,e3,e4,-⟩⟩:=h
  · rw [e2];exact Nat.zero_le _
  · cases e1;exact e4
theorem lawCut_ok (hX:stOK P X=true) (hm:P.follows .mixedOrders=true) {fFit fMax fSp fVer fWr fAg T1 T4:FuncId} (hT4:intK P T4=some .u16) {gb m:Nat} {Gl:World→Prop} (hm16:m < 32768) (fs:Fs) (mflex:Int) (flexO:Option Int)
    (hfl:∀ v:Nat,flexAt flexO v=(decide (0≤mflex) && decide (mflex≤(v:Int))))
    (oFit:FnOK P fFit) (cFit:∀ (w:World) (t:Tree) (tv:Value),TV G w (· < w.heap.size) t tv→Calls P fFit #[tv] w (Asks w))
    (oMax:FnOK P fMax) (cMax:∀ w:World,Calls P fMax #[] w fun e w'=>e=.returned (.int .i64 (m:Int))∧Below w.heap.size w w')
    (oSp:FnOK P fSp) (cSp:∀ w:World,Calls P fSp #[] w fun e w'=>∃ v,e=.returned (msgV v mflex)∧v.oneCell'=true∧FsV w' (fun k=>w.heap.size≤k∧k < w'.heap.size) fs v∧Below w.heap.size w w')
    (oVer:FnOK P fVer) (cVer:∀ (w:World) (n m:Nat),n < 256→m < 65536→Calls P fVer #[.int .u8 (n:Int),.int .i64 (m:Int)] w fun e w'=>e=.returned (.int .i64 ((n % (m+1):Nat):Int))∧w=w')
    (oWr:FnOK P fWr) (cWr:∀ (w:World) (fv:Value) (mflex ver:Int) (t:Tree) (tv:Value),FsV w (· < w.heap.size) fs fv→TV G w (· < w.heap.size) t tv→(wFs ver (decide (0≤mflex) && decide (mflex≤ver)) fs t.l ++ wTags (decide (0≤mflex) && decide (mflex≤ver)) t.u).length≤lim →
      Calls P fWr #[msgV fv mflex,.int .i64 ver,tv] w (RetOwn X.U8 w (wFs ver (decide (0≤mflex) && decide (mflex≤ver)) fs t.l ++ wTags (decide (0≤mflex) && decide (mflex≤ver)) t.u)))
    (cAg:AgC P X.U8 flexO fs gb m Gl fAg)
    (hf:P.funcs[f]?=some fn) (hb:fn.body.map strip=some (sc_LawCut X.T T1 X.I X.Bs T4 fFit fMax fSp fVer fWr fAg)) (hn:fn.ntmps=56) (hr:fn.results=#[.tmp 6]) (w:World) (n at_:Nat) (hn8:n < 256) (hat:at_ < 65536) (t:Tree) (tv:Value) (ht:TV G w (· < w.heap.size) t tv) (hgb:gb < w.heap.size) (hgl:∀ w',Below w.heap.size w w'→Gl w')
    (hok:∀ v:Nat,v≤m→okFsR v (flexAt flexO v) fs=true) (hk:∀ v:Nat,v≤m→KFs v fs t.l) (hu:∀ x ∈ t.u,x.1 < 4294967296) (hlim:∀ v:Nat,v≤m→(wMsg v (flexAt flexO v) fs t.l t.u).length≤lim) :
    Calls P f #[.int .u8 (n:Int),tv,.int .u16 (at_:Int)] w fun e w'=>e=.returned (.bool true)∧Below w.heap.size w w':=by
  have hst:=st_facts hX
  obtain ⟨vs,hvs,hvs5⟩:∃ vs:List Value,tv=.agg vs.toArray∧vs.length=5:=by
    cases ht
    exact ⟨[_,_,_,_,_],rfl,rfl⟩
  refine fCa hf hb hn (by simp) fun a0 hs hd ha=>?_
  have k0:=ha 0 _ rfl
  have k1:=ha 1 _ rfl
  have k2:=ha 2 _ rfl
  simp only [List.getElem_toArray,List.getElem_cons_zero,List.getElem_cons_succ] at k0 k1 k2
  refine SC.wp_seq (SC.wp_reg (oNo rfl (opw_box (v:=tv) k1 ?_)))
  have hnew:=heap_alloc_new w (.cells tv.cells X.T)
  have hb1:Below w.heap.size w (w.alloc (.cells tv.cells X.T)):=(Below.refl _ _).alloc (Nat.le_refl _) _
  have hs1:(w.alloc (.cells tv.cells X.T)).heap.size=w.heap.size+1:=by simp
  have hbox:rangeV (w.alloc (.cells tv.cells X.T)) w.heap.size 0 5=some vs:=by
    have:=rangeV_of (w:=w.alloc (.cells tv.cells X.T)) (b:=w.heap.size) vs 0 (fun j v hj=>by
      rw [Nat.zero_add,cell_of_row _ _ _ _ _ _ hnew,hvs]
      simpa [Value.cells] using hj)
    rwa [hvs5] at this
  generalize w.alloc (.cells tv.cells X.T)=w1 at hb1 hs1 hbox ⊢
  have ht1:TV G w1 (· < w1.heap.size) t tv:=ht.down hb1 (by omega)
  repeat (first | (apply ops_1;(focus (simp (disch:=(try simp only [sPu]);omega) ;try rfl))) | (apply ops_y;(focus rfl);(focus ((try simp only [sPu]);omega));(focus (simp (disch:=(try simp only [sPu]);omega);done));(focus (simp (disch:=(try simp only [sPu]);omega) ;try rfl))) | (apply ops_n;(focus rfl);(focus ((try simp only [sPu]);omega));(focus (first | (left;simp (disch:=(try simp only [sPu]);omega);done) | (right;simp (disch:=(try simp only [sPu]);omega);done)))))
  refine oNi (SC.wp_seq (SC.wp_seq (SC.wp_reg ?_)))
  iterate 1 (first | (apply ops_1;(focus (simp (disch:=(try simp only [sPu]);omega) [hst,hbox];try rfl))) | (apply ops_y;(focus rfl);(focus ((try simp only [sPu]);omega));(focus (simp (disch:=(try simp only [sPu]);omega) [hst,hbox];done));(focus (simp (disch:=(try simp only [sPu]);omega) [hst,hbox];try rfl))) | (apply ops_n;(focus rfl);(focus ((try simp only [sPu]);omega));(focus (first | (left;simp (disch:=(try simp only [sPu]);omega) [hst,hbox];done) | (right;simp (disch:=(try simp only [sPu]);omega);done)))))
  refine ops_call oFit (cFit w1 t tv ht1) (by rw [hvs];simp (disch:=(try simp only [sPu]);omega)) ?_
  rintro e w2 ⟨⟨bo,rfl⟩,hb2⟩
  refine ⟨_,rfl,?_⟩
  have hbw2:Below w.heap.size w w2:=hb1.trans ⟨hb2.os,hb2.tape,hb2.output,hb2.size,fun k hk=>hb2.block k (by omega)⟩
  repeat (first | (apply ops_1;(focus (simp (disch:=(try simp only [sPu]);omega) ;try rfl))) | (apply ops_y;(focus rfl);(focus ((try simp only [sPu]);omega));(focus (simp (disch:=(try simp only [sPu]);omega);done));(focus (simp (disch:=(try simp only [sPu]);omega) ;try rfl))) | (apply ops_n;(focus rfl);(focus ((try simp only [sPu]);omega));(focus (first | (left;simp (disch:=(try simp only [sPu]);omega);done) | (right;simp (disch:=(try simp only [sPu]);omega);done)))))
  refine oNi (SC.wp_cond (t:=!bo) (by simp (disch:=(try simp only [sPu]);omega)) ?_)
  cases bo
  · rw [if_pos (by rfl)]
    refine SC.wp_seq (SC.wp_reg ?_)
    repeat (first | (apply ops_1;(focus (simp (disch:=(try simp only [sPu]);omega) ;try rfl))) | (apply ops_y;(focus rfl);(focus ((try simp only [sPu]);omega));(focus (simp (disch:=(try simp only [sPu]);omega);done));(focus (simp (disch:=(try simp only [sPu]);omega) ;try rfl))) | (apply ops_n;(focus rfl);(focus ((try simp only [sPu]);omega));(focus (first | (left;simp (disch:=(try simp only [sPu]);omega);done) | (right;simp (disch:=(try simp only [sPu]);omega);done)))))
    refine oNi (SC.wp_ret ?_)
    try simp only [Exit.then]
    exact ret_tmp hr (by simp [dPu,hd]) ⟨by simp (disch:=(try simp only [sPu]);omega),hbw2⟩
  rw [if_neg (by simp)]
  refine SC.wp_skip ?_
  simp only [Exit.then]
  have hs2:=hb2.size
  refine SC.wp_seq (SC.wp_reg (ops_call oMax (cMax w2) (by simp (disch:=(try simp only [sPu]);omega)) ?_))
  rintro e w3 ⟨rfl,hb3⟩
  refine ⟨_,rfl,?_⟩
  repeat (first | (apply ops_1;(focus (simp (disch:=(try simp only [sPu]);omega) ;try rfl))) | (apply ops_y;(focus rfl);(focus ((try simp only [sPu]);omega));(focus (simp (disch:=(try simp only [sPu]);omega);done));(focus (simp (disch:=(try simp only [sPu]);omega) ;try rfl))) | (apply ops_n;(focus rfl);(focus ((try simp only [sPu]);omega));(focus (first | (left;simp (disch:=(try simp only [sPu]);omega);done) | (right;simp (disch:=(try simp only [sPu]);omega);done)))))
  refine oNi (SC.wp_seq (SC.wp_seq (SC.wp_reg ?_)))
  have em:decide ((m:Int) < 0)=false:=by simp
  repeat (first | (apply ops_1;(focus (simp (disch:=(try simp only [sPu]);omega) [em];try rfl))) | (apply ops_y;(focus rfl);(focus ((try simp only [sPu]);omega));(focus (simp (disch:=(try simp only [sPu]);omega) [em];done));(focus (simp (disch:=(try simp only [sPu]);omega) [em];try rfl))) | (apply ops_n;(focus rfl);(focus ((try simp only [sPu]);omega));(focus (first | (left;simp (disch:=(try simp only [sPu]);omega) [em];done) | (right;simp (disch:=(try simp only [sPu]);omega);done)))))
  refine oNi (SC.wp_cond (t:=false) (by simp (disch:=(try simp only [sPu]);omega)) ?_)
  rw [if_neg (by simp)]
  refine SC.wp_skip ?_
  simp only [Exit.then]
  have hs3:=hb3.size
  have hbw3:Below w.heap.size w w3:=hbw2.trans ⟨hb3.os,hb3.tape,hb3.output,hb3.size,fun k hk=>hb3.block k (by omega)⟩
  have hb13:Below w1.heap.size w1 w3:=hb2.trans ⟨hb3.os,hb3.tape,hb3.output,hb3.size,fun k hk=>hb3.block k (by omega)⟩
  have hbox3:rangeV w3.drew w.heap.size 0 5=some vs:=by
    have:rangeV w3 w.heap.size 0 5=some vs:=by rw [rangeV_mono (hb13.block w.heap.size (by omega))];exact hbox
    exact this
  have hbx3:w.heap.size < w3.heap.size:=by omega
  refine SC.wp_seq (SC.wp_dreg hm (Below w3.heap.size w3.drew) [(1,true),(2,true),(4,true),(0,false),(3,false),(5,false),(6,true)] (by rfl) (by rfl) (by decide) (Below.refl _ _) ?_)
  iterate 3 (first | (apply dr_1;(focus rfl);(focus (simp (disch:=(try simp only [sPu]);omega) [hst,k0,hbox3,hbx3];try rfl))) | (apply dr_y;(focus rfl);(focus rfl);(focus ((try simp only [sPu]);omega));(focus (simp (disch:=(try simp only [sPu]);omega) [hst,k0,hbox3,hbx3];done));(focus (simp (disch:=(try simp only [sPu]);omega) [hst,k0,hbox3,hbx3];try rfl))) | (apply dr_n;(focus rfl);(focus rfl);(focus ((try simp only [sPu]);omega));(focus (first | (left;simp (disch:=(try simp only [sPu]);omega) [hst,k0,hbox3,hbx3];done) | (right;simp (disch:=(try simp only [sPu]);omega);done)))))
  refine dreg_call (argsV:=#[]) rfl oSp (cSp w3.drew) (by simp (disch:=(try simp only [sPu]);omega)) ?_
  rintro e w4 ⟨fv,rfl,hfv1,hfv,hb4⟩
  refine ⟨_,rfl,hb4,?_⟩
  refine dreg_call (argsV:=#[.int .u8 (n:Int),.int .i64 (m:Int)]) rfl oVer (cVer w4 n m hn8 (by omega)) (by simp (disch:=(try simp only [sPu]);omega) [k0]) ?_
  rintro e w5 ⟨rfl,rfl⟩
  refine ⟨_,rfl,hb4,?_⟩
  obtain ⟨v,hv⟩:∃ v,v=n % (m+1):=⟨_,rfl⟩
  rw [← hv]
  have hvm:v≤m:=by rw [hv];exact Nat.lt_succ_iff.1 (Nat.mod_lt _ (by omega))
  have hw35:w3.drew.heap.size=w3.heap.size:=rfl
  have hs4:=hb4.size
  have hbw5:Below w.heap.size w w4:=hbw3.trans ⟨hb4.os,hb4.tape,hb4.output,hb4.size,fun k hk=>hb4.block k (by omega)⟩
  have ht5:TV G w4 (· < w4.heap.size) t tv:=ht.down hbw5 (by omega)
  have hfv5:FsV w4 (· < w4.heap.size) fs fv:=FsV.mono (fun k hk=>hk.2) (fun _ _=>rfl) hfv
  have hfv':=hfl v
  obtain ⟨fl,hfl'⟩:∃ fl,fl=flexAt flexO v:=⟨_,rfl⟩
  have hlimv:=hlim v hvm
  refine dreg_call (argsV:=#[msgV fv mflex,.int .i64 (v:Int),tv]) rfl oWr (cWr w4 fv mflex v t tv hfv5 ht5 (by rw [← hfv'];exact hlimv)) (by rw [hvs];simp (disch:=(try simp only [sPu]);omega)) ?_
  rintro e w6 ⟨dv,rfl,hown,hb6⟩
  rw [← hfv'] at hown
  refine ⟨_,rfl,hb4.trans ⟨hb6.os,hb6.tape,hb6.output,hb6.size,fun k hk=>hb6.block k (by omega)⟩,?_⟩
  repeat (first | (apply dr_1;(focus rfl);(focus (simp (disch:=(try simp only [sPu]);omega) ;try rfl))) | (apply dr_y;(focus rfl);(focus rfl);(focus ((try simp only [sPu]);omega));(focus (simp (disch:=(try simp only [sPu]);omega);done));(focus (simp (disch:=(try simp only [sPu]);omega) ;try rfl))) | (apply dr_n;(focus rfl);(focus rfl);(focus ((try simp only [sPu]);omega));(focus (first | (left;simp (disch:=(try simp only [sPu]);omega);done) | (right;simp (disch:=(try simp only [sPu]);omega);done)))))
  refine dreg_nil ?_
  simp only [Exit.then]
  have hs6:=hb6.size
  have hbw6:Below w.heap.size w w6:=hbw5.trans ⟨hb6.os,hb6.tape,hb6.output,hb6.size,fun k hk=>hb6.block k (by omega)⟩
  have hown':Own X.U8 w6 w4.heap.size dv (wMsg v (flexAt flexO v) fs t.l t.u):=hown
  obtain ⟨S,base,cap,rfl,hcapL,hsr,hS⟩:=own_src2 hown'
  refine SC.wp_seq (SC.wp_reg ?_)
  iterate 2 (first | (apply ops_1;(focus (simp (disch:=(try simp only [sPu]);omega) [k0];try rfl))) | (apply ops_y;(focus rfl);(focus ((try simp only [sPu]);omega));(focus (simp (disch:=(try simp only [sPu]);omega) [k0];done));(focus (simp (disch:=(try simp only [sPu]);omega) [k0];try rfl))) | (apply ops_n;(focus rfl);(focus ((try simp only [sPu]);omega));(focus (first | (left;simp (disch:=(try simp only [sPu]);omega) [k0];done) | (right;simp (disch:=(try simp only [sPu]);omega);done)))))
  refine ops_call oVer (cVer w6 n m hn8 (by omega)) (by simp (disch:=(try simp only [sPu]);omega) [k0]) ?_
  rintro e w7 ⟨rfl,rfl⟩
  refine ⟨_,rfl,?_⟩
  rw [← hv]
  iterate 1 (first | (apply ops_1;(focus (simp (disch:=(try simp only [sPu]);omega) ;try rfl))) | (apply ops_y;(focus rfl);(focus ((try simp only [sPu]);omega));(focus (simp (disch:=(try simp only [sPu]);omega);done));(focus (simp (disch:=(try simp only [sPu]);omega) ;try rfl))) | (apply ops_n;(focus rfl);(focus ((try simp only [sPu]);omega));(focus (first | (left;simp (disch:=(try simp only [sPu]);omega);done) | (right;simp (disch:=(try simp only [sPu]);omega);done)))))
  obtain ⟨ts',u',hpm,hft1,hft2,hwm⟩:=msg_again (hok v hvm) (hk v hvm) hu
  refine ops_call cAg.1 (cAg.2 w6 S base _ cap v hvm (by omega) (fun w' h=>hgl w' (hbw6.trans ⟨h.os,h.tape,h.output,h.size,fun k hk=>h.block k (by omega)⟩)) hsr (fun sb h=>(hS sb h).2) hlimv (fun xs u r h=>by
    rw [hpm] at h
    cases h
    exact ⟨hft1,hft2,by rw [hwm];exact hlimv⟩)) (by simp (disch:=(try simp only [sPu]);omega)) ?_
  rw [hpm]
  rintro e w8 ⟨hb8,dv8,rfl,hown8⟩
  rw [hwm] at hown8
  refine ⟨_,rfl,?_⟩
  iterate 1 (first | (apply ops_1;(focus (simp (disch:=(try simp only [sPu]);omega) ;try rfl))) | (apply ops_y;(focus rfl);(focus ((try simp only [sPu]);omega));(focus (simp (disch:=(try simp only [sPu]);omega);done));(focus (simp (disch:=(try simp only [sPu]);omega) ;try rfl))) | (apply ops_n;(focus rfl);(focus ((try simp only [sPu]);omega));(focus (first | (left;simp (disch:=(try simp only [sPu]);omega);done) | (right;simp (disch:=(try simp only [sPu]);omega);done)))))
  refine oNo rfl (opw_extract (vs:=#[dv8,.bool true]) (v:=dv8) (by simp (disch:=(try simp only [sPu]);omega)) rfl ?_)
  refine oNo rfl (opw_extract (vs:=#[dv8,.bool true]) (v:=.bool true) (by simp (disch:=(try simp only [sPu]);omega)) rfl ?_)
  repeat (first | (apply ops_1;(focus (simp (disch:=(try simp only [sPu]);omega) ;try rfl))) | (apply ops_y;(focus rfl);(focus ((try simp only [sPu]);omega));(focus (simp (disch:=(try simp only [sPu]);omega);done));(focus (simp (disch:=(try simp only [sPu]);omega) ;try rfl))) | (apply ops_n;(focus rfl);(focus ((try simp only [sPu]);omega));(focus (first | (left;simp (disch:=(try simp only [sPu]);omega);done) | (right;simp (disch:=(try simp only [sPu]);omega);done)))))
  refine oNi ?_
  simp only [Exit.then]
  have hs8:=hb8.size
  have hbw8:Below w.heap.size w w8:=hbw6.trans ⟨hb8.os,hb8.tape,hb8.output,hb8.size,fun k hk=>hb8.block k (by omega)⟩
  refine SC.wp_seq (SC.wp_seq (SC.wp_reg ?_))
  repeat (first | (apply ops_1;(focus (simp (disch:=(try simp only [sPu]);omega) [hst];try rfl))) | (apply ops_y;(focus rfl);(focus ((try simp only [sPu]);omega));(focus (simp (disch:=(try simp only [sPu]);omega) [hst];done));(focus (simp (disch:=(try simp only [sPu]);omega) [hst];try rfl))) | (apply ops_n;(focus rfl);(focus ((try simp only [sPu]);omega));(focus (first | (left;simp (disch:=(try simp only [sPu]);omega) [hst];done) | (right;simp (disch:=(try simp only [sPu]);omega);done)))))
  refine oNi (SC.wp_cond (t:=(((wMsg v (flexAt flexO v) fs t.l t.u).length:Int) == 0)) (by simp (disch:=(try simp only [sPu]);omega)) ?_)
  by_cases hL:(wMsg v (flexAt flexO v) fs t.l t.u).length=0
  · rw [if_pos (by rw [beq_iff_eq];omega)]
    refine SC.wp_seq (SC.wp_reg ?_)
    repeat (first | (apply ops_1;(focus (simp (disch:=(try simp only [sPu]);omega) ;try rfl))) | (apply ops_y;(focus rfl);(focus ((try simp only [sPu]);omega));(focus (simp (disch:=(try simp only [sPu]);omega);done));(focus (simp (disch:=(try simp only [sPu]);omega) ;try rfl))) | (apply ops_n;(focus rfl);(focus ((try simp only [sPu]);omega));(focus (first | (left;simp (disch:=(try simp only [sPu]);omega);done) | (right;simp (disch:=(try simp only [sPu]);omega);done)))))
    refine oNi (SC.wp_ret ?_)
    simp only [Exit.then]
    exact ret_tmp hr (by simp [dPu,hd]) ⟨by simp (disch:=(try simp only [sPu]);omega),hbw8⟩
  rw [if_neg (by rw [beq_iff_eq];omega)]
  refine SC.wp_skip ?_
  simp only [Exit.then]
  obtain ⟨L,hLe⟩:∃ L,L=(wMsg v (flexAt flexO v) fs t.l t.u).length:=⟨_,rfl⟩
  obtain ⟨q,hq⟩:∃ q,q=at_ % L:=⟨_,rfl⟩
  have hqL:q < L:=by rw [hq];exact Nat.mod_lt _ (by omega)
  have hwat:IntKind.i64.wrap (at_:Int)=(at_:Int):=w64q (by omega) (by omega)
  have hmod:(at_:Int).tmod ((wMsg v (flexAt flexO v) fs t.l t.u).length:Int)=(q:Int):=by
    rw [Int.tmod_eq_emod_of_nonneg (by omega),hq,hLe]
    rfl
  have hmodN:at_ % (wMsg v (flexAt flexO v) fs t.l t.u).length=q:=by rw [hq,hLe]
  have hmodZ:(at_:Int) % ((wMsg v (flexAt flexO v) fs t.l t.u).length:Int)=(q:Int):=by rw [← hmodN];rfl
  have hL0:((wMsg v (flexAt flexO v) fs t.l t.u).length:Int) ≠ 0:=by omega
  have hqc:(0:Int)≤(q:Int)∧(q:Int)≤(cap:Int):=by have:=hcapL;omega
  refine SC.wp_seq (SC.wp_dreg hm (Below w8.heap.size w8.drew) [(0,true),(1,true),(3,true),(4,true),(5,true),(6,true),(7,true),(8,true),(9,true),(2,false),(10,false),(11,true),(12,true),(13,true),(14,true),(15,true)] (by rfl) (by rfl) (by decide) (Below.refl _ _) ?_)
  iterate 9 (first | (apply dr_1;(focus rfl);(focus (simp (disch:=(try simp only [sPu]);omega) [hst,k0,k2,hT4,hwat,hmod,hmodN,hmodZ,hL0,hL,hqc];try rfl))) | (apply dr_y;(focus rfl);(focus rfl);(focus ((try simp only [sPu]);omega));(focus (simp (disch:=(try simp only [sPu]);omega) [hst,k0,k2,hT4,hwat,hmod,hmodN,hmodZ,hL0,hL,hqc];done));(focus (simp (disch:=(try simp only [sPu]);omega) [hst,k0,k2,hT4,hwat,hmod,hmodN,hmodZ,hL0,hL,hqc];try rfl))) | (apply dr_n;(focus rfl);(focus rfl);(focus ((try simp only [sPu]);omega));(focus (first | (left;simp (disch:=(try simp only [sPu]);omega) [hst,k0,k2,hT4,hwat,hmod,hmodN,hmodZ,hL0,hL,hqc];done) | (right;simp (disch:=(try simp only [sPu]);omega);done)))))
  refine dreg_call (argsV:=#[.int .u8 (n:Int),.int .i64 (m:Int)]) rfl oVer (cVer w8.drew n m hn8 (by omega)) (by simp (disch:=(try simp only [sPu]);omega) [k0]) ?_
  rintro e w9 ⟨rfl,hw9⟩
  subst hw9
  refine ⟨_,rfl,Below.refl _ _,?_⟩
  rw [← hv]
  have hcut:=msg_cut (hok v hvm) (hk v hvm) hu (k:=q) (by omega)
  have hlq:((wMsg v (flexAt flexO v) fs t.l t.u).take q).length=q:=by rw [List.length_take];omega
  have hsr8:SrcAt w8.drew S base ((wMsg v (flexAt flexO v) fs t.l t.u).take q):=SrcAt.take (hsr.frame fun sb h=>hb8.block sb (hS sb h).2)
  have hc2:=cAg.2 w8.drew S base ((wMsg v (flexAt flexO v) fs t.l t.u).take q) cap v hvm (by show gb < w8.heap.size;omega) (fun w' h=>hgl w' (hbw8.trans ⟨h.os,h.tape,h.output,h.size,fun k hk=>h.block k (by show k < w8.heap.size;omega)⟩)) hsr8 (fun sb h=>by have:=(hS sb h).2;show sb < w8.heap.size;omega) (by rw [hlq];omega) (fun xs u r h=>by
    rw [hcut] at h
    cases h)
  rw [hcut,hlq] at hc2
  refine dreg_call (argsV:=#[.int .i64 (v:Int),.slice base q cap]) rfl cAg.1 hc2 (by simp (disch:=(try simp only [sPu]);omega)) ?_
  rintro e w10 ⟨hb10,rfl⟩
  refine ⟨_,rfl,hb10,?_⟩
  repeat (first | (apply dr_1;(focus rfl);(focus (simp (disch:=(try simp only [sPu]);omega) ;try rfl))) | (apply dr_y;(focus rfl);(focus rfl);(focus ((try simp only [sPu]);omega));(focus (simp (disch:=(try simp only [sPu]);omega);done));(focus (simp (disch:=(try simp only [sPu]);omega) ;try rfl))) | (apply dr_n;(focus rfl);(focus rfl);(focus ((try simp only [sPu]);omega));(focus (first | (left;simp (disch:=(try simp only [sPu]);omega);done) | (right;simp (disch:=(try simp only [sPu]);omega);done)))))
  refine dreg_nil ?_
  simp only [Exit.then]
  refine SC.wp_seq (SC.wp_reg ?_)
  repeat (first | (apply ops_1;(focus (simp (disch:=(try simp only [sPu]);omega) ;try rfl))) | (apply ops_y;(focus rfl);(focus ((try simp only [sPu]);omega));(focus (simp (disch:=(try simp only [sPu]);omega);done));(focus (simp (disch:=(try simp only [sPu]);omega) ;try rfl))) | (apply ops_n;(focus rfl);(focus ((try simp only [sPu]);omega));(focus (first | (left;simp (disch:=(try simp only [sPu]);omega);done) | (right;simp (disch:=(try simp only [sPu]);omega);done)))))
  refine oNi (SC.wp_ret ?_)
  try simp only [Exit.then]
  exact ret_tmp hr (by simp [dPu,hd]) ⟨by simp (disch:=(try simp only [sPu]);omega),hbw8.trans ⟨hb10.os,hb10.tape,hb10.output,hb10.size,fun k hk=>hb10.block k (by show k < w8.heap.size;omega)⟩⟩
end
end Go.Proofs.YtgaplicnofhliaaDoor.K
