/- Generic texts: R23 S18 R24 Z2 K14 R32 Z3 E1 E2 E3. No condition. -/
import Derived.Test.YtcchakpiemhpeaaDoorN8
import Derived.Maps.RangeRun
import Derived.Great.BuildSlice
import Derived.Shelf.GgSortFunc.Whole
import Derived.Shelf.GgSortFunc.Tiny
namespace Go.Proofs.YtcchakpiemhpeaaDoor.K
open Go Go.RowKit Go.Proofs.YtcchakpiemhpeaaDoor.T
attribute [local simp] eTm eCo pNo gTp gTn qv qcall vop iop
set_option linter.unusedVariables false
set_option linter.unusedSimpArgs false
set_option maxHeartbeats 2000000
theorem after_bind {α:Type} {st:Option Bytes} {p:Rd α}:after st p=(st.bind p).map (·.2):=by
  cases st <;> rfl
theorem tagN_step {st:Option Bytes} {n k:Nat} {s:Int} {x:Bytes} {acc:List (Nat × Bytes)} (h1:∀ b y r,st=some b→pUv b=some (y,r)→k=y) (h2:∀ b (y:Nat) r,after st pUv=some b→pUv b=some (y,r)→s=(y:Int)) (h3:∀ b y r,after (after st pUv) pUv=some b→pSpan s b=some (y,r)→x=y) :
    st.bind (pTagN (n+1) acc)=(after (after (after st pUv) pUv) (pSpan s)).bind (pTagN n (setTag (k,x) acc)):=by
  cases st with
  | none=>rfl
  | some b =>
    cases hp:pUv b with
    | none =>
      have e1:after (some b) pUv=none:=after_no hp
      rw [e1]
      simp [pTagN,rThen,hp,after]
    | some z =>
      obtain ⟨y,r⟩:=z
      have e1:after (some b) pUv=some r:=after_ok hp
      obtain rfl:=h1 b y r rfl hp
      rw [e1] at h2 h3 ⊢
      cases hp2:pUv r with
      | none =>
        have e2:after (some r) pUv=none:=after_no hp2
        rw [e2]
        simp [pTagN,rThen,hp,hp2,after]
      | some z2 =>
        obtain ⟨y2,r2⟩:=z2
        have e2:after (some r) pUv=some r2:=after_ok hp2
        obtain rfl:=h2 r y2 r2 rfl hp2
        rw [e2] at h3 ⊢
        cases hp3:pSpan (y2:Int) r2 with
        | none =>
          rw [after_no hp3]
          simp [pTagN,rThen,hp,hp2,hp3]
        | some z3 =>
          obtain ⟨y3,r3⟩:=z3
          obtain rfl:=h3 r2 y3 r3 rfl hp3
          rw [after_ok hp3]
          simp [pTagN,rThen,hp,hp2,hp3]
section
variable {P:Program} {R:RTy} {f:FuncId} {fn:Func}
structure TLoop (P:Program) (TR:Nat) (T0:Nat) (w:World) (S:Option Nat) (rb:Nat) (st:Option Bytes) (a:Act) (w':World):Prop where
  size:a.tmps.size=24
  defers:a.defers=[]
  rd:getT a 0=.pointer (some ⟨rb,0,none⟩)
  res:getT a 2=.pointer (some ⟨w.heap.size,0,none⟩)
  tag:getT a 3=.pointer (some ⟨w.heap.size+1,0,none⟩)
  only:Only rb w w'
  heap:w.heap.size+2≤w'.heap.size
  row2:w'.heap[w.heap.size]?=some (.cells #[.map none] T0 (0,0))
  ex:∃ (n:Nat) (acc:List (Nat × Bytes)) (m:Option Nat) (st':Option Bytes),getT a 4=.int .u32 (n:Int)∧n < 4294967296∧RdAt TR w' S rb st'∧w'.heap[w.heap.size+1]?=some (.cells #[.map m] T0 (0,0))∧MapV w' (w.heap.size+1) (w.heap.size+1) S acc m∧Sorted acc∧st.bind (pTags true)=st'.bind (pTagN n acc)
def tMu (a:Act) (_:World):Nat:=match getT a 4 with
  | .int _ n=>n.toNat
  | _=>0
theorem rTagsFn_ok {TR gb T0 T1 T2 F0 F1 F2:Nat} (hm:aggB P T0 1=true) (hz:∃ i z,P.info? T0=some i∧i.zero=some z∧z.cells=#[.map none]) (h1k:intK P T1=some .u32) (h2k:intK P T2=some .i64)
    (hU:RC P TR gb F0 pUv (fun v=>∃ n:Nat,n < 4294967296∧v=.int .u32 (n:Int)) (fun _ _ n v=>v=.int .u32 (n:Int))) (hSp:SpC P TR F1) (hSet:SetC P T0 F2)
    (hf : P.funcs[f]? = some fn) (hb : fn.body.map strip = some (sc_ReadTags T0 T1 T2 F0 F1 F2)) (hnm : (fn.name == "runtime.NumGoroutine") = false) (hn : fn.ntmps = 24) (hr : fn.results = #[.cell 2 T0]) :
    RC P TR gb f (pTags true) (fun v=>∃ m,v=.agg #[m]∧m.oneCell'=true) (fun w F u v=>∃ m,v=.agg #[m]∧TagsV w F u m):=by
  refine ⟨fnOK_of hf hb hnm,fun w S rb st hgb hrd hsrc=>?_⟩
  obtain ⟨iz,z,hiz,hzz,hzc⟩:=hz
  have hrbl:rb < w.heap.size:=RdAt.lt hrd
  refine fCa hf hb hn (by simp) fun a0 hs hd ha=>?_
  have h0:=ha 0 _ rfl
  simp only [List.getElem_toArray,List.getElem_cons_zero,List.getElem_cons_succ] at h0
  refine SC.wp_seq (SC.wp_reg (oNo rfl (opw_alloc hiz hzz (oNi ?_))))
  simp only [Exit.then]
  refine SC.wp_seq (SC.wp_reg (oNo rfl (opw_alloc hiz hzz (oNi ?_))))
  simp only [Exit.then]
  rw [hzc]
  have hn1:=heap_alloc_new w (.cells #[.map none] T0)
  have hn2:=heap_alloc_new (w.alloc (.cells #[.map none] T0)) (.cells #[.map none] T0)
  have hsz1:(w.alloc (.cells #[.map none] T0)).heap.size=w.heap.size+1:=by simp
  rw [hsz1] at hn2 ⊢
  obtain ⟨w2,hw2⟩:∃ w2,w2=(w.alloc (.cells #[.map none] T0)).alloc (.cells #[.map none] T0):=⟨_,rfl⟩
  rw [← hw2] at hn2 ⊢
  have hsz2:w2.heap.size=w.heap.size+2:=by rw [hw2];simp
  have hold:∀ k,k < w.heap.size→w2.heap[k]?=w.heap[k]?:=fun k hk=>by
    rw [hw2,Below.heap_alloc _ _ _ (by simp;omega),Below.heap_alloc _ _ _ hk]
  have hr2:w2.heap[w.heap.size]?=some (.cells #[.map none] T0 (0,0)):=by
    rw [hw2,Below.heap_alloc _ _ _ (by simp)]
    exact hn1
  have hon2:Only rb w w2:=by rw [hw2];exact ((Only.refl rb w).alloc _).alloc _
  have hrd2:RdAt TR w2 S rb st:=RdAt.frame hrd (hold _ hrbl) fun sb h=>hold _ (hsrc sb h).2
  have hsrc2:∀ (w':World),Only rb w w'→∀ sb,S=some sb→sb ≠ rb∧sb < w'.heap.size:=fun w' ho sb h=>⟨(hsrc sb h).1,Nat.lt_of_lt_of_le (hsrc sb h).2 ho.size⟩
  refine SC.wp_seq (SC.wp_seq (SC.wp_reg ?_))
  iterate 1 (apply ops_1;(focus (simp (disch:=(try simp only [sPu]);omega) [h0];try rfl)))
  refine ops_call hU.1 (hU.2 w2 S rb st (by omega) hrd2 (hsrc2 w2 hon2)) (by simp (disch:=(try simp only [sPu]);omega) [h0]) ?_
  rintro e w3 ⟨v,rfl,q1,q2,⟨n,hnl,rfl⟩,q4⟩
  refine ⟨_,rfl,?_⟩
  repeat (apply ops_1;(focus (simp (disch:=(try simp only [sPu]);omega) ;try rfl)))
  refine oNi ?_
  simp only [Exit.then]
  refine SC.wp_block ?_
  refine SC.wp_loop (TLoop P TR T0 w S rb st) tMu ?_ ?_
  · refine ⟨by simp [sPu,hs],by simp [dPu,hd],by simp (disch:=(try simp only [sPu]);omega) [h0],by simp (disch:=(try simp only [sPu]);omega),by simp (disch:=(try simp only [sPu]);omega),hon2.trans q2,by have:=q2.size;omega,?_,n,[],none,after st pUv,by simp (disch:=(try simp only [sPu]);omega),hnl,q1,?_,.inl ⟨rfl,rfl⟩,List.Pairwise.nil,?_⟩
    · rw [q2.block _ (by omega) (by omega)];exact hr2
    · rw [q2.block _ (by omega) (by omega)];exact hn2
    · cases st with
      | none=>rfl
      | some b =>
        cases hp:pUv b with
        | none=>simp [pTags,rThen,hp,after]
        | some zz =>
          obtain ⟨y,r⟩:=zz
          have:=q4 b y r rfl hp
          simp only [Value.int.injEq,true_and] at this
          obtain rfl:n=y:=by omega
          simp [pTags,rThen,hp,after]
  · rintro a w4 ⟨p1,p2,p3,p4,p5,p6,p7,p8,n,acc,m,st',p9,p10,p11,p12,p13,p14,p15⟩
    have hmu:tMu a w4=n:=by simp [tMu,p9]
    refine SC.wp_seq (SC.wp_seq (SC.wp_reg ?_))
    repeat (apply ops_1;(focus (simp (disch:=(try simp only [sPu]);omega) [p9];try rfl)))
    refine oNi (SC.wp_cond (t:=decide ((n:Int) > 0)) (by simp (disch:=(try simp only [sPu]);omega)) ?_)
    by_cases h0n:n=0
    · subst h0n
      rw [if_neg (by simp)]
      refine SC.wp_exit ?_
      simp only [Exit.then,Exit.inBlock,if_true]
      have hcell:∀ j v,[Value.map m][j]?=some v→w4.cell? ⟨w.heap.size+1,0+j,none⟩=some v:=by
        intro j v hj
        rw [Nat.zero_add,cell_of_row _ _ _ _ _ _ p12]
        rw [← List.getElem?_toArray] at hj
        exact hj
      refine SC.wp_seq (SC.wp_reg (oNo rfl (opw_load_agg (cs:=[.map m]) (b:=w.heap.size+1) (o:=0) hm (by simp (disch:=(try simp only [sPu]);omega) [p5]) hcell (oNo rfl (opw_store_agg (cs:=[.map m]) (cur:=#[.map none]) (b:=w.heap.size) (E:=T0) hm (by simp (disch:=(try simp only [sPu]);omega) [p4]) (by simp (disch:=(try simp only [sPu]);omega)) p8 rfl (by intro v hv;simp at hv;subst hv;rfl) (oNi ?_))))))
      rw [pNo]
      simp only [Exit.then]
      refine SC.wp_ret ?_
      have hfin:=setRow_heap w4 w.heap.size _ [Value.map m].toArray _ _ p8
      have hoth:∀ k,k ≠ w.heap.size→(w4.setRow w.heap.size [Value.map m].toArray).heap[k]?=w4.heap[k]?:=fun k hk=>setRow_other _ _ _ _ hk
      have hst':after st (pTags true)=st':=by
        rw [after_bind,p15]
        cases st' <;> simp [pTagN,rOk]
      refine ret_cellAgg (cs:=[.map m]) (b:=w.heap.size) hr hm (by simp (disch:=(try simp only [sPu]);omega) [p4]) ?_ (by simp [dPu,p2]) ⟨_,rfl,?_,?_,⟨.map m,rfl,rfl⟩,fun b x r hst hp=>⟨.map m,rfl,?_⟩⟩
      · intro j v hj
        rw [cell_of_row _ _ _ _ _ _ hfin,List.getElem?_toArray]
        exact hj
      · rw [hst']
        exact RdAt.frame p11 (hoth _ (by omega)) fun sb h=>hoth _ (by have:=(hsrc sb h).2;omega)
      · exact p6.own (Nat.le_refl _) _
      · have hacc:x=acc:=by
          rw [hst] at p15
          simp only [Option.bind_some,hp] at p15
          cases st' with
          | none=>cases p15
          | some r' =>
            simp only [Option.bind_some,pTagN,rOk,Option.some.injEq,Prod.mk.injEq] at p15
            exact p15.1
        subst hacc
        have hmv:=p13.frame (w':=w4.setRow w.heap.size [Value.map m].toArray) (fun k h1 _=>hoth k (by omega)) (fun sb h=>hoth _ (by have:=(hsrc sb h).2;omega))
        rcases hmv with ⟨rfl,rfl⟩ | ⟨r',es,clock,rfl,e2,e3,e4,e5,e6,e7⟩
        · exact .inl ⟨rfl,rfl⟩
        · refine .inr ⟨r',es,clock,rfl,.inr ⟨by omega,(Array.getElem?_eq_some_iff.1 e4).1⟩,e4,e5,e6,fun e he x hx hk=>?_⟩
          obtain ⟨b2,c2,k1,k2⟩:=e7 e he x hx hk
          exact ⟨b2,c2,k1,bytesAt_F k2 fun k hk=>.inl hk⟩
    · rw [if_pos (by simp;omega)]
      refine SC.wp_skip ?_
      simp only [Exit.then]
      obtain ⟨n',rfl⟩:∃ n',n=n'+1:=⟨n - 1,by omega⟩
      refine SC.wp_seq (SC.wp_block (SC.wp_seq (SC.wp_reg ?_)))
      iterate 1 (apply ops_1;(focus (simp (disch:=(try simp only [sPu]);omega) [p3];try rfl)))
      refine ops_call hU.1 (hU.2 w4 S rb st' (by omega) p11 (hsrc2 w4 p6)) (by simp (disch:=(try simp only [sPu]);omega) [p3]) ?_
      rintro e w5 ⟨v,rfl,k1,k2,⟨k,hkl,rfl⟩,k4⟩
      refine ⟨_,rfl,?_⟩
      iterate 1 (apply ops_1;(focus (simp (disch:=(try simp only [sPu]);omega) [p3];try rfl)))
      refine ops_call hU.1 (hU.2 w5 S rb _ (by have:=k2.size;omega) k1 (hsrc2 w5 (p6.trans k2))) (by simp (disch:=(try simp only [sPu]);omega) [p3]) ?_
      rintro e w6 ⟨v,rfl,l1,l2,⟨s,hsl,rfl⟩,l4⟩
      refine ⟨_,rfl,?_⟩
      repeat (apply ops_1;(focus (simp (disch:=(try simp only [sPu]);omega) ;try rfl)))
      refine oNi (SC.wp_reg ?_)
      have hws:IntKind.i64.wrap (s:Int)=(s:Int):=wrap64 (by omega) (by omega)
      iterate 4 (apply ops_1;(focus (simp (disch:=(try simp only [sPu]);omega) [p3,h1k,h2k,hws];try rfl)))
      refine ops_call hSp.1 (hSp.2 w6 S rb _ (s:Int) l1 (hsrc2 w6 ((p6.trans k2).trans l2))) (by simp (disch:=(try simp only [sPu]);omega) [p3]) ?_
      rintro e w7 ⟨S',base,cap,x,rfl,m1,m2,m3,m4,m5⟩
      refine ⟨_,rfl,?_⟩
      have ho7:Only rb w4 w7:=(k2.trans l2).trans m2
      have hrow7:w7.heap[w.heap.size+1]?=some (.cells #[.map m] T0 (0,0)):=by rw [ho7.block _ (by omega) (by omega)];exact p12
      have hmv7:MapV w7 (w.heap.size+1) (w.heap.size+1) S acc m:=p13.frame (fun k h1 h2=>ho7.block k h2 (by omega)) fun sb h=>ho7.block sb (by have:=(hsrc sb h).2;omega) (hsrc sb h).1
      have hb7:BytesAt w7 (fun k=>S=some k) base x:=by
        rcases m5 with rfl | rfl
        · exact .inl m3.2
        · exact bytesAt_src m3 fun sb h=>h
      refine ops_call hSet.1 (hSet.2 w7 (w.heap.size+1) (w.heap.size+1) k cap S m acc base x (Nat.le_refl _) (by have:=ho7.size;omega) (fun sb h=>by have:=(hsrc sb h).2;omega) hrow7 hmv7 p14 hb7) (by simp (disch:=(try simp only [sPu]);omega) [p5]) ?_
      rintro e w8 ⟨rfl,n1,n2,n3,m',n4,n5⟩
      refine ⟨_,rfl,oNi ?_⟩
      simp only [Exit.then,Exit.inBlock]
      have hwn:IntKind.u32.wrap (n':Int)=(n':Int):=wrap_uN (k:=.u32) rfl (n:=n') (by simp only [IntKind.bits];omega)
      refine SC.wp_reg ?_
      repeat (apply ops_1;(focus (simp (disch:=(try simp only [sPu]);omega) [p9,hwn];try rfl)))
      refine oNi ?_
      have ho8:Only rb w w8:=by
        have ho:=p6.trans ho7
        exact ⟨n1.os.trans ho.os,n1.tape.trans ho.tape,n1.output.trans ho.output,Nat.le_trans ho.size n1.size,fun k hk hr=>(n1.block k (by omega)).trans (ho.block k hk hr)⟩
      refine ⟨⟨by simp [sPu,p1],by simp [dPu,p2],by simp (disch:=(try simp only [sPu]);omega) [p3],by simp (disch:=(try simp only [sPu]);omega) [p4],by simp (disch:=(try simp only [sPu]);omega) [p5],ho8,by have:=n1.size;have:=ho7.size;omega,?_,n',setTag (k,x) acc,m',after (after (after st' pUv) pUv) (pSpan (s:Int)),by simp (disch:=(try simp only [sPu]);omega),by omega,?_,n4,n5,setTag_sorted p14,?_⟩,?_⟩
      · rw [n1.block _ (by omega),ho7.block _ (by omega) (by omega)]
        exact p8
      · exact RdAt.frame m1 (n1.block _ (by omega)) fun sb h=>n1.block _ (by have:=(hsrc sb h).2;omega)
      · rw [p15]
        refine tagN_step (fun b y r hb hp=>?_) (fun b y r hb hp=>?_) (fun b y r hb hp=>(m4 b y r hb hp).1)
        · have:=k4 b y r hb hp
          simp only [Value.int.injEq,true_and] at this
          omega
        · have:=l4 b y r hb hp
          simp only [Value.int.injEq,true_and] at this
          omega
      · rw [hmu]
        simp only [tMu]
        simp (disch:=(try simp only [sPu]);omega)
end
end Go.Proofs.YtcchakpiemhpeaaDoor.K
namespace Go.Proofs.YtcchakpiemhpeaaDoor.K
open Go Go.RowKit Go.Proofs.YtcchakpiemhpeaaDoor.T
attribute [local simp] eTm eCo pNo gTp gTn qv qcall vop iop
set_option linter.unusedSimpArgs false
set_option linter.unusedVariables false
set_option maxHeartbeats 4000000
section
variable {P:Program} {X:STy} {f:FuncId} {fn:Func}
def DefFn (P:Program) (f T:Nat) (cs0 cs:Array Value):Prop :=
  FnOK P f∧∀ (w:World) (b:Nat),w.heap[b]?=some (.cells cs0 T (0,0))→Calls P f #[.pointer (some ⟨b,0,none⟩)] w fun e w'=>e=.returned (.tuple #[])∧w'=w.setRow b cs
end
end Go.Proofs.YtcchakpiemhpeaaDoor.K
namespace Go.Proofs.YtcchakpiemhpeaaDoor.K
open Go Go.RowKit Go.Proofs.YtcchakpiemhpeaaDoor.T
attribute [local simp] eTm eCo pNo gTp gTn qv qcall vop iop
set_option linter.unusedVariables false
set_option linter.unusedSimpArgs false
set_option maxHeartbeats 2000000
def sc_ReadFromW (F0:Nat):SC:=.seq (.reg [⟨some 4,.assign (.const .nilIface),none⟩]) (.seq (.reg [mv 5 0,mv 6 1,⟨some 7,.call ⟨.value (.func F0),#[(.tmp 5),(.tmp 6),(.const (.bool false))],#[]⟩,none⟩,asg 4 7]) (.ret))
section
variable {P:Program} {f:FuncId} {fn:Func}
theorem readFromW_ok {F0:Nat} (oF:FnOK P F0) (hf:P.funcs[f]?=some fn) (hb:fn.body.map strip=some (sc_ReadFromW F0)) (hn:fn.ntmps=8) (hr:fn.results=#[.tmp 4]) (w:World) (x y:Value) (R:Ending→World→Prop)
    (hc:Calls P F0 #[x,y,.bool false] w fun e w'=>∃ v,e=.returned v∧R e w'):Calls P f #[x,y] w R:=by
  refine fCa hf hb hn (by simp) fun a0 hs hd ha=>?_
  have h0:=ha 0 _ rfl
  have h1:=ha 1 _ rfl
  simp only [List.getElem_toArray,List.getElem_cons_zero,List.getElem_cons_succ] at h0 h1
  refine SC.wp_seq (SC.wp_reg ?_)
  repeat (apply ops_1;(focus (simp (disch:=(try simp only [sPu]);omega) ;try rfl)))
  refine oNi (SC.wp_seq (SC.wp_reg ?_))
  iterate 2 (apply ops_1;(focus (simp (disch:=(try simp only [sPu]);omega) [h0,h1];try rfl)))
  refine ops_call oF hc (by simp (disch:=(try simp only [sPu]);omega) [h0,h1]) ?_
  rintro e w1 ⟨v,rfl,hR⟩
  refine ⟨_,rfl,?_⟩
  repeat (apply ops_1;(focus (simp (disch:=(try simp only [sPu]);omega) ;try rfl)))
  refine oNi (SC.wp_ret (ret_tmp hr (by simp [dPu,hd]) ?_))
  simp (disch:=(try simp only [sPu]);omega)
  exact hR
def isErr:Value→Bool
  | .iface _ _=>true
  | _=>false
def ifaceT (P:Program) (T:Nat):Bool:=match P.underlying T with
  | some (.interface _)=>true
  | _=>false
theorem opw_isErr {a:Act} {w:World} {K:Act→World→Prop} {d:Option Tmp} {g:Option (Nat × Bool)} {T T':Nat} {x:Operand} {v:Value} (hT:ifaceT P T=true) (hx:a.eval x=v) (hv:v=.nilIface∨∃ t y,v=.iface t y) (h:K (a.put d (.bool (isErr v))) w) :
    opw P ⟨d,.binOp .neq T x (.const .nilIface) T',g⟩ a w K:=by
  unfold ifaceT at hT
  split at hT <;> try (simp at hT;done)
  rename_i ms hu
  refine oVa (v:=.bool (isErr v)) (by simp) (fun p hp=>?_) h
  have he:(Op.equal T v .nilIface).run P w=.ok (!isErr v) w:=by
    have hd:∀ d,(Op.equalIn (d+1) T v .nilIface).run P w=.ok (!isErr v) w:=fun d=>by
      rcases hv with rfl | ⟨t,y,rfl⟩ <;> simp [Op.equalIn,run_underlying hu,isErr]
    exact hd 9999
  rcases hv with rfl | ⟨t,y,rfl⟩ <;> simp [execOp,hp,hx,eCo,eqGuard,binOp,he,isErr]
theorem res2 {a:Act} {w:World} {r1 r2:Nat} {v1 v2:Value} (hr:fn.results=#[.tmp r1,.tmp r2]) (h1:getT a r1=v1) (h2:getT a r2=v2):(results fn a.tmps).run P w=.ok (.tuple #[v1,v2]) w:=by
  have e1:a.tmps.getD r1 undef=v1:=h1
  have e2:a.tmps.getD r2 undef=v2:=h2
  simp only [Array.getD_eq_getD_getElem?] at e1 e2
  simp [results,hr,e1,e2]
theorem own_base {tU8:Nat} {w:World} {B B':Nat} {dv:Value} {xs:Bytes} (h:Own tU8 w B dv xs) (hB:B'≤B):Own tU8 w B' dv xs:=by
  obtain ⟨h1,h2 | ⟨g,cap,cur,e1,e2,e3⟩⟩:=h
  · exact ⟨h1,.inl h2⟩
  · exact ⟨h1,.inr ⟨g,cap,cur,e1,Nat.le_trans hB e2,e3⟩⟩
end
end Go.Proofs.YtcchakpiemhpeaaDoor.K
namespace Go.Proofs.YtcchakpiemhpeaaDoor.K
open Go Go.RowKit Go.Proofs.YtcchakpiemhpeaaDoor.T
set_option linter.unusedVariables false
set_option linter.unusedSimpArgs false
def zeroB (P:Program) (T:Nat) (q:List Value→Bool):Bool:=match P.info? T with
  | some i=>(match i.zero with
    | some z=>q z.cells.toList
    | none=>false)
  | none=>false
theorem zeroB_of {P:Program} {T:Nat} {q:List Value→Bool} (h:zeroB P T q=true):∃ i z,P.info? T=some i∧i.zero=some z∧q z.cells.toList=true:=by
  unfold zeroB at h
  split at h
  · rename_i i hi
    split at h
    · rename_i z hz
      exact ⟨i,z,hi,hz,h⟩
    · cases h
  · cases h
def isNilMap:List Value→Bool
  | [.map none]=>true
  | _=>false
theorem info_ex2 {P:Program} {T:Nat} (h:zeroB P T isNilMap=true):∃ i z,P.info? T=some i∧i.zero=some z∧z.cells=#[.map none]:=by
  obtain ⟨i,z,h1,h2,h3⟩:=zeroB_of h
  refine ⟨i,z,h1,h2,?_⟩
  unfold isNilMap at h3
  split at h3
  · rename_i e
    rw [← Array.toArray_toList (xs:=z.cells),e]
  · cases h3
def zcOf (P:Program) (T:TypeId):Array Value :=
  match (P.info? T).bind (·.zero) with
  | some z=>z.cells
  | none=>#[]
theorem zc_of {P:Program} {T:TypeId} (h:((P.info? T).bind (·.zero)).isSome=true):∃ i z,P.info? T=some i∧i.zero=some z∧z.cells=zcOf P T:=by
  obtain ⟨z,hz⟩:=Option.isSome_iff_exists.1 h
  obtain ⟨i,hi,hz'⟩:=Option.bind_eq_some_iff.1 hz
  exact ⟨i,z,hi,hz',by simp [zcOf,hz]⟩
end Go.Proofs.YtcchakpiemhpeaaDoor.K
namespace Go.Proofs.YtcchakpiemhpeaaDoor.K
open Go Go.RowKit Go.Proofs.YtcchakpiemhpeaaDoor.T
attribute [local simp] eTm eCo pNo gTp gTn qv qcall vop iop
set_option linter.unusedSimpArgs false
set_option linter.unusedVariables false
section
variable {P:Program} {tU8:Nat}
end
end Go.Proofs.YtcchakpiemhpeaaDoor.K
namespace Go.Proofs.YtcchakpiemhpeaaDoor.K
open Go Go.RowKit Go.Proofs.YtcchakpiemhpeaaDoor.T
attribute [local simp] eTm eCo pNo gTp gTn qv qcall vop iop
set_option linter.unusedVariables false
set_option linter.unusedSimpArgs false
set_option maxHeartbeats 2000000
def sc_TLen (T0 T1:Nat):SC:=.seq (.reg [⟨some 2,.assign (.const (.int .i64 0)),none⟩]) (.seq (.reg [mv 3 0,nilc 4 3,fa 5 T0 4 0,ld 6 T1 5,lenOp 7 T1 6,asg 2 7]) (.ret))
def mapT (P:Program) (T:TypeId):Bool :=
  match P.underlying T with
  | some (.map _ _)=>true
  | _=>false
section
variable {G:List (Nat × Bytes)→Prop} {P:Program} {f:FuncId} {fn:Func}
theorem hTags_size {w:World} {F:Nat→Prop} {b o:Nat} {u:List (Nat × Bytes)} (h:HTags G w F b o u):∃ v,w.cell? ⟨b,o,none⟩=some v∧(v=.map none∧u=[]∨∃ r es clock,v=.map (some r)∧w.heap[r]?=some (.map es clock)∧es.size=u.length):=by
  obtain ⟨_,_,_,_,⟨h1,h2⟩ | ⟨r,es,clock,h1,_,h2,h3,_⟩⟩:=h
  · exact ⟨_,h1,.inl ⟨rfl,h2⟩⟩
  · refine ⟨_,h1,.inr ⟨r,es,clock,rfl,h2,?_⟩⟩
    have:=h3.length_eq
    simpa using this
theorem opw_lenMapN {a:Act} {w:World} {K:Act→World→Prop} {d:Option Tmp} {g:Option (Nat × Bool)} {T:TypeId} {x:Operand} {v:Value} {ts:Array TypeId} {n:Nat} (hT:mapT P T=true) (hx:a.eval x=v) (ht:ts=#[T])
    (hv:v=.map none∧n=0∨∃ r es clock,v=.map (some r)∧w.heap[r]?=some (.map es clock)∧es.size=n) (h:K (a.put d (.int .i64 (n:Int))) w):opw P ⟨d,.call ⟨.builtin .len,#[x],ts⟩,g⟩ a w K:=by
  subst ht
  unfold mapT at hT
  split at hT <;> try (simp at hT;done)
  rename_i k e hu
  refine oVa (v:=.int .i64 (n:Int)) (by simp) (fun p hp=>?_) h
  rcases hv with ⟨rfl,rfl⟩ | ⟨r,es,clock,rfl,hr,rfl⟩
  · simp [execOp,hp,hx,resolve,invoke,builtin,Builtin.len_,run_underlying hu,goInt]
  · simp [execOp,hp,hx,resolve,invoke,builtin,Builtin.len_,run_underlying hu,goInt,getObj,hr,Sem.run]
theorem tagsLenN_ok {TT TM:Nat} (hTM:mapT P TM=true) (h1:oneB P TM=true) (hF0:fieldOff P TT 0=some 0) (hf:P.funcs[f]?=some fn) (hb:fn.body.map strip=some (sc_TLen TT TM)) (hn:fn.ntmps=8) (hr:fn.results=#[.tmp 2])
    (w:World) (F:Nat→Prop) (b o:Nat) (u:List (Nat × Bytes)) (hu:HTags G w F b o u):Calls P f #[.pointer (some ⟨b,o,none⟩)] w fun e w'=>e=.returned (.int .i64 u.length)∧w=w':=by
  obtain ⟨v,hc,hv⟩:=hTags_size hu
  refine fCa hf hb hn (by simp) fun a0 hs hd ha=>?_
  have h0:=ha 0 _ rfl
  simp only [List.getElem_toArray,List.getElem_cons_zero,List.getElem_cons_succ] at h0
  refine SC.wp_seq (SC.wp_reg ?_)
  repeat (apply ops_1;(focus (simp (disch:=(try simp only [sPu]);omega) ;try rfl)))
  refine oNi (SC.wp_seq (SC.wp_reg ?_))
  iterate 4 (apply ops_1;(focus (simp (disch:=(try simp only [sPu]);omega) [h0,hF0,h1,hc];try rfl)))
  refine oNo rfl (opw_lenMapN (v:=v) (n:=u.length) hTM (by simp (disch:=(try simp only [sPu]);omega)) rfl (by
    rcases hv with ⟨e1,e2⟩ | h
    · exact .inl ⟨e1,by rw [e2];rfl⟩
    · exact .inr h) ?_)
  repeat (apply ops_1;(focus (simp (disch:=(try simp only [sPu]);omega) ;try rfl)))
  refine oNi (SC.wp_ret (ret_tmp hr (by simp [dPu,hd]) ⟨?_,rfl⟩))
  simp (disch:=(try simp only [sPu]);omega)
end
end Go.Proofs.YtcchakpiemhpeaaDoor.K
namespace Go.Proofs.YtcchakpiemhpeaaDoor.K
open Go Go.RowKit Go.Proofs.YtcchakpiemhpeaaDoor.T
set_option linter.unusedSimpArgs false
set_option linter.unusedVariables false
section
variable {P:Program} {f:FuncId} {fn:Func}
theorem ops_callg {all:List SOp} {a:Act} {w:World} {t g j dj:Nat} {want:Bool} {args:Array Operand} {argsV:Array Value} {r:List SOp} {K:Act→World→Prop} {R:Ending→World→Prop} (hj:(all[j]?).bind (·.dst)=some dj) (hlt:dj < a.tmps.size) (hb:getT a dj=.bool want) (hf:FnOK P g) (hc:Calls P g argsV w R) (hargs:args.map a.eval=argsV)
    (hR:∀ e w',R e w'→∃ v,e=.returned v∧opsw P all r K (a.put (some t) v) w'):opsw P all (⟨some t,.call ⟨.value (.func g),args,#[]⟩,some (j,want)⟩ :: r) K a w:=by
  obtain ⟨fn,h1,h2,h3⟩:=hf
  refine ⟨dj,want,hj,hlt,.inl hb,?_⟩
  rw [if_pos rfl]
  exact opw_call (R:=R) h1 h2 h3 (by rw [hargs];exact hc) hR
theorem own_src {tU8:Nat} {w:World} {B:Nat} {dv:Value} {xs:Bytes} (h:Own tU8 w B dv xs):∃ S base cap,dv=.slice base xs.length cap∧SrcAt w S base xs∧∀ sb,S=some sb→B≤sb∧sb < w.heap.size:=by
  obtain ⟨ho1,⟨e1,e2⟩ | ⟨g,c3,cur,e1,e2,e3,e4,e5,e6,e7⟩⟩:=h
  · have hnil:xs=[]:=List.length_eq_zero_iff.1 e2
    subst hnil
    exact ⟨none,none,0,e1,⟨rfl,rfl⟩,fun sb h=>by cases h⟩
  · refine ⟨some g,some ⟨g,0,none⟩,c3,e1,⟨0,rfl,fun j u hu=>?_⟩,fun sb h=>by cases h;exact ⟨e2,(Array.getElem?_eq_some_iff.1 e3).1⟩⟩
    rw [cell_of_row _ _ _ _ _ _ e3,Nat.zero_add]
    have hj:(cellsOf xs)[j]?=some (cell u):=by simp [cellsOf,hu]
    rw [← e7,List.getElem?_take] at hj
    split at hj
    · rwa [Array.getElem?_toList] at hj
    · cases hj
end
end Go.Proofs.YtcchakpiemhpeaaDoor.K
namespace Go.Proofs.YtcchakpiemhpeaaDoor.K
open Go Go.RowKit Go.Proofs.YtcchakpiemhpeaaDoor.T
attribute [local simp] eTm eCo pNo gTp gTn qv qcall vop iop
set_option linter.unusedVariables false
set_option linter.unusedSimpArgs false
set_option maxHeartbeats 4000000
def sc_Each1 (T0 T1:Nat):SC:=.seq (.reg [⟨some 5,.assign (.const (.bool false)),none⟩]) (.seq (.dreg [ld 6 T0 2,mv 7 0,⟨some 8,.indexAddr T0 (.tmp 6) (.tmp 7),none⟩,ld 9 T1 8,ld 10 T0 2,mv 11 1,⟨some 12,.indexAddr T0 (.tmp 10) (.tmp 11),none⟩,ld 13 T1 12,⟨some 14,.binOp .lss T1 (.tmp 9) (.tmp 13) T1,none⟩,asg 5 14] [[],[],[0,1],[2],[],[],[4,5],[6],[3,7],[8,0,1,2,3,4,5,6,7,8]]) (.ret))
def sc_AppendEach1 (T0 T1 T2 F0:Nat):SC:=.seq (.reg [ld 5 T0 2,mv 6 0,cal 7 F0 [5,6],⟨none,.store T0 (.tmp 2) (.tmp 7),none⟩]) (.seq (.reg [ld 8 T0 2,mv 9 1,lenOp 10 T0 9,⟨some 11,.convert T1 T2 (.tmp 10),none⟩,cal 12 F0 [8,11],⟨none,.store T0 (.tmp 2) (.tmp 12),none⟩]) (.reg [ld 13 T0 2,mv 14 1,⟨some 15,.call ⟨.builtin .append,#[(.tmp 13),(.tmp 14)],#[T0,T0]⟩,none⟩,⟨none,.store T0 (.tmp 2) (.tmp 15),none⟩]))
section
variable {P:Program} {f:FuncId} {fn:Func}
theorem less_ok {T0 T1:Nat} (hm:P.follows .mixedOrders=true) (h0:oneB P T0=true) (hs0:sliceN P T0=some 1) (h1:oneB P T1=true) (hf:P.funcs[f]?=some fn) (hb:fn.body.map strip=some (sc_Each1 T0 T1)) (hn:fn.ntmps=15) (hr:fn.results=#[.tmp 5])
    (w:World) (q blk n cap i j x y:Nat) (hq:w.cell? ⟨q,0,none⟩=some (.slice (some ⟨blk,0,none⟩) n cap)) (hqs:q < w.heap.size) (hbs:blk < w.heap.size) (hi:i < n) (hj:j < n) (hx:w.cell? ⟨blk,i,none⟩=some (.int .u32 (x:Int))) (hy:w.cell? ⟨blk,j,none⟩=some (.int .u32 (y:Int))) :
    Calls P f #[.int .i64 (i:Int),.int .i64 (j:Int),.pointer (some ⟨q,0,none⟩)] w fun e w'=>e=.returned (.bool (decide (x < y)))∧w'=w.drew:=by
  refine fCa hf hb hn (by simp) fun a0 hs hd ha=>?_
  have k0:=ha 0 _ rfl
  have k1:=ha 1 _ rfl
  have k2:=ha 2 _ rfl
  simp only [List.getElem_toArray,List.getElem_cons_zero,List.getElem_cons_succ] at k0 k1 k2
  have hq':w.drew.cell? ⟨q,0,none⟩=some (.slice (some ⟨blk,0,none⟩) n cap):=hq
  have hx':w.drew.cell? ⟨blk,i,none⟩=some (.int .u32 (x:Int)):=hx
  have hy':w.drew.cell? ⟨blk,j,none⟩=some (.int .u32 (y:Int)):=hy
  have ei:(0:Int)≤(i:Int)∧(i:Int) < (n:Int):=by omega
  have ej:(0:Int)≤(j:Int)∧(j:Int) < (n:Int):=by omega
  refine SC.wp_seq (SC.wp_reg ?_)
  repeat (apply ops_1;(focus (simp (disch:=(try simp only [sPu]);omega) ;try rfl)))
  refine oNi (SC.wp_seq (SC.wp_dreg hm (Below w.heap.size w.drew) [(0,true),(1,true),(2,true),(3,true),(4,true),(5,true),(6,true),(7,true),(8,true),(9,true)] (by rfl) (by rfl) (by decide) (Below.refl _ _) ?_))
  repeat (apply dr_1;(focus rfl);(focus (simp (disch:=(try simp only [sPu]);omega) [h0,hs0,h1,k0,k1,k2,hq',hqs,hbs,ei,ej,hx',hy',hi,hj];try rfl)))
  refine dreg_nil ?_
  simp only [Exit.then]
  refine SC.wp_ret (ret_tmp hr (by simp [dPu,hd]) ⟨?_,rfl⟩)
  simp (disch:=(try simp only [sPu]);omega)
structure Turns (c:Nat) (dv dv':Value) (w w':World):Prop where
  os:w'.os=w.os
  tape:w'.tape=w.tape
  output:w'.output=w.output
  size:w.heap.size≤w'.heap.size
  block:∀ j,j < w.heap.size→j ≠ c→some j ≠ dv.ownBlock→w'.heap[j]?=w.heap[j]?
  own:dv'.ownBlock=dv.ownBlock∨∃ b,dv'.ownBlock=some b∧w.heap.size≤b
theorem Turns.refl (c:Nat) (dv:Value) (w:World):Turns c dv dv w w:=⟨rfl,rfl,rfl,Nat.le_refl _,fun _ _ _ _=>rfl,.inl rfl⟩
theorem Turns.trans {c:Nat} {d1 d2 d3:Value} {w1 w2 w3:World} (h:Turns c d1 d2 w1 w2) (h':Turns c d2 d3 w2 w3):Turns c d1 d3 w1 w3:=by
  have hs:=h.size
  refine ⟨h'.os.trans h.os,h'.tape.trans h.tape,h'.output.trans h.output,Nat.le_trans h.size h'.size,fun k hk hc hne=>?_,?_⟩
  · rw [h'.block k (by omega) hc ?_]
    · exact h.block k hk hc hne
    · rcases h.own with e | ⟨b,e,hb⟩
      · rw [e];exact hne
      · rw [e];intro e2;cases e2;omega
  · rcases h'.own with e | ⟨b,e,hb⟩
    · rcases h.own with e2 | ⟨b,e2,hb⟩
      · exact .inl (e.trans e2)
      · exact .inr ⟨b,e.trans e2,hb⟩
    · exact .inr ⟨b,e,by omega⟩
theorem Turns.of {B c:Nat} {d d':Value} {w w1:World} {cs:Array Value} (h:BelG B d d' w w1):Turns c d d' w (w1.setRow c cs):=by
  obtain ⟨h1,h2,h3⟩:=h
  exact ⟨h1.os,h1.tape,h1.output,by simpa using h1.size,fun j hj hc hne=>by rw [setRow_other _ _ _ _ hc];exact h2 j hj hne,h3⟩
theorem own_row {tU8:Nat} {w:World} {B c:Nat} {v:Value} {xs:Bytes} {cs:Array Value} (h:Own tU8 w B v xs) (hne:v.ownBlock ≠ some c):Own tU8 (w.setRow c cs) B v xs:=by
  refine ⟨h.1,h.2.imp id ?_⟩
  rintro ⟨g,cap,cur,h1,h2,h3,h4⟩
  refine ⟨g,cap,cur,h1,h2,?_,h4⟩
  rw [setRow_other]
  · exact h3
  · intro e;subst e;exact hne (by rw [h1];rfl)
theorem own_ltB {tU8:Nat} {w:World} {B b:Nat} {v:Value} {xs:Bytes} (h:Own tU8 w B v xs) (hb:v.ownBlock=some b):B≤b∧b < w.heap.size:=h.lt b hb
theorem own_one {tU8:Nat} {w:World} {B:Nat} {dv:Value} {xs:Bytes} (h:Own tU8 w B dv xs):dv.oneCell'=true:=by rcases h.2 with ⟨rfl,_⟩ | ⟨g,cap,cur,rfl,_⟩ <;> rfl
theorem bytesAt_turns {w w':World} {B c:Nat} {dv dv':Value} {base:Option Addr} {bs:Bytes} (h:BytesAt w (· < B) base bs) (hB:B≤w.heap.size) (hc:B≤c) (hd:∀ b,dv.ownBlock=some b→B≤b) (ht:Turns c dv dv' w w'):BytesAt w' (· < B) base bs :=
  bytesAt_mono h (fun _ h=>h) fun k hk=>ht.block k (by omega) (by omega) fun e=>by have:=hd k e.symm;omega
theorem cl_ok {T0 T1 T2 F0 tU8:Nat} (hT:u8sB P T0 tU8=true) (h0:oneB P T0=true) (hs0:sliceN P T0=some 1) (h1k:intK P T1=some .i64) (h2k:intK P T2=some .u32) (cU:∀ n:Nat,n < 4294967296→AP2 P tU8 F0 #[.int .u32 (n:Int)] (uvarint n))
    (hf:P.funcs[f]?=some fn) (hb:fn.body.map strip=some (sc_AppendEach1 T0 T1 T2 F0)) (hn:fn.ntmps=16) (hr:fn.results=#[])
    (w:World) (B c k cap:Nat) (dv:Value) (xs bs:Bytes) (base:Option Addr) (ho:Own tU8 w B dv xs) (hne:dv.ownBlock ≠ some c) (hc:w.heap[c]?=some (.cells #[dv] T0 (0,0))) (hBc:B≤c) (hk:k < 4294967296) (hbs:BytesAt w (· < B) base bs) (hm:bs.length≤most) (hl:xs.length+(wTag (k,bs)).length≤lim) :
    Calls P f #[.int .u32 (k:Int),.slice base bs.length cap,.pointer (some ⟨c,0,none⟩)] w fun e w'=>e=.returned (.tuple #[])∧∃ dv',w'.heap[c]?=some (.cells #[dv'] T0 (0,0))∧Own tU8 w' B dv' (xs ++ wTag (k,bs))∧dv'.ownBlock ≠ some c∧Turns c dv dv' w w':=by
  have hmost:most=32767:=rfl
  have hcs:c < w.heap.size:=(Array.getElem?_eq_some_iff.1 hc).1
  have hwt:wTag (k,bs)=uvarint k ++ uvarint bs.length ++ bs:=by simp only [wTag,whole_of hm]
  rw [hwt] at hl ⊢
  simp only [List.length_append] at hl
  have hcell:∀ {w:World} {v:Value},w.heap[c]?=some (.cells #[v] T0 (0,0))→w.cell? ⟨c,0,none⟩=some v:=fun h=>by rw [cell_of_row _ _ _ _ _ _ h];rfl
  have ownNe:∀ {d d':Value} {w1 w2:World},BelG B d d' w1 w2→d.ownBlock ≠ some c→c < w1.heap.size→d'.ownBlock ≠ some c:=fun h h1 h2=>by
    rcases h.2.2 with e | ⟨b,e,hb⟩
    · rw [e];exact h1
    · rw [e];intro e2;cases e2;omega
  refine fCa hf hb hn (by simp) fun a0 hs hd ha=>?_
  have k0:=ha 0 _ rfl
  have k1:=ha 1 _ rfl
  have k2:=ha 2 _ rfl
  simp only [List.getElem_toArray,List.getElem_cons_zero,List.getElem_cons_succ] at k0 k1 k2
  have hc0:=hcell hc
  refine SC.wp_seq (SC.wp_reg ?_)
  iterate 2 (apply ops_1;(focus (simp (disch:=(try simp only [sPu]);omega) [h0,k0,k2,hc0];try rfl)))
  refine ops_call (cU k hk).1 ((cU k hk).2 w B dv xs ho (by omega) (by omega)) (by simp (disch:=(try simp only [sPu]);omega) [k0]) ?_
  rintro e w1 ⟨d1,rfl,o1,g1,hs1⟩
  refine ⟨_,rfl,?_⟩
  have n1:=ownNe g1 hne hcs
  have hc1:w1.heap[c]?=some (.cells #[dv] T0 (0,0)):=by rw [g1.2.1 c hcs fun e=>hne e.symm];exact hc
  refine ops_stR (b:=c) (i:=0) (cs:=#[dv]) (v:=d1) h0 (by simp (disch:=(try simp only [sPu]);omega) [k2]) (by simp (disch:=(try simp only [sPu]);omega)) (own_one o1) hc1 (by simp) ?_
  have t1:Turns c dv d1 w (w1.setRow c (#[dv].setIfInBounds 0 d1)):=Turns.of g1
  have hr1:(w1.setRow c (#[dv].setIfInBounds 0 d1)).heap[c]?=some (.cells #[d1] T0 (0,0)):=setRow_heap _ _ _ _ _ _ hc1
  have o1':Own tU8 (w1.setRow c (#[dv].setIfInBounds 0 d1)) B d1 (xs ++ uvarint k):=own_row o1 n1
  generalize w1.setRow c (#[dv].setIfInBounds 0 d1)=w2 at t1 hr1 o1' ⊢
  refine oNi ?_
  simp only [Exit.then]
  have hc2:=hcell hr1
  have hcs2:c < w2.heap.size:=(Array.getElem?_eq_some_iff.1 hr1).1
  have hw32:IntKind.u32.wrap (bs.length:Int)=(bs.length:Int):=by
    rw [wrap_u32];omega
  refine SC.wp_seq (SC.wp_reg ?_)
  iterate 4 (apply ops_1;(focus (simp (disch:=(try simp only [sPu]);omega) [h0,k1,k2,hc2,hs0,h1k,h2k,hw32];try rfl)))
  refine ops_call (cU bs.length (by omega)).1 ((cU bs.length (by omega)).2 w2 B d1 (xs ++ uvarint k) o1' (by have:=t1.size;omega) (by rw [List.length_append];omega)) (by simp (disch:=(try simp only [sPu]);omega)) ?_
  rintro e w3 ⟨d3,rfl,o3,g3,hs3⟩
  refine ⟨_,rfl,?_⟩
  have n3:=ownNe g3 n1 hcs2
  have hc3:w3.heap[c]?=some (.cells #[d1] T0 (0,0)):=by rw [g3.2.1 c hcs2 fun e=>n1 e.symm];exact hr1
  refine ops_stR (b:=c) (i:=0) (cs:=#[d1]) (v:=d3) h0 (by simp (disch:=(try simp only [sPu]);omega) [k2]) (by simp (disch:=(try simp only [sPu]);omega)) (own_one o3) hc3 (by simp) ?_
  have t3:Turns c d1 d3 w2 (w3.setRow c (#[d1].setIfInBounds 0 d3)):=Turns.of g3
  have hr3:(w3.setRow c (#[d1].setIfInBounds 0 d3)).heap[c]?=some (.cells #[d3] T0 (0,0)):=setRow_heap _ _ _ _ _ _ hc3
  have o3':Own tU8 (w3.setRow c (#[d1].setIfInBounds 0 d3)) B d3 ((xs ++ uvarint k) ++ uvarint bs.length):=own_row o3 n3
  generalize w3.setRow c (#[d1].setIfInBounds 0 d3)=w4 at t3 hr3 o3' ⊢
  refine oNi ?_
  simp only [Exit.then]
  have t4:=t1.trans t3
  have hc4:=hcell hr3
  have hcs4:c < w4.heap.size:=(Array.getElem?_eq_some_iff.1 hr3).1
  have hbs4:BytesAt w4 (· < B) base bs:=bytesAt_turns hbs (by omega) hBc (fun b hb=>(own_ltB ho hb).1) t4
  obtain ⟨hu,i,hi,hz,hsz1,hby⟩:=u8s_of hT
  have hlim:lim=70368744177664:=rfl
  refine SC.wp_reg ?_
  iterate 2 (apply ops_1;(focus (simp (disch:=(try simp only [sPu]);omega) [h0,k1,k2,hc4];try rfl)))
  refine oNo rfl (opw_of fun o next Q hd2 hop hnn=>?_)
  obtain ⟨d5,w5,hrun,hown,hgr,hob⟩:=run_append_src2 (P:=P) w4 B T0 T0 o.type tU8 i (.int .u8 0) 1 1 hu hi hz hsz1 hby rfl (by decide) d3 _ (cellsOf ((xs ++ uvarint k) ++ uvarint bs.length)) o3' (.slice base bs.length cap) bs.length (cellsOf bs) (src_bytes hT hbs4 cap) (by simp only [maxLen,List.length_append];omega) (by simp only [List.length_append];omega) (by have:=t4.size;omega)
  have hop':o.op=.call ⟨.builtin .append,#[.tmp 13,.tmp 14],#[T0,T0]⟩:=stripOp_eq (by simp) hop
  have o5:Own tU8 w5 B d5 (((xs ++ uvarint k) ++ uvarint bs.length) ++ bs):=by
    unfold Own
    rw [cellsOf_append,List.length_append]
    exact hown
  have g5:BelG B d3 d5 w4 w5:=⟨(Below.refl B w4).grown hgr (by have:=t4.size;omega) (fun k hk=>own_u8 o3' k hk),hgr.block,hob⟩
  have hrun2:∀ av:Operand→Value,av (.tmp 13)=d3→av (.tmp 14)=.slice base bs.length cap→(execOp av o).run P w4=.ok (.value d5) w5:=by
    intro av e1 e2
    simp [execOp,hop',resolve,invoke,builtin,e1,e2,hrun]
  rw [hrun2 _ (by simp (disch:=(try simp only [sPu]);omega)) (by simp (disch:=(try simp only [sPu]);omega) [k1]),Oper.upon_value,hd2]
  refine hnn _ _ ?_
  have n5:=ownNe g5 n3 hcs4
  have hc5:w5.heap[c]?=some (.cells #[d3] T0 (0,0)):=by rw [g5.2.1 c hcs4 fun e=>n3 e.symm];exact hr3
  refine ops_stR (b:=c) (i:=0) (cs:=#[d3]) (v:=d5) h0 (by simp (disch:=(try simp only [sPu]);omega) [k2]) (by simp (disch:=(try simp only [sPu]);omega)) (own_one o5) hc5 (by simp) ?_
  have t5:Turns c d3 d5 w4 (w5.setRow c (#[d3].setIfInBounds 0 d5)):=Turns.of g5
  have hr5:(w5.setRow c (#[d3].setIfInBounds 0 d5)).heap[c]?=some (.cells #[d5] T0 (0,0)):=setRow_heap _ _ _ _ _ _ hc5
  have o5':Own tU8 (w5.setRow c (#[d3].setIfInBounds 0 d5)) B d5 (((xs ++ uvarint k) ++ uvarint bs.length) ++ bs):=own_row o5 n5
  refine oNi ?_
  refine bodyPost_end (v:=.tuple #[]) ?_ (by simp [dPu,hd]) ⟨rfl,d5,hr5,by simpa [List.append_assoc] using o5',n5,t4.trans t5⟩
  simp [results,hr]
variable {a:Act} {w:World} {K:Act→World→Prop} {d:Option Tmp} {g:Option (Nat × Bool)}
theorem opw_range {T r clock:Nat} {k e:TypeId} {x:Operand} {es:Array MapEntry} (hT:P.underlying T=some (.map k e)) (hx:a.eval x=.map (some r)) (hr:w.heap[r]?=some (.map es clock))
    (h:K (a.put d (.pointer (some ⟨w.heap.size,0,none⟩))) (w.alloc (.mapIter (some r) clock #[] clock))):opw P ⟨d,.range T x,g⟩ a w K :=
  oVa (by simp) (fun o ho=>by simp [execOp,ho,hx,run_range_map w T k e r es clock hT hr]) h
theorem opw_next {it r since c0 clock:Nat} {seen:Array Nat} {es:Array MapEntry} {x:Operand} (hx:a.eval x=.pointer (some ⟨it,0,none⟩)) (hi:w.heap[it]?=some (.mapIter (some r) since seen c0)) (hr:w.heap[r]?=some (.map es clock)) (hold:∀ x ∈ es.toList,x.born < since) (hsc:since≤c0)
    (h0:(leftOf es seen).size=0→K (a.put d (.tuple #[.bool false])) w)
    (h1:∀ e ∈ (leftOf es seen).toList,∀ w1:World,(w1=w∨w1=w.drew)→K (a.put d (.tuple #[.bool true,e.key,e.val])) (ChangeMaps.setBlock w1 it (.mapIter (some r) since (seen.push e.born) clock))):opw P ⟨d,.next x false,g⟩ a w K:=by
  refine opw_of fun o next Q hd hop hn=>?_
  have hop':=stripOp_eq (by simp) hop
  rcases run_next_at (P:=P) w o.type it r since c0 seen es clock hi hr hold hsc with ⟨h2,h3⟩ | ⟨e,he,w1,h2,h3⟩
  · rw [show (execOp a.eval o).run P w=.ok (.value (.tuple #[.bool false])) w by simp [execOp,hop',hx,h3],Oper.upon_value,hd]
    exact hn _ _ (h0 h2)
  · rw [show (execOp a.eval o).run P w=.ok (.value (.tuple #[.bool true,e.key,e.val])) (ChangeMaps.setBlock w1 it (.mapIter (some r) since (seen.push e.born) clock)) by simp [execOp,hop',hx,h3],Oper.upon_value,hd]
    exact hn _ _ (h1 e he w1 h2)
theorem opw_entry {it r since clock:Nat} {seen:Array Nat} {es:Array MapEntry} {e:MapEntry} {x:Operand} (hx:a.eval x=.pointer (some ⟨it,0,none⟩)) (hi:w.heap[it]?=some (.mapIter (some r) since (seen.push e.born) clock)) (hr:w.heap[r]?=some (.map es clock)) (he:e ∈ es.toList) (hnd:(es.toList.map (·.born)).Nodup)
    (h:K (a.put d (.tuple #[e.key,e.val])) w):opw P ⟨d,.entry x,g⟩ a w K :=
  oVa (by simp) (fun o ho=>by simp [execOp,ho,hx,run_entry_at w it r since seen es clock e hi hr he hnd]) h
theorem opw_callv {f : FuncId} {x : Operand} {args : Array Operand} {lb argsV : Array Value} {fn : Func} {R : Ending → World → Prop} (hx : a.eval x = .func (.func f) #[] lb) (hf : P.funcs[f]? = some fn) (hb : fn.body.isSome = true) (hnm : (fn.name == "runtime.NumGoroutine") = false)
    (hargs:args.map a.eval ++ lb=argsV) (hc:Calls P f argsV w R) (hR:∀ e w',R e w'→∃ v,e=.returned v∧K (a.put d v) w'):opw P ⟨d,.call ⟨.value x,args,#[]⟩,g⟩ a w K:=by
  refine opw_of fun o next Q hd ho hn=>?_
  have ho':∃ t,o.op=.call ⟨.value x,args,t⟩:=by
    unfold stripOp at ho
    split at ho
    · rename_i heq
      simp at ho
      obtain ⟨rfl,rfl⟩:=ho
      exact ⟨_,heq⟩
    · rename_i hne
      exact absurd ho (hne _ _ _)
  obtain ⟨t,ho'⟩:=ho'
  have hr:(execOp a.eval o).run P w=.ok (.enter f argsV) w:=by
    have h0:=run_callFunc (P:=P) (w:=w) (args:=argsV) hf hb hnm
    rw [← hargs] at h0 ⊢
    simp [execOp,ho',resolve,Deferred.ofValue,invoke,hx,h0]
  rw [hr,Oper.upon_enter]
  refine hc.mono ?_
  intro e w' hq
  obtain ⟨v,rfl,hk⟩:=hR e w' hq
  rw [hd]
  exact hn _ _ hk
theorem opw_lookup {T r k clock:Nat} {m x:Operand} {es:Array MapEntry} {F:Nat→Prop} {u:List (Nat × Bytes)} (hT:mapU P T=true) (hm:a.eval m=.map (some r)) (hx:a.eval x=.int .u32 (k:Int))
    (hr:w.heap[r]?=some (.map es clock)) (ht:TagsEs w F es clock u) {y:Nat × Bytes} (hy:y ∈ u) (hyk:y.1=k) (h:∀ base cap,BytesAt w F base y.2→K (a.put d (.slice base y.2.length cap)) w):opw P ⟨d,.lookup T m x false,g⟩ a w K:=by
  obtain ⟨-,kt,e,hu,hk⟩:=mapU_of hT
  have hik:MapKept.IsKey (.int .u32) (.int .u32 (k:Int)):=rfl
  have hks:∀ z ∈ es.toList,MapKept.IsKey (.int .u32) z.key:=fun z hz=>by
    have:z.key ∈ u.map fun x=>Value.int .u32 (x.1:Int):=ht.1.mem_iff.1 (List.mem_map_of_mem hz)
    obtain ⟨x,_,hxe⟩:=List.mem_map.1 this
    rw [← hxe]
    rfl
  rcases MapKept.findNow_spec hik es.toList 0 hks with ⟨h1,h2⟩ | ⟨j,e0,h1,h2,h3⟩
  · exfalso
    have:Value.int .u32 (y.1:Int) ∈ es.toList.map (·.key):=ht.1.mem_iff.2 (List.mem_map_of_mem (f:=fun x:Nat × Bytes=>Value.int .u32 (x.1:Int)) hy)
    obtain ⟨z,hz,hze⟩:=List.mem_map.1 this
    exact h2 z hz (by rw [hze,hyk])
  · have hj:es[j]?=some e0:=by simpa using h2
    have hmem:e0 ∈ es.toList:=Array.mem_toList_iff.2 (Array.mem_of_getElem? hj)
    obtain ⟨base,cap,hv,hb⟩:=ht.2.2 e0 hmem y hy (by rw [h3,hyk])
    refine oVa (v:=.slice base y.2.length cap) (by simp) (fun p hp=>?_) (h base cap hb)
    have hj':es.toList[j]?=some e0:=by simpa using hj
    simp [execOp,hp,hm,hx,Instr.lookup,run_underlying hu,MapKept.run_getObj_map hr,MapKept.run_checkKey hk hik,MapKept.run_findKey hk h1,Result.andThen,hj,hv]
end
end Go.Proofs.YtcchakpiemhpeaaDoor.K
namespace Go.Proofs.YtcchakpiemhpeaaDoor.K
open Go Go.RowKit Go.Proofs.YtcchakpiemhpeaaDoor.T
attribute [local simp] eTm eCo pNo gTp gTn qv qcall vop iop
set_option linter.unusedVariables false
set_option linter.unusedSimpArgs false
set_option maxHeartbeats 8000000
def sc_TEach (T0 T1 T2 T3 T4 F0 CL:Nat):SC:=.seq (.seq (.reg [mv 8 0,nilc 9 8,fa 10 T0 9 0,ld 11 T1 10,lenOp 12 T1 11,⟨some 13,.binOp .eql T2 (.tmp 12) (.const (.int .i64 0)) T2,none⟩]) (.cond (.tmp 13) (.ret) (.skip))) (.seq (.reg [mv 14 0,nilc 15 14,fa 16 T0 15 0,ld 17 T1 16,lenOp 18 T1 17,⟨some 19,.makeSlice T3 (.const (.int .i64 0)) (.tmp 18),none⟩,⟨some 4,.alloc T3,none⟩,⟨none,.store T3 (.tmp 4) (.tmp 19),none⟩]) (.seq (.seq (.reg [mv 20 0,nilc 21 20,fa 22 T0 21 0,ld 23 T1 22,⟨some 24,.range T1 (.tmp 23),none⟩]) (.block 0 (.loop (.seq (.reg [⟨some 25,.next (.tmp 24) false,none⟩,⟨some 26,.extract (.tmp 25) 0,none⟩]) (.seq (.cond (.tmp 26) (.skip) (.exit 0)) (.block 1 (.seq (.reg [⟨some 27,.entry (.tmp 24),none⟩,⟨some 28,.extract (.tmp 27) 0,none⟩,asg 5 28]) (.reg [ld 29 T3 4,mv 30 5,⟨some 31,.buildSlice T3 1 #[(0,(.tmp 30))],none⟩,⟨some 32,.call ⟨.builtin .append,#[(.tmp 29),(.tmp 31)],#[T3,T3]⟩,none⟩,⟨none,.store T3 (.tmp 4) (.tmp 32),none⟩])))))))) (.seq (.reg [ld 33 T3 4,⟨some 34,.makeInterface T3 (.tmp 33),none⟩,⟨some 35,.makeFunc (.func CL) #[] #[(.tmp 4)],none⟩,cal 36 F0 [34,35]]) (.seq (.reg [ld 37 T3 4,lenOp 38 T3 37,⟨some 39,.move (.const (.int .i64 0)),none⟩]) (.block 2 (.loop (.seq (.reg [⟨some 40,.binOp .lss T2 (.tmp 39) (.tmp 38) T2,none⟩]) (.seq (.cond (.tmp 40) (.skip) (.exit 2)) (.seq (.block 3 (.seq (.reg [⟨some 41,.indexAddr T3 (.tmp 37) (.tmp 39),none⟩,ld 42 T4 41,asg 7 42]) (.reg [mv 43 1,mv 44 7,mv 45 0,nilc 46 45,fa 47 T0 46 0,ld 48 T1 47,mv 49 7,⟨some 50,.lookup T1 (.tmp 48) (.tmp 49) false,none⟩,⟨some 51,.call ⟨.value (.tmp 43),#[(.tmp 44),(.tmp 50)],#[]⟩,none⟩]))) (.reg [⟨some 52,.binOp .add T2 (.tmp 39) (.const (.int .i64 1)) T2,none⟩,mv 39 52]))))))))))
abbrev encK (k:Nat):Value:=.int .u32 (k:Int)
def SortC (P:Program) (FS CL TU T32:Nat):Prop:=FnOK P FS∧∀ (w:World) (B q blk cap:Nat) (ks:List Nat),q ≠ blk→q < w.heap.size→w.heap[q]?=some (.cells #[.slice (some ⟨blk,0,none⟩) ks.length cap] TU (0,0))→w.ownsRow B T32 1 (.slice (some ⟨blk,0,none⟩) ks.length cap) ks.length (ks.map encK)→ks.length≤32767 →
  Calls P FS #[.iface TU (.slice (some ⟨blk,0,none⟩) ks.length cap),.func (.func CL) #[] #[.pointer (some ⟨q,0,none⟩)]] w fun e w'=>e=.returned (.tuple #[])∧w'.os=w.os∧w'.tape=w.tape∧w'.output=w.output∧w.heap.size≤w'.heap.size∧(∀ j,j < w.heap.size→j ≠ blk→w'.heap[j]?=w.heap[j]?) ∧
    ∃ ks':List Nat,ks'.Perm ks∧ks'.Pairwise (·≤·)∧∀ i k,ks'[i]?=some k→w'.cell? ⟨blk,i,none⟩=some (encK k)
theorem perm_sorted:∀ (l2 l1:List Nat),l1.Perm l2→l1.Pairwise (·≤·)→l2.Pairwise (· < ·)→l1=l2
  | [],l1,h,_,_=>List.Perm.eq_nil h
  | y :: r2,[],h,_,_=>absurd h.length_eq (by simp)
  | y :: r2,x :: r1,h,h1,h2=>by
    have p1:=List.pairwise_cons.1 h1
    have p2:=List.pairwise_cons.1 h2
    have hxy:y≤x:=by
      rcases List.mem_cons.1 (h.mem_iff.1 (.head _)) with e | hm
      · omega
      · exact Nat.le_of_lt (p2.1 x hm)
    have hyx:x≤y:=by
      rcases List.mem_cons.1 (h.mem_iff.2 (List.mem_cons_self:y ∈ y :: r2)) with e | hm
      · omega
      · exact p1.1 y hm
    obtain rfl:x=y:=by omega
    rw [perm_sorted r2 r1 h.cons_inv p1.2 p2.2]
theorem left_perm {es:Array MapEntry} {seen:Array Nat} {e:MapEntry} (hn:(es.toList.map (·.born)).Nodup) (he:e ∈ (leftOf es seen).toList):(leftOf es seen).toList.Perm (e :: (leftOf es (seen.push e.born)).toList):=by
  have key:∀ (l:List MapEntry),(l.map (·.born)).Nodup→e ∈ l.filter (fun x=>!seen.contains x.born)→(l.filter fun x=>!seen.contains x.born).Perm (e :: l.filter fun x=>!(seen.push e.born).contains x.born):=by
    intro l
    induction l with
    | nil=>intro _ h;simp at h
    | cons x r ih =>
      intro hn h
      have hn':=List.nodup_cons.1 (by simpa using hn:(x.born :: r.map (·.born)).Nodup)
      by_cases hx:x=e
      · subst hx
        have hs:seen.contains x.born=false:=by
          have:=(List.mem_filter.1 h).2
          simpa using this
        have hr:(r.filter fun y=>!seen.contains y.born)=r.filter fun y=>!(seen.push x.born).contains y.born:=by
          refine List.filter_congr fun y hy=>?_
          rw [contains_push]
          have:(y.born == x.born)=false:=by
            cases hc:y.born == x.born with
            | false=>rfl
            | true=>exact absurd (by rw [← beq_iff_eq.1 hc];exact List.mem_map_of_mem hy) hn'.1
          rw [this,Bool.or_false]
        have c2:(seen.push x.born).contains x.born=true:=by rw [contains_push];simp
        rw [List.filter_cons,List.filter_cons,hs,c2]
        simp only [Bool.not_false,if_true,Bool.not_true,Bool.false_eq_true,if_false]
        rw [hr]
      · have hmem:e ∈ r.filter fun y=>!seen.contains y.born:=by
          have h1:=List.mem_filter.1 h
          refine List.mem_filter.2 ⟨?_,h1.2⟩
          rcases List.mem_cons.1 h1.1 with e1 | h2
          · exact absurd e1.symm hx
          · exact h2
        have hne:(x.born == e.born)=false:=by
          cases hc:x.born == e.born with
          | false=>rfl
          | true=>exact absurd (by rw [beq_iff_eq.1 hc];exact List.mem_map_of_mem (List.mem_filter.1 hmem).1) hn'.1
        have hi:=ih hn'.2 hmem
        rw [List.filter_cons,List.filter_cons,contains_push,hne,Bool.or_false]
        cases seen.contains x.born
        · simp only [Bool.not_false,if_true]
          exact (hi.cons x).trans (List.Perm.swap _ _ _)
        · simp only [Bool.not_true,Bool.false_eq_true,if_false]
          exact hi
  have e1:∀ s:Array Nat,(leftOf es s).toList=es.toList.filter fun x=>!s.contains x.born:=fun s=>by unfold leftOf;rw [Array.toList_filter]
  rw [e1] at he
  rw [e1,e1]
  exact key es.toList hn he
theorem left_none (es:Array MapEntry):(leftOf es #[]).toList=es.toList:=by
  unfold leftOf
  rw [Array.toList_filter]
  exact List.filter_eq_self.2 fun x _=>by simp
section
variable {P:Program} {a:Act} {w:World} {K:Act→World→Prop} {d:Option Tmp} {g:Option (Nat × Bool)}
theorem opw_make0 {T E n:Nat} {x y:Operand} {i:TypeInfo} {z:Value} {k k':IntKind} (hT:P.underlying T=some (.slice E)) (hi:P.info? E=some i) (hz:i.zero=some z) (hs:i.size=1) (hby:i.bytes≤1000) (hx:a.eval x=.int k 0) (hy:a.eval y=.int k' (n:Int)) (hn:n≤100000)
    (h:K (a.put d (.slice (some ⟨w.heap.size,0,none⟩) 0 n)) (w.alloc (.cells (madeCells z.cells n) E))):opw P ⟨d,.makeSlice T x y,g⟩ a w K:=by
  have hb:(i.bytes:Int) * (n:Int)≤281474976710656:=by
    have:i.bytes * n≤1000 * 100000:=Nat.mul_le_mul hby hn
    rw [← Int.natCast_mul]
    omega
  have hr:=run_make (P:=P) w T E i z hT hi hz k k' 0 n (Int.le_refl _) (by omega) hb (by omega)
  simp only [Int.toNat_natCast,Int.toNat_zero,hs,Nat.mul_one] at hr
  refine oVa (by simp) (fun p hp=>?_) h
  simp only [execOp,hp,hx,hy]
  simp [hr]
theorem opw_build1 {T E:Nat} {x:Operand} {i:TypeInfo} {z v:Value} (hT:P.underlying T=some (.slice E)) (hi:P.info? E=some i) (hz:i.zero=some z) (hs:i.size=1) (hx:a.eval x=v) (hv:v.oneCell'=true)
    (h:K (a.put d (.slice (some ⟨w.heap.size,0,none⟩) 1 1)) (w.alloc (.cells #[v] E))):opw P ⟨d,.buildSlice T 1 #[(0,x)],g⟩ a w K:=by
  refine oVa (by simp) (fun p hp=>?_) h
  have hr:=run_buildSlice (P:=P) w T E 1 #[(0,v)] #[v] i z hT hi hz (by rw [hs];decide) (by rw [hs];decide) (by
    rw [hs]
    have hz1:∀ (zf:Nat→Value),(Array.range (1 * 1)).map zf=#[zf 0]:=fun zf=>Array.ext' (by simp [Array.toList_map,Array.toList_range,List.range,List.range.loop])
    rw [hz1]
    simp [Instr.fill,cells_oneCell hv])
  simp only [execOp,hp]
  simp [hx,hr]
theorem opw_append32 {T E B:Nat} {x y:Operand} {i:TypeInfo} {z lv:Value} {ts:Array TypeId} {ks:List Nat} {k b:Nat} (hT:P.underlying T=some (.slice E)) (hi:P.info? E=some i) (hz:i.zero=some z) (hzc:z.cells.size=1) (hs:i.size=1) (hby:i.bytes≤1000) (hts:ts=#[T,T]) (hx:a.eval x=lv) (hy:a.eval y=.slice (some ⟨b,0,none⟩) 1 1)
    (ho:w.ownsRow B E 1 lv ks.length (ks.map encK)) (hB:B≤w.heap.size) (hlen:ks.length≤100000) (hc:w.cell? ⟨b,0,none⟩=some (encK k))
    (h:∀ lv' w',w'.ownsRow B E 1 lv' (ks ++ [k]).length ((ks ++ [k]).map encK)→w.grownBy w' lv.ownBlock→(lv'.ownBlock=lv.ownBlock∨∃ b,lv'.ownBlock=some b∧w.heap.size≤b)→K (a.put d lv') w'):opw P ⟨d,.call ⟨.builtin .append,#[x,y],ts⟩,g⟩ a w K:=by
  subst hts
  have hb:(ks.length+1) * i.bytes≤140737488355328:=Nat.le_trans (Nat.mul_le_mul (show ks.length+1≤100001 by omega) hby) (by decide)
  refine opw_of fun o next Q hd hop hn=>?_
  obtain ⟨v',w',hr,h2,h3,h4⟩:=run_append_src2 (P:=P) w B T T o.type E i z 1 i.bytes hT hi hz hs rfl hzc (by decide) lv ks.length (ks.map encK) ho (.slice (some ⟨b,0,none⟩) 1 1) 1 [encK k] (Src.ofSlice w hT ⟨b,0,none⟩ 1 1 [encK k] rfl (fun j u hj=>by
    cases j with
    | zero=>simp at hj;subst hj;rw [add_none];exact hc
    | succ j=>simp at hj) (by intro v hv;simp at hv;subst hv;rfl)) (by simp only [maxLen];omega) hb hB
  have hop':o.op=.call ⟨.builtin .append,#[x,y],#[T,T]⟩:=stripOp_eq (by simp) hop
  have hr':(execOp a.eval o).run P w=.ok (.value v') w':=by
    simp [execOp,hop',resolve,invoke,builtin,hx,hy,hr]
  rw [hr',Oper.upon_value,hd]
  refine hn _ _ (h v' w' ?_ h3 h4)
  rw [List.length_append,List.map_append]
  exact h2
theorem opw_iface {T E:Nat} {x:Operand} {v:Value} (hT:P.underlying T=some (.slice E)) (hx:a.eval x=v) (h:K (a.put d (.iface T v)) w):opw P ⟨d,.makeInterface T x,g⟩ a w K :=
  oVa (by simp) (fun o ho=>by simp [execOp,ho,hx,Instr.makeInterface,run_underlying hT]) h
theorem opw_mkFunc {CL:Nat} {x:Operand} {v:Value} (hx:a.eval x=v) (h:K (a.put d (.func (.func CL) #[] #[v])) w):opw P ⟨d,.makeFunc (.func CL) #[] #[x],g⟩ a w K :=
  oVa (by simp) (fun o ho=>by simp [execOp,ho,hx,Instr.makeFunc]) h
end
structure EL (TU T32:Nat) (w:World) (q it r clock:Nat) (es:Array MapEntry) (v0 v1:Value) (seen:Array Nat) (ks:List Nat) (lv:Value) (a:Act) (w':World):Prop where
  size:a.tmps.size=53
  defers:a.defers=[]
  s0:getT a 0=v0
  s1:getT a 1=v1
  s4:getT a 4=.pointer (some ⟨q,0,none⟩)
  s24:getT a 24=.pointer (some ⟨it,0,none⟩)
  below:Below w.heap.size w w'
  qrow:w'.heap[q]?=some (.cells #[lv] TU (0,0))
  itr:w'.heap[it]?=some (.mapIter (some r) clock seen clock)
  own:w'.ownsRow w.heap.size T32 1 lv ks.length (ks.map encK)
  ownq:lv.ownBlock ≠ some q∧lv.ownBlock ≠ some it
  perm:((leftOf es seen).toList.map (·.key) ++ ks.map encK).Perm (es.toList.map (·.key))
structure EL2 (tU8 TB:Nat) (B c n:Nat) (xs:Bytes) (u:List (Nat × Bytes)) (w5:World) (dv lv:Value) (v0 v1:Value) (i:Nat) (dvi:Value) (a:Act) (w':World):Prop where
  size:a.tmps.size=53
  defers:a.defers=[]
  s0:getT a 0=v0
  s1:getT a 1=v1
  s37:getT a 37=lv
  s38:getT a 38=.int .i64 (n:Int)
  s39:getT a 39=.int .i64 (i:Int)
  turns:Turns c dv dvi w5 w'
  crow:w'.heap[c]?=some (.cells #[dvi] TB (0,0))
  own:Own tU8 w' B dvi (xs ++ (u.take i).flatMap wTag)
  ne:dvi.ownBlock ≠ some c
theorem row_keep {w w':World} {B E n:Nat} {v:Value} {xs:List Value} (h:w.ownsRow B E 1 v n xs) (hk:∀ k,v.ownBlock=some k→w'.heap[k]?=w.heap[k]?):w'.ownsRow B E 1 v n xs:=by
  refine ⟨h.1,h.2.imp id ?_⟩
  rintro ⟨g,cap,cur,h1,h2,h3,h4⟩
  exact ⟨g,cap,cur,h1,h2,by rw [hk g (by rw [h1];rfl)];exact h3,h4⟩
theorem w64E {n:Int} (h1:-9223372036854775808≤n) (h2:n < 9223372036854775808):IntKind.i64.wrap n=n:=by rw [IntKind.wrap_i64];omega
theorem own_keepB {tU8:Nat} {w w':World} {B:Nat} {v:Value} {xs:Bytes} (h:Own tU8 w B v xs) (hk:∀ k,v.ownBlock=some k→w'.heap[k]?=w.heap[k]?):Own tU8 w' B v xs:=row_keep h hk
section
variable {P:Program} {f:FuncId} {fn:Func}
def EachC (P:Program) (tU8 TB CL2:Nat) (G:List (Nat × Bytes)→Prop) (f:FuncId):Prop:=∀ (w:World) (B b o c:Nat) (u:List (Nat × Bytes)) (dv:Value) (xs:Bytes),HTags G w (· < B) b o u→b < B→Own tU8 w B dv xs→dv.ownBlock ≠ some c→w.heap[c]?=some (.cells #[dv] TB (0,0))→B≤c→xs.length+(u.flatMap wTag).length≤lim →
  Calls P f #[.pointer (some ⟨b,o,none⟩),.func (.func CL2) #[] #[.pointer (some ⟨c,0,none⟩)]] w fun e w'=>e=.returned (.tuple #[])∧∃ dv',w'.heap[c]?=some (.cells #[dv'] TB (0,0))∧Own tU8 w' B dv' (xs ++ u.flatMap wTag)∧dv'.ownBlock ≠ some c∧Turns c dv dv' w w'
theorem each_ok {G:List (Nat × Bytes)→Prop} {TT TM TI TU T32 FS CL CL2 tU8 TB:Nat} {i32 iU:TypeInfo} {z32 zU:Value}
    (hTM:mapU P TM=true) (hF0:fieldOff P TT 0=some 0) (hTU1:oneB P TU=true) (hTUs:sliceN P TU=some 1) (hTUu:P.underlying TU=some (.slice T32)) (hT32:oneB P T32=true) (hI:P.info? T32=some i32) (hZ:i32.zero=some z32) (hZc:z32.cells=#[.int .u32 0]) (hS:i32.size=1) (hBy:i32.bytes≤1000)
    (hIU:P.info? TU=some iU) (hZU:iU.zero=some zU) (hZUc:zU.cells=#[.slice none 0 0]) (cSort:SortC P FS CL TU T32) (oCl:FnOK P CL2)
    (cCl:∀ (w:World) (B c k cap:Nat) (dv:Value) (xs bs:Bytes) (base:Option Addr),Own tU8 w B dv xs→dv.ownBlock ≠ some c→w.heap[c]?=some (.cells #[dv] TB (0,0))→B≤c→k < 4294967296→BytesAt w (· < B) base bs→bs.length≤most→xs.length+(wTag (k,bs)).length≤lim →
      Calls P CL2 #[.int .u32 (k:Int),.slice base bs.length cap,.pointer (some ⟨c,0,none⟩)] w fun e w'=>e=.returned (.tuple #[])∧∃ dv',w'.heap[c]?=some (.cells #[dv'] TB (0,0))∧Own tU8 w' B dv' (xs ++ wTag (k,bs))∧dv'.ownBlock ≠ some c∧Turns c dv dv' w w')
    (hf:P.funcs[f]?=some fn) (hb:fn.body.map strip=some (sc_TEach TT TM TI TU T32 FS CL)) (hn:fn.ntmps=53) (hr:fn.results=#[]):EachC P tU8 TB CL2 G f:=by
  intro w B b o c u dv xs hu hbB ho hne hc hBc hl
  have hcs:c < w.heap.size:=(Array.getElem?_eq_some_iff.1 hc).1
  obtain ⟨v,hv,hcnt⟩:=hTags_size hu
  obtain ⟨-,huk,hum,hux,halt⟩:=hu
  have hmost:most=32767:=rfl
  have hlim:lim=70368744177664:=rfl
  obtain ⟨hTM1,kT,eT,hTMu,hkT⟩:=mapU_of hTM
  have hmT:mapT P TM=true:=by unfold mapT;rw [hTMu]
  refine fCa hf hb hn (by simp) fun a0 hs hd ha=>?_
  have k0:=ha 0 _ rfl
  have k1:=ha 1 _ rfl
  simp only [List.getElem_toArray,List.getElem_cons_zero,List.getElem_cons_succ] at k0 k1
  have hlenEq:v=.map none∧u.length=0∨∃ r es clock,v=.map (some r)∧w.heap[r]?=some (.map es clock)∧es.size=u.length:=by
    rcases hcnt with ⟨e1,e2⟩ | h
    · exact .inl ⟨e1,by rw [e2];rfl⟩
    · exact .inr h
  refine SC.wp_seq (SC.wp_seq (SC.wp_reg ?_))
  iterate 4 (apply ops_1;(focus (simp (disch:=(try simp only [sPu]);omega) [k0,hF0,hTM1,hv];try rfl)))
  refine oNo rfl (opw_lenMapN (v:=v) (n:=u.length) hmT (by simp (disch:=(try simp only [sPu]);omega)) rfl hlenEq ?_)
  iterate 1 (apply ops_1;(focus (simp (disch:=(try simp only [sPu]);omega) ;try rfl)))
  refine oNi ?_
  simp only [Exit.then]
  by_cases hnil:u=[]
  · subst hnil
    refine SC.wp_cond (t:=true) (by simp (disch:=(try simp only [sPu]);omega)) ?_
    rw [if_pos rfl]
    refine SC.wp_ret ?_
    simp only [Exit.then]
    exact bodyPost_ret (v:=.tuple #[]) (by simp [results,hr]) (by simp [dPu,hd]) ⟨rfl,dv,hc,by simpa using ho,hne,Turns.refl _ _ _⟩
  have hpos:0 < u.length:=List.length_pos_iff.2 hnil
  have hlen0:((u.length:Int) == 0)=false:=by simp;omega
  refine SC.wp_cond (t:=false) (by simp (disch:=(try simp only [sPu]);omega) [hlen0];try omega) ?_
  rw [if_neg (by simp)]
  refine SC.wp_skip ?_
  simp only [Exit.then]
  rcases halt with ⟨_,e⟩ | ⟨r,es,clock,hv',hrB,hes,hte⟩
  · exact absurd e hnil
  obtain rfl:v=.map (some r):=Option.some.inj (hv.symm.trans hv')
  have hsize:es.size=u.length:=by
    rcases hlenEq with ⟨e1,_⟩ | ⟨r',es',clock',e1,e2,e3⟩
    · cases e1
    · cases e1
      rw [hes] at e2
      cases e2
      exact e3
  have hBs:B≤w.heap.size:=by omega
  refine SC.wp_seq (SC.wp_reg ?_)
  iterate 4 (apply ops_1;(focus (simp (disch:=(try simp only [sPu]);omega) [k0,hF0,hTM1,hv];try rfl)))
  refine oNo rfl (opw_lenMapN (v:=.map (some r)) (n:=u.length) hmT (by simp (disch:=(try simp only [sPu]);omega)) rfl hlenEq ?_)
  refine oNo rfl (opw_make0 (k:=.i64) (k':=.i64) (n:=u.length) hTUu hI hZ hS hBy (by simp (disch:=(try simp only [sPu]);omega)) (by simp (disch:=(try simp only [sPu]);omega)) (by omega) ?_)
  refine oNo rfl (opw_alloc hIU hZU ?_)
  have hw1s:(w.alloc (.cells (madeCells z32.cells u.length) T32)).heap.size=w.heap.size+1:=by simp
  have hrow1:=heap_alloc_new w (.cells (madeCells z32.cells u.length) T32)
  have hb1:Below w.heap.size w (w.alloc (.cells (madeCells z32.cells u.length) T32)):=(Below.refl _ _).alloc (Nat.le_refl _) _
  generalize w.alloc (.cells (madeCells z32.cells u.length) T32)=w1 at hw1s hrow1 hb1 ⊢
  have hrow2:=heap_alloc_new w1 (.cells zU.cells TU)
  have hold2:(w1.alloc (.cells zU.cells TU)).heap[w.heap.size]?=w1.heap[w.heap.size]?:=Below.heap_alloc w1 _ _ (by omega)
  have hb2:Below w.heap.size w (w1.alloc (.cells zU.cells TU)):=hb1.alloc (by omega) _
  have hw2s:(w1.alloc (.cells zU.cells TU)).heap.size=w.heap.size+2:=by simp;omega
  rw [hw1s] at hrow2 ⊢
  rw [hZUc] at hrow2 hold2 hb2 hw2s ⊢
  generalize w1.alloc (.cells #[Value.slice none 0 0] TU)=w2 at hrow2 hold2 hb2 hw2s ⊢
  refine ops_stR (b:=w.heap.size+1) (i:=0) (cs:=#[.slice none 0 0]) (v:=.slice (some ⟨w.heap.size,0,none⟩) 0 u.length) hTU1 (by simp (disch:=(try simp only [sPu]);omega)) (by simp (disch:=(try simp only [sPu]);omega)) rfl hrow2 (by simp) ?_
  have hrow3:=setRow_heap w2 (w.heap.size+1) _ (#[Value.slice none 0 0].setIfInBounds 0 (.slice (some ⟨w.heap.size,0,none⟩) 0 u.length)) _ _ hrow2
  have hold3:(w2.setRow (w.heap.size+1) (#[Value.slice none 0 0].setIfInBounds 0 (.slice (some ⟨w.heap.size,0,none⟩) 0 u.length))).heap[w.heap.size]?=some (.cells (madeCells z32.cells u.length) T32 (0,0)):=by
    rw [setRow_other _ _ _ _ (by omega),hold2];exact hrow1
  have hb3:Below w.heap.size w (w2.setRow (w.heap.size+1) (#[Value.slice none 0 0].setIfInBounds 0 (.slice (some ⟨w.heap.size,0,none⟩) 0 u.length))):=below_setRow hb2 (by omega) _
  have hw3s:(w2.setRow (w.heap.size+1) (#[Value.slice none 0 0].setIfInBounds 0 (.slice (some ⟨w.heap.size,0,none⟩) 0 u.length))).heap.size=w.heap.size+2:=by simp;omega
  generalize w2.setRow (w.heap.size+1) (#[Value.slice none 0 0].setIfInBounds 0 (.slice (some ⟨w.heap.size,0,none⟩) 0 u.length))=w3 at hrow3 hold3 hb3 hw3s ⊢
  have hown3:w3.ownsRow w.heap.size T32 1 (.slice (some ⟨w.heap.size,0,none⟩) 0 u.length) 0 [] :=
    ⟨rfl,.inr ⟨w.heap.size,u.length,_,rfl,Nat.le_refl _,hold3,Nat.zero_le _,by simp only [maxLen];omega,by rw [size_madeCells,Nat.mul_one],by simp⟩⟩
  refine oNi ?_
  simp only [Exit.then]
  have hes3:w3.heap[r]?=some (.map es clock):=by rw [hb3.block r (by omega)];exact hes
  have hv3:w3.cell? ⟨b,o,none⟩=some (.map (some r)):=by rw [hb3.cell (p:=⟨b,o,none⟩) (by show b < w.heap.size;omega)];exact hv
  refine SC.wp_seq (SC.wp_seq (SC.wp_reg ?_))
  iterate 4 (apply ops_1;(focus (simp (disch:=(try simp only [sPu]);omega) [k0,hF0,hTM1,hv3];try rfl)))
  refine oNo rfl (opw_range hTMu (by simp (disch:=(try simp only [sPu]);omega)) hes3 ?_)
  refine oNi ?_
  simp only [Exit.then]
  have hit:=heap_alloc_new w3 (.mapIter (some r) clock #[] clock)
  have hold4:∀ j,j < w3.heap.size→(w3.alloc (.mapIter (some r) clock #[] clock)).heap[j]?=w3.heap[j]?:=fun j hj=>Below.heap_alloc w3 _ j hj
  have hb4:Below w.heap.size w (w3.alloc (.mapIter (some r) clock #[] clock)):=hb3.alloc (by omega) _
  rw [hw3s] at hit ⊢
  generalize w3.alloc (.mapIter (some r) clock #[] clock)=w4 at hit hold4 hb4 ⊢
  have hstamp:=hte.2.1
  refine SC.wp_block (SC.wp_loop (fun a' w'=>∃ seen ks lv,EL TU T32 w (w.heap.size+1) (w.heap.size+2) r clock es (.pointer (some ⟨b,o,none⟩)) (.func (.func CL2) #[] #[.pointer (some ⟨c,0,none⟩)]) seen ks lv a' w') (fun _ w'=>(leftOf es (w'.iterSeen (w.heap.size+2))).size) ?_ ?_)
  · refine ⟨#[],[],.slice (some ⟨w.heap.size,0,none⟩) 0 u.length,?_⟩
    exact ⟨by simp [sPu,hs],by simp [dPu,hd],by simp (disch:=(try simp only [sPu]);omega) [k0],by simp (disch:=(try simp only [sPu]);omega) [k1],by simp (disch:=(try simp only [sPu]);omega),by simp (disch:=(try simp only [sPu]);omega),hb4,by rw [hold4 _ (by omega)];exact hrow3,hit,row_keep hown3 fun k hk=>by
        simp [Value.ownBlock] at hk;subst hk;exact hold4 _ (by omega),
      by simp [Value.ownBlock],by rw [left_none];simp⟩
  rintro a1 w5 ⟨seen,ks,lv,h⟩
  have hr5:w5.heap[r]?=some (.map es clock):=by rw [h.below.block r (by omega)];exact hes
  have hs1:=h.size
  have iseen:∀ {w':World} {s:Array Nat} {m:Option Nat} {x y:Nat},w'.heap[w.heap.size+2]?=some (.mapIter m x s y)→w'.iterSeen (w.heap.size+2)=s:=fun h=>by unfold World.iterSeen;rw [h]
  refine SC.wp_seq (SC.wp_reg (oNo rfl (opw_next (by rw [eTm];exact h.s24) h.itr hr5 hstamp.1 (Nat.le_refl _) ?_ ?_)))
  ·
    intro hz
    iterate 1 (apply ops_1;(focus (simp (disch:=(try simp only [sPu]);omega) ;try rfl)))
    refine oNi ?_
    simp only [Exit.then]
    refine SC.wp_seq (SC.wp_cond (t:=false) (by simp (disch:=(try simp only [sPu]);omega)) ?_)
    rw [if_neg (by simp)]
    refine SC.wp_exit ?_
    simp only [Exit.then,Exit.inBlock,if_true]
    have hperm:(ks.map encK).Perm (u.map fun x=>Value.int .u32 (x.1:Int)):=by
      have h1:=h.perm
      have hz2:(leftOf es seen).toList=[]:=List.length_eq_zero_iff.1 (by simpa using hz)
      rw [hz2] at h1
      exact (by simpa using h1:(ks.map encK).Perm (es.toList.map (·.key))).trans hte.1
    have hkp:ks.Perm (u.map (·.1)):=by
      have:=hperm.map (fun v=>match v with | Value.int _ n=>n.toNat | _=>0)
      simpa [List.map_map,Function.comp_def] using this
    have hkl:ks.length=u.length:=by have:=hkp.length_eq;simpa using this
    obtain ⟨blk,cap,hlv,hblk,hblks⟩:∃ blk cap,lv=.slice (some ⟨blk,0,none⟩) ks.length cap∧w.heap.size≤blk∧blk < w5.heap.size:=by
      rcases h.own.2 with ⟨_,e⟩ | ⟨g,cap,cur,e1,e2,e3,_⟩
      · omega
      · exact ⟨g,cap,e1,e2,(Array.getElem?_eq_some_iff.1 e3).1⟩
    have hq5:=h.qrow
    have ho5:=h.own
    have hoq:=h.ownq
    have hs4:=h.s4
    have hs0:=h.s0
    have hs1':=h.s1
    have hd1:=h.defers
    have hbl:=h.below
    subst hlv
    have hqb:w.heap.size+1 ≠ blk:=fun e=>hoq.1 (by simp [Value.ownBlock,e])
    have hqs:w.heap.size+1 < w5.heap.size:=(Array.getElem?_eq_some_iff.1 hq5).1
    have hqc:w5.cell? ⟨w.heap.size+1,0,none⟩=some (.slice (some ⟨blk,0,none⟩) ks.length cap):=by rw [cell_of_row _ _ _ _ _ _ hq5];rfl
    refine SC.wp_seq (SC.wp_reg ?_)
    iterate 1 (apply ops_1;(focus (simp (disch:=(try simp only [sPu]);omega) [hs4,hTU1,hqc];try rfl)))
    refine oNo rfl (opw_iface (v:=.slice (some ⟨blk,0,none⟩) ks.length cap) hTUu (by simp (disch:=(try simp only [sPu]);omega)) ?_)
    refine oNo rfl (opw_mkFunc (v:=.pointer (some ⟨w.heap.size+1,0,none⟩)) (by simp (disch:=(try simp only [sPu]);omega) [hs4]) ?_)
    refine ops_call cSort.1 (cSort.2 w5 w.heap.size (w.heap.size+1) blk cap ks hqb hqs hq5 ho5 (by omega)) (by simp (disch:=(try simp only [sPu]);omega)) ?_
    rintro e w6 ⟨rfl,z1,z2,z3,hsz6,hfr6,ks',hp6,hso6,hcell6⟩
    refine ⟨_,rfl,oNi ?_⟩
    simp only [Exit.then]
    have hsorted:Sorted u:=by have:=(unknown_facts u).1;rwa [huk] at this
    have hks':ks'=u.map (·.1):=perm_sorted _ _ (hp6.trans hkp) hso6 (List.pairwise_map.2 hsorted)
    have hq6:w6.cell? ⟨w.heap.size+1,0,none⟩=some (.slice (some ⟨blk,0,none⟩) ks.length cap):=by rw [World.cell?_of_block (a:=⟨w.heap.size+1,0,none⟩) (hfr6 _ hqs hqb)];exact hqc
    have hblk6:∀ j,j < w.heap.size→w6.heap[j]?=w.heap[j]?:=fun j hj=>by rw [hfr6 j (by have:=hbl.size;omega) (by omega)];exact hbl.block j hj
    have hbl6:Below w.heap.size w w6:=⟨z1.trans hbl.os,z2.trans hbl.tape,z3.trans hbl.output,Nat.le_trans hbl.size hsz6,hblk6⟩
    refine SC.wp_seq (SC.wp_reg ?_)
    repeat (apply ops_1;(focus (simp (disch:=(try simp only [sPu]);omega) [hs4,hTU1,hq6,hTUs];try rfl)))
    refine oNi ?_
    simp only [Exit.then]
    have hcell6':∀ i x,u[i]?=some x→w6.cell? ⟨blk,i,none⟩=some (encK x.1):=fun i x hx=>hcell6 i x.1 (by rw [hks'];simp [hx])
    rw [hkl] at *
    refine SC.wp_block (SC.wp_loop (fun a' w'=>∃ i dvi,i≤u.length∧EL2 tU8 TB B c u.length xs u w6 dv (.slice (some ⟨blk,0,none⟩) u.length cap) (.pointer (some ⟨b,o,none⟩)) (.func (.func CL2) #[] #[.pointer (some ⟨c,0,none⟩)]) i dvi a' w')
      (fun a' _=>match getT a' 39 with | .int _ m=>(u.length - m).toNat | _=>0) ?_ ?_)
    · refine ⟨0,dv,Nat.zero_le _,?_⟩
      exact ⟨by simp [sPu,hs1],by simp [dPu,hd1],by simp (disch:=(try simp only [sPu]);omega) [hs0],by simp (disch:=(try simp only [sPu]);omega) [hs1'],by simp (disch:=(try simp only [sPu]);omega),by simp (disch:=(try simp only [sPu]);omega),by simp (disch:=(try simp only [sPu]);omega);try rfl,Turns.refl _ _ _,by rw [hblk6 c hcs];exact hc,by
        have:Own tU8 w6 B dv xs:=own_keepB ho fun k hk=>hblk6 k (own_ltB ho hk).2
        simpa using this,hne⟩
    rintro a2 w7 ⟨i,dvi,hi,g⟩
    have gs:=g.size
    refine SC.wp_seq (SC.wp_reg ?_)
    repeat (apply ops_1;(focus (simp (disch:=(try simp only [sPu]);omega) [g.s38,g.s39];try rfl)))
    refine oNi ?_
    simp only [Exit.then]
    refine SC.wp_seq (SC.wp_cond (t:=decide ((i:Int) < (u.length:Int))) (by simp (disch:=(try simp only [sPu]);omega)) ?_)
    cases e1:decide ((i:Int) < (u.length:Int))
    · rw [if_neg (by simp)]
      refine SC.wp_exit ?_
      simp only [Exit.then,Exit.inBlock,if_true]
      have hin:i=u.length:=by simp at e1;omega
      refine bodyPost_end (v:=.tuple #[]) (by simp [results,hr]) (by simp [dPu,g.defers]) ⟨rfl,dvi,g.crow,?_,g.ne,?_⟩
      · have:=g.own
        rwa [hin,List.take_length] at this
      · have t:=g.turns
        refine ⟨t.os.trans hbl6.os,t.tape.trans hbl6.tape,t.output.trans hbl6.output,Nat.le_trans hbl6.size t.size,fun j hj hjc hjd=>?_,?_⟩
        · rw [t.block j (by have:=hbl6.size;omega) hjc hjd]
          exact hblk6 j hj
        · rcases t.own with e | ⟨b',e,hb'⟩
          · exact .inl e
          · exact .inr ⟨b',e,by have:=hbl6.size;omega⟩
    · have hil:i < u.length:=by simp at e1;omega
      rw [if_pos rfl]
      refine SC.wp_skip ?_
      simp only [Exit.then]
      have hui:=List.getElem?_eq_getElem hil
      have t:=g.turns
      have dvB:∀ k,dv.ownBlock=some k→B≤k∧k < w.heap.size:=fun k hk=>own_ltB ho hk
      have keep:∀ j,j < B∨j=blk→w7.heap[j]?=w6.heap[j]?:=fun j hj=>t.block j (by have:=hbl6.size;have:=hbl.size;omega) (by omega) fun e=>by
        have:=dvB j e.symm
        omega
      have hblkc:w7.cell? ⟨blk,i,none⟩=some (encK u[i].1):=by rw [World.cell?_of_block (a:=⟨blk,i,none⟩) (keep blk (.inr rfl))];exact hcell6' i _ hui
      have hv7:w7.cell? ⟨b,o,none⟩=some (.map (some r)):=by
        rw [World.cell?_of_block (a:=⟨b,o,none⟩) ((keep b (.inl hbB)).trans (hblk6 b (by omega)))];exact hv
      have hes7:w7.heap[r]?=some (.map es clock):=by rw [keep r (.inl hrB),hblk6 r (by omega)];exact hes
      have hte7:TagsEs w7 (· < B) es clock u:=⟨hte.1,hte.2.1,fun e he x hx hk=>by
        obtain ⟨base,cap',q1,q2⟩:=hte.2.2 e he x hx hk
        exact ⟨base,cap',q1,bytesAt_mono q2 (fun _ h=>h) fun k hk=>(keep k (.inl hk)).trans (hblk6 k (by omega))⟩⟩
      have ei:(0:Int)≤(i:Int)∧(i:Int) < (u.length:Int):=by omega
      have hux':=hux u[i] (List.getElem_mem hil)
      have htk:=take_flat u wTag i hil
      refine SC.wp_seq (SC.wp_block (SC.wp_seq (SC.wp_reg ?_)))
      repeat (apply ops_1;(focus (simp (disch:=(try simp only [sPu]);omega) [g.s37,g.s39,hTUs,hT32,ei,hil,hblkc];try rfl)))
      refine oNi ?_
      simp only [Exit.then]
      refine SC.wp_reg ?_
      iterate 7 (apply ops_1;(focus (simp (disch:=(try simp only [sPu]);omega) [g.s0,g.s1,hF0,hTM1,hv7];try rfl)))
      refine oNo rfl (opw_lookup (k:=u[i].1) hTM (by simp (disch:=(try simp only [sPu]);omega)) (by simp (disch:=(try simp only [sPu]);omega)) hes7 hte7 (List.getElem_mem hil) rfl fun base cap' hbs=>?_)
      obtain ⟨fnC,oc1,oc2,oc3⟩:=oCl
      refine oNo rfl (opw_callv (f:=CL2) (lb:=#[.pointer (some ⟨c,0,none⟩)]) (argsV:=#[.int .u32 (u[i].1:Int),.slice base u[i].2.length cap',.pointer (some ⟨c,0,none⟩)]) (by simp (disch:=(try simp only [sPu]);omega) [g.s1]) oc1 oc2 oc3 (by simp (disch:=(try simp only [sPu]);omega)) (cCl w7 B c u[i].1 cap' dvi _ u[i].2 base g.own g.ne g.crow hBc hux'.1 hbs hux'.2 (by rw [List.length_append];show _+(wTag u[i]).length≤lim;omega)) ?_)
      rintro e w8 ⟨rfl,dv8,hc8,ho8,hne8,t8⟩
      refine ⟨_,rfl,oNi ?_⟩
      simp only [Exit.then,Exit.inBlock]
      have hw:IntKind.i64.wrap ((i:Int)+1)=((i+1:Nat):Int):=by
        have hu:=hum
        rw [w64E (by omega) (by omega)]
        rfl
      refine SC.wp_reg ?_
      repeat (apply ops_1;(focus (simp (disch:=(try simp only [sPu]);omega) [g.s39,hw];try rfl)))
      refine oNi ?_
      simp only [Exit.then]
      refine ⟨⟨i+1,dv8,by omega,⟨by simp [sPu,gs],by simp [dPu,g.defers],by simp (disch:=(try simp only [sPu]);omega) [g.s0],by simp (disch:=(try simp only [sPu]);omega) [g.s1],by simp (disch:=(try simp only [sPu]);omega) [g.s37],by simp (disch:=(try simp only [sPu]);omega) [g.s38],by simp (disch:=(try simp only [sPu]);omega),t.trans t8,hc8,?_,hne8⟩⟩,?_⟩
      · rw [htk.1,← List.append_assoc]
        exact ho8
      · simp (disch:=(try simp only [sPu]);omega) [gTp,gTn,g.s39]
        omega
  ·
    intro e he w6 hw6
    have hem:=mem_left he
    have hkey:∃ x ∈ u,e.key=encK x.1:=by
      have:e.key ∈ u.map fun x=>Value.int .u32 (x.1:Int):=hte.1.mem_iff.1 (List.mem_map_of_mem hem.1)
      obtain ⟨x,hx,hxe⟩:=List.mem_map.1 this
      exact ⟨x,hx,hxe.symm⟩
    obtain ⟨x,hxu,hxk⟩:=hkey
    have hlenk:ks.length+1≤u.length:=by
      have h1:=h.perm.length_eq
      have h2:=(left_perm hstamp.2.1 he).length_eq
      simp only [List.length_append,List.length_map,List.length_cons,Array.length_toList] at h1 h2
      omega
    have hh6:w6.heap=w5.heap:=by rcases hw6 with rfl | rfl <;> rfl
    have hm6:w6.os=w5.os∧w6.tape=w5.tape∧w6.output=w5.output:=by rcases hw6 with rfl | rfl <;> exact ⟨rfl,rfl,rfl⟩
    have hits:w.heap.size+2 < w5.heap.size:=(Array.getElem?_eq_some_iff.1 h.itr).1
    have hqs:w.heap.size+1 < w5.heap.size:=(Array.getElem?_eq_some_iff.1 h.qrow).1
    obtain ⟨w7,hw7⟩:∃ w7,w7=ChangeMaps.setBlock w6 (w.heap.size+2) (.mapIter (some r) clock (seen.push e.born) clock):=⟨_,rfl⟩
    have h7it:w7.heap[w.heap.size+2]?=some (.mapIter (some r) clock (seen.push e.born) clock):=by rw [hw7];simp [ChangeMaps.setBlock,hh6,hits]
    have h7o:∀ j,j ≠ w.heap.size+2→w7.heap[j]?=w5.heap[j]?:=fun j hj=>by rw [hw7];simp [ChangeMaps.setBlock,hh6,Array.getElem?_setIfInBounds_ne (Ne.symm hj)]
    have h7s:w7.heap.size=w5.heap.size:=by rw [hw7];simp [ChangeMaps.setBlock,hh6]
    have h7m:w7.os=w5.os∧w7.tape=w5.tape∧w7.output=w5.output:=by rw [hw7];exact hm6
    have h7b:Below w.heap.size w w7:=⟨h7m.1.trans h.below.os,h7m.2.1.trans h.below.tape,h7m.2.2.trans h.below.output,by have:=h.below.size;omega,fun j hj=>(h7o j (by omega)).trans (h.below.block j hj)⟩
    rw [← hw7]
    clear hw7 hw6 hm6 hh6
    have hr7:w7.heap[r]?=some (.map es clock):=by rw [h7b.block r (by omega)];exact hes
    have hown7:w7.ownsRow w.heap.size T32 1 lv ks.length (ks.map encK):=row_keep h.own fun k hk=>h7o k fun e2=>h.ownq.2 (by rw [hk,e2])
    have hq7:w7.heap[w.heap.size+1]?=some (.cells #[lv] TU (0,0)):=by rw [h7o _ (by omega)];exact h.qrow
    have hqc7:w7.cell? ⟨w.heap.size+1,0,none⟩=some lv:=by rw [cell_of_row _ _ _ _ _ _ hq7];rfl
    iterate 1 (apply ops_1;(focus (simp (disch:=(try simp only [sPu]);omega) ;try rfl)))
    refine oNi ?_
    simp only [Exit.then]
    refine SC.wp_seq (SC.wp_cond (t:=true) (by simp (disch:=(try simp only [sPu]);omega)) ?_)
    rw [if_pos rfl]
    refine SC.wp_skip ?_
    simp only [Exit.then]
    refine SC.wp_block (SC.wp_seq (SC.wp_reg (oNo rfl (opw_entry (by simp (disch:=(try simp only [sPu]);omega) [h.s24]) h7it hr7 hem.1 hstamp.2.1 ?_))))
    rw [hxk]
    repeat (apply ops_1;(focus (simp (disch:=(try simp only [sPu]);omega) ;try rfl)))
    refine oNi ?_
    simp only [Exit.then]
    refine SC.wp_reg ?_
    iterate 2 (apply ops_1;(focus (simp (disch:=(try simp only [sPu]);omega) [h.s4,hTU1,hqc7];try rfl)))
    refine oNo rfl (opw_build1 hTUu hI hZ hS (v:=encK x.1) (by simp (disch:=(try simp only [sPu]);omega)) rfl ?_)
    have h8n:=heap_alloc_new w7 (.cells #[encK x.1] T32)
    have h8o:∀ j,j < w7.heap.size→(w7.alloc (.cells #[encK x.1] T32)).heap[j]?=w7.heap[j]?:=fun j hj=>Below.heap_alloc w7 _ j hj
    have h8s:(w7.alloc (.cells #[encK x.1] T32)).heap.size=w7.heap.size+1:=by simp
    have h8b:Below w.heap.size w (w7.alloc (.cells #[encK x.1] T32)):=h7b.alloc h7b.size _
    generalize w7.alloc (.cells #[encK x.1] T32)=w8 at h8n h8o h8s h8b ⊢
    have hown8:w8.ownsRow w.heap.size T32 1 lv ks.length (ks.map encK):=row_keep hown7 fun k hk=>h8o k (hown7.lt k hk).2
    refine oNo rfl (opw_append32 (k:=x.1) (b:=w7.heap.size) hTUu hI hZ (by rw [hZc];rfl) hS hBy rfl (by simp (disch:=(try simp only [sPu]);omega)) (by simp (disch:=(try simp only [sPu]);omega)) hown8 h8b.size (by omega) (by rw [cell_of_row _ _ _ _ _ _ h8n];rfl) ?_)
    intro lv9 w9 ho9 hg9 hob9
    have hq9:w9.heap[w.heap.size+1]?=some (.cells #[lv] TU (0,0)):=by rw [hg9.block _ (by omega) fun e=>h.ownq.1 e.symm,h8o _ (by omega)];exact hq7
    have hob9':∀ j,j < w7.heap.size→lv.ownBlock ≠ some j→lv9.ownBlock ≠ some j:=fun j hj hl=>by
      rcases hob9 with e | ⟨b',e,hb'⟩
      · rw [e];exact hl
      · rw [e];intro e2;cases e2;omega
    have hone9:lv9.oneCell'=true:=by rcases ho9.2 with ⟨rfl,_⟩ | ⟨_,_,_,rfl,_⟩ <;> rfl
    refine ops_stR (b:=w.heap.size+1) (i:=0) (cs:=#[lv]) (v:=lv9) hTU1 (by simp (disch:=(try simp only [sPu]);omega) [h.s4]) (by simp (disch:=(try simp only [sPu]);omega)) hone9 hq9 (by simp) ?_
    refine oNi ?_
    simp only [Exit.then,Exit.inBlock]
    have hb9:Below w.heap.size w w9:=h8b.grown hg9 h8b.size (fun k hk=>(hown8.lt k hk).1)
    have hlt9:w8.heap.size≤w9.heap.size:=hg9.size
    have hit9:(w9.setRow (w.heap.size+1) (#[lv].setIfInBounds 0 lv9)).heap[w.heap.size+2]?=some (.mapIter (some r) clock (seen.push e.born) clock):=by
      rw [setRow_other _ _ _ _ (by omega),hg9.block _ (by omega) fun e=>h.ownq.2 e.symm,h8o _ (by omega)];exact h7it
    refine ⟨⟨seen.push e.born,ks ++ [x.1],lv9,⟨by simp [sPu,hs1],by simp [dPu,h.defers],by simp (disch:=(try simp only [sPu]);omega) [h.s0],by simp (disch:=(try simp only [sPu]);omega) [h.s1],by simp (disch:=(try simp only [sPu]);omega) [h.s4],by simp (disch:=(try simp only [sPu]);omega) [h.s24],below_setRow hb9 (by omega) _,setRow_heap _ _ _ _ _ _ hq9,hit9,?_,⟨hob9' _ (by omega) h.ownq.1,hob9' _ (by omega) h.ownq.2⟩,?_⟩⟩,?_⟩
    · refine row_keep ho9 fun k hk=>setRow_other _ _ _ _ fun e2=>?_
      subst e2
      exact hob9' _ (by omega) h.ownq.1 hk
    · have h1:=h.perm
      have h2:=((left_perm hstamp.2.1 he).map (·.key)).append_right (ks.map encK)
      refine List.Perm.trans ?_ (h2.symm.trans h1)
      simp only [List.map_cons,List.map_append,List.map_nil,List.cons_append,hxk]
      rw [← List.append_assoc]
      exact List.perm_append_singleton _ _
    · rw [iseen hit9,iseen h.itr]
      exact left_shrinks es seen e he
end
end Go.Proofs.YtcchakpiemhpeaaDoor.K
namespace Go.Proofs.YtcchakpiemhpeaaDoor.K
open Go Go.RowKit Go.Proofs.YtcchakpiemhpeaaDoor.T
attribute [local simp] eTm eCo pNo gTp gTn qv qcall vop iop
set_option linter.unusedVariables false
set_option linter.unusedSimpArgs false
set_option maxHeartbeats 4000000
def sc_TAppendEach (TB fEach:Nat) (g:Fn):SC:=.seq (.reg [⟨some 3,.box TB (.tmp 1),none⟩,⟨some 4,.assign (.const (.slice none 0 0)),none⟩]) (.seq (.reg [mv 5 0,⟨some 6,.makeFunc g #[] #[.tmp 3],none⟩,cal 7 fEach [5,6]]) (.seq (.reg [ld 8 TB 3,asg 4 8]) .ret))
section
variable {P:Program} {f:FuncId} {fn:Func}
theorem appendEachN_ok {G:List (Nat × Bytes)→Prop} {TB fEach tU8 CL2:Nat} (hTB:oneB P TB=true) (oE:FnOK P fEach) (cE:EachC P tU8 TB CL2 G fEach)
    (hf:P.funcs[f]?=some fn) (hb:fn.body.map strip=some (sc_TAppendEach TB fEach (.func CL2))) (hn:fn.ntmps=9) (hr:fn.results=#[.tmp 4])
    (w:World) (B b o:Nat) (u:List (Nat × Bytes)) (dv:Value) (xs:Bytes) (hu:HTags G w (· < B) b o u) (hbB:b < B) (ho:Own tU8 w B dv xs) (hB:B≤w.heap.size) (hl:xs.length+(u.flatMap wTag).length≤lim) :
    Calls P f #[.pointer (some ⟨b,o,none⟩),dv] w fun e w'=>∃ dv',e=.returned dv'∧Own tU8 w' B dv' (xs ++ u.flatMap wTag)∧Below B w w'∧B≤w'.heap.size:=by
  have h1:dv.oneCell'=true:=own_one ho
  refine fCa hf hb hn (by simp) fun a0 hs hd ha=>?_
  have h0:=ha 0 _ rfl
  have hd1:=ha 1 _ rfl
  simp only [List.getElem_toArray,List.getElem_cons_zero,List.getElem_cons_succ] at h0 hd1
  refine SC.wp_seq (SC.wp_reg (oNo rfl (opw_box (v:=dv) (by rw [eTm,hd1]) ?_)))
  rw [cells_oneCell h1]
  have hnew:=heap_alloc_new w (.cells #[dv] TB)
  have hold:∀ j,j < w.heap.size→(w.alloc (.cells #[dv] TB)).heap[j]?=w.heap[j]?:=fun j hj=>Below.heap_alloc w _ j hj
  have hbn:Below B w (w.alloc (.cells #[dv] TB)):=(Below.refl _ _).alloc hB _
  have hon:Own tU8 (w.alloc (.cells #[dv] TB)) B dv xs:=ho.alloc _
  have hsn:(w.alloc (.cells #[dv] TB)).heap.size=w.heap.size+1:=by simp
  have hun:HTags G (w.alloc (.cells #[dv] TB)) (· < B) b o u:=by
    obtain ⟨q1,q2,q3,q4,q5⟩:=hu
    refine ⟨q1,q2,q3,q4,q5.imp ?_ ?_⟩
    · rintro ⟨z1,z2⟩
      exact ⟨by rw [hbn.cell (p:=⟨b,o,none⟩) hbB];exact z1,z2⟩
    · rintro ⟨r,es,clock,z1,z2,z3,z4⟩
      exact ⟨r,es,clock,by rw [hbn.cell (p:=⟨b,o,none⟩) hbB];exact z1,z2,by rw [hbn.block r z2];exact z3,z4.1,z4.2.1,fun e he x hx hk=>by
        obtain ⟨base,cap,y1,y2⟩:=z4.2.2 e he x hx hk
        exact ⟨base,cap,y1,bytesAt_mono y2 (fun _ h=>h) fun k hk=>hbn.block k hk⟩⟩
  have hne:dv.ownBlock ≠ some w.heap.size:=fun e=>by have:=(own_ltB ho e).2;omega
  generalize w.alloc (.cells #[dv] TB)=w1 at *
  repeat (apply ops_1;(focus (simp (disch:=(try simp only [sPu]);omega) ;try rfl)))
  refine oNi (SC.wp_seq (SC.wp_reg ?_))
  iterate 1 (apply ops_1;(focus (simp (disch:=(try simp only [sPu]);omega) [h0];try rfl)))
  refine oNo rfl (opw_mkFunc (v:=.pointer (some ⟨w.heap.size,0,none⟩)) (by simp (disch:=(try simp only [sPu]);omega)) ?_)
  refine ops_call oE (cE w1 B b o w.heap.size u dv xs hun hbB hon hne hnew hB hl) (by simp (disch:=(try simp only [sPu]);omega) [h0]) ?_
  rintro e w2 ⟨rfl,dv2,hc2,ho2,hne2,t2⟩
  refine ⟨_,rfl,oNi ?_⟩
  simp only [Exit.then]
  have hcc:w2.cell? ⟨w.heap.size,0,none⟩=some dv2:=by rw [cell_of_row _ _ _ _ _ _ hc2];rfl
  have hb2:Below B w w2:=⟨t2.os.trans hbn.os,t2.tape.trans hbn.tape,t2.output.trans hbn.output,by have:=t2.size;omega,fun k hk=>by
    rw [t2.block k (by omega) (by omega) fun e=>by have:=(own_ltB ho e.symm).1;omega]
    exact hbn.block k hk⟩
  refine SC.wp_seq (SC.wp_reg ?_)
  repeat (apply ops_1;(focus (simp (disch:=(try simp only [sPu]);omega) [hTB,hcc];try rfl)))
  refine oNi (SC.wp_ret (ret_tmp hr (by simp [dPu,hd]) ⟨dv2,?_,ho2,hb2,by have:=t2.size;omega⟩))
  simp (disch:=(try simp only [sPu]);omega)
theorem swoLt:Sort.SWO (fun x y:Nat=>decide (x < y)):=⟨fun x=>by simp,fun x y z h1 h2=>by simp at *;omega,fun x y z h1 h2=>by simp at *;omega⟩
theorem isAgg_no {T:TypeId} (h:oneB P T=true):∀ w:World,(isAgg T).run P w=.ok false w:=fun w=>run_isAgg_one h
open Go.Sort Go.Shelf Go.Lib in
theorem sortC {ρ:Ren} (L:LaysGg.n6 P ρ) {CL TU T32:Nat} {fnL:Func} (hm:P.follows .mixedOrders=true) (h0:oneB P TU=true) (hs0:sliceN P TU=some 1) (h1:oneB P T32=true) {i ie:TypeInfo} (hi:P.info? TU=some i) (hid:i.desc=.slice T32) (hpk:P.packed TU=false) (hie:P.info? T32=some ie) (ke:Nat) (hke:∀ w,(Extern.Rtype.kind T32).run P w=.ok ke w) (hsz:ie.size=1)
    (hfL:P.funcs[CL]?=some fnL) (hbL:fnL.body.map strip=some (sc_Each1 TU T32)) (hnL:fnL.ntmps=15) (hrL:fnL.results=#[.tmp 5]) (oFS:FnOK P (ρ.f 6)) (oCL:FnOK P CL)
    (fS : Nat → Nat) (hfS : ∀ n, P.funcs.findIdx? (·.name == "internal/reflectlite" ++ ".Swapper$" ++ toString (swapperK n ie ke)) = some (fS n))
    (gS:Bool) (hx:∀ (n:Nat) args W,2≤n→(callFunc (fS n) args).run P W=((Extern.ReflectliteSwapper.swap gS args).run P W).andThen fun v w'=>.ok (.value v) w'):SortC P (ρ.f 6) CL TU T32:=by
  refine ⟨oFS,fun w B q blk cap ks hqb hqs hq ho hlen=>?_⟩
  have hblks:blk < w.heap.size:=(ho.lt blk rfl).2
  have eg:∀ args w,(callFunc CL args).run P w=.ok (.enter CL args) w:=fun args w=>by
    obtain ⟨fn,q1,q2,q3⟩:=oCL
    exact run_callFunc q1 q2 q3
  have hcells:∀ j k,ks[j]?=some k→w.cell? ⟨blk,j,none⟩=some (encK k):=fun j k hj=>by
    have hlt:j < ks.length:=(List.getElem?_eq_some_iff.1 hj).1
    rw [ho.cellAt j (by omega)]
    simp [hj]
  have hH:Holds encK w blk 0 ks.toArray:=fun j hj=>by
    have hj':j < ks.length:=by simpa using hj
    refine ⟨?_,?_⟩
    · rw [Nat.zero_add,hcells j ks[j] (List.getElem?_eq_getElem hj')]
      congr 2
      rw [getElem!_pos ks.toArray j hj]
      simp
    · exact ho.frozenAt _
  have hqc:w.cell? ⟨q,0,none⟩=some (.slice (some ⟨blk,0,none⟩) ks.length cap):=by rw [cell_of_row _ _ _ _ _ _ hq];rfl
  have fin:∀ (n:Nat) (d':Array Nat) (os:Array Obj),d'.size=ks.length→∀ w',w'=grow (putRow encK (Sort.ahead w n) blk 0 d') os→w'.os=w.os∧w'.tape=w.tape∧w'.output=w.output∧w.heap.size≤w'.heap.size∧(∀ j,j < w.heap.size→j ≠ blk→w'.heap[j]?=w.heap[j]?)∧∀ i k,d'.toList[i]?=some k→w'.cell? ⟨blk,i,none⟩=some (encK k):=by
    intro n d' os hd' w' hw'
    subst hw'
    have hsz1:(putRow encK (Sort.ahead w n) blk 0 d').heap.size=w.heap.size:=by simp [Sort.ahead]
    refine ⟨rfl,rfl,rfl,by rw [size_grow];omega,fun j hj hne=>?_,fun i k hk=>?_⟩
    · rw [heap_grow_old _ _ (by omega)]
      simp [putRow,mapBlock,Sort.ahead,Array.getElem?_modify,Ne.symm hne]
    · have hil:i < d'.size:=by have:=(List.getElem?_eq_some_iff.1 hk).1;simpa using this
      rw [cell?_grow _ _ _ (by show blk < _;omega)]
      have:=cell?_putRow encK (Sort.ahead w n) blk 0 ks.toArray d' (holds_ahead _ _ _ _ _ _ hH) (by simpa using hd') i hil
      rw [Nat.zero_add] at this
      rw [this,getElem!_pos d' i hil]
      have h2:=(List.getElem?_eq_some_iff.1 hk).2
      simp at h2
      rw [h2]
  by_cases h2:2≤ks.length
  · have hless:LessReads P CL #[.pointer (some ⟨q,0,none⟩)] encK (fun x y=>decide (x < y)) blk 0 ks.toArray.size w:=by
      intro m os dk hdk i j hi hj
      simp only [List.size_toArray] at hdk hi hj
      have hW:∀ a:Addr,a.block < w.heap.size→(sortWorld encK w blk 0 m dk os).cell? a=(putRow encK (Sort.ahead w m) blk 0 dk).cell? a:=fun a ha=>cell?_grow _ _ _ (by rw [size_putRow];exact ha)
      have hc:∀ t,t < ks.length→(sortWorld encK w blk 0 m dk os).cell? ⟨blk,t,none⟩=some (encK dk[t]!):=fun t ht=>by
        rw [hW ⟨blk,t,none⟩ hblks]
        have:=cell?_putRow encK (Sort.ahead w m) blk 0 ks.toArray dk (holds_ahead _ _ _ _ _ _ hH) (by simpa using hdk) t (by omega)
        rwa [Nat.zero_add] at this
      have hq2:(sortWorld encK w blk 0 m dk os).cell? ⟨q,0,none⟩=some (.slice (some ⟨blk,0,none⟩) ks.length cap):=by
        rw [hW ⟨q,0,none⟩ hqs,cell?_putRow_other _ _ _ _ _ _ (.inl hqb)]
        exact hqc
      have hws:w.heap.size≤(sortWorld encK w blk 0 m dk os).heap.size:=by
        unfold sortWorld
        rw [size_grow,size_putRow]
        simp [Sort.ahead]
      exact (less_ok hm h0 hs0 h1 hfL hbL hnL hrL _ q blk ks.length cap i j dk[i]! dk[j]! hq2 (by omega) (by omega) hi hj (hc i hi) (hc j hj)).mono fun e w' ⟨q1,q2⟩=>⟨q1,1,q2⟩
    have:=Any.sort_Slice_sorted L TU T32 i ie hi hid hpk hie ke hke hsz (isAgg_no h1) encK (fun _=>rfl) (fun x y:Nat=>decide (x < y)) swoLt CL #[.pointer (some ⟨q,0,none⟩)] eg blk 0 cap ks.toArray (by simpa using h2) (by simp;omega) (fS ks.toArray.size) (by simpa using hfS ks.toArray.size) gS (hx _ · · (by simpa using h2)) w hless hH hblks
    simp only [List.size_toArray] at this
    refine this.mono ?_
    rintro e w' ⟨rfl,d',n,os,hp,hso,hw'⟩
    have hds:d'.size=ks.length:=by simpa using hp.1
    obtain ⟨z1,z2,z3,z4,z5,z6⟩:=fin n d' os hds w' hw'
    refine ⟨rfl,z1,z2,z3,z4,z5,d'.toList,?_,?_,z6⟩
    · have:=hp.2.2
      rw [← hds] at this
      rw [show (d'.extract 0 d'.size)=d' by simp] at this
      have h3:(ks.toArray.extract 0 d'.size)=ks.toArray:=by rw [hds];simp
      rw [h3] at this
      simpa using this
    · rw [List.pairwise_iff_getElem]
      intro i j hi hj hij
      have hj':j < d'.size:=by simpa using hj
      have:=hso i j (Nat.zero_le _) hij (by omega)
      rw [getElem!_pos d' i (by omega),getElem!_pos d' j hj'] at this
      simp at this ⊢
      omega
  · have:=Any.sort_Slice_tiny L TU T32 i ie hi hid hpk hie ke hke (some ⟨blk,0,none⟩) ks.length cap (by omega) (fS ks.length) (hfS ks.length) (.func CL) #[] #[.pointer (some ⟨q,0,none⟩)] w
    refine this.mono ?_
    rintro e w' ⟨rfl,os,rfl⟩
    refine ⟨rfl,rfl,rfl,rfl,by rw [size_grow];omega,fun j hj _=>heap_grow_old _ _ hj,ks,List.Perm.refl _,?_,fun i k hk=>?_⟩
    · match ks,h2 with
      | [],_=>exact List.Pairwise.nil
      | [x],_=>exact List.pairwise_singleton _ _
      | x :: y :: r,h2=>exact absurd (by simp) h2
    · rw [cell?_grow _ _ _ (by show blk < _;omega)]
      exact hcells i k hk
end
end Go.Proofs.YtcchakpiemhpeaaDoor.K
