/- Generic texts: Y15 Y16 Y17 Y18 Y19. No condition. -/
import Derived.Test.YtoiipagmhmohdaaDoorN13
namespace Go.Proofs.YtoiipagmhmohdaaDoor.K
open Go Go.RowKit Go.Proofs.YtoiipagmhmohdaaDoor.T
attribute [local simp] eTm eCo pNo gTp gTn qv qcall vop iop
set_option linter.unusedSimpArgs false
set_option linter.unusedVariables false
set_option maxHeartbeats 4000000
theorem pStr_le {b r t:Bytes} (h:pStr b=some (t,r)):r.length≤b.length:=by
  unfold pStr at h
  obtain ⟨x,r1,h1,h2⟩:=rThen_some h
  obtain ⟨rfl,rfl⟩:=rOk_some h2
  simp only [pPrim,pCount,Bool.false_eq_true,if_false,Bool.false_and] at h1
  obtain ⟨l,r2,k1,k2⟩:=rThen_some h1
  obtain ⟨s,r3,k3,k4⟩:=rThen_some k2
  obtain ⟨rfl,rfl⟩:=rOk_some k4
  have e1:=pInt_facts k1
  have e2:=(pSpan_facts k3).2.2.1
  omega
theorem pMany_le {α:Type} {p:Rd α} (hp:∀ b r x,p b=some (x,r)→r.length≤b.length):∀ (k:Nat) (b r:Bytes) (xs:List α),pMany p k b=some (xs,r)→r.length≤b.length
  | 0,b,r,xs,h=>by cases h;exact Nat.le_refl _
  | k+1,b,r,xs,h=>by
    obtain ⟨x,r1,h1,h2⟩:=rThen_some (show rThen p _ b=some (xs,r) from h)
    obtain ⟨ys,r2,h3,h4⟩:=rThen_some h2
    obtain ⟨rfl,rfl⟩:=rOk_some h4
    exact Nat.le_trans (pMany_le hp k r1 _ ys h3) (hp _ _ _ h1)
theorem pOwnd_le {b r:Bytes} {x:Ownd} (h:pOwnd b=some (x,r)):r.length≤b.length∧x.2.length≤b.length:=by
  unfold pOwnd at h
  obtain ⟨t,r1,h1,h2⟩:=rThen_some h
  obtain ⟨n,r2,h3,h4⟩:=rThen_some h2
  obtain ⟨ps,r3,h5,h6⟩:=rThen_some h4
  obtain ⟨rfl,rfl⟩:=rOk_some h6
  have e1:=pStr_le h1
  have e2:=pLen_facts h3
  have e3:=pMany_le (p:=pInt 4) (fun b r x h=>by have:=pInt_facts h;omega) _ _ _ _ h5
  have e4:=pMany_length (pInt 4) _ _ _ _ h5
  refine ⟨by omega,?_⟩
  show ps.length≤_
  omega
theorem pOwnds_le:∀ (k:Nat) (b r:Bytes) (l:List Ownd),pMany pOwnd k b=some (l,r)→∀ x ∈ l,x.2.length≤b.length
  | 0,b,r,l,h,x,hx=>by cases h;cases hx
  | k+1,b,r,l,h,x,hx=>by
    obtain ⟨y,r1,h1,h2⟩:=rThen_some (show rThen pOwnd _ b=some (l,r) from h)
    obtain ⟨ys,r2,h3,h4⟩:=rThen_some h2
    obtain ⟨rfl,rfl⟩:=rOk_some h4
    have e:=pOwnd_le h1
    rcases List.mem_cons.1 hx with rfl | hx
    · exact e.2
    · exact Nat.le_trans (pOwnds_le k r1 _ ys h3 x hx) e.1
theorem pSt_le {src r:Bytes} {l:List Ownd} {g:Int} (h:pSt src=some ((l,g),r)):l.length≤src.length∧∀ x ∈ l,x.2.length≤src.length:=by
  unfold pSt at h
  obtain ⟨l1,r1,h1,h2⟩:=rThen_some h
  obtain ⟨g1,r2,h3,h4⟩:=rThen_some h2
  obtain ⟨e1,e2⟩:=rOk_some h4
  cases e1
  unfold pStL at h1
  obtain ⟨n,r3,h5,h6⟩:=rThen_some h1
  have e1:=pLen_facts h5
  have e2:=pMany_length pOwnd _ _ _ _ h6
  have e3:=pOwnds_le _ _ _ _ h6
  exact ⟨by omega,fun x hx=>Nat.le_trans (e3 x hx) e1.1⟩
def sc_TellSt (T0 T1 T2 T3 T4 T5 T6 T7 T8 T9 T10 F0 F1:Nat):SC:=.seq (.reg [⟨some 2,.alloc T0,none⟩,⟨some 3,.assign (.const (.bool false)),none⟩]) (.seq (.reg [⟨some 4,.alloc T1,none⟩]) (.seq (.seq (.reg [mv 8 0,cal 9 F0 [8],cal 10 F1 [4,9],⟨some 11,.binOp .neq T2 (.tmp 10) (.const .nilIface) T2,none⟩]) (.cond (.tmp 11) (.seq (.reg [⟨some 12,.build T0 #[],none⟩,⟨none,.store T0 (.tmp 2) (.tmp 12),none⟩,⟨some 3,.assign (.const (.bool false)),none⟩]) (.ret)) (.skip))) (.seq (.reg [fa 13 T1 4 1,ld 14 T3 13,⟨some 15,.build T0 #[(1,(.tmp 14))],none⟩,⟨some 5,.alloc T0,none⟩,⟨none,.store T0 (.tmp 5) (.tmp 15),none⟩]) (.seq (.seq (.reg [fa 16 T1 4 0,ld 17 T4 16,lenOp 18 T4 17,⟨some 19,.move (.const (.int .i64 0)),none⟩]) (.block 0 (.loop (.seq (.reg [⟨some 20,.binOp .lss T5 (.tmp 19) (.tmp 18) T5,none⟩]) (.seq (.cond (.tmp 20) (.skip) (.exit 0)) (.seq (.block 1 (sc_tellElem T0 T4 T6 T7 T8 T9 T10)) (.reg [⟨some 34,.binOp .add T5 (.tmp 19) (.const (.int .i64 1)) T5,none⟩,mv 19 34]))))))) (.seq (.reg [ld 35 T0 5,⟨none,.store T0 (.tmp 2) (.tmp 35),none⟩,⟨some 3,.assign (.const (.bool true)),none⟩]) (.ret))))))
section
variable {P:Program} {f:FuncId} {fn:Func}
def TellStC (P:Program) (gb:Nat) (Gl:World→Prop) (F:FuncId):Prop:=FnOK P F∧∀ (w:World) (S:Option Nat) (base:Option Addr) (src:Bytes) (cap:Nat),gb < w.heap.size→(∀ w',Below w.heap.size w w'→Gl w')→SrcAt w S base src→(∀ sb,S=some sb→sb < w.heap.size)→src.length≤70000000 →
  Calls P F #[.slice base src.length cap] w fun e w'=>Below w.heap.size w w'∧∃ v0 v1:Value,v0.oneCell'=true∧v1.oneCell'=true∧e=.returned (.tuple #[.agg #[v0,v1],.bool (after (some src) pSt).isSome])∧∀ l g r,pSt src=some ((l,g),r)→StV w' (fun k=>w.heap.size≤k∧k < w'.heap.size) l g (.agg #[v0,v1])
theorem tellSt_ok {T0 T1 T2 T3 T4 T5 T6 T7 T8 T9 T10 F0 F1 FR gb tU8:Nat} {err:Value} {Gl:World→Prop} (hm:P.follows .mixedOrders=true) (hT2:ifaceT P T2=true) (herr:∃ t y,err=.iface t y)
    (hA:aggB P T0 2=true) (h0o:oneB P T0=false) (h0a:aggN P T0=some 2) (hz0:∃ i z,P.info? T0=some i∧i.zero=some z∧z.cells.size=2) (hz1:∃ i z,P.info? T1=some i∧i.zero=some z∧z.cells=#[.slice none 0 0,.int .i32 0])
    (hf0:fieldOff P T0 0=some 0) (hf1:fieldOff P T1 1=some 1) (hf10:fieldOff P T1 0=some 0) (h3:oneB P T3=true) (h4:oneB P T4=true) (hR:RowT P T4 T6) (h7:oneB P T7=true) (h8:oneB P T8=true) (h9:oneB P T9=true) (e9:ElT P T9 T3 1) (e7:ElT P T7 T10 2)
    (hB0:P.built T0 []=some #[.slice none 0 0,.int .i32 0]) (hB1:∀ g:Int,P.built T0 [(1,.int .i32 g)]=some #[.slice none 0 0,.int .i32 g]) (hB2:∀ (s:ByteArray) (b:Option Addr) (l c:Nat),P.built T10 [(0,.string s),(1,.slice b l c)]=some #[.string s,.slice b l c])
    (cOwn:OwnC P tU8 F0) (oRF:FnOK P F1) (cRF:∀ (w:World) (x y:Value) (R:Ending→World→Prop),(Calls P FR #[x,y,.bool false] w fun e w'=>∃ v,e=.returned v∧R e w')→Calls P F1 #[x,y] w R)
    (cH:StRC P T1 gb err Gl FR)
    (hf : P.funcs[f]? = some fn) (hb : fn.body.map strip = some (sc_TellSt T0 T1 T2 T3 T4 T5 T6 T7 T8 T9 T10 F0 F1)) (hnm : (fn.name == "runtime.NumGoroutine") = false) (hn : fn.ntmps = 36) (hr : fn.results = #[.cell 2 T0, .tmp 3]) : TellStC P gb Gl f := by
  refine ⟨fnOK_of hf hb hnm,fun w S base src cap hgb hgl hsr hS hlen=>?_⟩
  have hlim:lim=70368744177664:=rfl
  obtain ⟨i0,z0,hi0,hzz0,hzs0⟩:=hz0
  obtain ⟨i1,z1,hi1,hzz1,hzc1⟩:=hz1
  have hs4:=hR.sl
  refine fCa hf hb hn (by simp) fun a0 hs hd ha=>?_
  have h0:=ha 0 _ rfl
  simp only [List.getElem_toArray,List.getElem_cons_zero,List.getElem_cons_succ] at h0
  refine SC.wp_seq (SC.wp_reg (oNo rfl (opw_alloc hi0 hzz0 ?_)))
  repeat (apply ops_1;(focus (simp (disch:=(try simp only [sPu]);omega) ;try rfl)))
  refine oNi ?_
  simp only [Exit.then]
  have hn1:=heap_alloc_new w (.cells z0.cells T0)
  have hb1:Below w.heap.size w (w.alloc (.cells z0.cells T0)):=(Below.refl _ _).alloc (Nat.le_refl _) _
  have hs1:(w.alloc (.cells z0.cells T0)).heap.size=w.heap.size+1:=by simp
  generalize w.alloc (.cells z0.cells T0)=w1 at hn1 hb1 hs1 ⊢
  refine SC.wp_seq (SC.wp_reg (oNo rfl (opw_alloc hi1 hzz1 (oNi ?_))))
  simp only [Exit.then]
  have hn2:=heap_alloc_new w1 (.cells z1.cells T1)
  have hn1':(w1.alloc (.cells z1.cells T1)).heap[w.heap.size]?=some (.cells z0.cells T0 (0,0)):=by rw [Below.heap_alloc _ _ _ (by omega)];exact hn1
  have hb2:Below w.heap.size w (w1.alloc (.cells z1.cells T1)):=hb1.alloc (by omega) _
  have hs2:(w1.alloc (.cells z1.cells T1)).heap.size=w1.heap.size+1:=by simp
  rw [hzc1] at hn2 hn1' hb2 hs2 ⊢
  generalize w1.alloc (.cells #[.slice none 0 0,.int .i32 0] T1)=w2 at hn2 hn1' hb2 hs2 ⊢
  refine SC.wp_seq (SC.wp_seq (SC.wp_reg ?_))
  iterate 1 (apply ops_1;(focus (simp (disch:=(try simp only [sPu]);omega) [h0];try rfl)))
  have hsr2:SrcAt w2 S base src:=hsr.frame fun sb h=>hb2.block sb (hS sb h)
  refine ops_call cOwn.1 (cOwn.2 w2 S base src cap hsr2 (by omega)) (by simp (disch:=(try simp only [sPu]);omega)) ?_
  rintro e w3 ⟨dv,rfl,ho3,hb3⟩
  refine ⟨_,rfl,?_⟩
  have hb3':Below w.heap.size w w3:=hb2.trans ⟨hb3.os,hb3.tape,hb3.output,hb3.size,fun k hk=>hb3.block k (by omega)⟩
  have hs3:=hb3.size
  obtain ⟨S3,b3,c3,rfl,hcap3,hsr3,hS3⟩:=own_src2 ho3
  have hrow3:w3.heap[w1.heap.size]?=some (.cells #[.slice none 0 0,.int .i32 0] T1 (0,0)):=by rw [hb3.block _ (by omega)];exact hn2
  have hrg3:w3.heap[w.heap.size]?=some (.cells z0.cells T0 (0,0)):=by rw [hb3.block _ (by omega)];exact hn1'
  have hcr:=cH w.heap.size w3 S3 w1.heap.size (.int .i32 0) b3 src c3 hgb (by omega) (by omega) (fun w' h=>hgl w' (hb3'.trans h)) hrow3 hcap3 hsr3 (fun sb h=>⟨by have:=(hS3 sb h).1;omega,(hS3 sb h).2⟩)
  obtain ⟨R,hRR⟩:∃ R:Ending→World→Prop,R=fun e w'=>Below w.heap.size w3 w'∧w3.heap.size≤w'.heap.size∧(∀ k,k < w3.heap.size→k ≠ w1.heap.size→w'.heap[k]?=w3.heap[k]?)∧e=.returned (if (after (some src) pSt).isSome then .nilIface else err) ∧
    ∀ l g r,pSt src=some ((l,g),r)→∃ lb lc,w'.heap[w1.heap.size]?=some (.cells #[.slice lb l.length lc,.int .i32 g] T1 (0,0))∧ListAt w' (fun k=>w3.heap.size≤k∧k < w'.heap.size) lb l:=⟨_,rfl⟩
  refine ops_call oRF (cRF w3 (.pointer (some ⟨w1.heap.size,0,none⟩)) (.slice b3 src.length c3) R (hcr.mono fun e w' h=>?_)) (by simp (disch:=(try simp only [sPu]);omega)) ?_
  · obtain ⟨z1,z2,z3,z4,z5⟩:=h
    rw [hRR]
    exact ⟨_,z4,z1,z2,z3,z4,z5⟩
  rw [hRR]
  rintro e w4 ⟨hb4,hs4',hoth4,rfl,hval⟩
  refine ⟨_,rfl,?_⟩
  have hb4':Below w.heap.size w w4:=hb3'.trans hb4
  have hrg4:w4.heap[w.heap.size]?=some (.cells z0.cells T0 (0,0)):=by rw [hoth4 _ (by omega) (by omega)];exact hrg3
  obtain ⟨ok,hok⟩:∃ ok,ok=(after (some src) pSt).isSome:=⟨_,rfl⟩
  rw [← hok]
  obtain ⟨et,ey,rfl⟩:=herr
  refine oNo rfl (opw_isErr (v:=if ok=true then .nilIface else .iface et ey) hT2 (by simp (disch:=(try simp only [sPu]);omega)) (by cases ok <;> simp) (oNi ?_))
  simp only [Exit.then]
  refine SC.wp_cond (t:=!ok) (by cases ok <;> simp [isErr] <;> simp (disch:=(try simp only [sPu]);omega)) ?_
  cases hokc:ok with
  | false =>
    rw [if_pos (by simp)]
    refine SC.wp_seq (SC.wp_reg ?_)
    refine oNo rfl (opw_build (cs:=#[.slice none 0 0,.int .i32 0]) (by simpa using hB0) ?_)
    refine oNo rfl (opw_store_agg (cs:=[.slice none 0 0,.int .i32 0]) (cur:=z0.cells) (b:=w.heap.size) (E:=T0) hA (by simp (disch:=(try simp only [sPu]);omega)) (by simp (disch:=(try simp only [sPu]);omega)) hrg4 (by rw [hzs0];rfl) (by intro v hv;simp at hv;rcases hv with rfl | rfl <;> rfl) ?_)
    rw [pNo]
    repeat (apply ops_1;(focus (simp (disch:=(try simp only [sPu]);omega) ;try rfl)))
    refine oNi (SC.wp_ret ?_)
    try simp only [Exit.then]
    have hrow:=setRow_heap w4 w.heap.size _ [Value.slice none 0 0,.int .i32 0].toArray _ _ hrg4
    refine bodyPost_ret_by (v:=.tuple #[.agg [Value.slice none 0 0,.int .i32 0].toArray,.bool false]) (res_ct (b:=w.heap.size) hr hA (by simp (disch:=(try simp only [sPu]);omega)) (fun j v hj=>by rw [cell_of_row _ _ _ _ _ _ hrow];simpa using hj) (by simp (disch:=(try simp only [sPu]);omega))) (by simp [dPu,hd]) ⟨hb4'.trans ⟨rfl,rfl,rfl,by simp,fun k hk=>setRow_other _ _ _ _ (by omega)⟩,.slice none 0 0,.int .i32 0,rfl,rfl,rfl,fun l g r h=>?_⟩
    rw [after_ok h,hokc] at hok
    cases hok
  | true =>
    rw [if_neg (by simp)]
    refine SC.wp_skip ?_
    simp only [Exit.then]
    obtain ⟨l,g,r,hp⟩:∃ l g r,pSt src=some ((l,g),r):=by
      cases h1:pSt src with
      | none=>rw [after_no h1,hokc] at hok;cases hok
      | some zz=>exact ⟨zz.1.1,zz.1.2,zz.2,rfl⟩
    obtain ⟨lb,lc,hrow4,hla⟩:=hval l g r hp
    obtain ⟨hll,hxl⟩:=pSt_le hp
    have k0:w4.cell? ⟨w1.heap.size,0,none⟩=some (.slice lb l.length lc):=by rw [cell_of_row _ _ _ _ _ _ hrow4];rfl
    have k1:w4.cell? ⟨w1.heap.size,1,none⟩=some (.int .i32 g):=by rw [cell_of_row _ _ _ _ _ _ hrow4];rfl
    refine SC.wp_seq (SC.wp_reg ?_)
    iterate 2 (apply ops_1;(focus (simp (disch:=(try simp only [sPu]);omega) [hf1,h3,k1];try rfl)))
    refine oNo rfl (opw_build (cs:=#[.slice none 0 0,.int .i32 g]) (by simp (disch:=(try simp only [sPu]);omega);exact hB1 g) ?_)
    refine oNo rfl (opw_alloc hi0 hzz0 ?_)
    have hn5:=heap_alloc_new w4 (.cells z0.cells T0)
    have hb5:Below w4.heap.size w4 (w4.alloc (.cells z0.cells T0)):=(Below.refl _ _).alloc (Nat.le_refl _) _
    have hs5:(w4.alloc (.cells z0.cells T0)).heap.size=w4.heap.size+1:=by simp
    generalize w4.alloc (.cells z0.cells T0)=w5 at hn5 hb5 hs5 ⊢
    refine oNo rfl (opw_store_agg (cs:=[.slice none 0 0,.int .i32 g]) (cur:=z0.cells) (b:=w4.heap.size) (E:=T0) hA (by simp (disch:=(try simp only [sPu]);omega)) (by simp (disch:=(try simp only [sPu]);omega)) hn5 (by rw [hzs0];rfl) (by intro v hv;simp at hv;rcases hv with rfl | rfl <;> rfl) (oNi ?_))
    rw [pNo]
    simp only [Exit.then]
    have hrow6:=setRow_heap w5 w4.heap.size _ [Value.slice none 0 0,.int .i32 g].toArray _ _ hn5
    have hb6:Below w4.heap.size w4 (w5.setRow w4.heap.size [Value.slice none 0 0,.int .i32 g].toArray):=below_setRow hb5 (Nat.le_refl _) _
    have hs6:(w5.setRow w4.heap.size [Value.slice none 0 0,.int .i32 g].toArray).heap.size=w5.heap.size:=by simp
    generalize w5.setRow w4.heap.size [Value.slice none 0 0,.int .i32 g].toArray=w6 at hrow6 hb6 hs6 ⊢
    have hb6':Below w.heap.size w w6:=hb4'.trans (hb6.mono (by omega))
    have k0':w6.cell? ⟨w1.heap.size,0,none⟩=some (.slice lb l.length lc):=by rw [hb6.cell (p:=⟨w1.heap.size,0,none⟩) (by show w1.heap.size < _;omega)];exact k0
    have hrg6:w6.heap[w.heap.size]?=some (.cells z0.cells T0 (0,0)):=by rw [hb6.block _ (by omega)];exact hrg4
    have hla6:ListAt w6 (fun k=>k < w4.heap.size) lb l:=hla.mono (fun k hk=>hk.2) (fun k hk=>hb6.block k hk.2)
    refine SC.wp_seq (SC.wp_seq (SC.wp_reg ?_))
    repeat (apply ops_1;(focus (simp (disch:=(try simp only [sPu]);omega) [hf10,h4,hs4,k0'];try rfl)))
    refine oNi ?_
    simp only [Exit.then]
    obtain ⟨Bo,hBo⟩:∃ Bo,Bo=w6.heap.size:=⟨_,rfl⟩
    refine SC.wp_block (SC.wp_loop (fun a4 w7=>∃ (j:Nat) (lv:Value),a4.tmps.size=36∧a4.defers=[]∧getT a4 2=.pointer (some ⟨w.heap.size,0,none⟩)∧getT a4 5=.pointer (some ⟨w4.heap.size,0,none⟩)∧getT a4 17=.slice lb l.length lc∧getT a4 18=.int .i64 (l.length:Int)∧getT a4 19=.int .i64 (j:Int)∧j≤l.length∧w7.heap[w4.heap.size]?=some (.cells #[lv,.int .i32 g] T0 (0,0))∧OutL w7 Bo T10 lv j l∧Keep (fun k=>k=w4.heap.size∨Bo≤k) w6 w7)
      (fun a4 _=>match getT a4 19 with | .int _ m=>(l.length - m).toNat | _=>0) ⟨0,.slice none 0 0,by simp [sPu,hs],by simp [dPu,hd],by simp (disch:=(try simp only [sPu]);omega),by simp (disch:=(try simp only [sPu]);omega),by simp (disch:=(try simp only [sPu]);omega),by simp (disch:=(try simp only [sPu]);omega),by simp (disch:=(try simp only [sPu]);omega),by omega,hrow6,OutL.nil _ _ _ _,Keep.refl _ _⟩ ?_)
    rintro a4 w7 ⟨j,lv,q,qd,p2,p5,p17,p18,p19,hj,hr7,hout,hk7⟩
    have hs7:=hk7.size
    refine SC.wp_seq (SC.wp_reg ?_)
    repeat (apply ops_1;(focus (simp (disch:=(try simp only [sPu]);omega) [p18,p19];try rfl)))
    refine oNi ?_
    simp only [Exit.then]
    refine SC.wp_seq (SC.wp_cond (t:=decide ((j:Int) < (l.length:Int))) (by simp (disch:=(try simp only [sPu]);omega)) ?_)
    refine Decidable.byCases (p:=j < l.length) (fun hjl=>?_) (fun hjl=>?_)
    · rw [if_pos (decide_eq_true (by omega))]
      refine SC.wp_skip ?_
      simp only [Exit.then]
      have hla7:ListAt w7 (fun k=>k < w4.heap.size) lb l:=hla6.mono (fun k hk=>hk) (fun k hk=>hk7.block k (by omega) (by omega))
      refine SC.wp_seq (SC.wp_block ?_)
      refine tellElem_ok (r5:=w4.heap.size) (j:=j) (len:=l.length) (lc:=lc) (Bo:=Bo) (l:=l) (x:=l[j]) (lb:=lb) (lv:=lv) (gv:=.int .i32 g) (T3:=T3) hm hR hf0 h7 h8 h9 e9 e7 hB2 (by simp [sPu,q]) (by simp [dPu,qd]) (by simp (disch:=(try simp only [sPu]);omega) [p5]) (by simp (disch:=(try simp only [sPu]);omega) [p17]) (by simp (disch:=(try simp only [sPu]);omega) [p19]) hjl hla7 (List.getElem?_eq_getElem hjl) (fun k hk=>by omega) hr7 (by omega) (by omega) hout (Nat.le_trans (hxl _ (List.getElem_mem hjl)) hlen) (by omega) fun a8 w8 lv8 f1 f2 f3 f4 f5 f6=>?_
      simp only [Exit.inBlock,Exit.then]
      have ew:IntKind.i64.wrap ((j:Int)+1)=((j:Int)+1):=by rw [wrap_i64'];split <;> omega
      have y19:getT a8 19=.int .i64 (j:Int):=by rw [f3 19 (by omega) (by omega)];simp (disch:=(try simp only [sPu]);omega) [p19]
      have y2:getT a8 2=.pointer (some ⟨w.heap.size,0,none⟩):=by rw [f3 2 (by omega) (by omega)];simp (disch:=(try simp only [sPu]);omega) [p2]
      have y5:getT a8 5=.pointer (some ⟨w4.heap.size,0,none⟩):=by rw [f3 5 (by omega) (by omega)];simp (disch:=(try simp only [sPu]);omega) [p5]
      have y17:getT a8 17=.slice lb l.length lc:=by rw [f3 17 (by omega) (by omega)];simp (disch:=(try simp only [sPu]);omega) [p17]
      have y18:getT a8 18=.int .i64 (l.length:Int):=by rw [f3 18 (by omega) (by omega)];simp (disch:=(try simp only [sPu]);omega) [p18]
      refine SC.wp_reg ?_
      repeat (apply ops_1;(focus (simp (disch:=(try simp only [sPu]);omega) [y19,ew];try rfl)))
      refine oNi ?_
      refine ⟨⟨j+1,lv8,by simp [sPu,f1],by simp [dPu,f2],by simp (disch:=(try simp only [sPu]);omega) [y2],by simp (disch:=(try simp only [sPu]);omega) [y5],by simp (disch:=(try simp only [sPu]);omega) [y17],by simp (disch:=(try simp only [sPu]);omega) [y18],by simp (disch:=(try simp only [sPu]);omega),by omega,f4,f5,hk7.trans f6⟩,?_⟩
      rw [p19]
      simp (disch:=(try simp only [sPu]);omega)
      omega
    · rw [if_neg (by rw [decide_eq_false (by omega)];simp)]
      refine SC.wp_exit ?_
      simp only [Exit.then,Exit.inBlock,if_true]
      have:j=l.length:=by omega
      subst this
      have hlv1:=hout.one
      have hk50:∀ o,w7.cell? ⟨w4.heap.size,o,none⟩=#[lv,.int .i32 g][o]?:=fun o=>cell_of_row _ _ _ _ _ _ hr7
      have hrv:rangeV w7 w4.heap.size 0 2=some [lv,.int .i32 g]:=by simp [rangeV,hk50]
      have hrg7:w7.heap[w.heap.size]?=some (.cells z0.cells T0 (0,0)):=by rw [hk7.block _ (by omega) (by omega)];exact hrg6
      refine SC.wp_seq (SC.wp_reg ?_)
      iterate 1 (apply ops_1;(focus (simp (disch:=(try simp only [sPu]);omega) [p5,h0o,h0a,hrv];try rfl)))
      refine oNo rfl (opw_store_agg (cs:=[lv,.int .i32 g]) (cur:=z0.cells) (b:=w.heap.size) (E:=T0) hA (by simp (disch:=(try simp only [sPu]);omega) [p2]) (by simp (disch:=(try simp only [sPu]);omega)) hrg7 (by rw [hzs0];rfl) (by intro v hv;simp at hv;rcases hv with rfl | rfl;exact hlv1;rfl) ?_)
      rw [pNo]
      repeat (apply ops_1;(focus (simp (disch:=(try simp only [sPu]);omega) ;try rfl)))
      refine oNi (SC.wp_ret ?_)
      try simp only [Exit.then]
      have hrow:=setRow_heap w7 w.heap.size _ [lv,Value.int .i32 g].toArray _ _ hrg7
      have hb7:Below w.heap.size w w7:=hb6'.trans (hk7.below (fun k h=>by omega) (by omega))
      obtain ⟨ob,oc,rfl,hol⟩:=hout.list
      refine bodyPost_ret_by (v:=.tuple #[.agg [Value.slice ob l.length oc,Value.int .i32 g].toArray,.bool true]) (res_ct (b:=w.heap.size) hr hA (by simp (disch:=(try simp only [sPu]);omega) [p2]) (fun j v hj=>by rw [cell_of_row _ _ _ _ _ _ hrow];simpa using hj) (by simp (disch:=(try simp only [sPu]);omega))) (by simp [dPu,qd]) ⟨hb7.trans ⟨rfl,rfl,rfl,by simp,fun k hk=>setRow_other _ _ _ _ (by omega)⟩,.slice ob l.length oc,.int .i32 g,rfl,rfl,rfl,fun l' g' r' h=>?_⟩
      rw [hp] at h
      cases h
      exact ⟨ob,oc,rfl,hol.mono (fun k hk=>⟨by have:=hk.1;omega,by have:=hk.2;simp;omega⟩) (fun k hk=>setRow_other _ _ _ _ (by have:=hk.1;omega))⟩
end
end Go.Proofs.YtoiipagmhmohdaaDoor.K
namespace Go.Proofs.YtoiipagmhmohdaaDoor.K
open Go Go.RowKit Go.Proofs.YtoiipagmhmohdaaDoor.T
attribute [local simp] eTm eCo pNo gTp gTn qv qcall vop iop
set_option linter.unusedSimpArgs false
set_option linter.unusedVariables false
set_option maxHeartbeats 4000000
def sc_rtake (T0 T1 T2 F0:Nat):SC:=.seq (.reg [⟨some 4,.assign (.const (.slice none 0 0)),none⟩]) (.seq (.seq (.dreg [mv 5 0,nilc 6 5,fa 7 T0 6 2,ld 8 T1 7,⟨some 9,.binOp .eql T1 (.tmp 8) (.const (.int .i64 0)) T1,none⟩,mv 10 9,⟨some 11,.move (.tmp 1),some (5,true)⟩,⟨some 12,.move (.tmp 0),some (5,true)⟩,⟨some 13,.nilCheck (.tmp 12),some (5,true)⟩,⟨some 14,.fieldAddr T0 (.tmp 13) 0,some (5,true)⟩,⟨some 15,.load T2 (.tmp 14),some (5,true)⟩,⟨some 16,.call ⟨.builtin .len,#[(.tmp 15)],#[T2]⟩,some (5,true)⟩,⟨some 17,.move (.tmp 0),some (5,true)⟩,⟨some 18,.nilCheck (.tmp 17),some (5,true)⟩,⟨some 19,.fieldAddr T0 (.tmp 18) 1,some (5,true)⟩,⟨some 20,.load T1 (.tmp 19),some (5,true)⟩,⟨some 21,.binOp .sub T1 (.tmp 16) (.tmp 20) T1,some (5,true)⟩,⟨some 22,.binOp .gtr T1 (.tmp 11) (.tmp 21) T1,some (5,true)⟩,⟨some 23,.pick (.tmp 10) (.tmp 22) (.const (.bool false)),none⟩] [[],[0],[1],[2],[3],[4],[5],[5],[7,5],[8,5],[9,5],[10,5],[5],[12,5],[13,5],[14,5],[11,15,5],[6,16,5],[5,17]]) (.cond (.tmp 23) (.reg [mv 24 0,⟨some 25,.call ⟨.value (.func F0),#[(.tmp 24),(.const (.int .i64 1))],#[]⟩,none⟩]) (.skip))) (.seq (.seq (.reg [mv 26 0,nilc 27 26,fa 28 T0 27 2,ld 29 T1 28,⟨some 30,.binOp .neq T1 (.tmp 29) (.const (.int .i64 0)) T1,none⟩]) (.cond (.tmp 30) (.seq (.reg [⟨some 4,.assign (.const (.slice none 0 0)),none⟩]) (.ret)) (.skip))) (.seq (.reg [mv 31 0,nilc 32 31,fa 33 T0 32 1,ld 34 T1 33,mv 35 1,⟨some 36,.binOp .add T1 (.tmp 34) (.tmp 35) T1,none⟩,nilc 37 31,fa 38 T0 37 1,⟨none,.store T1 (.tmp 38) (.tmp 36),none⟩]) (.seq (.dreg [mv 39 0,nilc 40 39,fa 41 T0 40 0,ld 42 T2 41,mv 43 0,nilc 44 43,fa 45 T0 44 1,ld 46 T1 45,mv 47 1,⟨some 48,.binOp .sub T1 (.tmp 46) (.tmp 47) T1,none⟩,mv 49 0,nilc 50 49,fa 51 T0 50 1,ld 52 T1 51,⟨some 53,.slice T2 (.tmp 42) (some (.tmp 48)) (some (.tmp 52)) none,none⟩,asg 4 53] [[],[0],[1],[2],[],[4],[5],[6],[],[7,8],[],[10],[11],[12],[3,9,13],[14,0,1,2,3,4,5,6,7,8,9,10,11,12,13,14]]) (.ret)))))
def sc_rfixed (T0 T1 T2 T3 T4 T5 F0:Nat):SC:=.seq (.reg [⟨some 4,.assign (.const (.int .i64 0)),none⟩]) (.seq (.reg [⟨some 5,.assign (.const (.int .i64 0)),none⟩]) (.seq (.seq (.reg [mv 8 0,mv 9 1,cal 10 F0 [8,9],lenOp 11 T0 10,⟨some 12,.move (.const (.int .i64 0)),none⟩]) (.block 0 (.loop (.seq (.reg [⟨some 13,.binOp .lss T1 (.tmp 12) (.tmp 11) T1,none⟩]) (.seq (.cond (.tmp 13) (.skip) (.exit 0)) (.seq (.block 1 (.seq (.reg [mv 14 12,⟨some 15,.indexAddr T0 (.tmp 10) (.tmp 12),none⟩,ld 16 T2 15,asg 6 14,asg 7 16]) (.seq (.seq (.reg [mv 17 6,⟨some 18,.binOp .eql T1 (.tmp 17) (.const (.int .i64 0)) T1,none⟩]) (.cond (.tmp 18) (.seq (.reg [mv 19 7,⟨some 20,.convert T2 T3 (.tmp 19),none⟩,⟨some 21,.convert T3 T4 (.tmp 20),none⟩,asg 5 21]) (.exit 1)) (.skip))) (.reg [mv 22 5,⟨some 23,.binOp .shl T4 (.tmp 22) (.const (.int .u64 8)) T5,none⟩,mv 24 7,⟨some 25,.convert T2 T4 (.tmp 24),none⟩,⟨some 26,.binOp .or T4 (.tmp 23) (.tmp 25) T4,none⟩,asg 5 26])))) (.reg [⟨some 27,.binOp .add T1 (.tmp 12) (.const (.int .i64 1)) T1,none⟩,mv 12 27]))))))) (.seq (.reg [mv 28 5,asg 4 28]) (.ret))))
def sc_roct (T0 T1 T2 T3 T4 F0 F1:Nat):SC:=.seq (.reg [⟨some 4,.alloc T0,none⟩]) (.seq (.seq (.reg [mv 5 1,⟨some 6,.binOp .eql T1 (.tmp 5) (.const (.int .i64 (-1))) T1,none⟩,mv 7 6,⟨some 8,.move (.tmp 0),some (2,true)⟩,⟨some 9,.nilCheck (.tmp 8),some (2,true)⟩,⟨some 10,.fieldAddr T2 (.tmp 9) 2,some (2,true)⟩,⟨some 11,.load T3 (.tmp 10),some (2,true)⟩,⟨some 12,.binOp .eql T3 (.tmp 11) (.const (.int .i64 0)) T3,some (2,true)⟩,⟨some 13,.pick (.tmp 7) (.tmp 12) (.const (.bool false)),none⟩]) (.cond (.tmp 13) (.seq (.reg [⟨some 14,.build T0 #[(0,(.const (.bool true)))],none⟩,⟨none,.store T0 (.tmp 4) (.tmp 14),none⟩]) (.ret)) (.skip))) (.seq (.seq (.reg [mv 15 1,⟨some 16,.binOp .lss T1 (.tmp 15) (.const (.int .i64 0)) T1,none⟩]) (.cond (.tmp 16) (.reg [mv 17 0,⟨some 18,.call ⟨.value (.func F0),#[(.tmp 17),(.const (.int .i64 3))],#[]⟩,none⟩]) (.skip))) (.seq (.seq (.reg [mv 19 1,mv 20 0,nilc 21 20,fa 22 T2 21 0,ld 23 T4 22,lenOp 24 T4 23,⟨some 25,.binOp .gtr T1 (.tmp 19) (.tmp 24) T1,none⟩]) (.cond (.tmp 25) (.reg [mv 26 0,⟨some 27,.call ⟨.value (.func F0),#[(.tmp 26),(.const (.int .i64 1))],#[]⟩,none⟩]) (.skip))) (.seq (.seq (.reg [mv 28 0,nilc 29 28,fa 30 T2 29 2,ld 31 T3 30,⟨some 32,.binOp .neq T3 (.tmp 31) (.const (.int .i64 0)) T3,none⟩]) (.cond (.tmp 32) (.seq (.reg [⟨some 33,.build T0 #[],none⟩,⟨none,.store T0 (.tmp 4) (.tmp 33),none⟩]) (.ret)) (.skip))) (.seq (.reg [mv 34 0,mv 35 1,cal 36 F1 [34,35],⟨some 37,.build T0 #[(1,(.tmp 36))],none⟩,⟨none,.store T0 (.tmp 4) (.tmp 37),none⟩]) (.ret))))))
structure RTy2 (P:Program) (TR TI TB tU8:Nat):Prop where
  f0:fieldOff P TR 0=some 0
  f1:fieldOff P TR 1=some 1
  f2:fieldOff P TR 2=some 2
  oI:oneB P TI=true
  oB:oneB P TB=true
  sB:sliceN P TB=some 1
  oU:oneB P tU8=true
  iU:intK P tU8=some .u8
def RdrAt (TR:Nat) (w:World) (rb:Nat) (base:Option Addr) (len cap at_:Nat):Prop:=w.heap[rb]?=some (.cells #[.slice base len cap,.int .i64 (at_:Int),.int .i64 0] TR (0,0))
theorem RdrAt.cells {TR rb len cap at_:Nat} {w:World} {base:Option Addr} (h:RdrAt TR w rb base len cap at_):w.cell? ⟨rb,0,none⟩=some (.slice base len cap)∧w.cell? ⟨rb,1,none⟩=some (.int .i64 (at_:Int))∧w.cell? ⟨rb,2,none⟩=some (.int .i64 0):=by
  refine ⟨?_,?_,?_⟩ <;> rw [cell_of_row _ _ _ _ _ _ h] <;> rfl
section
variable {P:Program} {a:Act} {w:World} {K:Act→World→Prop} {d:Option Tmp} {g:Option (Nat × Bool)}
theorem opw_sliceLH {T n m len cap:Nat} {k k':IntKind} {x y z:Operand} {base:Option Addr} (hT:sliceN P T=some 1) (hx:a.eval x=.slice base len cap) (hy:a.eval y=.int k (n:Int)) (hz:a.eval z=.int k' (m:Int)) (hn:n≤m) (hm:m≤cap) (h:K (a.put d (.slice (if cap=n then base else base.map (·.add n)) (m - n) (cap - n))) w) :
    opw P ⟨d,.slice T x (some y) (some z) none,g⟩ a w K:=by
  unfold sliceN at hT
  split at hT <;> try (simp at hT;done)
  rename_i e hu
  obtain ⟨i,hi,hs⟩:=Option.map_eq_some_iff.1 hT
  refine oVa (v:=.slice (if cap=n then base else base.map (·.add n)) (m - n) (cap - n)) (by simp) (fun p hp=>?_) h
  simp [execOp,hp,hx,hy,hz,Instr.sliceAt,Instr.slice,run_underlying hu,Instr.sliceBounds,Instr.sliceBound,asIntOf,sizeOf,typeInfo,hi,hs,hn,hm]
theorem or8 {v:Int} {c:Nat} (hc:c < 256) (h1:-1099511627776≤v) (h2:v < 1099511627776):IntKind.i64.wrap ((BitVec.ofInt IntKind.i64.bits (v * 256) ||| BitVec.ofInt IntKind.i64.bits (c:Int)).toNat:Int)=v * 256+c:=by
  obtain ⟨b,hb⟩:∃ b:Nat,b=(v % 72057594037927936).toNat:=⟨_,rfl⟩
  have hbv:((b * 2 ^ 8:Nat):Int)=(v * 256) % 18446744073709551616:=by omega
  have e:BitVec.ofInt IntKind.i64.bits (v * 256)=BitVec.ofInt IntKind.i64.bits ((b * 2 ^ 8:Nat):Int):=by
    apply BitVec.eq_of_toNat_eq
    rw [BitVec.toNat_ofInt,BitVec.toNat_ofInt]
    simp only [IntKind.bits]
    omega
  rw [e,BitVec.or_comm,or_add2 (a:=c) (b:=b) (s:=8) rfl rfl (by omega) (by simp only [IntKind.bits];omega),wrap_i64']
  split <;> omega
theorem unfix_snoc (l:Bytes) (c:UInt8):unfix (l ++ [c])=unfix l * 256+c.toNat:=by
  induction l with
  | nil=>simp [unfix]
  | cons u l ih =>
    rw [List.cons_append,unfix,unfix,ih,List.length_append,List.length_singleton,Nat.pow_succ,Nat.add_mul,Nat.mul_assoc]
    omega
theorem sgn_snoc {k u c:Nat} (hk:0 < k) (hu:u < 256 ^ k) (hc:c < 256):sgn (k+1) (u * 256+c)=sgn k u * 256+c:=by
  obtain ⟨j,rfl⟩:∃ j,k=j+1:=⟨k - 1,by omega⟩
  have e1:256 ^ (j+1) / 2=128 * 256 ^ j:=by rw [Nat.pow_succ];omega
  have e2:256 ^ (j+1+1) / 2=128 * 256 ^ j * 256:=by rw [Nat.pow_succ,Nat.pow_succ];omega
  have e3:256 ^ (j+1+1)=256 ^ (j+1) * 256:=Nat.pow_succ ..
  unfold sgn
  rw [e1,e2,e3]
  generalize 256 ^ (j+1)=M at *
  generalize 256 ^ j=N at *
  by_cases h:u < 128 * N
  · rw [if_pos h,if_pos (by omega)]
    omega
  · rw [if_neg h,if_neg (by omega)]
    omega
end
section
variable {P:Program} {f:FuncId} {fn:Func}
def TakeC (P:Program) (TR:Nat) (F:FuncId):Prop:=FnOK P F∧∀ (w:World) (rb at_ k len cap:Nat) (base:Option Addr),RdrAt TR w rb base len cap at_→at_+k≤len→len≤cap→len≤70000000 →
  Calls P F #[.pointer (some ⟨rb,0,none⟩),.int .i64 (k:Int)] w fun e w'=>e=.returned (.slice (if cap=at_ then base else base.map (·.add at_)) k (cap - at_))∧Only rb w w'∧w'.heap.size=w.heap.size∧RdrAt TR w' rb base len cap (at_+k)
theorem rtake_ok {TR TI TB tU8 F0 : Nat} (hm : P.follows .mixedOrders = true) (hT : RTy2 P TR TI TB tU8) (hf : P.funcs[f]? = some fn) (hb : fn.body.map strip = some (sc_rtake TR TI TB F0)) (hnm : (fn.name == "runtime.NumGoroutine") = false) (hn : fn.ntmps = 54) (hr : fn.results = #[.tmp 4]) : TakeC P TR f := by
  refine ⟨fnOK_of hf hb hnm,fun w rb at_ k len cap base hrd hak hlc hl7=>?_⟩
  have hf0:=hT.f0
  have hf1:=hT.f1
  have hf2:=hT.f2
  have hoI:=hT.oI
  have hoB:=hT.oB
  have hsB:=hT.sB
  have hrbl:rb < w.heap.size:=(Array.getElem?_eq_some_iff.1 hrd).1
  obtain ⟨c0,c1,c2⟩:=hrd.cells
  refine fCa hf hb hn (by simp) fun a0 hs hd ha=>?_
  have h0:=ha 0 _ rfl
  have h1:=ha 1 _ rfl
  simp only [List.getElem_toArray,List.getElem_cons_zero,List.getElem_cons_succ] at h0 h1
  refine SC.wp_seq (SC.wp_reg ?_)
  repeat (first | (apply ops_1;(focus (simp (disch:=(try simp only [sPu]);omega) ;try rfl))) | (apply ops_y;(focus rfl);(focus ((try simp only [sPu]);omega));(focus (simp (disch:=(try simp only [sPu]);omega);done));(focus (simp (disch:=(try simp only [sPu]);omega) ;try rfl))) | (apply ops_n;(focus rfl);(focus ((try simp only [sPu]);omega));(focus (first | (left;simp (disch:=(try simp only [sPu]);omega);done) | (right;simp (disch:=(try simp only [sPu]);omega);done)))))
  refine oNi ?_
  simp only [Exit.then]
  have d0:w.drew.cell? ⟨rb,0,none⟩=some (.slice base len cap):=c0
  have d1:w.drew.cell? ⟨rb,1,none⟩=some (.int .i64 (at_:Int)):=c1
  have d2:w.drew.cell? ⟨rb,2,none⟩=some (.int .i64 0):=c2
  have ew:IntKind.i64.wrap ((len:Int) - (at_:Int))=(len:Int) - (at_:Int):=by rw [wrap_i64'];split <;> omega
  have hgt:¬ ((len:Int) - (at_:Int) < (k:Int)):=by omega
  refine SC.wp_seq (SC.wp_seq (SC.wp_dreg hm (Below w.heap.size w.drew) [(0,true),(1,true),(2,true),(3,true),(4,true),(5,true),(6,true),(7,true),(8,true),(9,true),(10,true),(11,true),(12,true),(13,true),(14,true),(15,true),(16,true),(17,true),(18,true)] (by rfl) (by rfl) (by decide) (Below.refl _ _) ?_))
  repeat (first | (apply dr_1;(focus rfl);(focus (simp (disch:=(try simp only [sPu]);omega) [h0,h1,hf0,hf1,hf2,hoI,hoB,hsB,d0,d1,d2,hrbl,ew,hgt];try rfl))) | (apply dr_y;(focus rfl);(focus rfl);(focus ((try simp only [sPu]);omega));(focus (simp (disch:=(try simp only [sPu]);omega) [h0,h1,hf0,hf1,hf2,hoI,hoB,hsB,d0,d1,d2,hrbl,ew,hgt];done));(focus (simp (disch:=(try simp only [sPu]);omega) [h0,h1,hf0,hf1,hf2,hoI,hoB,hsB,d0,d1,d2,hrbl,ew,hgt];try rfl))) | (apply dr_n;(focus rfl);(focus rfl);(focus ((try simp only [sPu]);omega));(focus (first | (left;simp (disch:=(try simp only [sPu]);omega) [h0,h1,hf0,hf1,hf2,hoI,hoB,hsB,d0,d1,d2,hrbl,ew,hgt];done) | (right;simp (disch:=(try simp only [sPu]);omega);done)))))
  refine dreg_nil ?_
  simp only [Exit.then]
  refine SC.wp_cond (t:=false) (by simp (disch:=(try simp only [sPu]);omega)) ?_
  rw [if_neg (by simp)]
  refine SC.wp_skip ?_
  simp only [Exit.then]
  refine SC.wp_seq (SC.wp_seq (SC.wp_reg ?_))
  repeat (first | (apply ops_1;(focus (simp (disch:=(try simp only [sPu]);omega) [h0,h1,hf2,hoI,d2];try rfl))) | (apply ops_y;(focus rfl);(focus ((try simp only [sPu]);omega));(focus (simp (disch:=(try simp only [sPu]);omega) [h0,h1,hf2,hoI,d2];done));(focus (simp (disch:=(try simp only [sPu]);omega) [h0,h1,hf2,hoI,d2];try rfl))) | (apply ops_n;(focus rfl);(focus ((try simp only [sPu]);omega));(focus (first | (left;simp (disch:=(try simp only [sPu]);omega) [h0,h1,hf2,hoI,d2];done) | (right;simp (disch:=(try simp only [sPu]);omega);done)))))
  refine oNi (SC.wp_cond (t:=false) (by simp (disch:=(try simp only [sPu]);omega)) ?_)
  rw [if_neg (by simp)]
  refine SC.wp_skip ?_
  simp only [Exit.then]
  have ea:IntKind.i64.wrap ((at_:Int)+(k:Int))=((at_+k:Nat):Int):=by rw [wrap_i64'];split <;> omega
  have hrd':w.drew.heap[rb]?=some (.cells #[.slice base len cap,.int .i64 (at_:Int),.int .i64 0] TR (0,0)):=hrd
  refine SC.wp_seq (SC.wp_reg ?_)
  iterate 8 (first | (apply ops_1;(focus (simp (disch:=(try simp only [sPu]);omega) [h0,h1,hf1,hoI,d1,ea];try rfl))) | (apply ops_y;(focus rfl);(focus ((try simp only [sPu]);omega));(focus (simp (disch:=(try simp only [sPu]);omega) [h0,h1,hf1,hoI,d1,ea];done));(focus (simp (disch:=(try simp only [sPu]);omega) [h0,h1,hf1,hoI,d1,ea];try rfl))) | (apply ops_n;(focus rfl);(focus ((try simp only [sPu]);omega));(focus (first | (left;simp (disch:=(try simp only [sPu]);omega) [h0,h1,hf1,hoI,d1,ea];done) | (right;simp (disch:=(try simp only [sPu]);omega);done)))))
  refine oNo rfl (opw_store_one (ad:=⟨rb,1,none⟩) (v:=.int .i64 ((at_+k:Nat):Int)) (v0:=.int .i64 (at_:Int)) hoI (by simp (disch:=(try simp only [sPu]);omega)) (by simp (disch:=(try simp only [sPu]);omega)) rfl d1 (by simp [World.frozen?,hrd']) (oNi ?_))
  rw [pNo,setCell_eq_setRow _ _ _ _ _ _ _ hrd']
  simp only [Exit.then]
  have hrow:=setRow_heap w.drew rb _ (#[.slice base len cap,.int .i64 (at_:Int),.int .i64 0].setIfInBounds 1 (.int .i64 ((at_+k:Nat):Int))) _ _ hrd'
  have hon:Only rb w (w.drew.setRow rb (#[.slice base len cap,.int .i64 (at_:Int),.int .i64 0].setIfInBounds 1 (.int .i64 ((at_+k:Nat):Int)))):=(Only.refl rb w).drew.setRow _
  have hsz:(w.drew.setRow rb (#[.slice base len cap,.int .i64 (at_:Int),.int .i64 0].setIfInBounds 1 (.int .i64 ((at_+k:Nat):Int)))).heap.size=w.heap.size:=by simp
  generalize w.drew.setRow rb (#[.slice base len cap,.int .i64 (at_:Int),.int .i64 0].setIfInBounds 1 (.int .i64 ((at_+k:Nat):Int)))=w2 at *
  have hrow2:RdrAt TR w2 rb base len cap (at_+k):=hrow
  obtain ⟨c0,c1,c2⟩:=hrow2.cells
  have d0:w2.drew.cell? ⟨rb,0,none⟩=some (.slice base len cap):=c0
  have d1:w2.drew.cell? ⟨rb,1,none⟩=some (.int .i64 ((at_+k:Nat):Int)):=c1
  have ew2:IntKind.i64.wrap (((at_+k:Nat):Int) - (k:Int))=(at_:Int):=by rw [wrap_i64'];split <;> omega
  have hrbl2:rb < w2.heap.size:=by omega
  generalize hA:((at_+k:Nat):Int)=A at *
  refine SC.wp_seq (SC.wp_dreg hm (Below w2.heap.size w2.drew) [(0,true),(1,true),(2,true),(3,true),(4,true),(5,true),(6,true),(7,true),(8,true),(9,true),(10,true),(11,true),(12,true),(13,true),(14,false),(15,true)] (by rfl) (by rfl) (by decide) (Below.refl _ _) ?_)
  iterate 14 (first | (apply dr_1;(focus rfl);(focus (simp (disch:=(try simp only [sPu]);omega) [h0,h1,hf0,hf1,hoI,hoB,d0,d1,hrbl2,ew2];try rfl))) | (apply dr_y;(focus rfl);(focus rfl);(focus ((try simp only [sPu]);omega));(focus (simp (disch:=(try simp only [sPu]);omega) [h0,h1,hf0,hf1,hoI,hoB,d0,d1,hrbl2,ew2];done));(focus (simp (disch:=(try simp only [sPu]);omega) [h0,h1,hf0,hf1,hoI,hoB,d0,d1,hrbl2,ew2];try rfl))) | (apply dr_n;(focus rfl);(focus rfl);(focus ((try simp only [sPu]);omega));(focus (first | (left;simp (disch:=(try simp only [sPu]);omega) [h0,h1,hf0,hf1,hoI,hoB,d0,d1,hrbl2,ew2];done) | (right;simp (disch:=(try simp only [sPu]);omega);done)))))
  refine dreg_n rfl rfl (opw_sliceLH (n:=at_) (m:=at_+k) (len:=len) (cap:=cap) (base:=base) (k:=.i64) (k':=.i64) hsB (by simp (disch:=(try simp only [sPu]);omega)) (by simp (disch:=(try simp only [sPu]);omega)) (by simp (disch:=(try simp only [sPu]);omega) [hA]) (by omega) (by omega) ⟨Below.refl _ _,?_⟩)
  repeat (first | (apply dr_1;(focus rfl);(focus (simp (disch:=(try simp only [sPu]);omega) ;try rfl))) | (apply dr_y;(focus rfl);(focus rfl);(focus ((try simp only [sPu]);omega));(focus (simp (disch:=(try simp only [sPu]);omega);done));(focus (simp (disch:=(try simp only [sPu]);omega) ;try rfl))) | (apply dr_n;(focus rfl);(focus rfl);(focus ((try simp only [sPu]);omega));(focus (first | (left;simp (disch:=(try simp only [sPu]);omega);done) | (right;simp (disch:=(try simp only [sPu]);omega);done)))))
  refine dreg_nil ?_
  simp only [Exit.then]
  refine SC.wp_ret ?_
  try simp only [Exit.then]
  refine ret_tmp hr (by simp [dPu,hd]) ⟨?_,hon.drew,hsz,hrow2⟩
  rw [show at_+k - at_=k by omega]
  simp (disch:=(try simp only [sPu]);omega)
end
end Go.Proofs.YtoiipagmhmohdaaDoor.K
namespace Go.Proofs.YtoiipagmhmohdaaDoor.K
open Go Go.RowKit Go.Proofs.YtoiipagmhmohdaaDoor.T
attribute [local simp] eTm eCo pNo gTp gTn qv qcall vop iop
set_option linter.unusedSimpArgs false
set_option linter.unusedVariables false
set_option maxHeartbeats 4000000
theorem sgn_bound {i u:Nat} (hu:u < 256 ^ i):-((256 ^ i:Nat):Int)≤sgn i u∧sgn i u < ((256 ^ i:Nat):Int):=by
  unfold sgn
  split <;> omega
theorem pow3 {i:Nat} (hi:i≤3):256 ^ i≤16777216:=by
  have:=Nat.pow_le_pow_right (show 0 < 256 by decide) hi
  simpa using this
section
variable {P:Program} {f:FuncId} {fn:Func}
def RFixC (P:Program) (TR:Nat) (F:FuncId):Prop:=FnOK P F∧∀ (w:World) (rb at_ k cap:Nat) (base:Option Addr) (S:Option Nat) (bs:Bytes),RdrAt TR w rb base bs.length cap at_→SrcAt w S base bs→(∀ sb,S=some sb→sb ≠ rb∧sb < w.heap.size)→at_+k≤bs.length→0 < k→k≤4→bs.length≤cap→bs.length≤70000000 →
  Calls P F #[.pointer (some ⟨rb,0,none⟩),.int .i64 (k:Int)] w fun e w'=>e=.returned (.int .i64 (sgn k (unfix ((bs.drop at_).take k))))∧Only rb w w'∧w'.heap.size=w.heap.size∧RdrAt TR w' rb base bs.length cap (at_+k)
theorem rfixed_ok {TR TI TB tU8 T1 T3 T4 T5 F0 : Nat} (hT : RTy2 P TR TI TB tU8) (i3 : intK P T3 = some .i8) (i4 : intK P T4 = some .i64) (cT : TakeC P TR F0) (hf : P.funcs[f]? = some fn) (hb : fn.body.map strip = some (sc_rfixed TB T1 tU8 T3 T4 T5 F0)) (hnm : (fn.name == "runtime.NumGoroutine") = false) (hn : fn.ntmps = 29) (hr : fn.results = #[.tmp 4]) : RFixC P TR f := by
  refine ⟨fnOK_of hf hb hnm,fun w rb at_ k cap base S bs hrd hsr hS hak hk0 hk4 hlc hl7=>?_⟩
  have hsB:=hT.sB
  have hoU:=hT.oU
  have hiU:=hT.iU
  refine fCa hf hb hn (by simp) fun a0 hs hd ha=>?_
  have h0:=ha 0 _ rfl
  have h1:=ha 1 _ rfl
  simp only [List.getElem_toArray,List.getElem_cons_zero,List.getElem_cons_succ] at h0 h1
  obtain ⟨sb,o,rfl,rfl⟩:∃ sb o,S=some sb∧base=some ⟨sb,o,none⟩:=by
    cases S with
    | none=>rw [hsr.2] at hak;simp at hak;omega
    | some sb=>obtain ⟨o,e,_⟩:=hsr;exact ⟨sb,o,rfl,e⟩
  obtain ⟨o',e',hcell⟩:=hsr
  cases e'
  refine SC.wp_seq (SC.wp_reg ?_)
  repeat (apply ops_1;(focus (simp (disch:=(try simp only [sPu]);omega) ;try rfl)))
  refine oNi (SC.wp_seq (SC.wp_reg ?_))
  repeat (apply ops_1;(focus (simp (disch:=(try simp only [sPu]);omega) ;try rfl)))
  refine oNi (SC.wp_seq (SC.wp_seq (SC.wp_reg ?_)))
  iterate 2 (apply ops_1;(focus (simp (disch:=(try simp only [sPu]);omega) [h0,h1];try rfl)))
  refine ops_call cT.1 (cT.2 w rb at_ k bs.length cap _ hrd hak hlc hl7) (by simp (disch:=(try simp only [sPu]);omega) [h0,h1]) ?_
  rintro e w1 ⟨rfl,hon1,hsz1,hrd1⟩
  refine ⟨_,rfl,?_⟩
  rw [if_neg (by omega)]
  simp only [Option.map_some,add_none]
  repeat (apply ops_1;(focus (simp (disch:=(try simp only [sPu]);omega) [hsB];try rfl)))
  refine oNi ?_
  simp only [Exit.then]
  obtain ⟨ys,hys⟩:∃ ys,ys=(bs.drop at_).take k:=⟨_,rfl⟩
  have hyl:ys.length=k:=by rw [hys,List.length_take,List.length_drop];omega
  have hyc:∀ i u,ys[i]?=some u→w1.cell? ⟨sb,o+at_+i,none⟩=some (.int .u8 (u.toNat:Int)):=by
    intro i u hu
    have hi:=(List.getElem?_eq_some_iff.1 hu).1
    rw [hys,List.getElem?_take,if_pos (by omega),List.getElem?_drop] at hu
    rw [hon1.cell (a:=⟨sb,o+at_+i,none⟩) (hS sb rfl).2 (hS sb rfl).1]
    have:=hcell (at_+i) u hu
    rw [show o+at_+i=o+(at_+i) by omega]
    exact this
  rw [← hys]
  refine SC.wp_block (SC.wp_loop (fun a4 w5=>∃ i:Nat,a4.tmps.size=29∧a4.defers=[]∧getT a4 10=.slice (some ⟨sb,o+at_,none⟩) k (cap - at_)∧getT a4 11=.int .i64 (k:Int)∧getT a4 12=.int .i64 (i:Int)∧i≤k∧getT a4 5=.int .i64 (if i=0 then 0 else sgn i (unfix (ys.take i)))∧w5=w1)
    (fun a4 _=>match getT a4 12 with | .int _ m=>(k - m).toNat | _=>0) ⟨0,by simp [sPu,hs],by simp [dPu,hd],by simp (disch:=(try simp only [sPu]);omega),by simp (disch:=(try simp only [sPu]);omega),by simp (disch:=(try simp only [sPu]);omega),by omega,by simp (disch:=(try simp only [sPu]);omega),rfl⟩ ?_)
  rintro a4 w5 ⟨i,q,qd,q10,q11,q12,hi,q5,rfl⟩
  refine SC.wp_seq (SC.wp_reg ?_)
  repeat (apply ops_1;(focus (simp (disch:=(try simp only [sPu]);omega) [q11,q12];try rfl)))
  refine oNi ?_
  simp only [Exit.then]
  refine SC.wp_seq (SC.wp_cond (t:=decide ((i:Int) < (k:Int))) (by simp (disch:=(try simp only [sPu]);omega)) ?_)
  refine Decidable.byCases (p:=i < k) (fun hjl=>?_) (fun hjl=>?_)
  · rw [if_pos (decide_eq_true (by omega))]
    refine SC.wp_skip ?_
    simp only [Exit.then]
    obtain ⟨c,hc⟩:∃ c,ys[i]?=some c:=⟨_,List.getElem?_eq_getElem (by omega)⟩
    have hce:=hyc i c hc
    have hjl':(i:Int) < (k:Int):=by omega
    have hclt:=c.toNat_lt
    have htk:ys.take (i+1)=ys.take i ++ [c]:=by rw [List.take_add_one,hc];rfl
    refine SC.wp_seq (SC.wp_block (SC.wp_seq (SC.wp_reg ?_)))
    repeat (apply ops_1;(focus (simp (disch:=(try simp only [sPu]);omega) [q10,q12,hsB,hjl,hjl',hoU,hce];try rfl)))
    refine oNi ?_
    simp only [Exit.then]
    refine SC.wp_seq (SC.wp_seq (SC.wp_reg ?_))
    repeat (apply ops_1;(focus (simp (disch:=(try simp only [sPu]);omega) ;try rfl)))
    refine oNi (SC.wp_cond (t:=((i:Int) == 0)) (by simp (disch:=(try simp only [sPu]);omega)) ?_)
    have ew2:IntKind.i64.wrap ((i:Int)+1)=((i:Int)+1):=by rw [wrap_i64'];split <;> omega
    by_cases hi0:i=0
    · subst hi0
      rw [if_pos (by rfl)]
      have w1':IntKind.i8.wrap (c.toNat:Int)=sgn 1 c.toNat:=wrap_i8 (by omega)
      have hsb:=sgn_bound (i:=1) (u:=c.toNat) (by omega)
      have w2':IntKind.i64.wrap (sgn 1 c.toNat)=sgn 1 c.toNat:=wrap64 (by omega) (by omega)
      refine SC.wp_seq (SC.wp_reg ?_)
      repeat (apply ops_1;(focus (simp (disch:=(try simp only [sPu]);omega) [hiU,i3,i4,w1',w2'];try rfl)))
      refine oNi ?_
      simp only [Exit.then]
      refine SC.wp_exit ?_
      simp only [Exit.then,Exit.inBlock,if_true]
      have ew1:IntKind.i64.wrap 1=1:=by decide
      refine SC.wp_reg ?_
      repeat (apply ops_1;(focus (simp (disch:=(try simp only [sPu]);omega) [q12,ew1];try rfl)))
      refine oNi ?_
      refine ⟨⟨1,by simp [sPu,q],by simp [dPu,qd],by simp (disch:=(try simp only [sPu]);omega) [q10],by simp (disch:=(try simp only [sPu]);omega) [q11],by simp (disch:=(try simp only [sPu]);omega) [q12];try decide,by omega,?_,by first | rfl | trivial⟩,?_⟩
      · have:ys.take 1=[c]:=by have:=htk;simpa using this
        rw [this]
        simp (disch:=(try simp only [sPu]);omega) [unfix]
      · rw [q12]
        simp (disch:=(try simp only [sPu]);omega)
        try decide
        try omega
    · rw [if_neg (by simp;omega)]
      refine SC.wp_skip ?_
      simp only [Exit.then]
      rw [if_neg hi0] at q5
      obtain ⟨v,hv⟩:∃ v,v=sgn i (unfix (ys.take i)):=⟨_,rfl⟩
      have hul:=unfix_lt (ys.take i)
      rw [show (ys.take i).length=i by rw [List.length_take];omega] at hul
      have hsb:=sgn_bound hul
      have h3:=pow3 (i:=i) (by omega)
      rw [← hv] at hsb q5
      have hres:sgn (i+1) (unfix (ys.take (i+1)))=v * 256+c.toNat:=by rw [htk,unfix_snoc,sgn_snoc (by omega) hul hclt,hv]
      have wsh:IntKind.i64.wrap (v * 256)=v * 256:=wrap64 (by omega) (by omega)
      have wc:IntKind.i64.wrap (c.toNat:Int)=(c.toNat:Int):=wrap64 (by omega) (by omega)
      have hor:=or8 (v:=v) hclt (by omega) (by omega)
      refine SC.wp_reg ?_
      iterate 1 (apply ops_1;(focus (simp (disch:=(try simp only [sPu]);omega) [q5];try rfl)))
      refine ops_1 (v:=.int .i64 (v * 256)) (by simp (disch:=(try simp only [sPu]);omega) [qv,vop,iop,IntKind.bits];exact wsh) ?_
      iterate 2 (apply ops_1;(focus (simp (disch:=(try simp only [sPu]);omega) [hiU,i4,wc];try rfl)))
      refine ops_1 (v:=.int .i64 (v * 256+c.toNat)) (by
        simp only [qv,vop,iop]
        rw [eTm,eTm]
        simp (disch:=(try simp only [sPu]);omega) only [gTp,gTn]
        simp only [if_true]
        rw [hor]) ?_
      repeat (apply ops_1;(focus (simp (disch:=(try simp only [sPu]);omega) ;try rfl)))
      refine oNi ?_
      simp only [Exit.inBlock,Exit.then]
      refine SC.wp_reg ?_
      repeat (apply ops_1;(focus (simp (disch:=(try simp only [sPu]);omega) [q12,ew2];try rfl)))
      refine oNi ?_
      refine ⟨⟨i+1,by simp [sPu,q],by simp [dPu,qd],by simp (disch:=(try simp only [sPu]);omega) [q10],by simp (disch:=(try simp only [sPu]);omega) [q11],by simp (disch:=(try simp only [sPu]);omega),by omega,?_,by first | rfl | trivial⟩,?_⟩
      · rw [if_neg (by omega),hres]
        simp (disch:=(try simp only [sPu]);omega)
      · rw [q12]
        simp (disch:=(try simp only [sPu]);omega)
        omega
  · rw [if_neg (by rw [decide_eq_false (by omega)];simp)]
    refine SC.wp_exit ?_
    simp only [Exit.then,Exit.inBlock,if_true]
    have:i=k:=by omega
    subst this
    rw [if_neg (by omega),show ys.take i=ys by rw [← hyl,List.take_length]] at q5
    refine SC.wp_seq (SC.wp_reg ?_)
    repeat (apply ops_1;(focus (simp (disch:=(try simp only [sPu]);omega) [q5];try rfl)))
    refine oNi (SC.wp_ret ?_)
    try simp only [Exit.then]
    exact ret_tmp hr (by simp [dPu,qd]) ⟨by simp (disch:=(try simp only [sPu]);omega),hon1,hsz1,hrd1⟩
def ROctC (P:Program) (TR:Nat) (F:FuncId):Prop:=FnOK P F∧∀ (w:World) (rb at_ k len cap:Nat) (base:Option Addr),RdrAt TR w rb base len cap at_→at_+k≤len→len≤cap→len≤70000000 →
  Calls P F #[.pointer (some ⟨rb,0,none⟩),.int .i64 (k:Int)] w fun e w'=>e=.returned (.agg #[.bool false,.slice (if cap=at_ then base else base.map (·.add at_)) k (cap - at_)])∧Only rb w w'∧RdrAt TR w' rb base len cap (at_+k)
theorem roct_ok {TR TI TB tU8 T0 T1 F0 F1:Nat} (hT:RTy2 P TR TI TB tU8) (hA:aggB P T0 2=true) (h0a:aggN P T0=some 2) (hz:∃ i z,P.info? T0=some i∧i.zero=some z∧z.cells.size=2) (hB:∀ (b:Option Addr) (l c:Nat),P.built T0 [(1,.slice b l c)]=some #[.bool false,.slice b l c]) (cT:TakeC P TR F1)
    (hf : P.funcs[f]? = some fn) (hb : fn.body.map strip = some (sc_roct T0 T1 TR TI TB F0 F1)) (hnm : (fn.name == "runtime.NumGoroutine") = false) (hn : fn.ntmps = 38) (hr : fn.results = #[.cell 4 T0]) : ROctC P TR f := by
  refine ⟨fnOK_of hf hb hnm,fun w rb at_ k len cap base hrd hak hlc hl7=>?_⟩
  obtain ⟨i0,z0,hi0,hz0,hzs⟩:=hz
  have hf0:=hT.f0
  have hf2:=hT.f2
  have hoI:=hT.oI
  have hoB:=hT.oB
  have hsB:=hT.sB
  have hrbl:rb < w.heap.size:=(Array.getElem?_eq_some_iff.1 hrd).1
  refine fCa hf hb hn (by simp) fun a0 hs hd ha=>?_
  have h0:=ha 0 _ rfl
  have h1:=ha 1 _ rfl
  simp only [List.getElem_toArray,List.getElem_cons_zero,List.getElem_cons_succ] at h0 h1
  refine SC.wp_seq (SC.wp_reg (oNo rfl (opw_alloc hi0 hz0 (oNi ?_))))
  simp only [Exit.then]
  have hn1:=heap_alloc_new w (.cells z0.cells T0)
  have hon1:Only rb w (w.alloc (.cells z0.cells T0)):=(Only.refl _ _).alloc _
  have hsz1:(w.alloc (.cells z0.cells T0)).heap.size=w.heap.size+1:=by simp
  have hrd1:RdrAt TR (w.alloc (.cells z0.cells T0)) rb base len cap at_:=by
    unfold RdrAt
    rw [Below.heap_alloc _ _ _ hrbl]
    exact hrd
  generalize w.alloc (.cells z0.cells T0)=w1 at *
  obtain ⟨c0,c1,c2⟩:=hrd1.cells
  have hkm:((k:Int) == -1)=false:=by first | (simp;done) | (simp;omega)
  have hk0:¬ ((k:Int) < 0):=by omega
  have hkl:¬ ((len:Int) < (k:Int)):=by omega
  refine SC.wp_seq (SC.wp_seq (SC.wp_reg ?_))
  repeat (first | (apply ops_1;(focus (simp (disch:=(try simp only [sPu]);omega) [h0,h1,hkm];try rfl))) | (apply ops_y;(focus rfl);(focus ((try simp only [sPu]);omega));(focus (simp (disch:=(try simp only [sPu]);omega) [h0,h1,hkm];done));(focus (simp (disch:=(try simp only [sPu]);omega) [h0,h1,hkm];try rfl))) | (apply ops_n;(focus rfl);(focus ((try simp only [sPu]);omega));(focus (first | (left;simp (disch:=(try simp only [sPu]);omega) [h0,h1,hkm];done) | (right;simp (disch:=(try simp only [sPu]);omega);done)))))
  refine oNi (SC.wp_cond (t:=false) (by simp (disch:=(try simp only [sPu]);omega)) ?_)
  rw [if_neg (by simp)]
  refine SC.wp_skip ?_
  simp only [Exit.then]
  refine SC.wp_seq (SC.wp_seq (SC.wp_reg ?_))
  repeat (first | (apply ops_1;(focus (simp (disch:=(try simp only [sPu]);omega) [h0,h1,hk0];try rfl))) | (apply ops_y;(focus rfl);(focus ((try simp only [sPu]);omega));(focus (simp (disch:=(try simp only [sPu]);omega) [h0,h1,hk0];done));(focus (simp (disch:=(try simp only [sPu]);omega) [h0,h1,hk0];try rfl))) | (apply ops_n;(focus rfl);(focus ((try simp only [sPu]);omega));(focus (first | (left;simp (disch:=(try simp only [sPu]);omega) [h0,h1,hk0];done) | (right;simp (disch:=(try simp only [sPu]);omega);done)))))
  refine oNi (SC.wp_cond (t:=false) (by simp (disch:=(try simp only [sPu]);omega)) ?_)
  rw [if_neg (by simp)]
  refine SC.wp_skip ?_
  simp only [Exit.then]
  refine SC.wp_seq (SC.wp_seq (SC.wp_reg ?_))
  repeat (first | (apply ops_1;(focus (simp (disch:=(try simp only [sPu]);omega) [h0,h1,hf0,hoB,hsB,c0,hkl];try rfl))) | (apply ops_y;(focus rfl);(focus ((try simp only [sPu]);omega));(focus (simp (disch:=(try simp only [sPu]);omega) [h0,h1,hf0,hoB,hsB,c0,hkl];done));(focus (simp (disch:=(try simp only [sPu]);omega) [h0,h1,hf0,hoB,hsB,c0,hkl];try rfl))) | (apply ops_n;(focus rfl);(focus ((try simp only [sPu]);omega));(focus (first | (left;simp (disch:=(try simp only [sPu]);omega) [h0,h1,hf0,hoB,hsB,c0,hkl];done) | (right;simp (disch:=(try simp only [sPu]);omega);done)))))
  refine oNi (SC.wp_cond (t:=false) (by simp (disch:=(try simp only [sPu]);omega) [hkl]) ?_)
  rw [if_neg (by simp)]
  refine SC.wp_skip ?_
  simp only [Exit.then]
  refine SC.wp_seq (SC.wp_seq (SC.wp_reg ?_))
  repeat (first | (apply ops_1;(focus (simp (disch:=(try simp only [sPu]);omega) [h0,h1,hf2,hoI,c2];try rfl))) | (apply ops_y;(focus rfl);(focus ((try simp only [sPu]);omega));(focus (simp (disch:=(try simp only [sPu]);omega) [h0,h1,hf2,hoI,c2];done));(focus (simp (disch:=(try simp only [sPu]);omega) [h0,h1,hf2,hoI,c2];try rfl))) | (apply ops_n;(focus rfl);(focus ((try simp only [sPu]);omega));(focus (first | (left;simp (disch:=(try simp only [sPu]);omega) [h0,h1,hf2,hoI,c2];done) | (right;simp (disch:=(try simp only [sPu]);omega);done)))))
  refine oNi (SC.wp_cond (t:=false) (by simp (disch:=(try simp only [sPu]);omega)) ?_)
  rw [if_neg (by simp)]
  refine SC.wp_skip ?_
  simp only [Exit.then]
  refine SC.wp_seq (SC.wp_reg ?_)
  iterate 2 (first | (apply ops_1;(focus (simp (disch:=(try simp only [sPu]);omega) [h0,h1];try rfl))) | (apply ops_y;(focus rfl);(focus ((try simp only [sPu]);omega));(focus (simp (disch:=(try simp only [sPu]);omega) [h0,h1];done));(focus (simp (disch:=(try simp only [sPu]);omega) [h0,h1];try rfl))) | (apply ops_n;(focus rfl);(focus ((try simp only [sPu]);omega));(focus (first | (left;simp (disch:=(try simp only [sPu]);omega) [h0,h1];done) | (right;simp (disch:=(try simp only [sPu]);omega);done)))))
  refine ops_call cT.1 (cT.2 w1 rb at_ k len cap base hrd1 hak hlc hl7) (by simp (disch:=(try simp only [sPu]);omega) [h0,h1]) ?_
  rintro e w2 ⟨rfl,hon2,hsz2,hrd2⟩
  refine ⟨_,rfl,?_⟩
  refine oNo rfl (opw_build (cs:=#[.bool false,.slice (if cap=at_ then base else base.map (·.add at_)) k (cap - at_)]) ?_ ?_)
  · simp only [List.map_toArray,List.map_cons,List.map_nil]
    rw [eTm,gTp (by simp only [sPu];omega)]
    exact hB _ _ _
  have hn2:w2.heap[w.heap.size]?=some (.cells z0.cells T0 (0,0)):=by rw [hon2.block _ (by omega) (by omega)];exact hn1
  refine oNo rfl (opw_store_agg (cs:=[.bool false,.slice (if cap=at_ then base else base.map (·.add at_)) k (cap - at_)]) (cur:=z0.cells) (b:=w.heap.size) (E:=T0) hA (by simp (disch:=(try simp only [sPu]);omega)) (by simp (disch:=(try simp only [sPu]);omega)) hn2 (by rw [hzs];rfl) (by intro v hv;simp at hv;rcases hv with rfl | rfl <;> rfl) (oNi ?_))
  rw [pNo]
  simp only [Exit.then]
  refine SC.wp_ret ?_
  try simp only [Exit.then]
  refine ret_cell (b:=w.heap.size) (cs:=[Value.bool false,.slice (if cap=at_ then base else base.map (·.add at_)) k (cap - at_)].toArray) (E:=T0) hr h0a (by simp (disch:=(try simp only [sPu]);omega)) (setRow_heap w2 w.heap.size _ _ _ _ hn2) (by simp [dPu,hd]) ⟨rfl,(hon1.trans hon2).own (Nat.le_refl _) _,?_⟩
  unfold RdrAt
  rw [setRow_other _ _ _ _ (by omega)]
  exact hrd2
end
end Go.Proofs.YtoiipagmhmohdaaDoor.K
namespace Go.Proofs.YtoiipagmhmohdaaDoor.K
open Go Go.RowKit Go.Proofs.YtoiipagmhmohdaaDoor.T
attribute [local simp] eTm eCo pNo gTp gTn qv qcall vop iop
set_option linter.unusedSimpArgs false
set_option linter.unusedVariables false
set_option maxHeartbeats 4000000
theorem rd_of {k:Nat} {n:Int} {r b:Bytes} (hb:b=fixed n k ++ r) (h:pInt k (fixed n k ++ r)=some (n,r)):sgn k (unfix (b.take k))=n:=by
  subst hb
  rw [pInt_of (by rw [List.length_append,fixed_length];omega)] at h
  simp only [Option.some.injEq,Prod.mk.injEq] at h
  exact h.1
theorem parts_at {bs r:Bytes} {ps:List Int} {p k:Nat} (h:bs.drop p=(ps.flatMap fun x=>fixed x 4) ++ r) (hk:k < ps.length):∃ r',bs.drop (p+4 * k)=fixed ps[k] 4 ++ r':=by
  have e:(ps.flatMap fun x=>fixed x 4)=((ps.take k).flatMap fun x=>fixed x 4) ++ ((ps.drop k).flatMap fun x=>fixed x 4):=by rw [← List.flatMap_append,List.take_append_drop]
  have hl:((ps.take k).flatMap fun x=>fixed x 4).length=4 * k:=by rw [fix4_len,List.length_take];omega
  refine ⟨((ps.drop (k+1)).flatMap fun x=>fixed x 4) ++ r,?_⟩
  rw [← List.drop_drop,h,e,List.append_assoc,List.drop_append,hl,Nat.sub_self,List.drop_zero,List.drop_of_length_le (by omega),List.nil_append,List.drop_eq_getElem_cons hk,List.flatMap_cons,List.append_assoc]
def sc_rdParts (T1 T2 T3 T7 T8 T9 F0:Nat):SC:=.seq (.reg [⟨some 11,.assign (.const (.int .i64 0)),none⟩]) (.block 2 (.loop (.seq (.seq (.reg [mv 51 11,mv 52 10,⟨some 53,.binOp .lss T2 (.tmp 51) (.tmp 52) T2,none⟩,mv 54 53,⟨some 55,.move (.tmp 5),some (3,true)⟩,⟨some 56,.nilCheck (.tmp 55),some (3,true)⟩,⟨some 57,.fieldAddr T1 (.tmp 56) 2,some (3,true)⟩,⟨some 58,.load T3 (.tmp 57),some (3,true)⟩,⟨some 59,.binOp .eql T3 (.tmp 58) (.const (.int .i64 0)) T3,some (3,true)⟩,⟨some 60,.pick (.tmp 54) (.tmp 59) (.const (.bool false)),none⟩]) (.cond (.tmp 60) (.skip) (.exit 2))) (.seq (.block 3 (.dreg [fa 63 T7 9 1,ld 64 T8 63,mv 65 5,⟨some 66,.call ⟨.value (.func F0),#[(.tmp 65),(.const (.int .i64 4))],#[]⟩,none⟩,⟨some 67,.convert T2 T9 (.tmp 66),none⟩,⟨some 68,.buildSlice T8 1 #[(0,(.tmp 67))],none⟩,⟨some 69,.call ⟨.builtin .append,#[(.tmp 64),(.tmp 68)],#[T8,T8]⟩,none⟩,fa 70 T7 9 1,⟨none,.store T8 (.tmp 70) (.tmp 69),none⟩] [[],[0],[],[2],[3],[4],[1,5,3],[0,1,2,3,4,5,6],[7,6,6,0,1,2,3,4,5,6]])) (.reg [mv 61 11,⟨some 62,.binOp .add T2 (.tmp 61) (.const (.int .i64 1)) T2,none⟩,asg 11 62])))))
section
variable {P:Program} {f:FuncId} {fn:Func}
theorem rdParts_ok {T1 T2 T3 T5 T7 T8 T9 T10 F0 tU8 rb ro at_ cap:Nat} {base:Option Addr} {S:Option Nat} {bs rr:Bytes} {ps:List Int} {v1:Value} {a:Act} {w:World} {Q:Exit→Act→World→Prop} (hm:P.follows .mixedOrders=true) (hT:RTy2 P T1 T3 T5 tU8) (hR:RowT P T10 T7) (o8:oneB P T8=true) (i2:intK P T2=some .i64) (i9:intK P T9=some .i32) (e8:ElT P T8 T9 1) (cF:RFixC P T1 F0)
    (hs:a.tmps.size=106) (hd:a.defers=[]) (g5:getT a 5=.pointer (some ⟨rb,0,none⟩)) (g9:getT a 9=.pointer (some ⟨ro,0,none⟩)) (g10:getT a 10=.int .i64 (ps.length:Int)) (hrd:RdrAt T1 w rb base bs.length cap at_) (hrow:w.heap[ro]?=some (.cells #[v1,.slice none 0 0] T7 (0,0))) (hsr:SrcAt w S base bs) (hS:∀ sb,S=some sb→sb ≠ rb∧sb < w.heap.size∧sb ≠ ro) (hor:ro ≠ rb)
    (hps:bs.drop at_=(ps.flatMap fun x=>fixed x 4) ++ rr) (hlc:bs.length≤cap) (hl7:bs.length≤70000000) (hal:at_≤bs.length) (hrg:∀ p ∈ ps,-2147483648≤p∧p < 2147483648)
    (h:∀ a' w' pv,a'.tmps.size=106→a'.defers=[]→(∀ s,s < 51→s ≠ 11→getT a' s=getT a s)→RdrAt T1 w' rb base bs.length cap (at_+4 * ps.length)→w'.heap[ro]?=some (.cells #[v1,pv] T7 (0,0))→w'.ownsRow w.heap.size T9 1 pv ps.length (i32s ps)→Keep (fun k=>k=rb∨k=ro) w w'→Q .normal a' w'):(sc_rdParts T1 T2 T3 T7 T8 T9 F0).wp P Q a w:=by
  have hf2:=hT.f2
  have hoI:=hT.oI
  have hf1:=hR.f1
  have hrol:ro < w.heap.size:=(Array.getElem?_eq_some_iff.1 hrow).1
  have hrbl:rb < w.heap.size:=(Array.getElem?_eq_some_iff.1 hrd).1
  have hlen:at_+4 * ps.length≤bs.length:=by
    have:=congrArg List.length hps
    rw [List.length_drop,List.length_append,fix4_len] at this
    omega
  unfold sc_rdParts
  refine SC.wp_seq (SC.wp_reg ?_)
  repeat (first | (apply ops_1;(focus (simp (disch:=(try simp only [sPu]);omega) ;try rfl))) | (apply ops_y;(focus rfl);(focus ((try simp only [sPu]);omega));(focus (simp (disch:=(try simp only [sPu]);omega);done));(focus (simp (disch:=(try simp only [sPu]);omega) ;try rfl))) | (apply ops_n;(focus rfl);(focus ((try simp only [sPu]);omega));(focus (first | (left;simp (disch:=(try simp only [sPu]);omega);done) | (right;simp (disch:=(try simp only [sPu]);omega);done)))))
  refine oNi ?_
  simp only [Exit.then]
  obtain ⟨E,hE⟩:∃ E:Nat→Prop,E=fun k=>k=rb∨k=ro:=⟨_,rfl⟩
  refine SC.wp_block (SC.wp_loop (fun a4 w5=>∃ (k:Nat) (pv:Value),a4.tmps.size=106∧a4.defers=[]∧(∀ s,s < 51→s ≠ 11→getT a4 s=getT a s)∧getT a4 11=.int .i64 (k:Int)∧k≤ps.length∧RdrAt T1 w5 rb base bs.length cap (at_+4 * k)∧w5.heap[ro]?=some (.cells #[v1,pv] T7 (0,0))∧w5.ownsRow w.heap.size T9 1 pv k (i32s (ps.take k))∧Keep E w w5)
    (fun a4 _=>match getT a4 11 with | .int _ m=>(ps.length - m).toNat | _=>0) ⟨0,.slice none 0 0,by simp [sPu,hs],by simp [dPu,hd],fun s z1 z2=>by simp (disch:=(try simp only [sPu]);omega),by simp (disch:=(try simp only [sPu]);omega),by omega,hrd,hrow,World.ownsRow_nil _ _ _ _,Keep.refl _ _⟩ ?_)
  rintro a4 w5 ⟨k,pv,q1,qd,qk,q11,hk,hrd5,hro5,how5,hkp⟩
  have hs5:=hkp.size
  have y5:getT a4 5=.pointer (some ⟨rb,0,none⟩):=by rw [qk 5 (by omega) (by omega)];exact g5
  have y9:getT a4 9=.pointer (some ⟨ro,0,none⟩):=by rw [qk 9 (by omega) (by omega)];exact g9
  have y10:getT a4 10=.int .i64 (ps.length:Int):=by rw [qk 10 (by omega) (by omega)];exact g10
  obtain ⟨-,-,c2⟩:=hrd5.cells
  refine SC.wp_seq (SC.wp_seq (SC.wp_reg ?_))
  refine Decidable.byCases (p:=k < ps.length) (fun hjl=>?_) (fun hjl=>?_)
  · have hjl':(k:Int) < (ps.length:Int):=by omega
    repeat (first | (apply ops_1;(focus (simp (disch:=(try simp only [sPu]);omega) [q11,y5,y10,hjl,hjl',hf2,hoI,c2];try rfl))) | (apply ops_y;(focus rfl);(focus ((try simp only [sPu]);omega));(focus (simp (disch:=(try simp only [sPu]);omega) [q11,y5,y10,hjl,hjl',hf2,hoI,c2];done));(focus (simp (disch:=(try simp only [sPu]);omega) [q11,y5,y10,hjl,hjl',hf2,hoI,c2];try rfl))) | (apply ops_n;(focus rfl);(focus ((try simp only [sPu]);omega));(focus (first | (left;simp (disch:=(try simp only [sPu]);omega) [q11,y5,y10,hjl,hjl',hf2,hoI,c2];done) | (right;simp (disch:=(try simp only [sPu]);omega);done)))))
    refine oNi (SC.wp_cond (t:=true) (by simp (disch:=(try simp only [sPu]);omega)) ?_)
    rw [if_pos rfl]
    refine SC.wp_skip ?_
    simp only [Exit.then]
    obtain ⟨r',hr'⟩:=parts_at hps hjl
    obtain ⟨p,hp⟩:∃ p,p=ps[k]:=⟨_,rfl⟩
    have hpr:=hrg p (by rw [hp];exact List.getElem_mem hjl)
    rw [← hp] at hr'
    have hval:sgn 4 (unfix ((bs.drop (at_+4 * k)).take 4))=p:=rd_of hr' (pI32_of hpr.1 hpr.2 r')
    have hsr5:SrcAt w5 S base bs:=hsr.frame fun sb hsb=>hkp.block sb (hS sb hsb).2.1 (by rw [hE];rintro (e | e);exact (hS sb hsb).1 e;exact (hS sb hsb).2.2 e)
    have hpv1:pv.oneCell'=true:=by rcases how5.2 with ⟨rfl,_⟩ | ⟨g,cap,cur,rfl,_⟩ <;> rfl
    have hown5:=how5.lt
    refine SC.wp_seq (SC.wp_block ?_)
    obtain ⟨SS,hSS⟩:∃ SS:World→Prop,SS=fun w'=>w'.heap[ro]?=some (.cells #[v1,pv] T7 (0,0)):=⟨_,rfl⟩
    have hS0:SS w5.drew:=by rw [hSS];exact hro5
    have hSc:∀ w',SS w'→∀ b' o',(fun b'=>decide (b'=ro)) b'=true→w'.cell? ⟨b',o',none⟩=w5.cell? ⟨b',o',none⟩:=fun w' h b' o' hb'=>by
      rw [hSS] at h
      have:b'=ro:=of_decide_eq_true hb'
      rw [this,cell_of_row _ _ _ _ _ _ h,cell_of_row _ _ _ _ _ _ hro5]
    have ec1:w5.cell? ⟨ro,1,none⟩=some pv:=by rw [cell_of_row _ _ _ _ _ _ hro5];rfl
    refine SC.wp_dregL hm SS 8 [(0,true),(1,true),(2,true),(3,false),(4,false),(5,false),(6,false),(7,false),(8,false)] (by rfl) (by rfl) (by decide) hS0 ?_
    refine dl_S (v:=.pointer (some ⟨ro,1,none⟩)) hSc rfl (by simp (disch:=(try simp only [sPu]);omega) [qv,hf1,y9]) ?_
    refine dl_S (v:=pv) hSc rfl (by simp (disch:=(try simp only [sPu]);omega) [qv,o8];exact ec1) ?_
    refine dl_S (v:=.pointer (some ⟨rb,0,none⟩)) hSc rfl (by simp (disch:=(try simp only [sPu]);omega) [qv,y5]) ?_
    have hrd5d:RdrAt T1 w5.drew rb base bs.length cap (at_+4 * k):=hrd5
    have hsr5d:SrcAt w5.drew S base bs:=by cases S <;> exact hsr5
    refine dl_call (argsV:=#[.pointer (some ⟨rb,0,none⟩),.int .i64 ((4:Nat):Int)]) rfl cF.1 (cF.2 w5.drew rb (at_+4 * k) 4 cap base S bs hrd5d hsr5d (fun sb h=>⟨(hS sb h).1,by show sb < w5.heap.size;have:=(hS sb h).2.1;omega⟩) (by omega) (by decide) (by decide) hlc hl7) (by simp (disch:=(try simp only [sPu]);omega)) ?_
    rintro e w6 ⟨rfl,hon6,hsz6,hrd6⟩
    rw [hval]
    have hsz6':w6.heap.size=w5.heap.size:=hsz6
    have hro6:w6.heap[ro]?=some (.cells #[v1,pv] T7 (0,0)):=by rw [hon6.block ro (by show ro < w5.heap.size;omega) hor];exact hro5
    have hS6:SS w6:=by rw [hSS];exact hro6
    refine ⟨_,rfl,fun _=>hS6,?_⟩
    have wp:IntKind.i32.wrap p=p:=w32 hpr.1 hpr.2
    refine dl_1 (v:=.int .i32 p) rfl (by simp (disch:=(try simp only [sPu]);omega) [qv,i2,i9,wp]) hS6 ?_
    refine dl_n rfl rfl (opw_elem1 (v0:=.int .i32 p) e8 (by simp (disch:=(try simp only [sPu]);omega)) rfl ?_)
    have hn7:=heap_alloc_new w6 (.cells #[.int .i32 p] T9)
    have hk7:∀ i,i < w6.heap.size→(w6.alloc (.cells #[.int .i32 p] T9)).heap[i]?=w6.heap[i]?:=fun i hi=>Below.heap_alloc _ _ _ hi
    have hs7:(w6.alloc (.cells #[.int .i32 p] T9)).heap.size=w6.heap.size+1:=by simp
    have hb7:Below w6.heap.size w6 (w6.alloc (.cells #[.int .i32 p] T9)):=(Below.refl _ _).alloc (Nat.le_refl _) _
    generalize w6.alloc (.cells #[.int .i32 p] T9)=w7 at *
    have hro7:w7.heap[ro]?=some (.cells #[v1,pv] T7 (0,0)):=by rw [hk7 ro (by omega)];exact hro6
    have hS7:SS w7:=by rw [hSS];exact hro7
    refine ⟨fun _=>hS7,?_⟩
    have how6:w6.ownsRow w.heap.size T9 1 pv k (i32s (ps.take k)):=ownsRow_keep (w:=w5) how5 fun i hi=>hon6.block i (by show i < w5.heap.size;exact (hown5 i hi).2) (by have:=(hown5 i hi).1;omega)
    have how7:w7.ownsRow w.heap.size T9 1 pv k (i32s (ps.take k)):=ownsRow_keep how6 fun i hi=>hk7 i (by have:=(hown5 i hi).2;omega)
    refine dl_n rfl rfl (opw_appendG (B:=w.heap.size) (n:=k) (m:=1) (cells:=i32s (ps.take k)) (news:=[.int .i32 p]) (dv:=pv) (xv:=.slice (some ⟨w6.heap.size,0,none⟩) 1 1) e8 rfl (by simp (disch:=(try simp only [sPu]);omega)) (by simp (disch:=(try simp only [sPu]);omega)) how7 (by omega) (Src.ofSlice w7 e8.hu ⟨w6.heap.size,0,none⟩ 1 1 _ (by simp) (fun i u hu=>by rw [add_none,cell_of_row _ _ _ _ _ _ hn7];simpa using hu) (by intro u hu;simp at hu;subst hu;rfl)) (by omega) fun pv8 w8 how8 hg8 hpb8=>?_)
    have hs8:=hg8.size
    have hro8:w8.heap[ro]?=some (.cells #[v1,pv] T7 (0,0)):=by rw [hg8.block ro (by omega) (fun e=>by have:=(hown5 ro e.symm).1;omega)];exact hro7
    have hS8:SS w8:=by rw [hSS];exact hro8
    refine ⟨fun _=>hS8,?_⟩
    have hpv8:pv8.oneCell'=true:=by rcases how8.2 with ⟨rfl,_⟩ | ⟨g,cap,cur,rfl,_⟩ <;> rfl
    refine dl_1 (v:=.pointer (some ⟨ro,1,none⟩)) rfl (by simp (disch:=(try simp only [sPu]);omega) [qv,hf1,y9]) hS8 ?_
    refine dl_n rfl rfl (opw_store_one (ad:=⟨ro,1,none⟩) (v:=pv8) (v0:=pv) o8 (by simp (disch:=(try simp only [sPu]);omega)) (by simp (disch:=(try simp only [sPu]);omega)) hpv8 (by rw [cell_of_row _ _ _ _ _ _ hro8];rfl) (by simp [World.frozen?,hro8]) ?_)
    rw [pNo,setCell_eq_setRow _ _ _ _ _ _ _ hro8]
    refine ⟨fun h=>absurd rfl h,dl_nil ?_⟩
    have hrow9:=setRow_heap w8 ro _ (#[v1,pv].setIfInBounds 1 pv8) _ _ hro8
    have hk8:Keep E w w8:=by
      refine ⟨?_,?_,?_,by omega,fun i hi hn=>?_⟩
      · rw [hg8.os,hb7.os,hon6.os];exact hkp.os
      · rw [hg8.tape,hb7.tape,hon6.tape];exact hkp.tape
      · rw [hg8.output,hb7.output,hon6.output];exact hkp.output
      · rw [hg8.block i (by omega) (fun e=>by have:=(hown5 i e.symm).1;omega),hk7 i (by omega),hon6.block i (by show i < w5.heap.size;omega) (fun e=>hn (by rw [hE];exact .inl e))]
        exact hkp.block i hi hn
    have hk9:Keep E w (w8.setRow ro (#[v1,pv].setIfInBounds 1 pv8)):=hk8.setRow (.inl (by rw [hE];exact .inr rfl)) _
    have how9:(w8.setRow ro (#[v1,pv].setIfInBounds 1 pv8)).ownsRow w.heap.size T9 1 pv8 (k+1) (i32s (ps.take k) ++ [.int .i32 p]):=ownsRow_keep how8 fun i hi=>setRow_other _ _ _ _ (by have:=(how8.lt i hi).1;omega)
    have hrd9:RdrAt T1 (w8.setRow ro (#[v1,pv].setIfInBounds 1 pv8)) rb base bs.length cap (at_+4 * k+4):=by
      unfold RdrAt
      rw [setRow_other _ _ _ _ (Ne.symm hor),hg8.block rb (by omega) (fun e=>by have:=(hown5 rb e.symm).1;omega),hk7 rb (by omega)]
      exact hrd6
    have hrow9':(w8.setRow ro (#[v1,pv].setIfInBounds 1 pv8)).heap[ro]?=some (.cells #[v1,pv8] T7 (0,0)):=hrow9
    generalize w8.setRow ro (#[v1,pv].setIfInBounds 1 pv8)=w9 at *
    simp only [Exit.inBlock,Exit.then]
    have ew:IntKind.i64.wrap ((k:Int)+1)=((k:Int)+1):=by rw [wrap_i64'];split <;> omega
    refine SC.wp_reg ?_
    repeat (first | (apply ops_1;(focus (simp (disch:=(try simp only [sPu]);omega) [q11,ew];try rfl))) | (apply ops_y;(focus rfl);(focus ((try simp only [sPu]);omega));(focus (simp (disch:=(try simp only [sPu]);omega) [q11,ew];done));(focus (simp (disch:=(try simp only [sPu]);omega) [q11,ew];try rfl))) | (apply ops_n;(focus rfl);(focus ((try simp only [sPu]);omega));(focus (first | (left;simp (disch:=(try simp only [sPu]);omega) [q11,ew];done) | (right;simp (disch:=(try simp only [sPu]);omega);done)))))
    refine oNi ?_
    refine ⟨⟨k+1,pv8,by simp [sPu,q1],by simp [dPu,qd],fun s z1 z2=>?_,by simp (disch:=(try simp only [sPu]);omega),by omega,by rw [show at_+4 * (k+1)=at_+4 * k+4 by omega];exact hrd9,hrow9',?_,hk9⟩,?_⟩
    · rw [← qk s z1 z2]
      simp (disch:=(try simp only [sPu]);omega)
    · have e:i32s (ps.take (k+1))=i32s (ps.take k) ++ [.int .i32 p]:=by
        unfold i32s
        rw [List.take_add_one,List.getElem?_eq_getElem hjl,← hp]
        simp
      rw [e]
      exact how9
    · rw [q11]
      simp (disch:=(try simp only [sPu]);omega)
      omega
  · have hk0:k=ps.length:=by omega
    have hjl':¬ (k:Int) < (ps.length:Int):=by omega
    repeat (first | (apply ops_1;(focus (simp (disch:=(try simp only [sPu]);omega) [q11,y5,y10,hjl,hjl',hf2,hoI,c2];try rfl))) | (apply ops_y;(focus rfl);(focus ((try simp only [sPu]);omega));(focus (simp (disch:=(try simp only [sPu]);omega) [q11,y5,y10,hjl,hjl',hf2,hoI,c2];done));(focus (simp (disch:=(try simp only [sPu]);omega) [q11,y5,y10,hjl,hjl',hf2,hoI,c2];try rfl))) | (apply ops_n;(focus rfl);(focus ((try simp only [sPu]);omega));(focus (first | (left;simp (disch:=(try simp only [sPu]);omega) [q11,y5,y10,hjl,hjl',hf2,hoI,c2];done) | (right;simp (disch:=(try simp only [sPu]);omega);done)))))
    refine oNi (SC.wp_cond (t:=false) (by simp (disch:=(try simp only [sPu]);omega) [hjl]) ?_)
    rw [if_neg (by simp)]
    refine SC.wp_exit ?_
    simp only [Exit.then,Exit.inBlock,if_true]
    subst hk0
    rw [List.take_length] at how5
    exact h _ _ pv (by simp [sPu,q1]) (by simp [dPu,qd]) (fun s z1 z2=>by rw [← qk s z1 z2];simp (disch:=(try simp only [sPu]);omega)) hrd5 hro5 how5 (by rw [← hE];exact hkp)
end
end Go.Proofs.YtoiipagmhmohdaaDoor.K
namespace Go.Proofs.YtoiipagmhmohdaaDoor.K
open Go Go.RowKit Go.Proofs.YtoiipagmhmohdaaDoor.T
attribute [local simp] eTm eCo pNo gTp gTn qv qcall vop iop
set_option linter.unusedSimpArgs false
set_option linter.unusedVariables false
set_option maxHeartbeats 4000000
def sc_rdRound (T0 T1 T2 T3 T4 T5 T6 T7 T8 T9 T10 F0 F1 F2:Nat):SC:=.seq (.reg [mv 33 5,⟨some 34,.call ⟨.value (.func F0),#[(.tmp 33),(.const (.int .i64 2))],#[]⟩,none⟩,asg 8 34]) (.seq (.seq (.reg [mv 35 8,⟨some 36,.binOp .lss T2 (.tmp 35) (.const (.int .i64 0)) T2,none⟩]) (.cond (.tmp 36) (.reg [mv 37 5,⟨some 38,.call ⟨.value (.func F1),#[(.tmp 37),(.const (.int .i64 3))],#[]⟩,none⟩]) (.skip))) (.seq (.reg [mv 39 5,mv 40 8,cal 41 F2 [39,40],⟨some 42,.field T4 (.tmp 41) 1,none⟩,⟨some 43,.convert T5 T6 (.tmp 42),none⟩,⟨some 44,.build T7 #[(0,(.tmp 43))],none⟩,⟨some 9,.alloc T7,none⟩,⟨none,.store T7 (.tmp 9) (.tmp 44),none⟩]) (.seq (.reg [mv 45 5,⟨some 46,.call ⟨.value (.func F0),#[(.tmp 45),(.const (.int .i64 4))],#[]⟩,none⟩,asg 10 46]) (.seq (.seq (.reg [mv 47 10,⟨some 48,.binOp .lss T2 (.tmp 47) (.const (.int .i64 0)) T2,none⟩]) (.cond (.tmp 48) (.reg [mv 49 5,⟨some 50,.call ⟨.value (.func F1),#[(.tmp 49),(.const (.int .i64 3))],#[]⟩,none⟩]) (.skip))) (.seq (sc_rdParts T1 T2 T3 T7 T8 T9 F0) (.reg [fa 71 T0 2 0,ld 72 T10 71,ld 73 T7 9,⟨some 74,.buildSlice T10 1 #[(0,(.tmp 73))],none⟩,⟨some 75,.call ⟨.builtin .append,#[(.tmp 72),(.tmp 74)],#[T10,T10]⟩,none⟩,fa 76 T0 2 0,⟨none,.store T10 (.tmp 76) (.tmp 75),none⟩]))))))
def fldB (P:Program) (T i:Nat):Bool:=match P.underlying T with
  | some (.struct fs)=>match fs.toList[i]? with
    | some fl=>fl.offset == i && oneB P fl.type && (match P.info? fl.type with | some ti=>ti.size == 1 | none=>false)
    | none=>false
  | _=>false
theorem opw_fldB {P:Program} {T i:Nat} {a:Act} {w:World} {K:Act→World→Prop} {d:Option Tmp} {g:Option (Nat × Bool)} {x:Operand} {cs:Array Value} {v:Value} (hT:fldB P T i=true) (hx:a.eval x=.agg cs) (hv:cs[i]?=some v) (h:K (a.put d v) w):opw P ⟨d,.field T x i,g⟩ a w K:=by
  unfold fldB at hT
  split at hT <;> try (simp at hT;done)
  rename_i fs hu
  split at hT <;> try (simp at hT;done)
  rename_i fl hfl
  simp only [Bool.and_eq_true,beq_iff_eq] at hT
  obtain ⟨⟨hoff,hone⟩,hT⟩:=hT
  split at hT <;> try (simp at hT;done)
  rename_i ti hi
  have hsz:ti.size=1:=by simpa using hT
  have hfl':fs[i]?=some fl:=by simpa using hfl
  refine oVa (v:=v) (by simp) (fun p hp=>?_) h
  have h0:=run_isAgg_one (P:=P) (w:=w) hone
  have hlt:=(Array.getElem?_eq_some_iff.1 hv).1
  have hcv:=(Array.getElem?_eq_some_iff.1 hv).2
  simp [execOp,hp,hx,Instr.field,run_underlying hu,hfl',asAgg,part,sizeOf,typeInfo,hi,hsz,hoff,h0,hlt,hcv]
section
variable {P:Program} {f:FuncId} {fn:Func}
theorem rdRound_ok {T0 T1 T2 T3 T4 T5 T6 T7 T8 T9 T10 F0 F1 F2 tU8 rb r2 at_ cap i Bo:Nat} {base:Option Addr} {S:Option Nat} {bs rr:Bytes} {l:List Ownd} {x:Ownd} {lv gv:Value} {a:Act} {w:World} {Q:Exit→Act→World→Prop} (hm:P.follows .mixedOrders=true) (hT:RTy2 P T1 T3 T5 tU8) (hR:RowT P T10 T7) (o8:oneB P T8=true) (i2:intK P T2=some .i64) (i9:intK P T9=some .i32) (e8:ElT P T8 T9 1) (e10:ElT P T10 T7 2) (hf0:fieldOff P T0 0=some 0) (o10:oneB P T10=true) (hfl:fldB P T4 1=true) (hbs:bstrB P T5 T6=true) (hB7:∀ s:ByteArray,P.built T7 [(0,.string s)]=some #[.string s,.slice none 0 0]) (cF:RFixC P T1 F0) (cO:ROctC P T1 F2)
    (hs:a.tmps.size=106) (hd:a.defers=[]) (g2:getT a 2=.pointer (some ⟨r2,0,none⟩)) (g5:getT a 5=.pointer (some ⟨rb,0,none⟩)) (hrd:RdrAt T1 w rb base bs.length cap at_) (hrow:w.heap[r2]?=some (.cells #[lv,gv] T0 (0,0))) (hsr:SrcAt w S base bs) (hS:∀ sb,S=some sb→sb ≠ rb∧sb < Bo∧sb ≠ r2) (hr2b:r2 ≠ rb) (hr2B:r2 < Bo) (hrbB:rb < Bo) (hBo:Bo≤w.heap.size)
    (hx:bs.drop at_=wOwnd x ++ rr) (hxl:l[i]?=some x) (ho:OutL w Bo T7 lv i l) (hi:i≤70000000) (hlc:bs.length≤cap) (hl7:bs.length≤70000000) (hal:at_≤bs.length) (h1:x.1.length≤32767) (h2:x.2.length≤2147483647) (h3:∀ p ∈ x.2,-2147483648≤p∧p < 2147483648)
    (h:∀ a' w' lv',a'.tmps.size=106→a'.defers=[]→(∀ s,s < 8→getT a' s=getT a s)→RdrAt T1 w' rb base bs.length cap (at_+(wOwnd x).length)→w'.heap[r2]?=some (.cells #[lv',gv] T0 (0,0))→OutL w' Bo T7 lv' (i+1) l→Keep (fun k=>k=rb∨k=r2∨Bo≤k) w w'→Q .normal a' w'):(sc_rdRound T0 T1 T2 T3 T4 T5 T6 T7 T8 T9 T10 F0 F1 F2).wp P Q a w:=by
  obtain ⟨it,zt,hit,hzt,hzs⟩:=hR.zero
  have h7o:=hR.one
  have h7a:=hR.agg
  have hxlen:=wOwnd_len x
  have hlen:at_+(wOwnd x).length≤bs.length:=by
    have:=congrArg List.length hx
    rw [List.length_drop,List.length_append] at this
    omega
  have hx0:bs.drop at_=fixed (x.1.length:Int) 2 ++ (x.1 ++ (fixed (x.2.length:Int) 4 ++ ((x.2.flatMap fun p=>fixed p 4) ++ rr))):=by rw [hx];unfold wOwnd;simp only [List.append_assoc]
  have hx2:bs.drop (at_+2)=x.1 ++ (fixed (x.2.length:Int) 4 ++ ((x.2.flatMap fun p=>fixed p 4) ++ rr)):=by
    rw [← List.drop_drop,hx0,List.drop_append,fixed_length,Nat.sub_self,List.drop_zero,List.drop_of_length_le (by rw [fixed_length];omega),List.nil_append]
  have hx4:bs.drop (at_+2+x.1.length)=fixed (x.2.length:Int) 4 ++ ((x.2.flatMap fun p=>fixed p 4) ++ rr):=by
    rw [← List.drop_drop,hx2,List.drop_append,Nat.sub_self,List.drop_zero,List.drop_of_length_le (Nat.le_refl _),List.nil_append]
  have hx5:bs.drop (at_+2+x.1.length+4)=(x.2.flatMap fun p=>fixed p 4) ++ rr:=by
    rw [← List.drop_drop,hx4,List.drop_append,fixed_length,Nat.sub_self,List.drop_zero,List.drop_of_length_le (by rw [fixed_length];omega),List.nil_append]
  have hn:sgn 2 (unfix ((bs.drop at_).take 2))=(x.1.length:Int):=rd_of hx0 (pInt_small 2 (by show x.1.length < 32768;omega) _)
  have hq:sgn 4 (unfix ((bs.drop (at_+2+x.1.length)).take 4))=(x.2.length:Int):=rd_of hx4 (pI32_of (by omega) (by omega) _)
  have htop:(bs.drop (at_+2)).take x.1.length=x.1:=by rw [hx2,List.take_append_of_le_length (Nat.le_refl _),List.take_length]
  have hSw:∀ sb,S=some sb→sb ≠ rb∧sb < w.heap.size:=fun sb h=>⟨(hS sb h).1,by have:=(hS sb h).2.1;omega⟩
  unfold sc_rdRound
  refine SC.wp_seq (SC.wp_reg ?_)
  iterate 1 (first | (apply ops_1;(focus (simp (disch:=(try simp only [sPu]);omega) [g5];try rfl))) | (apply ops_y;(focus rfl);(focus ((try simp only [sPu]);omega));(focus (simp (disch:=(try simp only [sPu]);omega) [g5];done));(focus (simp (disch:=(try simp only [sPu]);omega) [g5];try rfl))) | (apply ops_n;(focus rfl);(focus ((try simp only [sPu]);omega));(focus (first | (left;simp (disch:=(try simp only [sPu]);omega) [g5];done) | (right;simp (disch:=(try simp only [sPu]);omega);done)))))
  refine ops_call (argsV:=#[.pointer (some ⟨rb,0,none⟩),.int .i64 ((2:Nat):Int)]) cF.1 (cF.2 w rb at_ 2 cap base S bs hrd hsr hSw (by omega) (by decide) (by decide) hlc hl7) (by simp (disch:=(try simp only [sPu]);omega) [g5]) ?_
  rintro e w1 ⟨rfl,hon1,hsz1,hrd1⟩
  rw [hn]
  refine ⟨_,rfl,?_⟩
  repeat (first | (apply ops_1;(focus (simp (disch:=(try simp only [sPu]);omega) ;try rfl))) | (apply ops_y;(focus rfl);(focus ((try simp only [sPu]);omega));(focus (simp (disch:=(try simp only [sPu]);omega);done));(focus (simp (disch:=(try simp only [sPu]);omega) ;try rfl))) | (apply ops_n;(focus rfl);(focus ((try simp only [sPu]);omega));(focus (first | (left;simp (disch:=(try simp only [sPu]);omega);done) | (right;simp (disch:=(try simp only [sPu]);omega);done)))))
  refine oNi ?_
  simp only [Exit.then]
  have hk0:¬ ((x.1.length:Int) < 0):=by omega
  refine SC.wp_seq (SC.wp_seq (SC.wp_reg ?_))
  repeat (first | (apply ops_1;(focus (simp (disch:=(try simp only [sPu]);omega) [hk0];try rfl))) | (apply ops_y;(focus rfl);(focus ((try simp only [sPu]);omega));(focus (simp (disch:=(try simp only [sPu]);omega) [hk0];done));(focus (simp (disch:=(try simp only [sPu]);omega) [hk0];try rfl))) | (apply ops_n;(focus rfl);(focus ((try simp only [sPu]);omega));(focus (first | (left;simp (disch:=(try simp only [sPu]);omega) [hk0];done) | (right;simp (disch:=(try simp only [sPu]);omega);done)))))
  refine oNi (SC.wp_cond (t:=false) (by simp (disch:=(try simp only [sPu]);omega) [hk0]) ?_)
  rw [if_neg (by simp)]
  refine SC.wp_skip ?_
  simp only [Exit.then]
  refine SC.wp_seq (SC.wp_reg ?_)
  iterate 2 (first | (apply ops_1;(focus (simp (disch:=(try simp only [sPu]);omega) [g5];try rfl))) | (apply ops_y;(focus rfl);(focus ((try simp only [sPu]);omega));(focus (simp (disch:=(try simp only [sPu]);omega) [g5];done));(focus (simp (disch:=(try simp only [sPu]);omega) [g5];try rfl))) | (apply ops_n;(focus rfl);(focus ((try simp only [sPu]);omega));(focus (first | (left;simp (disch:=(try simp only [sPu]);omega) [g5];done) | (right;simp (disch:=(try simp only [sPu]);omega);done)))))
  refine ops_call cO.1 (cO.2 w1 rb (at_+2) x.1.length bs.length cap base hrd1 (by omega) hlc hl7) (by simp (disch:=(try simp only [sPu]);omega) [g5]) ?_
  rintro e w2 ⟨rfl,hon2,hrd2⟩
  refine ⟨_,rfl,?_⟩
  have hs2:=hon2.size
  have hon12:Only rb w w2:=hon1.trans hon2
  have hsr2:SrcAt w2 S base bs:=hsr.frame fun sb h=>hon12.block sb (hSw sb h).2 (hSw sb h).1
  have hsrt:SrcAt w2 S (if cap=at_+2 then base else base.map (·.add (at_+2))) x.1:=by
    have:=(hsr2.drop (n:=at_+2) (cap:=cap) (by omega) hlc).take (n:=x.1.length)
    rwa [htop] at this
  refine oNo rfl (opw_fldB (cs:=#[.bool false,.slice (if cap=at_+2 then base else base.map (·.add (at_+2))) x.1.length (cap - (at_+2))]) (v:=.slice (if cap=at_+2 then base else base.map (·.add (at_+2))) x.1.length (cap - (at_+2))) hfl (by simp (disch:=(try simp only [sPu]);omega)) rfl ?_)
  refine oNo rfl (opw_str (bs:=x.1) (cap:=cap - (at_+2)) (S:=S) hbs (by simp (disch:=(try simp only [sPu]);omega)) hsrt ?_)
  refine oNo rfl (opw_build (cs:=#[.string ⟨x.1.toArray⟩,.slice none 0 0]) (by simp (disch:=(try simp only [sPu]);omega);exact hB7 _) ?_)
  refine oNo rfl (opw_alloc hit hzt ?_)
  have hn3:=heap_alloc_new w2 (.cells zt.cells T7)
  have hk3:∀ k,k < w2.heap.size→(w2.alloc (.cells zt.cells T7)).heap[k]?=w2.heap[k]?:=fun k hk=>Below.heap_alloc _ _ _ hk
  have hb3:Below w2.heap.size w2 (w2.alloc (.cells zt.cells T7)):=(Below.refl _ _).alloc (Nat.le_refl _) _
  have hsz3:(w2.alloc (.cells zt.cells T7)).heap.size=w2.heap.size+1:=by simp
  generalize w2.alloc (.cells zt.cells T7)=w3 at *
  obtain ⟨ro,hro⟩:∃ ro,ro=w2.heap.size:=⟨_,rfl⟩
  rw [← hro] at hn3 ⊢
  refine oNo rfl (opw_store_agg (cs:=[.string ⟨x.1.toArray⟩,.slice none 0 0]) (cur:=zt.cells) (b:=ro) (E:=T7) hR.aggb (by simp (disch:=(try simp only [sPu]);omega)) (by simp (disch:=(try simp only [sPu]);omega)) hn3 (by rw [hzs];rfl) (by intro v hv;simp at hv;rcases hv with rfl | rfl <;> rfl) (oNi ?_))
  rw [pNo]
  simp only [Exit.then]
  have hrow4:=setRow_heap w3 ro _ [Value.string ⟨x.1.toArray⟩,.slice none 0 0].toArray _ _ hn3
  have hk4:∀ k,k < w2.heap.size→(w3.setRow ro [Value.string ⟨x.1.toArray⟩,.slice none 0 0].toArray).heap[k]?=w2.heap[k]?:=fun k hk=>(setRow_other _ _ _ _ (by omega)).trans (hk3 k hk)
  have hkp4:Keep (fun k=>k=rb) w (w3.setRow ro [Value.string ⟨x.1.toArray⟩,.slice none 0 0].toArray):=by
    have h1:Keep (fun k=>k=rb) w w3:=(Keep.of_only (E:=fun k=>k=rb) hon12 rfl).trans' (E':=fun _=>False) ⟨hb3.os,hb3.tape,hb3.output,hb3.size,fun k hk _=>hb3.block k hk⟩ (fun _ _ h=>h.elim)
    exact h1.setRow (.inr (by have:=hon12.size;omega)) _
  have hsz4:(w3.setRow ro [Value.string ⟨x.1.toArray⟩,.slice none 0 0].toArray).heap.size=w2.heap.size+1:=by simp [hsz3]
  have hrd4:RdrAt T1 (w3.setRow ro [Value.string ⟨x.1.toArray⟩,.slice none 0 0].toArray) rb base bs.length cap (at_+2+x.1.length):=by
    unfold RdrAt
    rw [hk4 rb (Array.getElem?_eq_some_iff.1 hrd2).1]
    exact hrd2
  generalize w3.setRow ro [Value.string ⟨x.1.toArray⟩,.slice none 0 0].toArray=w4 at *
  have hs4:=hkp4.size
  have hsr4:SrcAt w4 S base bs:=hsr.frame fun sb h=>hkp4.block sb (hSw sb h).2 (hSw sb h).1
  have hrolt:w.heap.size≤ro:=by have:=hon12.size;omega
  refine SC.wp_seq (SC.wp_reg ?_)
  iterate 1 (first | (apply ops_1;(focus (simp (disch:=(try simp only [sPu]);omega) [g5];try rfl))) | (apply ops_y;(focus rfl);(focus ((try simp only [sPu]);omega));(focus (simp (disch:=(try simp only [sPu]);omega) [g5];done));(focus (simp (disch:=(try simp only [sPu]);omega) [g5];try rfl))) | (apply ops_n;(focus rfl);(focus ((try simp only [sPu]);omega));(focus (first | (left;simp (disch:=(try simp only [sPu]);omega) [g5];done) | (right;simp (disch:=(try simp only [sPu]);omega);done)))))
  refine ops_call (argsV:=#[.pointer (some ⟨rb,0,none⟩),.int .i64 ((4:Nat):Int)]) cF.1 (cF.2 w4 rb (at_+2+x.1.length) 4 cap base S bs hrd4 hsr4 (fun sb h=>⟨(hSw sb h).1,by have:=(hSw sb h).2;omega⟩) (by omega) (by decide) (by decide) hlc hl7) (by simp (disch:=(try simp only [sPu]);omega) [g5]) ?_
  rintro e w5 ⟨rfl,hon5,hsz5,hrd5⟩
  rw [hq]
  refine ⟨_,rfl,?_⟩
  repeat (first | (apply ops_1;(focus (simp (disch:=(try simp only [sPu]);omega) ;try rfl))) | (apply ops_y;(focus rfl);(focus ((try simp only [sPu]);omega));(focus (simp (disch:=(try simp only [sPu]);omega);done));(focus (simp (disch:=(try simp only [sPu]);omega) ;try rfl))) | (apply ops_n;(focus rfl);(focus ((try simp only [sPu]);omega));(focus (first | (left;simp (disch:=(try simp only [sPu]);omega);done) | (right;simp (disch:=(try simp only [sPu]);omega);done)))))
  refine oNi ?_
  simp only [Exit.then]
  have hk0':¬ ((x.2.length:Int) < 0):=by omega
  refine SC.wp_seq (SC.wp_seq (SC.wp_reg ?_))
  repeat (first | (apply ops_1;(focus (simp (disch:=(try simp only [sPu]);omega) [hk0'];try rfl))) | (apply ops_y;(focus rfl);(focus ((try simp only [sPu]);omega));(focus (simp (disch:=(try simp only [sPu]);omega) [hk0'];done));(focus (simp (disch:=(try simp only [sPu]);omega) [hk0'];try rfl))) | (apply ops_n;(focus rfl);(focus ((try simp only [sPu]);omega));(focus (first | (left;simp (disch:=(try simp only [sPu]);omega) [hk0'];done) | (right;simp (disch:=(try simp only [sPu]);omega);done)))))
  refine oNi (SC.wp_cond (t:=false) (by simp (disch:=(try simp only [sPu]);omega) [hk0']) ?_)
  rw [if_neg (by simp)]
  refine SC.wp_skip ?_
  simp only [Exit.then]
  have hkp5:Keep (fun k=>k=rb) w w5:=hkp4.trans (Keep.of_only hon5 rfl)
  have hrow5:w5.heap[ro]?=some (.cells #[.string ⟨x.1.toArray⟩,.slice none 0 0] T7 (0,0)):=by rw [hon5.block ro (by omega) (by have:=(Array.getElem?_eq_some_iff.1 hrd).1;omega)];exact hrow4
  have hsr5:SrcAt w5 S base bs:=hsr.frame fun sb h=>hkp5.block sb (hSw sb h).2 (hSw sb h).1
  have hrbl:rb < w.heap.size:=(Array.getElem?_eq_some_iff.1 hrd).1
  refine SC.wp_seq (rdParts_ok (T10:=T10) (rb:=rb) (ro:=ro) (at_:=at_+2+x.1.length+4) (cap:=cap) (base:=base) (S:=S) (bs:=bs) (rr:=rr) (ps:=x.2) (v1:=.string ⟨x.1.toArray⟩) hm hT hR o8 i2 i9 e8 cF (by simp [sPu,hs]) (by simp [dPu,hd]) (by simp (disch:=(try simp only [sPu]);omega) [g5]) (by simp (disch:=(try simp only [sPu]);omega)) (by simp (disch:=(try simp only [sPu]);omega)) hrd5 hrow5 hsr5 (fun sb h=>⟨(hSw sb h).1,by have:=(hSw sb h).2;omega,by have:=(hSw sb h).2;omega⟩) (by omega) hx5 hlc hl7 (by omega) h3 fun a6 w6 pv f1 f2 f3 f4 f5 f6 f7=>?_)
  simp only [Exit.then]
  have hs6:=f7.size
  have y2:getT a6 2=.pointer (some ⟨r2,0,none⟩):=by rw [f3 2 (by omega) (by omega)];simp (disch:=(try simp only [sPu]);omega) [g2]
  have y9:getT a6 9=.pointer (some ⟨ro,0,none⟩):=by rw [f3 9 (by omega) (by omega)];simp (disch:=(try simp only [sPu]);omega)
  have yk:∀ s,s < 8→getT a6 s=getT a s:=fun s z=>by rw [f3 s (by omega) (by omega)];simp (disch:=(try simp only [sPu]);omega)
  have hr2l:r2 < w.heap.size:=(Array.getElem?_eq_some_iff.1 hrow).1
  have hkw6:∀ k,k < w.heap.size→k ≠ rb→w6.heap[k]?=w.heap[k]?:=fun k hk hn=>by
    rw [f7.block k (by omega) (by rintro (e | e);exact hn e;omega)]
    exact hkp5.block k hk hn
  have hr26:w6.heap[r2]?=some (.cells #[lv,gv] T0 (0,0)):=by rw [hkw6 r2 hr2l hr2b];exact hrow
  have ho6:OutL w6 Bo T7 lv i l:=ho.keep (fun k hk hk2=>hkw6 k hk2 (by omega)) (by omega)
  have hlv1:=ho.one
  have hown0:∀ k,lv.ownBlock=some k→Bo≤k∧k < w.heap.size:=by
    obtain ⟨rows,q1,_⟩:=ho
    exact fun k hk=>q1.lt k hk
  have e20:w6.cell? ⟨r2,0,none⟩=some lv:=by rw [cell_of_row _ _ _ _ _ _ hr26];rfl
  have hro6:rangeV w6 ro 0 2=some [.string ⟨x.1.toArray⟩,pv]:=by simp [rangeV,cell_of_row _ _ _ _ _ _ f5]
  have hpv1:pv.oneCell'=true:=by rcases f6.2 with ⟨rfl,_⟩ | ⟨g,cap,cur,rfl,_⟩ <;> rfl
  refine SC.wp_reg ?_
  iterate 3 (first | (apply ops_1;(focus (simp (disch:=(try simp only [sPu]);omega) [y2,y9,hf0,o10,e20,h7o,h7a,hro6];try rfl))) | (apply ops_y;(focus rfl);(focus ((try simp only [sPu]);omega));(focus (simp (disch:=(try simp only [sPu]);omega) [y2,y9,hf0,o10,e20,h7o,h7a,hro6];done));(focus (simp (disch:=(try simp only [sPu]);omega) [y2,y9,hf0,o10,e20,h7o,h7a,hro6];try rfl))) | (apply ops_n;(focus rfl);(focus ((try simp only [sPu]);omega));(focus (first | (left;simp (disch:=(try simp only [sPu]);omega) [y2,y9,hf0,o10,e20,h7o,h7a,hro6];done) | (right;simp (disch:=(try simp only [sPu]);omega);done)))))
  refine oNo rfl (opw_row1 (v0:=.string ⟨x.1.toArray⟩) (v1:=pv) e10 (by simp (disch:=(try simp only [sPu]);omega)) ?_)
  have hn7:=heap_alloc_new w6 (.cells #[.string ⟨x.1.toArray⟩,pv] T7)
  have hk7:∀ k,k < w6.heap.size→(w6.alloc (.cells #[.string ⟨x.1.toArray⟩,pv] T7)).heap[k]?=w6.heap[k]?:=fun k hk=>Below.heap_alloc _ _ _ hk
  have hb7:Below w6.heap.size w6 (w6.alloc (.cells #[.string ⟨x.1.toArray⟩,pv] T7)):=(Below.refl _ _).alloc (Nat.le_refl _) _
  have hs7:(w6.alloc (.cells #[.string ⟨x.1.toArray⟩,pv] T7)).heap.size=w6.heap.size+1:=by simp
  generalize w6.alloc (.cells #[.string ⟨x.1.toArray⟩,pv] T7)=w7 at *
  have ho7:OutL w7 Bo T7 lv i l:=ho6.keep (fun k _ hk=>hk7 k hk) (by omega)
  obtain ⟨rows7,ow7,orest⟩:=ho7
  refine oNo rfl (opw_appendG (B:=Bo) (n:=i) (m:=1) (cells:=rows7.flatten) (news:=[.string ⟨x.1.toArray⟩,pv]) (dv:=lv) (xv:=.slice (some ⟨w6.heap.size,0,none⟩) 1 1) e10 rfl (by simp (disch:=(try simp only [sPu]);omega)) (by simp (disch:=(try simp only [sPu]);omega)) ow7 (by omega) (Src.ofSlice w7 e10.hu ⟨w6.heap.size,0,none⟩ 1 1 _ (by simp) (fun j u hu=>by rw [add_none,cell_of_row _ _ _ _ _ _ hn7];simpa using hu) (by intro u hu;simp at hu;rcases hu with rfl | rfl;rfl;exact hpv1)) (by omega) fun lv8 w8 ow8 hg8 hlb8=>?_)
  have hs8:=hg8.size
  have hpo:=f6.lt
  have hpa:OwndV w7 (fun k=>Bo≤k∧k < w7.heap.size∧lv.ownBlock ≠ some k) x (.string ⟨x.1.toArray⟩) pv:=by
    obtain ⟨pb,pc,rfl,hpp⟩:=parts_own f6
    refine ⟨rfl,pb,pc,rfl,hpp.mono (fun k hk=>?_) (fun k hk=>hk7 k (hpo k hk).2)⟩
    have h1:=hpo k hk
    exact ⟨by omega,by omega,fun e=>by have:=(hown0 k e).2;omega⟩
  have ho8:OutL w8 Bo T7 lv8 (i+1) l:=OutL.snoc (w:=w7) (by omega) ow7 orest hxl hpa hg8 ow8 hlb8
  have hlv8:=ho8.one
  have hr28:w8.heap[r2]?=some (.cells #[lv,gv] T0 (0,0)):=by rw [hg8.block r2 (by omega) (fun e=>by have:=(hown0 r2 e.symm).1;omega),hk7 r2 (by omega)];exact hr26
  iterate 1 (first | (apply ops_1;(focus (simp (disch:=(try simp only [sPu]);omega) [y2,hf0];try rfl))) | (apply ops_y;(focus rfl);(focus ((try simp only [sPu]);omega));(focus (simp (disch:=(try simp only [sPu]);omega) [y2,hf0];done));(focus (simp (disch:=(try simp only [sPu]);omega) [y2,hf0];try rfl))) | (apply ops_n;(focus rfl);(focus ((try simp only [sPu]);omega));(focus (first | (left;simp (disch:=(try simp only [sPu]);omega) [y2,hf0];done) | (right;simp (disch:=(try simp only [sPu]);omega);done)))))
  refine oNo rfl (opw_store_one (ad:=⟨r2,0,none⟩) (v:=lv8) (v0:=lv) o10 (by simp (disch:=(try simp only [sPu]);omega)) (by simp (disch:=(try simp only [sPu]);omega)) hlv8 (by rw [cell_of_row _ _ _ _ _ _ hr28];rfl) (by simp [World.frozen?,hr28]) (oNi ?_))
  rw [pNo,setCell_eq_setRow _ _ _ _ _ _ _ hr28]
  have hk8:Keep (fun k=>k=rb∨k=r2∨Bo≤k) w w8:=by
    refine ⟨?_,?_,?_,by omega,fun k hk hn=>?_⟩
    · rw [hg8.os,hb7.os,f7.os];exact hkp5.os
    · rw [hg8.tape,hb7.tape,f7.tape];exact hkp5.tape
    · rw [hg8.output,hb7.output,f7.output];exact hkp5.output
    · rw [hg8.block k (by omega) (fun e=>hn (.inr (.inr (hown0 k e.symm).1))),hk7 k (by omega)]
      exact hkw6 k hk (fun e=>hn (.inl e))
  have hrd8:RdrAt T1 (w8.setRow r2 (#[lv,gv].setIfInBounds 0 lv8)) rb base bs.length cap (at_+(wOwnd x).length):=by
    unfold RdrAt
    rw [setRow_other _ _ _ _ (Ne.symm hr2b),hg8.block rb (by omega) (fun e=>by have:=(hown0 rb e.symm).1;omega),hk7 rb (by omega)]
    have:at_+(wOwnd x).length=at_+2+x.1.length+4+4 * x.2.length:=by omega
    rw [this]
    exact f4
  refine h _ _ lv8 (by simp [sPu,f1]) (by simp [dPu,f2]) (fun s z=>by rw [← yk s z];simp (disch:=(try simp only [sPu]);omega)) hrd8 (setRow_heap w8 r2 _ (#[lv,gv].setIfInBounds 0 lv8) _ _ hr28) (ho8.keep (fun k hk _=>setRow_other _ _ _ _ (by omega)) (by simp)) (hk8.setRow (.inl (.inr (.inl rfl))) _)
end
end Go.Proofs.YtoiipagmhmohdaaDoor.K
