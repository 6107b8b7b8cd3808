/- Generic texts: R14 R15 R16 R17 KX1 KX2 KX3. No condition. -/
import Derived.Test.YtdnpafdgglpagaaGreatDoorN5
import Derived.ScopeJumps
import Derived.Great.BuildSlice
namespace Go.Proofs.YtdnpafdgglpagaaGreatDoor.K
open Go Go.RowKit Go.Proofs.YtdnpafdgglpagaaGreatDoor.T
attribute [local simp] eTm eCo pNo gTp gTn qv qcall vop iop
set_option linter.unusedSimpArgs false
set_option linter.unusedVariables false
set_option maxHeartbeats 2000000
def rDropC (R:RTy) (t:Nat) (n:Int):SC:=.reg [mv t 0,mv (t+1) 0,nilc (t+2) (t+1),fa (t+3) R.TR (t+2) 0,ld (t+4) R.TB (t+3),⟨some (t+5),.slice R.TB (.tmp (t+4)) (some (.const (.int .i64 n))) none none,none⟩,nilc (t+6) t,fa (t+7) R.TR (t+6) 0,⟨none,.store R.TB (.tmp (t+7)) (.tmp (t+5)),none⟩]
def rLess (R:RTy) (n:Int):SC:=.reg [mv 4 0,nilc 5 4,fa 6 R.TR 5 0,ld 7 R.TB 6,lenOp 8 R.TB 7,⟨some 9,.binOp .lss R.I (.tmp 8) (.const (.int .i64 n)) R.I,none⟩]
section
variable {P:Program} {R:RTy} {f:FuncId} {fn:Func}
theorem rDropC_ok {t n rb:Nat} {a:Act} {w:World} {S:Option Nat} {base:Option Addr} {rest:Bytes} {cap:Nat} {Q:Exit->Act->World->Prop} (hR:rdOK P R=true) (hr:rdRow R.TR w rb (.slice base rest.length cap) false) (hc:rest.length<=cap) (hs:SrcAt w S base rest) (hS:∀ sb,S=some sb->sb ≠ rb) (hn:n<=rest.length)
  (h0:getT a 0=.pointer (some ⟨rb,0,none⟩)) (ht:0 < t) (htN:t+8<=a.tmps.size)
  (hQ:∀ a' w',a'.tmps.size=a.tmps.size->a'.defers=a.defers->(∀ s,s < t->getT a' s=getT a s)->RdAt R.TR w' S rb (some (rest.drop n))->Only rb w w'->Q .normal a' w'):(rDropC R t (n:Int)).wp P Q a w:=by
 have hf:=rd_facts hR
 have hcl:=rdRow_cells hr
 have hrow:w.heap[rb]?=some (.cells #[.slice base rest.length cap,.bool false] R.TR (0,0)):=hr
 refine wRg (ops_mv (ops_mv (ops_nilc (ad:=⟨rb,0,none⟩) ?_ (ops_fa (fieldB_of hf.1) (b:=rb) (o:=0) ?_ (ops_ld hf.2.2.1 (ad:=⟨rb,0,none⟩) (v:=.slice base rest.length cap) ?_ hcl.1 (oNo rfl (opw_sliceLo (n:=n) (k:=.i64) (len:=rest.length) (cap:=cap) (base:=base) hf.2.2.2.1 ?_ rfl hn (ops_nilc (ad:=⟨rb,0,none⟩) ?_ (ops_fa (fieldB_of hf.1) (b:=rb) (o:=0) ?_ (ops_stR (b:=rb) (i:=0) (v:=sliceLo base rest.length cap n) hf.2.2.1 ?_ ?_ rfl hrow (by simp) (oNi ?_)))))))))))
 ·rw [gTp (by simp only [sPu];omega),gTn (by omega)];exact h0
 ·rw [gTp (by simp only [sPu];omega)]
 ·rw [gTp (by simp only [sPu];omega)]
 ·rw [eTm,gTp (by simp only [sPu];omega)]
 ·rw [gTn (by omega),gTn (by omega),gTn (by omega),gTn (by omega),gTn (by omega),gTp (by omega)];exact h0
 ·rw [gTp (by simp only [sPu];omega)]
 ·rw [eTm,gTp (by simp only [sPu];omega)]
 ·rw [eTm,gTn (by omega),gTn (by omega),gTp (by simp only [sPu];omega)]
 refine hQ _ _ (by simp only [sPu]) (by simp only [dPu]) (fun s hs=>?_) (rdAt_drop hr hc hs hS hn) ((Only.refl rb w).setRow _)
 rw [gTn (by omega),gTn (by omega),gTn (by omega),gTn (by omega),gTn (by omega),gTn (by omega),gTn (by omega),gTn (by omega)]
theorem RC.map {α β:Type} {TR gb:Nat} {p:Rd α} {g:α->β} {ty ty':Value->Prop} {ok:World->(Nat->Prop)->α->Value->Prop} {ok':World->(Nat->Prop)->β->Value->Prop} (h:RC P TR gb f p ty ok) (hty:∀ v,ty v->ty' v) (hok:∀ w F x v,ok w F x v->ok' w F (g x) v) :
  RC P TR gb f (rThen p fun x=>rOk (g x)) ty' ok':=by
 refine ⟨h.1,fun w S rb st h1 h2 h3=>(h.2 w S rb st h1 h2 h3).mono ?_⟩
 rintro e w' ⟨v,rfl,q1,q2,q3,q4⟩
 have ea:after st (rThen p fun x=>rOk (g x))=after st p:=by
  cases st with
  | none=>rfl
  | some b =>
   cases hp:p b with
   | none=>simp [after,rThen,hp]
   | some z=>rw [after_then _ _ _ rfl hp,after_ok hp];exact after_rOk _ _
 refine ⟨v,rfl,by rw [ea];exact q1,q2,hty v q3,fun b x r hst hpx=>?_⟩
 obtain ⟨y,r1,k1,k2⟩:=rThen_some hpx
 obtain ⟨rfl,rfl⟩:=rOk_some k2
 exact hok _ _ _ _ (q4 b y _ hst k1)
theorem pFix_none {k:Nat} {b:Bytes} (h:b.length < k):pFix k b=none:=by simp [pFix,h]
theorem pFix_some {k:Nat} {b:Bytes} (h:k<=b.length):pFix k b=some (unfix (b.take k),b.drop k):=by unfold pFix;rw [if_neg (by omega)]
theorem rdAt_lt {TR rb:Nat} {w:World} {v:Value} {bad:Bool} (h:rdRow TR w rb v bad):rb < w.heap.size:=(Array.getElem?_eq_some_iff.1 h).1
theorem src_head {w:World} {S:Option Nat} {base:Option Addr} {rest:Bytes} (hs:SrcAt w S base rest) {k:Nat} (hk:k<=rest.length) (hk0:0 < k):∃ sb o,S=some sb/\base=some ⟨sb,o,none⟩/\∀ j u,(rest.take k)[j]?=some u->w.cell? ⟨sb,o+j,none⟩=some (cell u):=by
 cases S with
 | none =>
  obtain ⟨_,rfl⟩:=hs
  simp at hk
  omega
 | some sb =>
  obtain ⟨o,h1,h2⟩:=hs
  refine ⟨sb,o,rfl,h1,fun j u hu=>h2 j u ?_⟩
  rw [List.getElem?_take] at hu
  split at hu
  ·exact hu
  ·simp at hu
end
def sc_RNumS (R:RTy) (BE F G0 T T':Nat) (nb:Int) (ks:IntKind):SC:=.seq (.reg [⟨some 2,.assign (.const (.int ks 0)),none⟩]) (.seq (.seq (rLess R nb) (.cond (.tmp 9) (rFail R 10 2 (.int ks 0)) .skip)) (.seq (.dreg [⟨some 16,.load BE (.global G0),none⟩,mv 17 0,nilc 18 17,fa 19 R.TR 18 0,ld 20 R.TB 19,cal 21 F [16,20],⟨some 22,.convert T T' (.tmp 21),none⟩,asg 3 22] [[],[],[1],[2],[3],[0,4],[5],[6,5,0,1,2,3,4,5,6]]) (.seq (rDropC R 23 nb) (.seq (.reg [mv 31 3,asg 2 31]) .ret))))
def sc_RNumU (R:RTy) (BE F G0:Nat) (nb:Int) (ku:IntKind):SC:=.seq (.reg [⟨some 2,.assign (.const (.int ku 0)),none⟩]) (.seq (.seq (rLess R nb) (.cond (.tmp 9) (rFail R 10 2 (.int ku 0)) .skip)) (.seq (.dreg [⟨some 16,.load BE (.global G0),none⟩,mv 17 0,nilc 18 17,fa 19 R.TR 18 0,ld 20 R.TB 19,cal 21 F [16,20],asg 3 21] [[],[],[1],[2],[3],[0,4],[5,5,0,1,2,3,4,5]]) (.seq (rDropC R 22 nb) (.seq (.reg [mv 30 3,asg 2 30]) .ret))))
def sc_RInt64 (T0 T1 F0:Nat):SC:=.seq (.reg [⟨some 2,.assign (.const (.int .i64 0)),none⟩]) (.seq (.reg [mv 3 0,cal 4 F0 [3],⟨some 5,.convert T0 T1 (.tmp 4),none⟩,asg 2 5]) (.ret))
def BeC (P:Program) (F nb:Nat) (ku:IntKind):Prop:=FnOK P F/\∀ (w:World) (sb q len cap:Nat) (bs:Bytes),bs.length=nb->nb<=len->sb < w.heap.size->(∀ j u,bs[j]?=some u->w.cell? ⟨sb,q+j,none⟩=some (cell u)) ->
 Calls P F #[.agg #[],.slice (some ⟨sb,q,none⟩) len cap] w fun e w'=>e=.returned (.int ku ((unfix bs:Nat):Int))/\Below w.heap.size w w'
theorem beC2 {P : Program} {f : FuncId} {fn : Func} {R : RTy} {T0 T3 T4 : Nat} (hm : P.follows .mixedOrders = true) (hR : rdOK P R = true) (hi3 : intK P T3 = some .u16) (hf : P.funcs[f]? = some fn) (hb : fn.body.map strip = some (sc_BE16 T0 R.TB R.U8 T3 T4)) (hnm : (fn.name == "runtime.NumGoroutine") = false) (hn : fn.ntmps = 18) (hr : fn.results = #[.tmp 4]) : BeC P f 2 .u16 := by
 refine ⟨fnOK_of hf hb hnm,fun w sb q len cap bs hbs hlen hsb hc=>?_⟩
 match bs,hbs,hc with
 | [u0,u1],_,hc=>exact be2_ok hm hR hi3 hf hb hn hr w sb q len cap u0 u1 hlen hsb hc
theorem beC4 {P : Program} {f : FuncId} {fn : Func} {R : RTy} {T0 T3 T4 : Nat} (hm : P.follows .mixedOrders = true) (hR : rdOK P R = true) (hi3 : intK P T3 = some .u32) (hf : P.funcs[f]? = some fn) (hb : fn.body.map strip = some (sc_BE32 T0 R.TB R.U8 T3 T4)) (hnm : (fn.name == "runtime.NumGoroutine") = false) (hn : fn.ntmps = 30) (hr : fn.results = #[.tmp 4]) : BeC P f 4 .u32 := by
 refine ⟨fnOK_of hf hb hnm,fun w sb q len cap bs hbs hlen hsb hc=>?_⟩
 match bs,hbs,hc with
 | [u0,u1,u2,u3],_,hc=>exact be4_ok hm hR hi3 hf hb hn hr w sb q len cap u0 u1 u2 u3 hlen hsb hc
theorem beC8 {P : Program} {f : FuncId} {fn : Func} {R : RTy} {T0 T3 T4 : Nat} (hm : P.follows .mixedOrders = true) (hR : rdOK P R = true) (hi3 : intK P T3 = some .u64) (hf : P.funcs[f]? = some fn) (hb : fn.body.map strip = some (sc_BE64 T0 R.TB R.U8 T3 T4)) (hnm : (fn.name == "runtime.NumGoroutine") = false) (hn : fn.ntmps = 54) (hr : fn.results = #[.tmp 4]) : BeC P f 8 .u64 := by
 refine ⟨fnOK_of hf hb hnm,fun w sb q len cap bs hbs hlen hsb hc=>?_⟩
 match bs,hbs,hc with
 | [u0,u1,u2,u3,u4,u5,u6,u7],_,hc=>exact be8_ok hm hR hi3 hf hb hn hr w sb q len cap u0 u1 u2 u3 u4 u5 u6 u7 hlen hsb hc
theorem eval_global (a:Act) (g:Nat):a.eval (.global g)=.pointer (some ⟨g,0,none⟩):=rfl
theorem wrap_i16s {n:Nat} (h:n < 256 ^ 2):IntKind.i16.wrap (n:Int)=sgn 2 n:=by
 simp only [IntKind.wrap,IntKind.bits,IntKind.signed,sgn]
 simp
 split <;> split <;> omega
theorem wrap_i32s {n:Nat} (h:n < 256 ^ 4):IntKind.i32.wrap (n:Int)=sgn 4 n:=by
 simp only [IntKind.wrap,IntKind.bits,IntKind.signed,sgn]
 simp
 split <;> split <;> omega
theorem wrap_i64s {n:Nat} (h:n < 256 ^ 8):IntKind.i64.wrap (n:Int)=sgn 8 n:=by
 simp only [IntKind.wrap,IntKind.bits,IntKind.signed,sgn]
 simp
 split <;> split <;> omega
theorem unfix_lt:∀ (l:Bytes),unfix l < 256 ^ l.length
 | []=>by simp [unfix]
 | u :: l=>by
  have ih:=unfix_lt l
  simp only [unfix,List.length_cons,Nat.pow_succ]
  have hu:u.toNat<=255:=by have:=u.toNat_lt;omega
  have:u.toNat * 256 ^ l.length<=255 * 256 ^ l.length:=Nat.mul_le_mul_right _ hu
  omega
theorem pInt_of {k:Nat} {b:Bytes} (h:k<=b.length):pInt k b=some (sgn k (unfix (b.take k)),b.drop k):=by
 unfold pInt
 rw [rThen_of (pFix_some h)]
 rfl
theorem pInt_no {k:Nat} {b:Bytes} (h:b.length < k):pInt k b=none:=by simp [pInt,rThen,pFix_none h]
section
variable {P:Program} {R:RTy} {f:FuncId} {fn:Func}
theorem rNumS_ok {TR gb BE F T T' nb : Nat} {ks ku : IntKind} (hTR : R.TR = TR) (hm : P.follows .mixedOrders = true) (hR : rdOK P R = true) (hBE : aggN P BE = some 0) (hBE1 : oneB P BE = false) (hF : BeC P F nb ku) (hnb : 0 < nb) (hT : intK P T = some ku) (hT' : intK P T' = some ks) (hw : ∀ n : Nat, n < 256 ^ nb -> ks.wrap (n : Int) = sgn nb n) (hf : P.funcs[f]? = some fn) (hb : fn.body.map strip = some (sc_RNumS R BE F gb T T' (nb : Int) ks)) (hnm : (fn.name == "runtime.NumGoroutine") = false) (hn : fn.ntmps = 32) (hr : fn.results = #[.tmp 2]) :
  RC P TR gb f (pInt nb) (fun v=>∃ n,v=.int ks n) (fun _ _ n v=>v=.int ks n):=by
 subst hTR
 have hst:=rd_facts hR
 refine ⟨fnOK_of hf hb hnm,fun w S rb st hgb hrd hsrc=>?_⟩
 refine fCa hf hb hn (by simp) fun a0 hs hd ha=>?_
 have h0:=ha 0 _ rfl
 simp only [List.getElem_toArray,List.getElem_cons_zero,List.getElem_cons_succ] at h0
 refine wSq (wRg ?_)
 repeat (apply ops_1;(focus (simp (disch:=(try simp only [sPu]);omega) ;try rfl)))
 refine oNi (wSq (wSq (wRg ?_)))
 rcases rdAt_row hrd with ⟨rfl,hrow⟩ | ⟨rest,base,cap,rfl,hrow,hcap,hsr⟩
 ·have hc:=rdRow_cells hrow
  have hnbi:decide ((0:Int) < (nb:Int))=true:=by simpa using hnb
  repeat (apply ops_1;(focus (simp (disch:=(try simp only [sPu]);omega) [hst,h0,hc];try rfl)))
  refine oNi (wCd (t:=true) (by simp (disch:=(try simp only [sPu]);omega) [hnb]) ?_)
  rw [if_pos rfl]
  refine rFail_ok (S:=S) hR hrow (by simp (disch:=(try simp only [sPu]);omega) [h0]) (by omega) (by simp [sPu,hs]) (by simp [sPu,hs]) fun a' w' q1 q2 q3 q4=>?_
  simp only [Exit.then]
  exact ret_tmp hr (by rw [q1];simp [dPu,hd]) ⟨_,rfl,q3,q4,⟨0,q2⟩,fun b x r h=>by cases h⟩
 ·have hc:=rdRow_cells hrow
  repeat (apply ops_1;(focus (simp (disch:=(try simp only [sPu]);omega) [hst,h0,hc];try rfl)))
  refine oNi (wCd (t:=decide ((rest.length:Int) < (nb:Int))) (by simp (disch:=(try simp only [sPu]);omega)) ?_)
  by_cases hl:rest.length < nb
  ·have hno:pInt nb rest=none:=pInt_no hl
   rw [if_pos (decide_eq_true (by omega))]
   refine rFail_ok (S:=S) hR hrow (by simp (disch:=(try simp only [sPu]);omega) [h0]) (by omega) (by simp [sPu,hs]) (by simp [sPu,hs]) fun a' w' q1 q2 q3 q4=>?_
   simp only [Exit.then]
   refine ret_tmp hr (by rw [q1];simp [dPu,hd]) ⟨_,rfl,by rw [after_no hno];exact q3,q4,⟨0,q2⟩,fun b x r h hp=>?_⟩
   cases h
   rw [hno] at hp
   cases hp
  ·rw [if_neg (by rw [decide_eq_false (by omega)];simp)]
   refine wSk ?_
   simp only [Exit.then]
   obtain ⟨sb,q,rfl,rfl,hbytes⟩:=src_head hsr (k:=nb) (by omega) hnb
   have hsbl:=(hsrc sb rfl).2
   have hrbl:=rdAt_lt hrow
   have hcd:w.drew.cell? ⟨rb,0,none⟩=some (.slice (some ⟨sb,q,none⟩) rest.length cap):=hc.1
   have hrg:rangeV w.drew gb 0 0=some []:=rfl
   refine wSq (wDr hm (Below w.heap.size w.drew) [(0,true),(1,true),(2,true),(3,true),(4,true),(5,false),(6,true),(7,true)] (by rfl) (by rfl) (by decide) (Below.refl _ _) ?_)
   iterate 5 (apply dr_1;(focus rfl);(focus (simp (disch:=(try simp only [sPu]);omega) [hst,h0,hcd,hrbl,hgb,hBE,hBE1,hrg,eval_global];try rfl)))
   refine dreg_call (argsV:=#[.agg #[],.slice (some ⟨sb,q,none⟩) rest.length cap]) rfl hF.1 (hF.2 w.drew sb q rest.length cap (rest.take nb) (by simp;omega) (by omega) hsbl hbytes) (by simp (disch:=(try simp only [sPu]);omega)) ?_
   rintro e w1 ⟨rfl,hb1⟩
   refine ⟨_,rfl,hb1,?_⟩
   have hwv:=hw (unfix (rest.take nb)) (by have:=unfix_lt (rest.take nb);rwa [show (rest.take nb).length=nb by simp;omega] at this)
   repeat (apply dr_1;(focus rfl);(focus (simp (disch:=(try simp only [sPu]);omega) [hT,hT',hwv];try rfl)))
   refine dreg_nil ?_
   simp only [Exit.then]
   have hrow1:rdRow R.TR w1 rb (.slice (some ⟨sb,q,none⟩) rest.length cap) false:=(hb1.block rb hrbl).trans hrow
   have hsr1:SrcAt w1 (some sb) (some ⟨sb,q,none⟩) rest:=hsr.frame fun s h=>hb1.block s (hsrc s h).2
   refine wSq (rDropC_ok (n:=nb) (S:=some sb) hR hrow1 hcap hsr1 (fun s h=>(hsrc s h).1) (by omega) (by simp (disch:=(try simp only [sPu]);omega) [h0]) (by omega) (by simp [sPu,hs]) fun a1 w2 q1 q2 q3 q4 q5=>?_)
   have hs1:a1.tmps.size=32:=by rw [q1];simp [sPu,hs]
   have hd1:a1.defers=[]:=by rw [q2];simp [dPu,hd]
   have h3:getT a1 3=.int ks (sgn nb (unfix (rest.take nb))):=by rw [q3 3 (by omega)];simp (disch:=(try simp only [sPu]);omega)
   simp only [Exit.then]
   refine wSq (wRg ?_)
   repeat (apply ops_1;(focus (simp (disch:=(try simp only [sPu]);omega) [h3];try rfl)))
   refine oNi (wRt ?_)
   have hpf:pInt nb rest=some (sgn nb (unfix (rest.take nb)),rest.drop nb):=pInt_of (by omega)
   have ho1:Only rb w w1:=⟨hb1.os,hb1.tape,hb1.output,hb1.size,fun k hk _=>hb1.block k hk⟩
   refine ret_tmp hr (by simp [dPu,hd1]) ⟨_,rfl,by rw [after_ok hpf];exact q4,ho1.trans q5,⟨sgn nb (unfix (rest.take nb)),by simp (disch:=(try simp only [sPu]);omega) [h3]⟩,fun b x r h hp=>?_⟩
   cases h
   rw [hpf] at hp
   cases hp
   simp (disch:=(try simp only [sPu]);omega) [h3]
theorem rNumU_ok {TR gb BE F nb : Nat} {ku : IntKind} (hTR : R.TR = TR) (hm : P.follows .mixedOrders = true) (hR : rdOK P R = true) (hBE : aggN P BE = some 0) (hBE1 : oneB P BE = false) (hF : BeC P F nb ku) (hnb : 0 < nb) (hf : P.funcs[f]? = some fn) (hb : fn.body.map strip = some (sc_RNumU R BE F gb (nb : Int) ku)) (hnm : (fn.name == "runtime.NumGoroutine") = false) (hn : fn.ntmps = 31) (hr : fn.results = #[.tmp 2]) :
  RC P TR gb f (pFix nb) (fun v=>∃ n,v=.int ku n) (fun _ _ n v=>v=.int ku (n:Int)):=by
 subst hTR
 have hst:=rd_facts hR
 refine ⟨fnOK_of hf hb hnm,fun w S rb st hgb hrd hsrc=>?_⟩
 refine fCa hf hb hn (by simp) fun a0 hs hd ha=>?_
 have h0:=ha 0 _ rfl
 simp only [List.getElem_toArray,List.getElem_cons_zero,List.getElem_cons_succ] at h0
 refine wSq (wRg ?_)
 repeat (apply ops_1;(focus (simp (disch:=(try simp only [sPu]);omega) ;try rfl)))
 refine oNi (wSq (wSq (wRg ?_)))
 rcases rdAt_row hrd with ⟨rfl,hrow⟩ | ⟨rest,base,cap,rfl,hrow,hcap,hsr⟩
 ·have hc:=rdRow_cells hrow
  have hnbi:decide ((0:Int) < (nb:Int))=true:=by simpa using hnb
  repeat (apply ops_1;(focus (simp (disch:=(try simp only [sPu]);omega) [hst,h0,hc];try rfl)))
  refine oNi (wCd (t:=true) (by simp (disch:=(try simp only [sPu]);omega) [hnb]) ?_)
  rw [if_pos rfl]
  refine rFail_ok (S:=S) hR hrow (by simp (disch:=(try simp only [sPu]);omega) [h0]) (by omega) (by simp [sPu,hs]) (by simp [sPu,hs]) fun a' w' q1 q2 q3 q4=>?_
  simp only [Exit.then]
  exact ret_tmp hr (by rw [q1];simp [dPu,hd]) ⟨_,rfl,q3,q4,⟨0,q2⟩,fun b x r h=>by cases h⟩
 ·have hc:=rdRow_cells hrow
  repeat (apply ops_1;(focus (simp (disch:=(try simp only [sPu]);omega) [hst,h0,hc];try rfl)))
  refine oNi (wCd (t:=decide ((rest.length:Int) < (nb:Int))) (by simp (disch:=(try simp only [sPu]);omega)) ?_)
  by_cases hl:rest.length < nb
  ·have hno:pFix nb rest=none:=pFix_none hl
   rw [if_pos (decide_eq_true (by omega))]
   refine rFail_ok (S:=S) hR hrow (by simp (disch:=(try simp only [sPu]);omega) [h0]) (by omega) (by simp [sPu,hs]) (by simp [sPu,hs]) fun a' w' q1 q2 q3 q4=>?_
   simp only [Exit.then]
   refine ret_tmp hr (by rw [q1];simp [dPu,hd]) ⟨_,rfl,by rw [after_no hno];exact q3,q4,⟨0,q2⟩,fun b x r h hp=>?_⟩
   cases h
   rw [hno] at hp
   cases hp
  ·rw [if_neg (by rw [decide_eq_false (by omega)];simp)]
   refine wSk ?_
   simp only [Exit.then]
   obtain ⟨sb,q,rfl,rfl,hbytes⟩:=src_head hsr (k:=nb) (by omega) hnb
   have hsbl:=(hsrc sb rfl).2
   have hrbl:=rdAt_lt hrow
   have hcd:w.drew.cell? ⟨rb,0,none⟩=some (.slice (some ⟨sb,q,none⟩) rest.length cap):=hc.1
   have hrg:rangeV w.drew gb 0 0=some []:=rfl
   refine wSq (wDr hm (Below w.heap.size w.drew) [(0,true),(1,true),(2,true),(3,true),(4,true),(5,false),(6,true)] (by rfl) (by rfl) (by decide) (Below.refl _ _) ?_)
   iterate 5 (apply dr_1;(focus rfl);(focus (simp (disch:=(try simp only [sPu]);omega) [hst,h0,hcd,hrbl,hgb,hBE,hBE1,hrg,eval_global];try rfl)))
   refine dreg_call (argsV:=#[.agg #[],.slice (some ⟨sb,q,none⟩) rest.length cap]) rfl hF.1 (hF.2 w.drew sb q rest.length cap (rest.take nb) (by simp;omega) (by omega) hsbl hbytes) (by simp (disch:=(try simp only [sPu]);omega)) ?_
   rintro e w1 ⟨rfl,hb1⟩
   refine ⟨_,rfl,hb1,?_⟩
   repeat (apply dr_1;(focus rfl);(focus (simp (disch:=(try simp only [sPu]);omega) ;try rfl)))
   refine dreg_nil ?_
   simp only [Exit.then]
   have hrow1:rdRow R.TR w1 rb (.slice (some ⟨sb,q,none⟩) rest.length cap) false:=(hb1.block rb hrbl).trans hrow
   have hsr1:SrcAt w1 (some sb) (some ⟨sb,q,none⟩) rest:=hsr.frame fun s h=>hb1.block s (hsrc s h).2
   refine wSq (rDropC_ok (n:=nb) (S:=some sb) hR hrow1 hcap hsr1 (fun s h=>(hsrc s h).1) (by omega) (by simp (disch:=(try simp only [sPu]);omega) [h0]) (by omega) (by simp [sPu,hs]) fun a1 w2 q1 q2 q3 q4 q5=>?_)
   have hs1:a1.tmps.size=31:=by rw [q1];simp [sPu,hs]
   have hd1:a1.defers=[]:=by rw [q2];simp [dPu,hd]
   have h3:getT a1 3=.int ku (((unfix (rest.take nb):Nat):Int)):=by rw [q3 3 (by omega)];simp (disch:=(try simp only [sPu]);omega)
   simp only [Exit.then]
   refine wSq (wRg ?_)
   repeat (apply ops_1;(focus (simp (disch:=(try simp only [sPu]);omega) [h3];try rfl)))
   refine oNi (wRt ?_)
   have hpf:pFix nb rest=some (unfix (rest.take nb),rest.drop nb):=pFix_some (by omega)
   have ho1:Only rb w w1:=⟨hb1.os,hb1.tape,hb1.output,hb1.size,fun k hk _=>hb1.block k hk⟩
   refine ret_tmp hr (by simp [dPu,hd1]) ⟨_,rfl,by rw [after_ok hpf];exact q4,ho1.trans q5,⟨((unfix (rest.take nb):Nat):Int),by simp (disch:=(try simp only [sPu]);omega) [h3]⟩,fun b x r h hp=>?_⟩
   cases h
   rw [hpf] at hp
   cases hp
   simp (disch:=(try simp only [sPu]);omega) [h3]
theorem rInt64_ok {TR gb T0 T1 F0:Nat} (hT0:intK P T0=some .u64) (hT1:intK P T1=some .i64) (h:RC P TR gb F0 (pFix 8) (fun v=>∃ n,v=.int .u64 n) (fun _ _ n v=>v=.int .u64 (n:Int)))
  (hf : P.funcs[f]? = some fn) (hb : fn.body.map strip = some (sc_RInt64 T0 T1 F0)) (hnm : (fn.name == "runtime.NumGoroutine") = false) (hn : fn.ntmps = 6) (hr : fn.results = #[.tmp 2]) :
  RC P TR gb f (pInt 8) (fun v=>∃ n,v=.int .i64 n) (fun _ _ n v=>v=.int .i64 n):=by
 refine ⟨fnOK_of hf hb hnm,fun w S rb st hgb hrd hsrc=>?_⟩
 refine fCa hf hb hn (by simp) fun a0 hs hd ha=>?_
 have h0:=ha 0 _ rfl
 simp only [List.getElem_toArray,List.getElem_cons_zero,List.getElem_cons_succ] at h0
 refine wSq (wRg ?_)
 repeat (apply ops_1;(focus (simp (disch:=(try simp only [sPu]);omega) ;try rfl)))
 refine oNi (wSq (wRg ?_))
 iterate 1 (apply ops_1;(focus (simp (disch:=(try simp only [sPu]);omega) [h0];try rfl)))
 refine ops_cal h.1 (by
  have:=h.2 w S rb st hgb hrd hsrc
  refine Eq.mp (congrArg (fun z=>Calls P F0 z w _) ?_) this
  simp (disch:=(try simp only [sPu]);omega)) ?_
 rintro e w1 ⟨v,rfl,q1,q2,⟨m,rfl⟩,q4⟩
 refine ⟨_,rfl,?_⟩
 repeat (apply ops_1;(focus (simp (disch:=(try simp only [sPu]);omega) [hT0,hT1];try rfl)))
 have ea:after st (pInt 8)=after st (pFix 8):=by
  cases st with
  | none=>rfl
  | some b =>
   unfold pInt
   cases hp:pFix 8 b with
   | none=>simp [after,rThen,hp]
   | some z=>rw [after_then _ _ _ rfl hp,after_ok hp];exact after_rOk _ _
 refine oNi (wRt (ret_tmp hr (by simp [dPu,hd]) ⟨_,rfl,by rw [ea];exact q1,q2,⟨IntKind.i64.wrap m,by simp (disch:=(try simp only [sPu]);omega)⟩,fun b x r hst hp=>?_⟩))
 unfold pInt at hp
 obtain ⟨y,r1,k1,k2⟩:=rThen_some hp
 obtain ⟨rfl,rfl⟩:=rOk_some k2
 have hm:=q4 b y _ hst k1
 simp only [Value.int.injEq,true_and] at hm
 subst hm
 have hlt:y < 256 ^ 8:=by
  have f1:=pFix_facts k1
  have:=unfix_lt (b.take 8)
  rw [show (b.take 8).length=8 by simp;omega] at this
  rw [f1.2.1]
  exact this
 have:=wrap_i64s hlt
 simp (disch:=(try simp only [sPu]);omega) [this]
end
def sFind:SC->Nat->Option SC
 | .seq a b,l=>match sFind a l with
  | some r=>some (.seq r b)
  | none=>sFind b l
 | .label l',l=>if l' == l then some .skip else none
 | _,_=>none
theorem sFind_strip:∀ (c:Code) (l:Nat),(findLabel c l).map strip=sFind (strip c) l
 | .seq a b,l=>by
  simp only [findLabel,strip,sFind]
  rw [<- sFind_strip a l,<- sFind_strip b l]
  cases findLabel a l <;> simp [strip]
 | .label l',l=>by
  simp only [findLabel,strip,sFind]
  split <;> simp [strip]
 | .region _ ops d,l=>by
  simp only [findLabel,strip]
  split <;> simp [sFind]
 | .skip,_=>rfl
 | .cond _ _ _,_=>rfl
 | .block _ _,_=>rfl
 | .loop _,_=>rfl
 | .exit _,_=>rfl
 | .ret,_=>rfl
 | .goto _,_=>rfl
 | .scope _,_=>rfl
 | .rangeFunc ..,_=>rfl
 | .refuse _,_=>rfl
theorem SC.wp_goto {P:Program} {Q:Exit->Act->World->Prop} {a:Act} {w:World} {l:Nat} (h:Q (.goto l) a w):(SC.goto l).wp P Q a w:=by
 intro c hc
 cases c <;> simp [strip] at hc
 ·split at hc <;> simp at hc
 ·subst hc
  exact Go.wp_goto h
theorem SC.wp_label {P:Program} {Q:Exit->Act->World->Prop} {a:Act} {w:World} {l:Nat} (h:Q .normal a w):(SC.label l).wp P Q a w:=by
 intro c hc
 cases c <;> simp [strip] at hc
 ·split at hc <;> simp at hc
 ·subst hc
  exact Go.wp_label h
theorem SC.wp_scope {P:Program} {Q:Exit->Act->World->Prop} {a:Act} {w:World} {x rest:SC} (l:Nat) (J:Act->World->Prop) (hf:sFind x l=some rest) (first:x.wp P (Exit.jump l J Q) a w) (pass:∀ a w,J a w->rest.wp P (Exit.noGoto Q) a w):(SC.scope x).wp P Q a w:=by
 intro c hc
 cases c <;> simp [strip] at hc
 ·split at hc <;> simp at hc
 ·rename_i b
  subst hc
  rw [<- sFind_strip b l] at hf
  obtain ⟨r,hr,rfl⟩:=Option.map_eq_some_iff.1 hf
  refine wp_scope_jumps l J (fun _ _=>0) hr (first b rfl) fun a w hJ=>Go.wp_mono (pass a w hJ r rfl) fun e a w hq=>?_
  cases e <;> first | exact hq | exact hq.elim
def sc_KUvarint (T0 T1 T2 T3 T4:Nat):SC:=.seq (.reg [⟨some 2,.assign (.const (.int .u32 0)),none⟩,⟨some 3,.assign (.const (.int .i64 0)),none⟩]) (.scope (.seq (.reg [⟨some 4,.assign (.const (.int .u32 0)),none⟩]) (.seq (.reg [⟨some 5,.assign (.const (.int .i64 0)),none⟩]) (.seq (.seq (.reg [mv 6 0,lenOp 7 T0 6,⟨some 8,.binOp .lss T1 (.tmp 7) (.const (.int .i64 1)) T1,none⟩]) (.cond (.tmp 8) (.goto 0) (.skip))) (.seq (.reg [mv 9 0,⟨some 10,.indexAddr T0 (.tmp 9) (.const (.int .i64 0)),none⟩,ld 11 T2 10,⟨some 12,.binOp .and T2 (.tmp 11) (.const (.int .u8 127)) T2,none⟩,⟨some 13,.convert T2 T3 (.tmp 12),none⟩,asg 4 13]) (.seq (.seq (.reg [mv 14 0,⟨some 15,.indexAddr T0 (.tmp 14) (.const (.int .i64 0)),none⟩,ld 16 T2 15,⟨some 17,.binOp .and T2 (.tmp 16) (.const (.int .u8 128)) T2,none⟩,⟨some 18,.binOp .eql T2 (.tmp 17) (.const (.int .u8 0)) T2,none⟩]) (.cond (.tmp 18) (.seq (.reg [mv 19 4,asg 2 19,⟨some 3,.assign (.const (.int .i64 1)),none⟩]) (.ret)) (.seq (.reg [mv 20 0,lenOp 21 T0 20,⟨some 22,.binOp .lss T1 (.tmp 21) (.const (.int .i64 2)) T1,none⟩]) (.cond (.tmp 22) (.goto 0) (.skip))))) (.seq (.reg [mv 23 4,mv 24 0,⟨some 25,.indexAddr T0 (.tmp 24) (.const (.int .i64 1)),none⟩,ld 26 T2 25,⟨some 27,.binOp .and T2 (.tmp 26) (.const (.int .u8 127)) T2,none⟩,⟨some 28,.convert T2 T3 (.tmp 27),none⟩,⟨some 29,.binOp .shl T3 (.tmp 28) (.const (.int .u64 7)) T4,none⟩,⟨some 30,.binOp .or T3 (.tmp 23) (.tmp 29) T3,none⟩,asg 4 30]) (.seq (.seq (.reg [mv 31 0,⟨some 32,.indexAddr T0 (.tmp 31) (.const (.int .i64 1)),none⟩,ld 33 T2 32,⟨some 34,.binOp .and T2 (.tmp 33) (.const (.int .u8 128)) T2,none⟩,⟨some 35,.binOp .eql T2 (.tmp 34) (.const (.int .u8 0)) T2,none⟩]) (.cond (.tmp 35) (.seq (.reg [mv 36 4,asg 2 36,⟨some 3,.assign (.const (.int .i64 2)),none⟩]) (.ret)) (.seq (.reg [mv 37 0,lenOp 38 T0 37,⟨some 39,.binOp .lss T1 (.tmp 38) (.const (.int .i64 3)) T1,none⟩]) (.cond (.tmp 39) (.goto 0) (.skip))))) (.seq (.reg [mv 40 4,mv 41 0,⟨some 42,.indexAddr T0 (.tmp 41) (.const (.int .i64 2)),none⟩,ld 43 T2 42,⟨some 44,.binOp .and T2 (.tmp 43) (.const (.int .u8 127)) T2,none⟩,⟨some 45,.convert T2 T3 (.tmp 44),none⟩,⟨some 46,.binOp .shl T3 (.tmp 45) (.const (.int .u64 14)) T4,none⟩,⟨some 47,.binOp .or T3 (.tmp 40) (.tmp 46) T3,none⟩,asg 4 47]) (.seq (.seq (.reg [mv 48 0,⟨some 49,.indexAddr T0 (.tmp 48) (.const (.int .i64 2)),none⟩,ld 50 T2 49,⟨some 51,.binOp .and T2 (.tmp 50) (.const (.int .u8 128)) T2,none⟩,⟨some 52,.binOp .eql T2 (.tmp 51) (.const (.int .u8 0)) T2,none⟩]) (.cond (.tmp 52) (.seq (.reg [mv 53 4,asg 2 53,⟨some 3,.assign (.const (.int .i64 3)),none⟩]) (.ret)) (.seq (.reg [mv 54 0,lenOp 55 T0 54,⟨some 56,.binOp .lss T1 (.tmp 55) (.const (.int .i64 4)) T1,none⟩]) (.cond (.tmp 56) (.goto 0) (.skip))))) (.seq (.reg [mv 57 4,mv 58 0,⟨some 59,.indexAddr T0 (.tmp 58) (.const (.int .i64 3)),none⟩,ld 60 T2 59,⟨some 61,.binOp .and T2 (.tmp 60) (.const (.int .u8 127)) T2,none⟩,⟨some 62,.convert T2 T3 (.tmp 61),none⟩,⟨some 63,.binOp .shl T3 (.tmp 62) (.const (.int .u64 21)) T4,none⟩,⟨some 64,.binOp .or T3 (.tmp 57) (.tmp 63) T3,none⟩,asg 4 64]) (.seq (.seq (.reg [mv 65 0,⟨some 66,.indexAddr T0 (.tmp 65) (.const (.int .i64 3)),none⟩,ld 67 T2 66,⟨some 68,.binOp .and T2 (.tmp 67) (.const (.int .u8 128)) T2,none⟩,⟨some 69,.binOp .eql T2 (.tmp 68) (.const (.int .u8 0)) T2,none⟩]) (.cond (.tmp 69) (.seq (.reg [mv 70 4,asg 2 70,⟨some 3,.assign (.const (.int .i64 4)),none⟩]) (.ret)) (.seq (.reg [mv 71 0,lenOp 72 T0 71,⟨some 73,.binOp .lss T1 (.tmp 72) (.const (.int .i64 5)) T1,none⟩]) (.cond (.tmp 73) (.goto 0) (.skip))))) (.seq (.reg [mv 74 4,mv 75 0,⟨some 76,.indexAddr T0 (.tmp 75) (.const (.int .i64 4)),none⟩,ld 77 T2 76,⟨some 78,.convert T2 T3 (.tmp 77),none⟩,⟨some 79,.binOp .shl T3 (.tmp 78) (.const (.int .u64 28)) T4,none⟩,⟨some 80,.binOp .or T3 (.tmp 74) (.tmp 79) T3,none⟩,asg 4 80]) (.seq (.seq (.reg [mv 81 0,⟨some 82,.indexAddr T0 (.tmp 81) (.const (.int .i64 4)),none⟩,ld 83 T2 82,⟨some 84,.binOp .leq T2 (.tmp 83) (.const (.int .u8 15)) T2,none⟩]) (.cond (.tmp 84) (.seq (.reg [mv 85 4,asg 2 85,⟨some 3,.assign (.const (.int .i64 5)),none⟩]) (.ret)) (.skip))) (.seq (.reg [⟨some 5,.assign (.const (.int .i64 (-5))),none⟩]) (.seq (.label 0) (.seq (.reg [mv 86 5,⟨some 2,.assign (.const (.int .u32 0)),none⟩,asg 3 86]) (.ret))))))))))))))))))
theorem and127 {u:Nat} (h:u < 256):IntKind.u8.wrap ((BitVec.ofInt IntKind.u8.bits (u:Int) &&& BitVec.ofInt IntKind.u8.bits 127).toNat:Int)=((u % 128:Nat):Int):=by
 have e1:(BitVec.ofInt IntKind.u8.bits (u:Int)).toNat=u:=by
  rw [BitVec.ofInt_natCast,BitVec.toNat_ofNat]
  exact Nat.mod_eq_of_lt h
 have e2:(BitVec.ofInt IntKind.u8.bits 127).toNat=2 ^ 7 - 1:=by decide
 rw [BitVec.toNat_and,e1,e2,Nat.and_two_pow_sub_one_eq_mod]
 exact wrap_uN (k:=.u8) rfl (by simp only [IntKind.bits];omega)
set_option maxRecDepth 100000 in
theorem and128n:∀ n,n < 256->n &&& 128=if n < 128 then 0 else 128:=by decide
theorem and128 {u:Nat} (h:u < 256):IntKind.u8.wrap ((BitVec.ofInt IntKind.u8.bits (u:Int) &&& BitVec.ofInt IntKind.u8.bits 128).toNat:Int)=if u < 128 then 0 else 128:=by
 have e1:(BitVec.ofInt IntKind.u8.bits (u:Int)).toNat=u:=by
  rw [BitVec.ofInt_natCast,BitVec.toNat_ofNat]
  exact Nat.mod_eq_of_lt h
 have e2:(BitVec.ofInt IntKind.u8.bits 128).toNat=128:=by decide
 rw [BitVec.toNat_and,e1,e2]
 rw [and128n u h]
 split <;> decide
def UvC (P:Program) (F:Nat):Prop:=FnOK P F/\∀ (w:World) (S:Option Nat) (base:Option Addr) (rest:Bytes) (cap:Nat),SrcAt w S base rest ->
 Calls P F #[.slice base rest.length cap] w fun e w'=>w'=w/\∃ (x:Nat) (n:Int),e=.returned (.tuple #[.int .u32 (x:Int),.int .i64 n]) /\
  match pUv rest with
  | some (y,r)=>x=y/\n=((rest.length - r.length:Nat):Int)/\0 < n/\r=rest.drop (rest.length - r.length)
  | none=>x=0/\n<=0
section
variable {P:Program} {R:RTy} {f:FuncId} {fn:Func}
theorem uvC {T3 T4 : Nat} (hR : rdOK P R = true) (hi3 : intK P T3 = some .u32) (hf : P.funcs[f]? = some fn) (hb : fn.body.map strip = some (sc_KUvarint R.TB R.I R.U8 T3 T4)) (hnm : (fn.name == "runtime.NumGoroutine") = false) (hn : fn.ntmps = 87) (hr : fn.results = #[.tmp 2, .tmp 3]) : UvC P f := by
 have hst:=rd_facts hR
 refine ⟨fnOK_of hf hb hnm,fun w S base rest cap hsr=>?_⟩
 refine fCa hf hb hn (by simp) fun a0 hs hd ha=>?_
 have h0:=ha 0 _ rfl
 simp only [List.getElem_toArray,List.getElem_cons_zero,List.getElem_cons_succ] at h0
 have fin:∀ (a:Act) (x:Nat) (n:Int),a.defers=[]->getT a 2=.int .u32 (x:Int)->getT a 3=.int .i64 n->(match pUv rest with | some (y,r)=>x=y/\n=((rest.length - r.length:Nat):Int)/\0 < n/\r=rest.drop (rest.length - r.length) | none=>x=0/\n<=0) ->
   bodyPost P fn (fun e w'=>w'=w/\∃ (x:Nat) (n:Int),e=.returned (.tuple #[.int .u32 (x:Int),.int .i64 n])/\match pUv rest with | some (y,r)=>x=y/\n=((rest.length - r.length:Nat):Int)/\0 < n/\r=rest.drop (rest.length - r.length) | none=>x=0/\n<=0) .ret a w:=by
  intro a x n q1 q2 q3 q4
  refine bodyPost_ret_by (v:=.tuple #[.int .u32 (x:Int),.int .i64 n]) ?_ q1 ⟨rfl,x,n,rfl,q4⟩
  have e2:a.tmps.getD 2 undef=.int .u32 (x:Int):=q2
  have e3:a.tmps.getD 3 undef=.int .i64 n:=q3
  simp only [Array.getD_eq_getD_getElem?] at e2 e3
  simp [results,hr,e2,e3]
 refine wSq (wRg ?_)
 repeat (apply ops_1;(focus (simp (disch:=(try simp only [sPu]);omega) ;try rfl)))
 refine oNi ?_
 simp only [Exit.then]
 refine SC.wp_scope 0 (fun a w'=>a.tmps.size=87/\a.defers=[]/\(∃ n:Int,n<=0/\getT a 5=.int .i64 n)/\w'=w/\pUv rest=none) rfl ?_ ?_
 rotate_left 1
 ·rintro a w' ⟨z1,z2,⟨n,z3,z4⟩,rfl,z5⟩
  refine wSq (wSk ?_)
  simp only [Exit.then]
  refine wSq (wRg ?_)
  repeat (apply ops_1;(focus (simp (disch:=(try simp only [sPu]);omega) [z4];try rfl)))
  refine oNi ?_
  simp only [Exit.then]
  refine wRt ?_
  simp only [Exit.noGoto]
  exact fin _ 0 n (by simp [dPu,z2]) (by simp (disch:=(try simp only [sPu]);omega)) (by simp (disch:=(try simp only [sPu]);omega)) (by rw [z5];exact ⟨rfl,z3⟩)
 refine wSq (wRg ?_)
 repeat (apply ops_1;(focus (simp (disch:=(try simp only [sPu]);omega) ;try rfl)))
 refine oNi ?_
 simp only [Exit.then]
 refine wSq (wRg ?_)
 repeat (apply ops_1;(focus (simp (disch:=(try simp only [sPu]);omega) ;try rfl)))
 refine oNi ?_
 simp only [Exit.then]
 refine wSq (wSq (wRg ?_))
 repeat (apply ops_1;(focus (simp (disch:=(try simp only [sPu]);omega) [hst,h0];try rfl)))
 refine oNi ?_
 simp only [Exit.then]
 refine wCd (t:=decide ((rest.length:Int) < 1)) (by simp (disch:=(try simp only [sPu]);omega)) ?_
 cases rest with
 | nil =>
  rw [if_pos (by simp)]
  refine SC.wp_goto ?_
  simp only [Exit.then,Exit.jump]
  exact ⟨trivial,by simp [sPu,hs],by simp [dPu,hd],⟨0,by decide,by simp (disch:=(try simp only [sPu]);omega)⟩,trivial,rfl⟩
 | cons u0 r0 =>
 rw [if_neg (by simp;omega)]
 refine wSk ?_
 simp only [Exit.then]
 obtain ⟨sb,q,rfl,rfl,hby⟩:=src_head hsr (k:=(u0 :: r0).length) (Nat.le_refl _) (by simp)
 rw [List.take_length] at hby
 have l0:0 < (u0 :: r0).length:=by simp
 have c0:=hby 0 u0 rfl
 simp only [cell,Nat.add_zero] at c0
 have b0:=u0.toNat_lt
 have a0:=and127 (u:=u0.toNat) b0
 have z0:=and128 (u:=u0.toNat) b0
 have k0:=wrap_uN (k:=.u32) rfl (n:=u0.toNat % 128) (by simp only [IntKind.bits];omega)
 refine wSq (wRg ?_)
 repeat (apply ops_1;(focus (simp (disch:=(try simp only [sPu]);omega) [hst,hi3,h0,l0,c0,a0,k0,-Int.natCast_emod,-List.length_cons,-BitVec.toNat_or,-BitVec.ofInt_natCast,-BitVec.ofInt_ofNat,-BitVec.toNat_ofInt,-BitVec.toNat_ofNat,-BitVec.toNat_and];try rfl)))
 refine oNi ?_
 simp only [Exit.then]
 refine gen_act (fun a=>a.tmps.size=87/\a.defers=[]/\getT a 0=.slice (some ⟨sb,q,none⟩) (u0 :: r0).length cap/\getT a 5=.int .i64 0/\getT a 4=.int .u32 (((u0.toNat % 128:Nat):Int))) ⟨by simp [sPu,hs],by simp [dPu,hd],by simp (disch:=(try simp only [sPu]);omega) [h0],by simp (disch:=(try simp only [sPu]);omega),by simp (disch:=(try simp only [sPu]);omega) [-Int.natCast_emod,-List.length_cons,-BitVec.toNat_or,-BitVec.ofInt_natCast,-BitVec.ofInt_ofNat,-BitVec.toNat_ofInt,-BitVec.toNat_ofNat,-BitVec.toNat_and]⟩ fun a1 ⟨p0s,p0d,p00,p05,x0⟩=>?_
 refine wSq (wSq (wRg ?_))
 repeat (apply ops_1;(focus (simp (disch:=(try simp only [sPu]);omega) [hst,p00,l0,c0,z0,-List.length_cons,-BitVec.toNat_or,-BitVec.ofInt_natCast,-BitVec.ofInt_ofNat,-BitVec.toNat_ofInt,-BitVec.toNat_ofNat,-BitVec.toNat_and];try rfl)))
 refine oNi ?_
 simp only [Exit.then]
 refine wCd (t:=decide (u0.toNat < 128)) (by
  simp (disch:=(try simp only [sPu]);omega) [-List.length_cons,-BitVec.toNat_or,-BitVec.ofInt_natCast,-BitVec.ofInt_ofNat,-BitVec.toNat_ofInt,-BitVec.toNat_ofNat,-BitVec.toNat_and]
  split <;> simp_all) ?_
 by_cases hu0:u0.toNat < 128
 ·rw [if_pos (by simpa using hu0)]
  refine wSq (wRg ?_)
  repeat (apply ops_1;(focus (simp (disch:=(try simp only [sPu]);omega) [x0];try rfl)))
  refine oNi ?_
  simp only [Exit.then]
  refine wRt ?_
  simp only [Exit.then,Exit.jump]
  refine fin _ (u0.toNat % 128) 1 (by simp [dPu,p0d]) (by simp (disch:=(try simp only [sPu]);omega) [-Int.natCast_emod,-List.length_cons,-BitVec.toNat_or,-BitVec.ofInt_natCast,-BitVec.ofInt_ofNat,-BitVec.toNat_ofInt,-BitVec.toNat_ofNat,-BitVec.toNat_and];try omega) (by simp (disch:=(try simp only [sPu]);omega)) ?_
  have hp:pUv (u0 :: r0)=some (u0.toNat % 128,r0):=by
   simp only [pUv,pUvGo,hu0,if_true,if_false,Option.map_some,Option.some.injEq,Prod.mk.injEq,and_true]
   omega
  rw [hp]
  refine ⟨rfl,?_,by decide,?_⟩
  ·simp only [List.length_cons]
   omega
  ·rw [show (u0 :: r0).length - r0.length=1 by simp only [List.length_cons];omega]
   rfl
 ·rw [if_neg (by simpa using hu0)]
  refine wSq (wRg ?_)
  repeat (apply ops_1;(focus (simp (disch:=(try simp only [sPu]);omega) [hst,p00];try rfl)))
  refine oNi ?_
  simp only [Exit.then]
  refine wCd (t:=decide (((u0 :: r0).length:Int) < 2)) (by simp (disch:=(try simp only [sPu]);omega)) ?_
  cases r0 with
  | nil =>
   rw [if_pos (by simp)]
   refine SC.wp_goto ?_
   simp only [Exit.then,Exit.jump]
   refine ⟨trivial,by simp [sPu,p0s],by simp [dPu,p0d],⟨0,by decide,by simp (disch:=(try simp only [sPu]);omega) [p05]⟩,trivial,?_⟩
   simp [pUv,pUvGo,hu0]
  | cons u1 r1 =>
  rw [if_neg (by simp;omega)]
  refine wSk ?_
  simp only [Exit.then]
  refine gen_act (fun a=>a.tmps.size=87/\a.defers=[]/\getT a 0=.slice (some ⟨sb,q,none⟩) (u0 :: u1 :: r1).length cap/\getT a 5=.int .i64 0/\getT a 4=.int .u32 (((u0.toNat % 128:Nat):Int))) ⟨by simp [sPu,p0s],by simp [dPu,p0d],by simp (disch:=(try simp only [sPu]);omega) [p00],by simp (disch:=(try simp only [sPu]);omega) [p05],by simp (disch:=(try simp only [sPu]);omega) [x0,-Int.natCast_emod]⟩ ?_
  clear p0s p0d p00 p05 x0
  intro a1 ⟨p0s,p0d,h0,p05,x0⟩
  have l1:(1:Int) < ((u0 :: u1 :: r1).length:Int):=by simp only [List.length_cons];omega
  have c1:=hby 1 u1 rfl
  simp only [cell,Nat.add_zero] at c1
  have b1:=u1.toNat_lt
  have a1:=and127 (u:=u1.toNat) b1
  have z1:=and128 (u:=u1.toNat) b1
  have k1:=wrap_uN (k:=.u32) rfl (n:=u1.toNat % 128) (by simp only [IntKind.bits];omega)
  have s1:IntKind.u32.wrap (((u1.toNat % 128:Nat):Int) * 128)=((u1.toNat % 128:Nat):Int) * 128:=by
   have:=wrap_uN (k:=.u32) rfl (n:=u1.toNat % 128 * 128) (by simp only [IntKind.bits];omega)
   simpa using this
  have o1:IntKind.u32.wrap ((BitVec.ofInt IntKind.u32.bits (((u0.toNat % 128:Nat):Int)) ||| BitVec.ofInt IntKind.u32.bits (((u1.toNat % 128:Nat):Int) * 128)).toNat:Int)=((u0.toNat % 128:Nat):Int)+((u1.toNat % 128:Nat):Int) * 128:=by
   rw [or_add2 (a:=u0.toNat % 128) (b:=u1.toNat % 128) (s:=7) (by omega) (by omega) (by omega) (by simp only [IntKind.bits];omega),wrap_uN (k:=.u32) rfl (n:=u0.toNat % 128+u1.toNat % 128 * 2 ^ 7) (by simp only [IntKind.bits];omega)]
   omega
  have e1:7<=IntKind.u32.bits:=by decide
  refine wSq (wRg ?_)
  repeat (apply ops_1;(focus (simp (disch:=(try simp only [sPu]);omega) [hst,hi3,h0,l1,c1,a1,k1,s1,o1,e1,x0,-Int.natCast_emod,-List.length_cons,-BitVec.toNat_or,-BitVec.ofInt_natCast,-BitVec.ofInt_ofNat,-BitVec.toNat_ofInt,-BitVec.toNat_ofNat,-BitVec.toNat_and];try rfl)))
  refine oNi ?_
  simp only [Exit.then]
  refine gen_act (fun a=>a.tmps.size=87/\a.defers=[]/\getT a 0=.slice (some ⟨sb,q,none⟩) (u0 :: u1 :: r1).length cap/\getT a 5=.int .i64 0/\getT a 4=.int .u32 (((u0.toNat % 128:Nat):Int)+((u1.toNat % 128:Nat):Int) * 128)) ⟨by simp [sPu,p0s],by simp [dPu,p0d],by simp (disch:=(try simp only [sPu]);omega) [h0],by simp (disch:=(try simp only [sPu]);omega) [p05],by simp (disch:=(try simp only [sPu]);omega) [-Int.natCast_emod,-List.length_cons,-BitVec.toNat_or,-BitVec.ofInt_natCast,-BitVec.ofInt_ofNat,-BitVec.toNat_ofInt,-BitVec.toNat_ofNat,-BitVec.toNat_and]⟩ fun a2 ⟨p1s,p1d,p10,p15,x1⟩=>?_
  refine wSq (wSq (wRg ?_))
  repeat (apply ops_1;(focus (simp (disch:=(try simp only [sPu]);omega) [hst,p10,l1,c1,z1,-List.length_cons,-BitVec.toNat_or,-BitVec.ofInt_natCast,-BitVec.ofInt_ofNat,-BitVec.toNat_ofInt,-BitVec.toNat_ofNat,-BitVec.toNat_and];try rfl)))
  refine oNi ?_
  simp only [Exit.then]
  refine wCd (t:=decide (u1.toNat < 128)) (by
   simp (disch:=(try simp only [sPu]);omega) [-List.length_cons,-BitVec.toNat_or,-BitVec.ofInt_natCast,-BitVec.ofInt_ofNat,-BitVec.toNat_ofInt,-BitVec.toNat_ofNat,-BitVec.toNat_and]
   split <;> simp_all) ?_
  by_cases hu1:u1.toNat < 128
  ·rw [if_pos (by simpa using hu1)]
   refine wSq (wRg ?_)
   repeat (apply ops_1;(focus (simp (disch:=(try simp only [sPu]);omega) [x1];try rfl)))
   refine oNi ?_
   simp only [Exit.then]
   refine wRt ?_
   simp only [Exit.then,Exit.jump]
   refine fin _ (u0.toNat % 128+u1.toNat % 128 * 128) 2 (by simp [dPu,p1d]) (by simp (disch:=(try simp only [sPu]);omega) [-Int.natCast_emod,-List.length_cons,-BitVec.toNat_or,-BitVec.ofInt_natCast,-BitVec.ofInt_ofNat,-BitVec.toNat_ofInt,-BitVec.toNat_ofNat,-BitVec.toNat_and];try omega) (by simp (disch:=(try simp only [sPu]);omega)) ?_
   have hp:pUv (u0 :: u1 :: r1)=some (u0.toNat % 128+u1.toNat % 128 * 128,r1):=by
    simp only [pUv,pUvGo,hu0,hu1,if_true,if_false,Option.map_some,Option.some.injEq,Prod.mk.injEq,and_true]
    omega
   rw [hp]
   refine ⟨rfl,?_,by decide,?_⟩
   ·simp only [List.length_cons]
    omega
   ·rw [show (u0 :: u1 :: r1).length - r1.length=2 by simp only [List.length_cons];omega]
    rfl
  ·rw [if_neg (by simpa using hu1)]
   refine wSq (wRg ?_)
   repeat (apply ops_1;(focus (simp (disch:=(try simp only [sPu]);omega) [hst,p10];try rfl)))
   refine oNi ?_
   simp only [Exit.then]
   refine wCd (t:=decide (((u0 :: u1 :: r1).length:Int) < 3)) (by simp (disch:=(try simp only [sPu]);omega)) ?_
   cases r1 with
   | nil =>
    rw [if_pos (by simp)]
    refine SC.wp_goto ?_
    simp only [Exit.then,Exit.jump]
    refine ⟨trivial,by simp [sPu,p1s],by simp [dPu,p1d],⟨0,by decide,by simp (disch:=(try simp only [sPu]);omega) [p15]⟩,trivial,?_⟩
    simp [pUv,pUvGo,hu0,hu1]
   | cons u2 r2 =>
   rw [if_neg (by simp;omega)]
   refine wSk ?_
   simp only [Exit.then]
   refine gen_act (fun a=>a.tmps.size=87/\a.defers=[]/\getT a 0=.slice (some ⟨sb,q,none⟩) (u0 :: u1 :: u2 :: r2).length cap/\getT a 5=.int .i64 0/\getT a 4=.int .u32 (((u0.toNat % 128:Nat):Int)+((u1.toNat % 128:Nat):Int) * 128)) ⟨by simp [sPu,p1s],by simp [dPu,p1d],by simp (disch:=(try simp only [sPu]);omega) [p10],by simp (disch:=(try simp only [sPu]);omega) [p15],by simp (disch:=(try simp only [sPu]);omega) [x1,-Int.natCast_emod]⟩ ?_
   clear p1s p1d p10 p15 x1
   intro a2 ⟨p1s,p1d,h0,p15,x1⟩
   have l2:(2:Int) < ((u0 :: u1 :: u2 :: r2).length:Int):=by simp only [List.length_cons];omega
   have c2:=hby 2 u2 rfl
   simp only [cell,Nat.add_zero] at c2
   have b2:=u2.toNat_lt
   have a2:=and127 (u:=u2.toNat) b2
   have z2:=and128 (u:=u2.toNat) b2
   have k2:=wrap_uN (k:=.u32) rfl (n:=u2.toNat % 128) (by simp only [IntKind.bits];omega)
   have s2:IntKind.u32.wrap (((u2.toNat % 128:Nat):Int) * 16384)=((u2.toNat % 128:Nat):Int) * 16384:=by
    have:=wrap_uN (k:=.u32) rfl (n:=u2.toNat % 128 * 16384) (by simp only [IntKind.bits];omega)
    simpa using this
   have o2:IntKind.u32.wrap ((BitVec.ofInt IntKind.u32.bits (((u0.toNat % 128:Nat):Int)+((u1.toNat % 128:Nat):Int) * 128) ||| BitVec.ofInt IntKind.u32.bits (((u2.toNat % 128:Nat):Int) * 16384)).toNat:Int)=((u0.toNat % 128:Nat):Int)+((u1.toNat % 128:Nat):Int) * 128+((u2.toNat % 128:Nat):Int) * 16384:=by
    rw [or_add2 (a:=u0.toNat % 128+u1.toNat % 128 * 128) (b:=u2.toNat % 128) (s:=14) (by omega) (by omega) (by omega) (by simp only [IntKind.bits];omega),wrap_uN (k:=.u32) rfl (n:=u0.toNat % 128+u1.toNat % 128 * 128+u2.toNat % 128 * 2 ^ 14) (by simp only [IntKind.bits];omega)]
    omega
   have e2:14<=IntKind.u32.bits:=by decide
   refine wSq (wRg ?_)
   repeat (apply ops_1;(focus (simp (disch:=(try simp only [sPu]);omega) [hst,hi3,h0,l2,c2,a2,k2,s2,o2,e2,x1,-Int.natCast_emod,-List.length_cons,-BitVec.toNat_or,-BitVec.ofInt_natCast,-BitVec.ofInt_ofNat,-BitVec.toNat_ofInt,-BitVec.toNat_ofNat,-BitVec.toNat_and];try rfl)))
   refine oNi ?_
   simp only [Exit.then]
   refine gen_act (fun a=>a.tmps.size=87/\a.defers=[]/\getT a 0=.slice (some ⟨sb,q,none⟩) (u0 :: u1 :: u2 :: r2).length cap/\getT a 5=.int .i64 0/\getT a 4=.int .u32 (((u0.toNat % 128:Nat):Int)+((u1.toNat % 128:Nat):Int) * 128+((u2.toNat % 128:Nat):Int) * 16384)) ⟨by simp [sPu,p1s],by simp [dPu,p1d],by simp (disch:=(try simp only [sPu]);omega) [h0],by simp (disch:=(try simp only [sPu]);omega) [p15],by simp (disch:=(try simp only [sPu]);omega) [-Int.natCast_emod,-List.length_cons,-BitVec.toNat_or,-BitVec.ofInt_natCast,-BitVec.ofInt_ofNat,-BitVec.toNat_ofInt,-BitVec.toNat_ofNat,-BitVec.toNat_and]⟩ fun a3 ⟨p2s,p2d,p20,p25,x2⟩=>?_
   refine wSq (wSq (wRg ?_))
   repeat (apply ops_1;(focus (simp (disch:=(try simp only [sPu]);omega) [hst,p20,l2,c2,z2,-List.length_cons,-BitVec.toNat_or,-BitVec.ofInt_natCast,-BitVec.ofInt_ofNat,-BitVec.toNat_ofInt,-BitVec.toNat_ofNat,-BitVec.toNat_and];try rfl)))
   refine oNi ?_
   simp only [Exit.then]
   refine wCd (t:=decide (u2.toNat < 128)) (by
    simp (disch:=(try simp only [sPu]);omega) [-List.length_cons,-BitVec.toNat_or,-BitVec.ofInt_natCast,-BitVec.ofInt_ofNat,-BitVec.toNat_ofInt,-BitVec.toNat_ofNat,-BitVec.toNat_and]
    split <;> simp_all) ?_
   by_cases hu2:u2.toNat < 128
   ·rw [if_pos (by simpa using hu2)]
    refine wSq (wRg ?_)
    repeat (apply ops_1;(focus (simp (disch:=(try simp only [sPu]);omega) [x2];try rfl)))
    refine oNi ?_
    simp only [Exit.then]
    refine wRt ?_
    simp only [Exit.then,Exit.jump]
    refine fin _ (u0.toNat % 128+u1.toNat % 128 * 128+u2.toNat % 128 * 16384) 3 (by simp [dPu,p2d]) (by simp (disch:=(try simp only [sPu]);omega) [-Int.natCast_emod,-List.length_cons,-BitVec.toNat_or,-BitVec.ofInt_natCast,-BitVec.ofInt_ofNat,-BitVec.toNat_ofInt,-BitVec.toNat_ofNat,-BitVec.toNat_and];try omega) (by simp (disch:=(try simp only [sPu]);omega)) ?_
    have hp:pUv (u0 :: u1 :: u2 :: r2)=some (u0.toNat % 128+u1.toNat % 128 * 128+u2.toNat % 128 * 16384,r2):=by
     simp only [pUv,pUvGo,hu0,hu1,hu2,if_true,if_false,Option.map_some,Option.some.injEq,Prod.mk.injEq,and_true]
     omega
    rw [hp]
    refine ⟨rfl,?_,by decide,?_⟩
    ·simp only [List.length_cons]
     omega
    ·rw [show (u0 :: u1 :: u2 :: r2).length - r2.length=3 by simp only [List.length_cons];omega]
     rfl
   ·rw [if_neg (by simpa using hu2)]
    refine wSq (wRg ?_)
    repeat (apply ops_1;(focus (simp (disch:=(try simp only [sPu]);omega) [hst,p20];try rfl)))
    refine oNi ?_
    simp only [Exit.then]
    refine wCd (t:=decide (((u0 :: u1 :: u2 :: r2).length:Int) < 4)) (by simp (disch:=(try simp only [sPu]);omega)) ?_
    cases r2 with
    | nil =>
     rw [if_pos (by simp)]
     refine SC.wp_goto ?_
     simp only [Exit.then,Exit.jump]
     refine ⟨trivial,by simp [sPu,p2s],by simp [dPu,p2d],⟨0,by decide,by simp (disch:=(try simp only [sPu]);omega) [p25]⟩,trivial,?_⟩
     simp [pUv,pUvGo,hu0,hu1,hu2]
    | cons u3 r3 =>
    rw [if_neg (by simp;omega)]
    refine wSk ?_
    simp only [Exit.then]
    refine gen_act (fun a=>a.tmps.size=87/\a.defers=[]/\getT a 0=.slice (some ⟨sb,q,none⟩) (u0 :: u1 :: u2 :: u3 :: r3).length cap/\getT a 5=.int .i64 0/\getT a 4=.int .u32 (((u0.toNat % 128:Nat):Int)+((u1.toNat % 128:Nat):Int) * 128+((u2.toNat % 128:Nat):Int) * 16384)) ⟨by simp [sPu,p2s],by simp [dPu,p2d],by simp (disch:=(try simp only [sPu]);omega) [p20],by simp (disch:=(try simp only [sPu]);omega) [p25],by simp (disch:=(try simp only [sPu]);omega) [x2,-Int.natCast_emod]⟩ ?_
    clear p2s p2d p20 p25 x2
    intro a3 ⟨p2s,p2d,h0,p25,x2⟩
    have l3:(3:Int) < ((u0 :: u1 :: u2 :: u3 :: r3).length:Int):=by simp only [List.length_cons];omega
    have c3:=hby 3 u3 rfl
    simp only [cell,Nat.add_zero] at c3
    have b3:=u3.toNat_lt
    have a3:=and127 (u:=u3.toNat) b3
    have z3:=and128 (u:=u3.toNat) b3
    have k3:=wrap_uN (k:=.u32) rfl (n:=u3.toNat % 128) (by simp only [IntKind.bits];omega)
    have s3:IntKind.u32.wrap (((u3.toNat % 128:Nat):Int) * 2097152)=((u3.toNat % 128:Nat):Int) * 2097152:=by
     have:=wrap_uN (k:=.u32) rfl (n:=u3.toNat % 128 * 2097152) (by simp only [IntKind.bits];omega)
     simpa using this
    have o3:IntKind.u32.wrap ((BitVec.ofInt IntKind.u32.bits (((u0.toNat % 128:Nat):Int)+((u1.toNat % 128:Nat):Int) * 128+((u2.toNat % 128:Nat):Int) * 16384) ||| BitVec.ofInt IntKind.u32.bits (((u3.toNat % 128:Nat):Int) * 2097152)).toNat:Int)=((u0.toNat % 128:Nat):Int)+((u1.toNat % 128:Nat):Int) * 128+((u2.toNat % 128:Nat):Int) * 16384+((u3.toNat % 128:Nat):Int) * 2097152:=by
     rw [or_add2 (a:=u0.toNat % 128+u1.toNat % 128 * 128+u2.toNat % 128 * 16384) (b:=u3.toNat % 128) (s:=21) (by omega) (by omega) (by omega) (by simp only [IntKind.bits];omega),wrap_uN (k:=.u32) rfl (n:=u0.toNat % 128+u1.toNat % 128 * 128+u2.toNat % 128 * 16384+u3.toNat % 128 * 2 ^ 21) (by simp only [IntKind.bits];omega)]
     omega
    have e3:21<=IntKind.u32.bits:=by decide
    refine wSq (wRg ?_)
    repeat (apply ops_1;(focus (simp (disch:=(try simp only [sPu]);omega) [hst,hi3,h0,l3,c3,a3,k3,s3,o3,e3,x2,-Int.natCast_emod,-List.length_cons,-BitVec.toNat_or,-BitVec.ofInt_natCast,-BitVec.ofInt_ofNat,-BitVec.toNat_ofInt,-BitVec.toNat_ofNat,-BitVec.toNat_and];try rfl)))
    refine oNi ?_
    simp only [Exit.then]
    refine gen_act (fun a=>a.tmps.size=87/\a.defers=[]/\getT a 0=.slice (some ⟨sb,q,none⟩) (u0 :: u1 :: u2 :: u3 :: r3).length cap/\getT a 5=.int .i64 0/\getT a 4=.int .u32 (((u0.toNat % 128:Nat):Int)+((u1.toNat % 128:Nat):Int) * 128+((u2.toNat % 128:Nat):Int) * 16384+((u3.toNat % 128:Nat):Int) * 2097152)) ⟨by simp [sPu,p2s],by simp [dPu,p2d],by simp (disch:=(try simp only [sPu]);omega) [h0],by simp (disch:=(try simp only [sPu]);omega) [p25],by simp (disch:=(try simp only [sPu]);omega) [-Int.natCast_emod,-List.length_cons,-BitVec.toNat_or,-BitVec.ofInt_natCast,-BitVec.ofInt_ofNat,-BitVec.toNat_ofInt,-BitVec.toNat_ofNat,-BitVec.toNat_and]⟩ fun a4 ⟨p3s,p3d,p30,p35,x3⟩=>?_
    refine wSq (wSq (wRg ?_))
    repeat (apply ops_1;(focus (simp (disch:=(try simp only [sPu]);omega) [hst,p30,l3,c3,z3,-List.length_cons,-BitVec.toNat_or,-BitVec.ofInt_natCast,-BitVec.ofInt_ofNat,-BitVec.toNat_ofInt,-BitVec.toNat_ofNat,-BitVec.toNat_and];try rfl)))
    refine oNi ?_
    simp only [Exit.then]
    refine wCd (t:=decide (u3.toNat < 128)) (by
     simp (disch:=(try simp only [sPu]);omega) [-List.length_cons,-BitVec.toNat_or,-BitVec.ofInt_natCast,-BitVec.ofInt_ofNat,-BitVec.toNat_ofInt,-BitVec.toNat_ofNat,-BitVec.toNat_and]
     split <;> simp_all) ?_
    by_cases hu3:u3.toNat < 128
    ·rw [if_pos (by simpa using hu3)]
     refine wSq (wRg ?_)
     repeat (apply ops_1;(focus (simp (disch:=(try simp only [sPu]);omega) [x3];try rfl)))
     refine oNi ?_
     simp only [Exit.then]
     refine wRt ?_
     simp only [Exit.then,Exit.jump]
     refine fin _ (u0.toNat % 128+u1.toNat % 128 * 128+u2.toNat % 128 * 16384+u3.toNat % 128 * 2097152) 4 (by simp [dPu,p3d]) (by simp (disch:=(try simp only [sPu]);omega) [-Int.natCast_emod,-List.length_cons,-BitVec.toNat_or,-BitVec.ofInt_natCast,-BitVec.ofInt_ofNat,-BitVec.toNat_ofInt,-BitVec.toNat_ofNat,-BitVec.toNat_and];try omega) (by simp (disch:=(try simp only [sPu]);omega)) ?_
     have hp:pUv (u0 :: u1 :: u2 :: u3 :: r3)=some (u0.toNat % 128+u1.toNat % 128 * 128+u2.toNat % 128 * 16384+u3.toNat % 128 * 2097152,r3):=by
      simp only [pUv,pUvGo,hu0,hu1,hu2,hu3,if_true,if_false,Option.map_some,Option.some.injEq,Prod.mk.injEq,and_true]
      omega
     rw [hp]
     refine ⟨rfl,?_,by decide,?_⟩
     ·simp only [List.length_cons]
      omega
     ·rw [show (u0 :: u1 :: u2 :: u3 :: r3).length - r3.length=4 by simp only [List.length_cons];omega]
      rfl
    ·rw [if_neg (by simpa using hu3)]
     refine wSq (wRg ?_)
     repeat (apply ops_1;(focus (simp (disch:=(try simp only [sPu]);omega) [hst,p30];try rfl)))
     refine oNi ?_
     simp only [Exit.then]
     refine wCd (t:=decide (((u0 :: u1 :: u2 :: u3 :: r3).length:Int) < 5)) (by simp (disch:=(try simp only [sPu]);omega)) ?_
     cases r3 with
     | nil =>
      rw [if_pos (by simp)]
      refine SC.wp_goto ?_
      simp only [Exit.then,Exit.jump]
      refine ⟨trivial,by simp [sPu,p3s],by simp [dPu,p3d],⟨0,by decide,by simp (disch:=(try simp only [sPu]);omega) [p35]⟩,trivial,?_⟩
      simp [pUv,pUvGo,hu0,hu1,hu2,hu3]
     | cons u4 r4 =>
     rw [if_neg (by simp;omega)]
     refine wSk ?_
     simp only [Exit.then]
     refine gen_act (fun a=>a.tmps.size=87/\a.defers=[]/\getT a 0=.slice (some ⟨sb,q,none⟩) (u0 :: u1 :: u2 :: u3 :: u4 :: r4).length cap/\getT a 5=.int .i64 0/\getT a 4=.int .u32 (((u0.toNat % 128:Nat):Int)+((u1.toNat % 128:Nat):Int) * 128+((u2.toNat % 128:Nat):Int) * 16384+((u3.toNat % 128:Nat):Int) * 2097152)) ⟨by simp [sPu,p3s],by simp [dPu,p3d],by simp (disch:=(try simp only [sPu]);omega) [p30],by simp (disch:=(try simp only [sPu]);omega) [p35],by simp (disch:=(try simp only [sPu]);omega) [x3,-Int.natCast_emod]⟩ ?_
     clear p3s p3d p30 p35 x3
     intro a4 ⟨p3s,p3d,h0,p35,x3⟩
     have l4:(4:Int) < ((u0 :: u1 :: u2 :: u3 :: u4 :: r4).length:Int):=by simp only [List.length_cons];omega
     have c4:=hby 4 u4 rfl
     simp only [cell,Nat.add_zero] at c4
     have b4:=u4.toNat_lt
     have k4:=wrap_uN (k:=.u32) rfl (n:=u4.toNat) (by simp only [IntKind.bits];omega)
     have e4:28<=IntKind.u32.bits:=by decide
     by_cases hu4:u4.toNat<=15
     ·have s4:IntKind.u32.wrap ((u4.toNat:Int) * 268435456)=(u4.toNat:Int) * 268435456:=by
       have:=wrap_uN (k:=.u32) rfl (n:=u4.toNat * 268435456) (by simp only [IntKind.bits];omega)
       simpa using this
      have o4:IntKind.u32.wrap ((BitVec.ofInt IntKind.u32.bits (((u0.toNat % 128:Nat):Int)+((u1.toNat % 128:Nat):Int) * 128+((u2.toNat % 128:Nat):Int) * 16384+((u3.toNat % 128:Nat):Int) * 2097152) ||| BitVec.ofInt IntKind.u32.bits ((u4.toNat:Int) * 268435456)).toNat:Int)=((u0.toNat % 128:Nat):Int)+((u1.toNat % 128:Nat):Int) * 128+((u2.toNat % 128:Nat):Int) * 16384+((u3.toNat % 128:Nat):Int) * 2097152+(u4.toNat:Int) * 268435456:=by
       rw [or_add2 (a:=u0.toNat % 128+u1.toNat % 128 * 128+u2.toNat % 128 * 16384+u3.toNat % 128 * 2097152) (b:=u4.toNat) (s:=28) (by omega) (by omega) (by omega) (by simp only [IntKind.bits];omega),wrap_uN (k:=.u32) rfl (n:=u0.toNat % 128+u1.toNat % 128 * 128+u2.toNat % 128 * 16384+u3.toNat % 128 * 2097152+u4.toNat * 2 ^ 28) (by simp only [IntKind.bits];omega)]
       omega
      refine wSq (wRg ?_)
      repeat (apply ops_1;(focus (simp (disch:=(try simp only [sPu]);omega) [hst,hi3,h0,l4,c4,k4,s4,o4,e4,x3,-Int.natCast_emod,-List.length_cons,-BitVec.toNat_or,-BitVec.ofInt_natCast,-BitVec.ofInt_ofNat,-BitVec.toNat_ofInt,-BitVec.toNat_ofNat,-BitVec.toNat_and];try rfl)))
      refine oNi ?_
      simp only [Exit.then]
      have hle:decide ((u4.toNat:Int)<=15)=true:=decide_eq_true (by omega)
      refine wSq (wSq (wRg ?_))
      repeat (apply ops_1;(focus (simp (disch:=(try simp only [sPu]);omega) [hst,h0,l4,c4,hle,-List.length_cons,-BitVec.toNat_or,-BitVec.ofInt_natCast,-BitVec.ofInt_ofNat,-BitVec.toNat_ofInt,-BitVec.toNat_ofNat,-BitVec.toNat_and];try rfl)))
      refine oNi ?_
      simp only [Exit.then]
      refine wCd (t:=true) (by simp (disch:=(try simp only [sPu]);omega) [-List.length_cons,-BitVec.toNat_or,-BitVec.ofInt_natCast,-BitVec.ofInt_ofNat,-BitVec.toNat_ofInt,-BitVec.toNat_ofNat,-BitVec.toNat_and];try omega) ?_
      rw [if_pos rfl]
      refine wSq (wRg ?_)
      repeat (apply ops_1;(focus (simp (disch:=(try simp only [sPu]);omega) [-List.length_cons,-BitVec.toNat_or,-BitVec.ofInt_natCast,-BitVec.ofInt_ofNat,-BitVec.toNat_ofInt,-BitVec.toNat_ofNat,-BitVec.toNat_and];try rfl)))
      refine oNi ?_
      simp only [Exit.then]
      refine wRt ?_
      simp only [Exit.then,Exit.jump]
      refine fin _ (u0.toNat % 128+u1.toNat % 128 * 128+u2.toNat % 128 * 16384+u3.toNat % 128 * 2097152+u4.toNat * 268435456) 5 (by simp [dPu,p3d]) (by simp (disch:=(try simp only [sPu]);omega) [-Int.natCast_emod,-List.length_cons,-BitVec.toNat_or,-BitVec.ofInt_natCast,-BitVec.ofInt_ofNat,-BitVec.toNat_ofInt,-BitVec.toNat_ofNat,-BitVec.toNat_and];try omega) (by simp (disch:=(try simp only [sPu]);omega)) ?_
      have hp:pUv (u0 :: u1 :: u2 :: u3 :: u4 :: r4)=some (u0.toNat % 128+u1.toNat % 128 * 128+u2.toNat % 128 * 16384+u3.toNat % 128 * 2097152+u4.toNat * 268435456,r4):=by
       simp only [pUv,pUvGo,hu0,hu1,hu2,hu3,hu4,if_true,if_false,Option.map_some,Option.some.injEq,Prod.mk.injEq,and_true]
       omega
      rw [hp]
      refine ⟨rfl,?_,by decide,?_⟩
      ·simp only [List.length_cons]
       omega
      ·rw [show (u0 :: u1 :: u2 :: u3 :: u4 :: r4).length - r4.length=5 by simp only [List.length_cons];omega]
       rfl
     ·refine wSq (wRg ?_)
      repeat (apply ops_1;(focus (simp (disch:=(try simp only [sPu]);omega) [hst,hi3,h0,l4,c4,k4,e4,x3,-Int.natCast_emod,-List.length_cons,-BitVec.toNat_or,-BitVec.ofInt_natCast,-BitVec.ofInt_ofNat,-BitVec.toNat_ofInt,-BitVec.toNat_ofNat,-BitVec.toNat_and];try rfl)))
      refine oNi ?_
      simp only [Exit.then]
      have hle:decide ((u4.toNat:Int)<=15)=false:=decide_eq_false (by omega)
      refine wSq (wSq (wRg ?_))
      repeat (apply ops_1;(focus (simp (disch:=(try simp only [sPu]);omega) [hst,h0,l4,c4,hle,-List.length_cons,-BitVec.toNat_or,-BitVec.ofInt_natCast,-BitVec.ofInt_ofNat,-BitVec.toNat_ofInt,-BitVec.toNat_ofNat,-BitVec.toNat_and];try rfl)))
      refine oNi ?_
      simp only [Exit.then]
      refine wCd (t:=false) (by simp (disch:=(try simp only [sPu]);omega) [-List.length_cons,-BitVec.toNat_or,-BitVec.ofInt_natCast,-BitVec.ofInt_ofNat,-BitVec.toNat_ofInt,-BitVec.toNat_ofNat,-BitVec.toNat_and];try omega) ?_
      rw [if_neg (by simp)]
      refine wSk ?_
      simp only [Exit.then]
      refine wSq (wRg ?_)
      repeat (apply ops_1;(focus (simp (disch:=(try simp only [sPu]);omega) [-List.length_cons,-BitVec.toNat_or,-BitVec.ofInt_natCast,-BitVec.ofInt_ofNat,-BitVec.toNat_ofInt,-BitVec.toNat_ofNat,-BitVec.toNat_and];try rfl)))
      refine oNi ?_
      simp only [Exit.then]
      refine wSq (SC.wp_label ?_)
      simp only [Exit.then]
      refine wSq (wRg ?_)
      repeat (apply ops_1;(focus (simp (disch:=(try simp only [sPu]);omega) [-List.length_cons,-BitVec.toNat_or,-BitVec.ofInt_natCast,-BitVec.ofInt_ofNat,-BitVec.toNat_ofInt,-BitVec.toNat_ofNat,-BitVec.toNat_and];try rfl)))
      refine oNi ?_
      simp only [Exit.then]
      refine wRt ?_
      simp only [Exit.then,Exit.jump]
      refine fin _ 0 (-5) (by simp [dPu,p3d]) (by simp (disch:=(try simp only [sPu]);omega) [-List.length_cons,-BitVec.toNat_or,-BitVec.ofInt_natCast,-BitVec.ofInt_ofNat,-BitVec.toNat_ofInt,-BitVec.toNat_ofNat,-BitVec.toNat_and]) (by simp (disch:=(try simp only [sPu]);omega) [-List.length_cons,-BitVec.toNat_or,-BitVec.ofInt_natCast,-BitVec.ofInt_ofNat,-BitVec.toNat_ofInt,-BitVec.toNat_ofNat,-BitVec.toNat_and]) ?_
      have hp:pUv (u0 :: u1 :: u2 :: u3 :: u4 :: r4)=none:=by simp [pUv,pUvGo,hu0,hu1,hu2,hu3,hu4]
      rw [hp]
      exact ⟨rfl,by decide⟩
end
def rDropV (R:RTy) (t s:Nat):SC:=.reg [mv t 0,mv (t+1) 0,nilc (t+2) (t+1),fa (t+3) R.TR (t+2) 0,ld (t+4) R.TB (t+3),mv (t+5) s,⟨some (t+6),.slice R.TB (.tmp (t+4)) (some (.tmp (t+5))) none none,none⟩,nilc (t+7) t,fa (t+8) R.TR (t+7) 0,⟨none,.store R.TB (.tmp (t+8)) (.tmp (t+6)),none⟩]
def sc_RSpan (R:RTy):SC:=.seq (.reg [⟨some 4,.assign (.const (.slice none 0 0)),none⟩]) (.seq (.seq (.reg [mv 6 0,nilc 7 6,fa 8 R.TR 7 0,ld 9 R.TB 8,lenOp 10 R.TB 9,mv 11 1,⟨some 12,.binOp .lss R.I (.tmp 10) (.tmp 11) R.I,none⟩,mv 13 12,⟨some 14,.move (.tmp 1),some (7,false)⟩,⟨some 15,.binOp .lss R.I (.tmp 14) (.const (.int .i64 0)) R.I,some (7,false)⟩,⟨some 16,.pick (.tmp 13) (.const (.bool true)) (.tmp 15),none⟩]) (.cond (.tmp 16) (rFail R 17 4 (.slice none 0 0)) (.skip))) (.seq (.reg [mv 23 0,nilc 24 23,fa 25 R.TR 24 0,ld 26 R.TB 25,mv 27 1,mv 28 1,⟨some 29,.slice R.TB (.tmp 26) none (some (.tmp 27)) (some (.tmp 28)),none⟩,asg 5 29]) (.seq (rDropV R 30 1) (.seq (.reg [mv 39 5,asg 4 39]) (.ret)))))
def sc_RUvarint (R:RTy) (F0:Nat):SC:=.seq (.reg [⟨some 2,.assign (.const (.int .u32 0)),none⟩]) (.seq (.reg [mv 6 0,nilc 7 6,fa 8 R.TR 7 0,ld 9 R.TB 8,cal 10 F0 [9],mv 5 10,⟨some 11,.extract (.tmp 5) 0,none⟩,⟨some 12,.extract (.tmp 5) 1,none⟩,asg 3 11,asg 4 12]) (.seq (.seq (.reg [mv 13 4,⟨some 14,.binOp .leq R.I (.tmp 13) (.const (.int .i64 0)) R.I,none⟩]) (.cond (.tmp 14) (rFail R 15 2 (.int .u32 0)) (.skip))) (.seq (rDropV R 21 4) (.seq (.reg [mv 30 3,asg 2 30]) (.ret)))))
section
variable {P:Program} {R:RTy} {f:FuncId} {fn:Func}
theorem rDropV_ok {t s n len rb:Nat} {bad:Bool} {a:Act} {w:World} {base:Option Addr} {cap:Nat} {Q:Exit->Act->World->Prop} (hR:rdOK P R=true) (hr:rdRow R.TR w rb (.slice base len cap) bad) (hn:n<=len)
  (h0:getT a 0=.pointer (some ⟨rb,0,none⟩)) (hx:getT a s=.int .i64 (n:Int)) (ht:0 < t) (hst:s < t) (htN:t+9<=a.tmps.size)
  (hQ:∀ a',a'.tmps.size=a.tmps.size->a'.defers=a.defers->(∀ s,s < t->getT a' s=getT a s)->Q .normal a' (w.setRow rb (#[.slice base len cap,.bool bad].setIfInBounds 0 (sliceLo base len cap n)))):(rDropV R t s).wp P Q a w:=by
 have hf:=rd_facts hR
 have hcl:=rdRow_cells hr
 have hrow:w.heap[rb]?=some (.cells #[.slice base len cap,.bool bad] R.TR (0,0)):=hr
 refine wRg (ops_mv (ops_mv (ops_nilc (ad:=⟨rb,0,none⟩) ?_ (ops_fa (fieldB_of hf.1) (b:=rb) (o:=0) ?_ (ops_ld hf.2.2.1 (ad:=⟨rb,0,none⟩) (v:=.slice base len cap) ?_ hcl.1 (ops_mv (oNo rfl (opw_sliceLo (n:=n) (k:=.i64) (len:=len) (cap:=cap) (base:=base) hf.2.2.2.1 ?_ ?_ hn (ops_nilc (ad:=⟨rb,0,none⟩) ?_ (ops_fa (fieldB_of hf.1) (b:=rb) (o:=0) ?_ (ops_stR (b:=rb) (i:=0) (v:=sliceLo base len cap n) hf.2.2.1 ?_ ?_ rfl hrow (by simp) (oNi ?_))))))))))))
 ·rw [gTp (by simp only [sPu];omega),gTn (by omega)];exact h0
 ·rw [gTp (by simp only [sPu];omega)]
 ·rw [gTp (by simp only [sPu];omega)]
 ·rw [eTm,gTn (by omega),gTp (by simp only [sPu];omega)]
 ·rw [eTm,gTp (by simp only [sPu];omega),gTn (by omega),gTn (by omega),gTn (by omega),gTn (by omega),gTn (by omega)];exact hx
 ·rw [gTn (by omega),gTn (by omega),gTn (by omega),gTn (by omega),gTn (by omega),gTn (by omega),gTp (by omega)];exact h0
 ·rw [gTp (by simp only [sPu];omega)]
 ·rw [eTm,gTp (by simp only [sPu];omega)]
 ·rw [eTm,gTn (by omega),gTn (by omega),gTp (by simp only [sPu];omega)]
 refine hQ _ (by simp only [sPu]) (by simp only [dPu]) (fun s hs=>?_)
 rw [gTn (by omega),gTn (by omega),gTn (by omega),gTn (by omega),gTn (by omega),gTn (by omega),gTn (by omega),gTn (by omega),gTn (by omega)]
theorem SrcAt.take {w:World} {S:Option Nat} {base:Option Addr} {rest:Bytes} {n:Nat} (h:SrcAt w S base rest):SrcAt w S base (rest.take n):=by
 cases S with
 | none =>
  obtain ⟨rfl,rfl⟩:=h
  exact ⟨rfl,by simp⟩
 | some sb =>
  obtain ⟨o,rfl,h2⟩:=h
  refine ⟨o,rfl,fun j u hu=>h2 j u ?_⟩
  rw [List.getElem?_take] at hu
  split at hu
  ·exact hu
  ·simp at hu
theorem pSpan_no {l:Int} {b:Bytes} (h:(b.length:Int) < l∨l < 0):pSpan l b=none:=by simp [pSpan,h]
theorem pSpan_yes {n:Nat} {b:Bytes} (h:n<=b.length):pSpan (n:Int) b=some (b.take n,b.drop n):=by
 unfold pSpan
 rw [if_neg (by omega)]
 rfl
theorem rSpan_ok {TR : Nat} (hTR : R.TR = TR) (hR : rdOK P R = true) (hf : P.funcs[f]? = some fn) (hb : fn.body.map strip = some (sc_RSpan R)) (hnm : (fn.name == "runtime.NumGoroutine") = false) (hn : fn.ntmps = 40) (hr : fn.results = #[.tmp 4]) : SpC P TR f := by
 subst hTR
 have hst:=rd_facts hR
 refine ⟨fnOK_of hf hb hnm,fun w S rb st l hrd hsrc=>?_⟩
 refine fCa hf hb hn (by simp) fun a0 hs hd ha=>?_
 have h0:=ha 0 _ rfl
 have h1:=ha 1 _ rfl
 simp only [List.getElem_toArray,List.getElem_cons_zero,List.getElem_cons_succ] at h0 h1
 obtain ⟨bad,len,base,cap,hrow,hlen⟩:∃ bad len base cap,rdRow R.TR w rb (.slice base len cap) bad/\((st=none/\bad=true/\len=0/\base=none/\cap=0)∨∃ rest,st=some rest/\bad=false/\len=rest.length/\len<=cap/\SrcAt w S base rest):=by
  rcases rdAt_row hrd with ⟨rfl,hrow⟩ | ⟨rest,base,cap,rfl,hrow,hcap,hsr⟩
  ·exact ⟨_,_,_,_,hrow,.inl ⟨rfl,rfl,rfl,rfl,rfl⟩⟩
  ·exact ⟨_,_,_,_,hrow,.inr ⟨_,rfl,rfl,rfl,hcap,hsr⟩⟩
 have hc:=rdRow_cells hrow
 refine wSq (wRg ?_)
 repeat (apply ops_1;(focus (simp (disch:=(try simp only [sPu]);omega) ;try rfl)))
 refine oNi (wSq (wSq (wRg ?_)))
 refine Decidable.byCases (p:=(len:Int) < l) (fun hl=>?_) (fun hl=>?_)
 ·have hl':decide ((len:Int) < l)=true:=decide_eq_true hl
  repeat (first | (apply ops_1;(focus (simp (disch:=(try simp only [sPu]);omega) [hst,h0,h1,hc,hl,hl'];try rfl))) | (apply ops_y;(focus rfl);(focus ((try simp only [sPu]);omega));(focus (simp (disch:=(try simp only [sPu]);omega) [hst,h0,h1,hc,hl,hl'];done));(focus (simp (disch:=(try simp only [sPu]);omega) [hst,h0,h1,hc,hl,hl'];try rfl))) | (apply ops_n;(focus rfl);(focus ((try simp only [sPu]);omega));(focus (first | (left;simp (disch:=(try simp only [sPu]);omega) [hst,h0,h1,hc,hl,hl'];done) | (right;simp (disch:=(try simp only [sPu]);omega);done)))))
  refine oNi (wCd (t:=true) (by simp (disch:=(try simp only [sPu]);omega)) ?_)
  rw [if_pos rfl]
  refine rFail_ok (S:=S) hR hrow (by simp (disch:=(try simp only [sPu]);omega) [h0]) (by omega) (by simp [sPu,hs]) (by simp [sPu,hs]) fun a' w' q1 q2 q3 q4=>?_
  simp only [Exit.then]
  refine ret_tmp hr (by rw [q1];simp [dPu,hd]) ⟨none,none,0,[],by rw [q2];rfl,?_,q4,⟨rfl,rfl⟩,fun bs y r h hp=>?_,.inl rfl,Nat.le_refl _⟩
  ·rcases hlen with ⟨rfl,-⟩ | ⟨rest,rfl,-,rfl,-⟩
   ·exact q3
   ·rw [after_no (pSpan_no (.inl hl))];exact q3
  ·rcases hlen with ⟨rfl,-⟩ | ⟨rest,rfl,-,rfl,-⟩
   ·cases h
   ·cases h
    rw [pSpan_no (.inl hl)] at hp
    cases hp
 have hl':decide ((len:Int) < l)=false:=decide_eq_false hl
 refine Decidable.byCases (p:=l < 0) (fun hl0=>?_) (fun hl0=>?_)
 ·have hl0':decide (l < 0)=true:=decide_eq_true hl0
  repeat (first | (apply ops_1;(focus (simp (disch:=(try simp only [sPu]);omega) [hst,h0,h1,hc,hl,hl',hl0,hl0'];try rfl))) | (apply ops_y;(focus rfl);(focus ((try simp only [sPu]);omega));(focus (simp (disch:=(try simp only [sPu]);omega) [hst,h0,h1,hc,hl,hl',hl0,hl0'];done));(focus (simp (disch:=(try simp only [sPu]);omega) [hst,h0,h1,hc,hl,hl',hl0,hl0'];try rfl))) | (apply ops_n;(focus rfl);(focus ((try simp only [sPu]);omega));(focus (first | (left;simp (disch:=(try simp only [sPu]);omega) [hst,h0,h1,hc,hl,hl',hl0,hl0'];done) | (right;simp (disch:=(try simp only [sPu]);omega);done)))))
  refine oNi (wCd (t:=true) (by simp (disch:=(try simp only [sPu]);omega)) ?_)
  rw [if_pos rfl]
  refine rFail_ok (S:=S) hR hrow (by simp (disch:=(try simp only [sPu]);omega) [h0]) (by omega) (by simp [sPu,hs]) (by simp [sPu,hs]) fun a' w' q1 q2 q3 q4=>?_
  simp only [Exit.then]
  refine ret_tmp hr (by rw [q1];simp [dPu,hd]) ⟨none,none,0,[],by rw [q2];rfl,?_,q4,⟨rfl,rfl⟩,fun bs y r h hp=>?_,.inl rfl,Nat.le_refl _⟩
  ·rcases hlen with ⟨rfl,-⟩ | ⟨rest,rfl,-,rfl,-⟩
   ·exact q3
   ·rw [after_no (pSpan_no (.inr hl0))];exact q3
  ·rcases hlen with ⟨rfl,-⟩ | ⟨rest,rfl,-,rfl,-⟩
   ·cases h
   ·cases h
    rw [pSpan_no (.inr hl0)] at hp
    cases hp
 have hl0':decide (l < 0)=false:=decide_eq_false hl0
 obtain ⟨n,rfl⟩:∃ n:Nat,l=(n:Int):=⟨l.toNat,by omega⟩
 have hnl:n<=len:=by omega
 have hnc:n<=cap:=by
  rcases hlen with ⟨-,-,rfl,-,rfl⟩ | ⟨rest,-,-,-,h,-⟩ <;> omega
 repeat (first | (apply ops_1;(focus (simp (disch:=(try simp only [sPu]);omega) [hst,h0,h1,hc,hl,hl',hl0,hl0'];try rfl))) | (apply ops_y;(focus rfl);(focus ((try simp only [sPu]);omega));(focus (simp (disch:=(try simp only [sPu]);omega) [hst,h0,h1,hc,hl,hl',hl0,hl0'];done));(focus (simp (disch:=(try simp only [sPu]);omega) [hst,h0,h1,hc,hl,hl',hl0,hl0'];try rfl))) | (apply ops_n;(focus rfl);(focus ((try simp only [sPu]);omega));(focus (first | (left;simp (disch:=(try simp only [sPu]);omega) [hst,h0,h1,hc,hl,hl',hl0,hl0'];done) | (right;simp (disch:=(try simp only [sPu]);omega);done)))))
 refine oNi (wCd (t:=false) (by simp (disch:=(try simp only [sPu]);omega)) ?_)
 rw [if_neg (by simp)]
 refine wSk ?_
 simp only [Exit.then]
 refine wSq (wRg ?_)
 iterate 6 (apply ops_1;(focus (simp (disch:=(try simp only [sPu]);omega) [hst,h0,h1,hc];try rfl)))
 refine oNo rfl (opw_slice3 (n:=n) (k:=.i64) (k':=.i64) (len:=len) (cap:=cap) (base:=base) hst.2.2.2.1 (by simp (disch:=(try simp only [sPu]);omega)) (by simp (disch:=(try simp only [sPu]);omega)) (by simp (disch:=(try simp only [sPu]);omega)) hnc ?_)
 repeat (apply ops_1;(focus (simp (disch:=(try simp only [sPu]);omega) ;try rfl)))
 refine oNi ?_
 simp only [Exit.then]
 refine wSq (rDropV_ok (n:=n) hR hrow hnl (by simp (disch:=(try simp only [sPu]);omega) [h0]) (by simp (disch:=(try simp only [sPu]);omega) [h1]) (by omega) (by omega) (by simp [sPu,hs]) fun a1 q1 q2 q3=>?_)
 have hs1:a1.tmps.size=40:=by rw [q1];simp [sPu,hs]
 have hd1:a1.defers=[]:=by rw [q2];simp [dPu,hd]
 have h5:getT a1 5=.slice base n n:=by rw [q3 5 (by omega)];simp (disch:=(try simp only [sPu]);omega)
 simp only [Exit.then]
 refine wSq (wRg ?_)
 repeat (apply ops_1;(focus (simp (disch:=(try simp only [sPu]);omega) [h5];try rfl)))
 refine oNi (wRt ?_)
 have hon:Only rb w (w.setRow rb (#[.slice base len cap,.bool bad].setIfInBounds 0 (sliceLo base len cap n))):=(Only.refl rb w).setRow _
 have hres:getT ((a1.put (some 39) (Value.slice base n n)).put (some 4) (Value.slice base n n)) 4=.slice base n n:=by simp (disch:=(try simp only [sPu]);omega)
 rcases hlen with ⟨rfl,rfl,rfl,rfl,rfl⟩ | ⟨rest,rfl,rfl,rfl,hcap,hsr⟩
 ·obtain rfl:n=0:=by omega
  refine ret_tmp hr (by simp [dPu,hd1]) ⟨none,none,0,[],by rw [hres];rfl,?_,hon,⟨rfl,rfl⟩,fun bs y r h hp=>(by cases h),.inl rfl,Nat.le_refl _⟩
  exact rdAt_bad (fr:=(0,0)) hrow (by simp [sliceLo])
 ·have hp1:=pSpan_yes hnl
  refine ret_tmp hr (by simp [dPu,hd1]) ⟨S,base,n,rest.take n,by rw [hres,List.length_take,Nat.min_eq_left hnl],?_,hon,?_,fun bs y r h hp=>?_,.inr rfl,by rw [List.length_take];exact Nat.min_le_left _ _⟩
  ·rw [after_ok hp1]
   exact rdAt_drop hrow hcap hsr (fun s h=>(hsrc s h).1) hnl
  ·exact hsr.take.frame fun sb hsb=>setRow_other _ _ _ _ (hsrc sb hsb).1
  ·cases h
   rw [hp1] at hp
   cases hp
   exact ⟨rfl,rfl⟩
theorem opw_extract {a:Act} {w:World} {K:Act->World->Prop} {d:Option Tmp} {g:Option (Nat × Bool)} {x:Operand} {i:Nat} {v:Value} {vs:Array Value} (hx:a.eval x=.tuple vs) (hv:vs[i]?=some v) (h:K (a.put d v) w):opw P ⟨d,.extract x i,g⟩ a w K :=
 oVa (by simp) (fun o ho=>by simp [execOp,ho,hx,Instr.extract,hv]) h
theorem RC.ty {α:Type} {TR gb:Nat} {p:Rd α} {ty ty':Value->Prop} {ok:World->(Nat->Prop)->α->Value->Prop} (h:RC P TR gb f p ty ok) (hty:∀ v,ty v->ty' v):RC P TR gb f p ty' ok :=
 ⟨h.1,fun w S rb st h1 h2 h3=>(h.2 w S rb st h1 h2 h3).mono fun e w' ⟨v,q1,q2,q3,q4,q5⟩=>⟨v,q1,q2,q3,hty v q4,q5⟩⟩
theorem rUvarint_ok {TR gb F0 : Nat} (hTR : R.TR = TR) (hR : rdOK P R = true) (hF : UvC P F0) (hf : P.funcs[f]? = some fn) (hb : fn.body.map strip = some (sc_RUvarint R F0)) (hnm : (fn.name == "runtime.NumGoroutine") = false) (hn : fn.ntmps = 31) (hr : fn.results = #[.tmp 2]) :
  RC P TR gb f pUv (fun v=>∃ n:Nat,n < 4294967296/\v=.int .u32 (n:Int)) (fun _ _ n v=>v=.int .u32 (n:Int)):=by
 subst hTR
 have hst:=rd_facts hR
 refine ⟨fnOK_of hf hb hnm,fun w S rb st hgb hrd hsrc=>?_⟩
 refine fCa hf hb hn (by simp) fun a0 hs hd ha=>?_
 have h0:=ha 0 _ rfl
 simp only [List.getElem_toArray,List.getElem_cons_zero,List.getElem_cons_succ] at h0
 obtain ⟨bad,xs,base,cap,S1,hrow,hs1,hlen⟩:∃ bad xs base cap S1,rdRow R.TR w rb (.slice base (List.length xs) cap) bad/\SrcAt w S1 base xs/\((st=none/\bad=true/\xs=[])∨(st=some xs/\bad=false/\S1=S/\xs.length<=cap)):=by
  rcases rdAt_row hrd with ⟨rfl,hrow⟩ | ⟨rest,base,cap,rfl,hrow,hcap,hsr⟩
  ·exact ⟨_,[],none,0,none,hrow,⟨rfl,rfl⟩,.inl ⟨rfl,rfl,rfl⟩⟩
  ·exact ⟨_,rest,base,cap,S,hrow,hsr,.inr ⟨rfl,rfl,rfl,hcap⟩⟩
 have hc:=rdRow_cells hrow
 refine wSq (wRg ?_)
 repeat (apply ops_1;(focus (simp (disch:=(try simp only [sPu]);omega) ;try rfl)))
 refine oNi (wSq (wRg ?_))
 iterate 4 (apply ops_1;(focus (simp (disch:=(try simp only [sPu]);omega) [hst,h0,hc];try rfl)))
 refine ops_call hF.1 (hF.2 w S1 base xs cap hs1) (by simp (disch:=(try simp only [sPu]);omega)) ?_
 rintro e w1 ⟨rfl,x,n,rfl,hxn⟩
 refine ⟨_,rfl,?_⟩
 iterate 1 (apply ops_1;(focus (simp (disch:=(try simp only [sPu]);omega) ;try rfl)))
 refine oNo rfl (opw_extract (vs:=#[.int .u32 (x:Int),.int .i64 n]) (v:=.int .u32 (x:Int)) (by simp (disch:=(try simp only [sPu]);omega)) rfl ?_)
 refine oNo rfl (opw_extract (vs:=#[.int .u32 (x:Int),.int .i64 n]) (v:=.int .i64 n) (by simp (disch:=(try simp only [sPu]);omega)) rfl ?_)
 repeat (apply ops_1;(focus (simp (disch:=(try simp only [sPu]);omega) ;try rfl)))
 refine oNi (wSq (wSq (wRg ?_)))
 repeat (apply ops_1;(focus (simp (disch:=(try simp only [sPu]);omega) ;try rfl)))
 refine oNi (wCd (t:=decide (n<=0)) (by simp (disch:=(try simp only [sPu]);omega)) ?_)
 refine Decidable.byCases (p:=n<=0) (fun hn0=>?_) (fun hn0=>?_)
 ·have hno:after st pUv=none:=by
   rcases hlen with ⟨rfl,-⟩ | ⟨rfl,-⟩
   ·rfl
   ·refine after_no ?_
    cases hp:pUv xs with
    | none=>rfl
    | some z=>obtain ⟨y,r⟩:=z;rw [hp] at hxn;exact absurd hxn.2.2.1 (by omega)
  rw [if_pos (decide_eq_true hn0)]
  refine rFail_ok (S:=S) hR hrow (by simp (disch:=(try simp only [sPu]);omega) [h0]) (by omega) (by simp [sPu,hs]) (by simp [sPu,hs]) fun a' w' q1 q2 q3 q4=>?_
  simp only [Exit.then]
  refine ret_tmp hr (by rw [q1];simp [dPu,hd]) ⟨_,rfl,by rw [hno];exact q3,q4,⟨0,by decide,q2⟩,fun b y r h hp=>?_⟩
  subst h
  rw [after_ok hp] at hno
  cases hno
 ·rw [if_neg (by simpa using hn0)]
  refine wSk ?_
  simp only [Exit.then]
  cases hp:pUv xs with
  | none=>rw [hp] at hxn;exact absurd hxn.2 hn0
  | some z =>
  obtain ⟨y,r⟩:=z
  rw [hp] at hxn
  obtain ⟨rfl,rfl,-,hr2⟩:=hxn
  have hle:xs.length - r.length<=xs.length:=by omega
  refine wSq (rDropV_ok (n:=xs.length - r.length) hR hrow hle (by simp (disch:=(try simp only [sPu]);omega) [h0]) (by simp (disch:=(try simp only [sPu]);omega)) (by omega) (by omega) (by simp [sPu,hs]) fun a1 q1 q2 q3=>?_)
  have hs2:a1.tmps.size=31:=by rw [q1];simp [sPu,hs]
  have hd1:a1.defers=[]:=by rw [q2];simp [dPu,hd]
  have h3:getT a1 3=.int .u32 (x:Int):=by rw [q3 3 (by omega)];simp (disch:=(try simp only [sPu]);omega)
  simp only [Exit.then]
  refine wSq (wRg ?_)
  repeat (apply ops_1;(focus (simp (disch:=(try simp only [sPu]);omega) [h3];try rfl)))
  refine oNi (wRt ?_)
  rcases hlen with ⟨rfl,rfl,rfl⟩ | ⟨rfl,rfl,rfl,hcap⟩
  ·simp [pUv,pUvGo] at hp
  ·refine ret_tmp hr (by simp [dPu,hd1]) ⟨_,rfl,?_,(Only.refl rb _).setRow _,⟨x,(pUv_facts hp).1,by simp (disch:=(try simp only [sPu]);omega)⟩,fun b y r1 h hp1=>?_⟩
   ·rw [after_ok hp]
    have hz:=rdAt_drop hrow hcap hs1 (fun s h=>(hsrc s h).1) hle
    rw [<- hr2] at hz
    exact hz
   ·cases h
    rw [hp] at hp1
    cases hp1
    simp (disch:=(try simp only [sPu]);omega)
end
def sFindK:SC->Nat->Option SC
 | .seq a b,l=>match sFindK a l with
  | some r=>some (.seq r b)
  | none=>sFindK b l
 | .label l',l=>if l' == l then some .skip else none
 | _,_=>none
theorem sFindK_strip:∀ (c:Code) (l:Nat),sFindK (strip c) l=(findLabel c l).map strip
 | .seq a b,l=>by
  simp only [strip,sFindK,findLabel,sFindK_strip a l,sFindK_strip b l]
  cases findLabel a l <;> simp [strip]
 | .label l',l=>by
  simp only [strip,sFindK,findLabel]
  split <;> simp [strip]
 | .skip,l=>by simp [strip,sFindK,findLabel]
 | .region _ ops d,l=>by simp only [strip];split <;> simp [sFindK,findLabel]
 | .cond ..,l=>by simp [strip,sFindK,findLabel]
 | .block ..,l=>by simp [strip,sFindK,findLabel]
 | .loop ..,l=>by simp [strip,sFindK,findLabel]
 | .exit ..,l=>by simp [strip,sFindK,findLabel]
 | .ret,l=>by simp [strip,sFindK,findLabel]
 | .goto ..,l=>by simp [strip,sFindK,findLabel]
 | .scope ..,l=>by simp [strip,sFindK,findLabel]
 | .rangeFunc ..,l=>by simp [strip,sFindK,findLabel]
 | .refuse ..,l=>by simp [strip,sFindK,findLabel]
section
variable {P:Program} {a:Act} {w:World} {Q:Exit->Act->World->Prop}
theorem SC.wp_labelK {l:Nat} (h:Q .normal a w):(SC.label l).wp P Q a w:=by
 intro c hc
 cases c <;> simp [strip] at hc
 ·split at hc <;> simp at hc
 ·exact Go.wp_label h
theorem SC.wp_gotoK {l:Nat} (h:Q (.goto l) a w):(SC.goto l).wp P Q a w:=by
 intro c hc
 cases c <;> simp [strip] at hc
 ·split at hc <;> simp at hc
 ·subst hc
  exact Go.wp_goto h
theorem SC.wp_scopeK {s r:SC} (l:Nat) (J:Act->World->Prop) (μ:Act->World->Nat) (hf:sFindK s l=some r)
  (first:s.wp P (Exit.jump l J Q) a w)
  (pass:∀ a w,J a w->r.wp P (Exit.jump l (fun a' w'=>J a' w'/\μ a' w' < μ a w) Q) a w):(SC.scope s).wp P Q a w:=by
 intro c hc
 cases c <;> simp [strip] at hc
 ·split at hc <;> simp at hc
 ·rename_i b
  subst hc
  rw [sFindK_strip] at hf
  obtain ⟨rest,h1,h2⟩:=Option.map_eq_some_iff.1 hf
  exact Go.wp_scope_jumps l J μ h1 (first b rfl) fun a w hJ=>pass a w hJ rest h2
end
theorem knChk (I:Ids) (v ts:Nat) (h:v+6<=ts) (hv:1 < v):chk [mv (ts+2) 1,mv (ts+3) (v+5),⟨some (ts+4),.slice I.tU8s (.tmp (ts+2)) none (some (.tmp (ts+3))) none,none⟩,mv (ts+5) 1,mv (ts+6) (v+5),⟨some (ts+7),.slice I.tU8s (.tmp (ts+5)) (some (.tmp (ts+6))) none none,none⟩,
    lenOp (ts+8) I.tU8s (ts+7),⟨some (ts+9),.convert I.tInt I.tU32 (.tmp (ts+8)),none⟩,cal (ts+10) I.aUvar [ts+4,ts+9],asg 1 (ts+10)]
    [[],[],[0,1],[],[],[3,4],[5],[6],[2,7],[8,8,0,1,2,3,4,5,6,7,8]]
  [(0,true),(1,true),(2,true),(3,true),(4,true),(5,false),(6,true),(7,true),(8,false),(9,true)]
  (Array.replicate [[],[],[0,1],[],[],[3,4],[5],[6],[2,7],[8,8,0,1,2,3,4,5,6,7,8]].length false)=true:=by
 have e1:∀ k,ts+k ≠ v+5:=fun k=>by omega
 have e2:∀ k,ts+(k+2) ≠ 1:=fun k=>by omega
 have e3:v+5 ≠ 1:=by omega
 have e2':ts+2 ≠ 1/\ts+3 ≠ 1/\ts+4 ≠ 1/\ts+5 ≠ 1/\ts+6 ≠ 1/\ts+7 ≠ 1/\ts+8 ≠ 1/\ts+9 ≠ 1/\ts+10 ≠ 1:=by omega
 have e4:ts ≠ v:=by omega
 have hr:List.range 10=[0,1,2,3,4,5,6,7,8,9]:=rfl
 simp [chk,sReady,sFree,sApart,sLooks,mv,asg,cal,lenOp,Op.operands,Call.operands,hr,List.filter,e1,e2',fun k=>Ne.symm (e1 k),e3,Ne.symm e3,e4,Ne.symm e4]
theorem BelG.refl (B:Nat) (dv:Value) (w:World):BelG B dv dv w w:=⟨Below.refl _ _,fun _ _ _=>rfl,.inl rfl⟩
theorem BelG.same {B:Nat} {dv dv':Value} (w:World) (h:dv'.ownBlock=dv.ownBlock):BelG B dv dv' w w:=⟨Below.refl _ _,fun _ _ _=>rfl,.inl h⟩
theorem BelG.drew {B:Nat} (dv:Value) (w:World):BelG B dv dv w w.drew:=⟨⟨rfl,rfl,rfl,Nat.le_refl _,fun _ _=>rfl⟩,fun _ _ _=>rfl,.inl rfl⟩
theorem own_drew {tU8:Nat} {w:World} {B:Nat} {dv:Value} {xs:Bytes} (h:Own tU8 w B dv xs):Own tU8 w.drew B dv xs:=h
theorem own_form {tU8:Nat} {w:World} {B:Nat} {dv:Value} {xs:Bytes} (h:Own tU8 w B dv xs) (hx:0 < xs.length):∃ g cap,dv=.slice (some ⟨g,0,none⟩) xs.length cap/\xs.length<=cap:=by
 obtain ⟨h1,h2⟩:=h
 rcases h2 with ⟨_,h2⟩ | ⟨g,cap,cur,e,h3,h4,h5,h6,h7,h8⟩
 ·omega
 ·exact ⟨g,cap,e,h5⟩
theorem own_pre {tU8:Nat} {w:World} {B len cap:Nat} {base:Option Addr} {xs ys:Bytes} (h:Own tU8 w B (.slice base len cap) (xs ++ ys)) (hx:0 < xs.length):Own tU8 w B (.slice base xs.length cap) xs:=by
 obtain ⟨h1,h2⟩:=h
 rcases h2 with ⟨_,h2⟩ | ⟨g,cap',cur,e,h3,h4,h5,h6,h7,h8⟩
 ·rw [List.length_append] at h2;omega
 ·cases e
  rw [List.length_append] at h5
  refine ⟨by simp [cLen],.inr ⟨g,cap,cur,rfl,h3,h4,by omega,h6,h7,?_⟩⟩
  have:=congrArg (List.take xs.length) h8
  rw [List.take_take,cellsOf_append,List.take_left' (by rw [cLen])] at this
  rw [<- this]
  congr 1
  rw [List.length_append]
  omega
theorem opw_sliceEnd {P:Program} {a:Act} {w:World} {K:Act->World->Prop} {d:Option Tmp} {g:Option (Nat × Bool)} {T n len cap:Nat} {k:IntKind} {x y:Operand} {base:Option Addr} (hT:sliceN P T=some 1) (hx:a.eval x=.slice base len cap) (hy:a.eval y=.int k (n:Int)) (hn:n<=len)
  (h:∀ base',K (a.put d (.slice base' (len - n) (cap - n))) w):opw P ⟨d,.slice T x (some y) none none,g⟩ a w K:=by
 unfold sliceN at hT
 split at hT <;> try (simp at hT;done)
 rename_i e hu
 obtain ⟨i,hi,hs⟩:=Option.map_eq_some_iff.1 hT
 refine oVa (v:=.slice (if cap=n then base else base.map (·.add n)) (len - n) (cap - n)) (by simp) (fun p hp=>?_) (h _)
 simp [execOp,hp,hx,hy,Instr.sliceAt,Instr.slice,run_underlying hu,Instr.sliceBounds,Instr.sliceBound,asIntOf,sizeOf,typeInfo,hi,hs,hn]
theorem opw_ap2 {P:Program} {tU8:Nat} {a:Act} {w:World} {K:Act->World->Prop} {d:Option Tmp} {g:Option (Nat × Bool)} {B f:Nat} {args:Array Operand} {argsV:Array Value} {dv:Value} {xs out:Bytes} (hAP:AP2 P tU8 f argsV out)
  (hargs:args.map a.eval=#[dv] ++ argsV) (ho:Own tU8 w B dv xs) (hB:B<=w.heap.size) (hlen:xs.length+out.length<=lim)
  (h:∀ dv' w',Own tU8 w' B dv' (xs ++ out)->BelG B dv dv' w w'->B<=w'.heap.size->K (a.put d dv') w'):opw P ⟨d,.call ⟨.value (.func f),args,#[]⟩,g⟩ a w K:=by
 have hc:=hAP.2 w B dv xs ho hB hlen
 obtain ⟨fn,h1,h2,h3⟩:=hAP.1
 refine opw_call h1 h2 h3 (R:=fun e w'=>∃ dv',e=.returned dv'/\Own tU8 w' B dv' (xs ++ out)/\BelG B dv dv' w w'/\B<=w'.heap.size) ?_ ?_
 ·rw [hargs];exact hc
 ·rintro e w' ⟨dv',rfl,h1,h2,h3⟩
  exact ⟨dv',rfl,h dv' w' h1 h2 h3⟩
theorem seqs_cons {x:SC} {l:List SC} (hl:l ≠ []):seqs (x :: l)=.seq x (seqs l):=by
 cases l with
 | nil=>exact absurd rfl hl
 | cons y r=>rfl
section
variable {X:Fix}
def CFrag (X:Fix) (V:Value->World->Value->Prop) (x:Nat) (l:List SC) (lo t:Nat) (out:Bytes):Prop :=
 ∀ (a:Act) (w:World) (xs:Bytes) (Q:Exit->Act->World->Prop) (rest:List SC),rest ≠ []->AInv X a w xs->V (getT a x) w (getT a 1)->xs.length+out.length<=lim ->
  (∀ a' w',AInv X a' w' (xs ++ out)->Same X a a' lo t->V (getT a' x) w' (getT a' 1)->(seqs rest).wp X.P Q a' w')->(seqs (l ++ rest)).wp X.P Q a w
theorem AInv.put {a:Act} {w:World} {xs:Bytes} {d:Nat} {v:Value} (hi:AInv X a w xs) (h1:d ≠ 1) (h2:d ≠ X.c.ver) (h3:d ≠ X.c.flex):AInv X (a.put (some d) v) w xs :=
 ⟨(sPu _ _ _).trans hi.size,(dPu _ _ _).trans hi.defers,(gTn (Ne.symm h2)).trans hi.ver,fun hn=>(gTn (Ne.symm h3)).trans (hi.flex hn),by rw [gTn (Ne.symm h1)];exact hi.own,hi.below,hi.heap⟩
theorem AInv.dst {a:Act} {w w':World} {xs ys:Bytes} {v:Value} (hX:X.ok) (hi:AInv X a w xs) (h1:1 < a.tmps.size) (ho:Own X.tU8 w' X.B v ys) (hb:Below X.B w w') (hh:X.B<=w'.heap.size):AInv X (a.put (some 1) v) w' ys :=
 ⟨(sPu _ _ _).trans hi.size,(dPu _ _ _).trans hi.defers,(gTn hX.ver1).trans hi.ver,fun hn=>(gTn hX.flex1).trans (hi.flex hn),by rw [gTp h1];exact ho,hi.below.trans hb,hh⟩
theorem knSized_ok {v ts l:Nat} {xs c:Bytes} {a:Act} {w:World} {Q:Exit->Act->World->Prop} (hX:X.ok) (hlv:X.c.ver < v) (hlf:X.c.flex < v) (hv:1 < v) (hvT:v+6<=X.T0) (hts:X.T0<=ts) (htsN:ts+11<=X.N)
  (hS8:sliceB X.P X.I.tU8s X.tU8 1=true) (hI:intB X.P X.I.tInt .i64=true) (hU:intB X.P X.I.tU32 .u32=true) (hu0:X.I.aUvar ≠ 0) (hx0:0 < xs.length) (hc:c.length < 4294967296)
  (hi:AInv X a w (xs ++ c)) (h4:getT a (v+4)=.bool false) (h5:getT a (v+5)=.int .i64 (xs.length:Int)) (hlen:xs.length+(uvarint c.length).length<=lim)
  (hQ:∀ a' w',AInv X a' w' (xs ++ uvarint c.length)->(∀ s,s ≠ 1->s ≠ v+4->s < ts->getT a' s=getT a s)->getT a' (v+4)=.bool true->BelG X.B (getT a 1) (getT a' 1) w w'->Q (.goto l) a' w') :
  (aKnSized X.I v ts l).wp X.P Q a w:=by
 have hsz:=hi.size
 have h1:=hX.oneT
 have hver:=hX.ver1
 have hlim:lim=4294967295:=rfl
 have hN8:=sliceN_of hS8
 have hk1:=intK_of hI
 have hk2:=intK_of hU
 have hwc:IntKind.u32.wrap (c.length:Int)=(c.length:Int):=IntWalk.u32_in _ (by omega)
 unfold aKnSized
 refine wSq (wRg ?_)
 repeat (apply ops_1;(focus (simp (disch:=(try simp only [sPu]);omega) [h4];try rfl)))
 refine oNi (wCd (t:=true) (by simp (disch:=(try simp only [sPu]);omega)) ?_)
 rw [if_pos rfl]
 obtain ⟨g,cap,hdv,hcap⟩:=own_form hi.own (by rw [List.length_append];omega)
 have hown:=hi.own
 rw [hdv] at hown
 have hle:(xs ++ c).length - xs.length=c.length:=by rw [List.length_append];omega
 have hxl:(xs.length:Int)<=(cap:Int):=by rw [List.length_append] at hcap;omega
 have hx00:(0:Int)<=(xs.length:Int):=by omega
 generalize ha1:((a.put (some ts) (.bool false)).put (some (ts+1)) _)=a1
 have hg1:∀ s,s < ts->getT a1 s=getT a s:=fun s hs=>by rw [<- ha1,gTn (by omega),gTn (by omega)]
 have hs1:a1.tmps.size=X.N:=by rw [<- ha1];simp only [sPu];exact hsz
 have hd1:a1.defers=[]:=by rw [<- ha1];simp only [dPu];exact hi.defers
 have e1:getT a1 1=.slice (some ⟨g,0,none⟩) (xs ++ c).length cap:=(hg1 1 (by omega)).trans hdv
 have e5:getT a1 (v+5)=.int .i64 (xs.length:Int):=(hg1 _ (by omega)).trans h5
 clear ha1
 refine wSq (wDr hX.mixed (Below 0 w.drew) [(0,true),(1,true),(2,true),(3,true),(4,true),(5,false),(6,true),(7,true),(8,false),(9,true)] (by rfl) (knChk X.I v ts (by omega) hv) (by decide) (Below.refl _ _) ?_)
 iterate 5 (apply dr_1;(focus rfl);(focus (simp (disch:=(try simp only [sPu]);omega) [e1,e5,hN8,hxl,hx00];try rfl)))
 refine dreg_n rfl rfl (opw_sliceEnd (n:=xs.length) (len:=(xs ++ c).length) (cap:=cap) (base:=some ⟨g,0,none⟩) (k:=.i64) hN8 (by simp (disch:=(try simp only [sPu]);omega) [e1]) (by simp (disch:=(try simp only [sPu]);omega) [e5]) (by rw [List.length_append];omega) fun base'=>⟨Below.refl _ _,?_⟩)
 rw [hle]
 iterate 2 (apply dr_1;(focus rfl);(focus (simp (disch:=(try simp only [sPu]);omega) [hN8,hk1,hk2,hwc];try rfl)))
 refine dreg_n rfl rfl (opw_ap2 (hX.ka.uvar2 hu0 c.length hc) (B:=X.B) (dv:=.slice (some ⟨g,0,none⟩) xs.length cap) (xs:=xs) ?_ (own_drew (own_pre hown hx0)) hi.heap (by omega) fun dv' w' ho hb hh=>⟨?_,?_⟩)
 ·simp (disch:=(try simp only [sPu]);omega) [eTm,gTp,gTn]
 ·exact (Below.refl 0 w.drew).trans ⟨hb.1.os,hb.1.tape,hb.1.output,hb.1.size,fun k hk=>by omega⟩
 iterate 1 (apply dr_1;(focus rfl);(focus (simp (disch:=(try simp only [sPu]);omega) ;try rfl)))
 refine dreg_nil ?_
 simp only [Exit.then]
 refine wSq (wRg (oNo rfl (opw_assign (oNi ?_))))
 simp only [Exit.then,eCo]
 refine SC.wp_gotoK (hQ _ _ ?_ ?_ ?_ ?_)
 ·refine ⟨by simp only [sPu];exact hs1,by simp only [dPu];exact hd1,?_,fun hn=>?_,?_,hi.below.trans ((BelG.drew (B:=X.B) (getT a 1) w).1.trans hb.1),hh⟩
  ·rw [<- hi.ver,<- hg1 X.c.ver (by omega)]
   simp (disch:=(try simp only [sPu]);omega) [gTn]
  ·rw [<- hi.flex hn,<- hg1 X.c.flex (by omega)]
   have:=hX.flex1
   simp (disch:=(try simp only [sPu]);omega) [gTn]
  ·rw [gTn (by omega),gTp (by simp only [sPu];omega)]
   exact ho
 ·intro s hs1 hs2 hs3
  rw [<- hg1 s hs3]
  simp (disch:=(try simp only [sPu]);omega) [gTn]
 ·rw [gTp (by simp only [sPu];omega)]
 ·rw [gTn (by omega),gTp (by simp only [sPu];omega),hdv]
  refine (BelG.same w ?_).trans ((BelG.drew _ w).trans hb)
  rfl
end
section
variable {X:Fix}
theorem uvarint_len5 {n:Nat} (h:n < 4294967296):(uvarint n).length<=5:=by
 by_cases h1:n<=127
 ·rw [uvarint,dif_pos h1];simp
 rw [uvarint,dif_neg h1,List.length_cons]
 by_cases h2:n / 128<=127
 ·rw [uvarint,dif_pos h2];simp
 rw [uvarint,dif_neg h2,List.length_cons]
 by_cases h3:n / 128 / 128<=127
 ·rw [uvarint,dif_pos h3];simp
 rw [uvarint,dif_neg h3,List.length_cons]
 by_cases h4:n / 128 / 128 / 128<=127
 ·rw [uvarint,dif_pos h4];simp
 rw [uvarint,dif_neg h4,List.length_cons]
 rw [uvarint,dif_pos (by omega)];simp
structure KOk (X:Fix):Prop where
 s8:sliceB X.P X.I.tU8s X.tU8 1=true
 ti:intB X.P X.I.tInt .i64=true
 tu:intB X.P X.I.tU32 .u32=true
 u0:X.I.aUvar ≠ 0
 ou:oneB X.P X.I.tU32=true
 us:u32sB X.P X.I.tU32s X.I.tU32=true
 l0:X.I.tagsLen ≠ 0
 e0:X.I.tagsEach ≠ 0
structure VOk (X:Fix) (V:Value->World->Value->Prop):Prop where
 stab:∀ x w w' dv dv',V x w dv->BelG X.B dv dv' w w'->V x w' dv'
theorem knScope_ok {v tc ts l:Nat} {val:SC} {body:List SC} {c:Bytes} {V:Value->World->Value->Prop} {pre:Act->Prop} (hX:X.ok) (hK:KOk X) (hV:VOk X V) (hlv:X.c.ver < v) (hlf:X.c.flex < v) (hv:1 < v) (hvT:v+6<=X.T0) (htc:X.T0<=tc) (hts:tc+8<=ts) (htsN:ts+11<=X.N)
  (hc:c.length < 4294967296) (hvl:∀ l,sFindK val l=none)
  (hval:∀ (a:Act) (w:World) (xs:Bytes) (Q:Exit->Act->World->Prop),AInv X a w xs->pre a->xs.length<=lim->(∀ a' w',AInv X a' w' xs->Same X a a' v tc->V (getT a' (v+3)) w' (getT a' 1)->Q .normal a' w')->val.wp X.P Q a w)
  (hbody:CFrag X V (v+3) body (v+6) (tc+8) c)
  (a:Act) (w:World) (xs:Bytes) (Q:Exit->Act->World->Prop) (hi:AInv X a w xs) (hp:pre a) (hlen:xs.length+1+(uvarint c.length).length+c.length<=lim)
  (hQ:∀ a' w',AInv X a' w' (xs ++ (uvarint 0 ++ (uvarint c.length ++ c)))->Same X a a' v tc->Q .normal a' w'):(aKnScope X.I v tc l val body ts).wp X.P Q a w:=by
 have h1:=hX.oneT
 have hver:=hX.ver1
 have hflex:=hX.flex1
 have hlim:lim=4294967295:=rfl
 have hul:=uvarint_len5 hc
 have hu0l:(uvarint 0).length=1:=by rw [uvarint,dif_pos (by omega)];rfl
 have hne:body ++ [aKnSized X.I v ts l] ≠ []:=by simp
 unfold aKnScope
 refine SC.wp_scopeK l (fun a' w'=>AInv X a' w' ((xs ++ uvarint 0) ++ uvarint c.length)/\Same X a a' v tc/\V (getT a' (v+3)) w' (getT a' 1)/\getT a' (v+4)=.bool true) (fun _ _=>0)
  (r:=.seq .skip (seqs (body ++ [aKnSized X.I v ts l]))) ?_ ?_ ?_
 ·rw [List.cons_append,List.cons_append,List.cons_append,List.cons_append,List.cons_append,List.nil_append,seqs_cons (by simp),seqs_cons (by simp),seqs_cons (by simp),seqs_cons (by simp),seqs_cons hne]
  simp [sFindK,hvl]
 ·rw [List.cons_append,List.cons_append,List.cons_append,List.cons_append,List.cons_append,List.nil_append,seqs_cons (by simp),seqs_cons (by simp),seqs_cons (by simp),seqs_cons (by simp),seqs_cons hne]
  refine wSq (hval a w xs _ hi hp (by omega) fun a1 w1 hi1 hs1 hV1=>?_)
  simp only [Exit.then]
  have hz1:=hi1.size
  refine wSq (wRg (ops_mv (oNo rfl (opw_ap2 (hX.ka.uvar2 hK.u0 0 (by decide)) (B:=X.B) (dv:=getT a1 1) (xs:=xs) ?_ hi1.own hi1.heap (by omega) fun dv2 w2 ho2 hb2 hh2=>ops_asg (oNi ?_)))))
  ·simp (disch:=(try simp only [sPu]);omega) [eTm,eCo,gTp,gTn]
  simp only [Exit.then]
  have hV2:V (getT a1 (v+3)) w2 dv2:=hV.stab _ _ _ _ _ hV1 hb2
  generalize ha2:(((a1.put (some (tc+4)) (getT a1 1)).put (some (tc+5)) dv2).put (some 1) (getT ((a1.put (some (tc+4)) (getT a1 1)).put (some (tc+5)) dv2) (tc+5)))=a2
  have hz2:a2.tmps.size=X.N:=by rw [<- ha2];simp only [sPu];exact hz1
  have hd2:a2.defers=[]:=by rw [<- ha2];simp only [dPu];exact hi1.defers
  have hg2:∀ s,s ≠ 1->s < tc+4->getT a2 s=getT a1 s:=fun s h1 h2=>by rw [<- ha2,gTn h1,gTn (by omega),gTn (by omega)]
  have e2:getT a2 1=dv2:=by rw [<- ha2,gTp (by simp only [sPu];omega),gTp (by simp only [sPu];omega)]
  clear ha2
  obtain ⟨g,cap,hdv,hcap⟩:=own_form ho2 (by rw [List.length_append];omega)
  refine wSq (wRg (oNo rfl (opw_assign (oNi ?_))))
  simp only [Exit.then,eCo]
  have e21:getT (a2.put (some (v+4)) (.bool false)) 1=.slice (some ⟨g,0,none⟩) (xs ++ uvarint 0).length cap:=by rw [gTn (by omega),e2,hdv]
  refine wSq (wRg (ops_mv (ops_len hK.s8 (base:=some ⟨g,0,none⟩) (len:=(xs ++ uvarint 0).length) (cap:=cap) ?_ (ops_asg (oNi ?_)))))
  ·rw [gTp (by simp only [sPu];omega)]
   exact e21
  simp only [Exit.then]
  generalize ha3:((((a2.put (some (v+4)) (.bool false)).put (some (tc+6)) (getT (a2.put (some (v+4)) (.bool false)) 1)).put (some (tc+7)) (.int .i64 ((xs ++ uvarint 0).length:Int))).put (some (v+5)) (getT (((a2.put (some (v+4)) (.bool false)).put (some (tc+6)) (getT (a2.put (some (v+4)) (.bool false)) 1)).put (some (tc+7)) (.int .i64 ((xs ++ uvarint 0).length:Int))) (tc+7)))=a3
  have hz3:a3.tmps.size=X.N:=by rw [<- ha3];simp only [sPu];exact hz2
  have hd3:a3.defers=[]:=by rw [<- ha3];simp only [dPu];exact hd2
  have hg3:∀ s,s ≠ v+4->s ≠ v+5->s < tc+4->getT a3 s=getT a2 s:=fun s h1 h2 h3=>by rw [<- ha3,gTn h2,gTn (by omega),gTn (by omega),gTn h1]
  have e34:getT a3 (v+4)=.bool false:=by rw [<- ha3,gTn (by omega),gTn (by omega),gTn (by omega),gTp (by omega)]
  have e35:getT a3 (v+5)=.int .i64 ((xs ++ uvarint 0).length:Int):=by rw [<- ha3,gTp (by simp only [sPu];omega),gTp (by simp only [sPu];omega)]
  have hall:∀ s,s ≠ 1->s < v∨(X.T0<=s/\s < tc)->getT a3 s=getT a s:=fun s h1 h2=>by
   rw [hg3 s (by omega) (by omega) (by omega),hg2 s h1 (by omega)]
   exact hs1 s h1 h2
  have hi3:AInv X a3 w2 (xs ++ uvarint 0):=by
   refine ⟨hz3,hd3,?_,fun hn=>?_,?_,hi1.below.trans hb2.1,hh2⟩
   ·rw [hg3 _ (by omega) (by omega) (by omega),hg2 _ hver (by omega)];exact hi1.ver
   ·rw [hg3 _ (by omega) (by omega) (by omega),hg2 _ hflex (by omega)];exact hi1.flex hn
   ·rw [hg3 1 (by omega) (by omega) (by omega),e2];exact ho2
  have hV3:V (getT a3 (v+3)) w2 (getT a3 1):=by
   rw [hg3 _ (by omega) (by omega) (by omega),hg2 _ (by omega) (by omega),hg3 1 (by omega) (by omega) (by omega),e2]
   exact hV2
  clear ha3
  refine wSq (SC.wp_labelK ?_)
  simp only [Exit.then]
  have hxl:(xs ++ uvarint 0).length=xs.length+1:=by rw [List.length_append,hu0l]
  refine hbody a3 w2 _ _ _ (by simp) hi3 hV3 (by omega) fun a4 w4 hi4 hs4 hV4=>?_
  simp only [seqs]
  refine knSized_ok (l:=l) hX hlv hlf hv hvT (by omega) htsN hK.s8 hK.ti hK.tu hK.u0 (by omega) hc hi4 ?_ ?_ (by omega) ?_
  ·rw [hs4 _ (by omega) (.inl (by omega))];exact e34
  ·rw [hs4 _ (by omega) (.inl (by omega))];exact e35
  intro a5 w5 hi5 hs5 h45 hb5
  refine ⟨rfl,?_,?_,?_,h45⟩
  ·rw [List.append_assoc] at hi5 ⊢;exact hi5
  ·intro s q1 q2
   rw [hs5 s q1 (by omega) (by omega),hs4 s q1 (by omega)]
   exact hall s q1 q2
  ·rw [hs5 _ (by omega) (by omega) (by omega)]
   exact hV.stab _ _ _ _ _ hV4 hb5
 ·rintro a1 w1 ⟨hi1,hs1,hV1,h41⟩
  refine wSq (wSk ?_)
  simp only [Exit.then]
  have hxl:((xs ++ uvarint 0) ++ uvarint c.length).length=xs.length+1+(uvarint c.length).length:=by rw [List.length_append,List.length_append,hu0l]
  refine hbody a1 w1 _ _ _ (by simp) hi1 hV1 (by omega) fun a4 w4 hi4 hs4 hV4=>?_
  simp only [seqs]
  have hz4:=hi4.size
  have e4:getT a4 (v+4)=.bool true:=by rw [hs4 _ (by omega) (.inl (by omega))];exact h41
  unfold aKnSized
  refine wSq (wRg ?_)
  repeat (apply ops_1;(focus (simp (disch:=(try simp only [sPu]);omega) [e4];try rfl)))
  refine oNi (wCd (t:=false) (by simp (disch:=(try simp only [sPu]);omega)) ?_)
  rw [if_neg (by simp)]
  refine wSk ?_
  simp only [Exit.jump]
  refine hQ _ _ ?_ fun s q1 q2=>?_
  ·have:AInv X a4 w4 (xs ++ (uvarint 0 ++ (uvarint c.length ++ c))):=by simpa [List.append_assoc] using hi4
   exact (this.put (by omega) (by omega) (by omega)).put (by omega) (by omega) (by omega)
  ·rw [gTn (by omega),gTn (by omega),hs4 s q1 (by omega)]
   exact hs1 s q1 q2
end
set_option maxHeartbeats 4000000
theorem u32s_of {P:Program} {T T32:Nat} (h:u32sB P T T32=true):P.underlying T=some (.slice T32)/\(∃ i,P.info? T32=some i/\i.zero=some (.int .u32 0)/\i.size=1/\i.bytes<=1000)/\sliceB P T T32 1=true:=by
 unfold u32sB at h
 split at h <;> try (simp at h;done)
 rename_i e i hu hi
 simp only [Bool.and_eq_true,beq_iff_eq,decide_eq_true_eq] at h
 obtain ⟨⟨⟨⟨rfl,h2⟩,h3⟩,h4⟩,h5⟩:=h
 refine ⟨hu,⟨i,hi,?_,h3,h4⟩,?_⟩
 ·split at h2 <;> simp_all
 ·simp [sliceB,hu,hi,h3]
section
variable {P:Program} {a:Act} {w:World} {K:Act->World->Prop} {d:Option Tmp} {g:Option (Nat × Bool)}
theorem opw_buildK {T E:Nat} {x:Operand} {i:TypeInfo} {z v:Value} (hT:P.underlying T=some (.slice E)) (hi:P.info? E=some i) (hz:i.zero=some z) (hs:i.size=1) (hx:a.eval x=v) (hv:v.oneCell'=true)
  (h:K (a.put d (.slice (some ⟨w.heap.size,0,none⟩) 1 1)) (w.alloc (.cells #[v] E))):opw P ⟨d,.buildSlice T 1 #[(0,x)],g⟩ a w K:=by
 refine oVa (by simp) (fun p hp=>?_) h
 have hr:=run_buildSlice (P:=P) w T E 1 #[(0,v)] #[v] i z hT hi hz (by rw [hs];decide) (by rw [hs];decide) (by
  rw [hs]
  have hz1:∀ (zf:Nat->Value),(Array.range (1 * 1)).map zf=#[zf 0]:=fun zf=>Array.ext' (by simp [Array.toList_map,Array.toList_range,List.range,List.range.loop])
  rw [hz1]
  simp [Instr.fill,cells_oneCell hv])
 simp only [execOp,hp]
 simp [hx,hr]
theorem opw_appendK {T E b:Nat} {x y:Operand} {i:TypeInfo} {z v:Value} {ts:Array TypeId} (hT:P.underlying T=some (.slice E)) (hi:P.info? E=some i) (hz:i.zero=some z) (hzc:z.cells.size=1) (hs:i.size=1) (hby:i.bytes<=1000) (hts:ts=#[T,T])
  (hx:a.eval x=.slice none 0 0) (hy:a.eval y=.slice (some ⟨b,0,none⟩) 1 1) (hc:w.cell? ⟨b,0,none⟩=some v) (hv:v.oneCell'=true)
  (h:∀ q cap cur w',w.heap.size<=q->w'.heap[q]?=some (.cells cur E (0,0))->cur[0]?=some v->Below w.heap.size w w'->K (a.put d (.slice (some ⟨q,0,none⟩) 1 cap)) w'):opw P ⟨d,.call ⟨.builtin .append,#[x,y],ts⟩,g⟩ a w K:=by
 subst hts
 refine opw_of fun o next Q hd hop hn=>?_
 obtain ⟨v',w',hr,h2,h3,h4⟩:=run_append_src2 (P:=P) w w.heap.size T T o.type E i z 1 i.bytes hT hi hz hs rfl hzc (by decide) (.slice none 0 0) 0 [] (World.ownsRow_nil _ _ _ _) (.slice (some ⟨b,0,none⟩) 1 1) 1 [v] (Src.ofSlice w hT ⟨b,0,none⟩ 1 1 [v] rfl (fun j u hj=>by
  cases j with
  | zero=>simp at hj;subst hj;rw [add_none];exact hc
  | succ j=>simp at hj) (by intro u hu;simp at hu;subst hu;exact hv)) (by decide) (by omega) (Nat.le_refl _)
 have hop':o.op=.call ⟨.builtin .append,#[x,y],#[T,T]⟩:=stripOp_eq (by simp) hop
 have hr':(execOp a.eval o).run P w=.ok (.value v') w':=by
  simp [execOp,hop',resolve,invoke,builtin,hx,hy,hr]
 rw [hr',Oper.upon_value,hd]
 obtain ⟨e1,e2⟩:=h2
 rcases e2 with ⟨_,e2⟩ | ⟨q,cap,cur,rfl,q1,q2,q3,q4,q5,q6⟩
 ·omega
 ·refine hn _ _ (h q cap cur w' q1 q2 ?_ ⟨h3.os,h3.tape,h3.output,h3.size,fun k hk=>h3.block k hk (by simp [Value.ownBlock])⟩)
  have:=congrArg (·[0]?) q6
  simpa using this
end
section
variable {X:Fix}
def TeAt (w:World) (T32:Nat) (te dv:Value) (cb:Bool):Prop :=
 if cb then ∃ q cap cur,te=.slice (some ⟨q,0,none⟩) 1 cap/\w.heap[q]?=some (.cells cur T32 (0,0))/\cur[0]?=some (.int .u32 0)/\dv.ownBlock ≠ some q else te=.slice none 0 0
theorem TeAt.stab {B T32:Nat} {w w':World} {te dv dv':Value} {cb:Bool} (h:TeAt w T32 te dv cb) (hb:BelG B dv dv' w w'):TeAt w' T32 te dv' cb:=by
 unfold TeAt at h ⊢
 split at h
 ·rename_i hcb
  rw [if_pos hcb]
  obtain ⟨q,cap,cur,h1,h2,h3,h4⟩:=h
  have hq:q < w.heap.size:=(Array.getElem?_eq_some_iff.1 h2).1
  refine ⟨q,cap,cur,h1,by rw [hb.2.1 q hq (Ne.symm h4)];exact h2,h3,?_⟩
  rcases hb.2.2 with e | ⟨b,e,hle⟩
  ·rw [e];exact h4
  ·rw [e];intro e2;cases e2;omega
 ·rename_i hcb
  rw [if_neg hcb]
  exact h
def kl (cb:Bool):Nat:=if cb then 1 else 0
theorem TeAt.slice {w:World} {T32:Nat} {te dv:Value} {cb:Bool} (h:TeAt w T32 te dv cb):∃ base cap,te=.slice base (kl cb) cap:=by
 unfold TeAt at h
 cases cb with
 | true =>
  simp only [if_true] at h
  obtain ⟨q,cap,cur,h1,-⟩:=h
  exact ⟨_,cap,h1⟩
 | false=>exact ⟨none,0,by simpa [kl] using h⟩
def knOut (cb:Bool) (c:Bytes):Bytes:=if cb then uvarint 0 ++ (uvarint c.length ++ c) else []
theorem knLoop_ok {v tl b l ts:Nat} {val:SC} {body:List SC} {cb:Bool} {c:Bytes} {V:Value->World->Value->Prop} {pre:Act->Prop} (hX:X.ok) (hK:KOk X) (hV:VOk X V) (hlv:X.c.ver < v) (hlf:X.c.flex < v) (hv:1 < v) (hvT:v+6<=X.T0) (htl:X.T0<=tl) (hts:tl+17<=ts) (htsN:ts+12<=X.N)
  (hst:∀ a a',Same X a a' v tl->pre a->pre a')
  (hc:cb=true->c.length < 4294967296) (hvl:∀ l,sFindK val l=none)
  (hval:cb=true->∀ (a:Act) (w:World) (xs:Bytes) (Q:Exit->Act->World->Prop),AInv X a w xs->pre a->xs.length<=lim->(∀ a' w',AInv X a' w' xs->Same X a a' v (tl+9)->V (getT a' (v+3)) w' (getT a' 1)->Q .normal a' w')->val.wp X.P Q a w)
  (hbody:cb=true->CFrag X V (v+3) body (v+6) (tl+17) c)
  (a:Act) (w:World) (xs:Bytes) (Q:Exit->Act->World->Prop) (hi:AInv X a w xs) (hp:pre a) (hte:TeAt w X.I.tU32 (getT a v) (getT a 1) cb) (hlen:xs.length+(knOut cb c).length<=lim)
  (hQ:∀ a' w',AInv X a' w' (xs ++ knOut cb c)->Same X a a' v tl->Q .normal a' w'):(aKnLoop X.I v tl b (aKnScope X.I v (tl+9) l val body ts) (ts+11)).wp X.P Q a w:=by
 have h1:=hX.oneT
 have hver:=hX.ver1
 have hflex:=hX.flex1
 have hsz:=hi.size
 have hlim:lim=4294967295:=rfl
 obtain ⟨hus,-,hsl⟩:=u32s_of hK.us
 obtain ⟨base,cap,hteq⟩:=hte.slice
 have hN32:=sliceN_of hsl
 unfold aKnLoop
 refine wSq (wRg (ops_mv (ops_len hsl (base:=base) (len:=kl cb) (cap:=cap) (by rw [gTp (by omega)];exact hteq) (oNo rfl (opw_move (oNi ?_))))))
 simp only [Exit.then,eCo]
 generalize hte2:getT a v=te at hte hteq
 have hkl:kl cb<=1:=by unfold kl;split <;> omega
 refine wBk (wLp (fun a' w'=>∃ i:Nat,i<=kl cb/\AInv X a' w' (xs ++ (if i=0 then [] else knOut cb c))/\Same X a a' v tl/\getT a' (tl+1)=.int .i64 (kl cb:Int)/\getT a' (tl+2)=.int .i64 (i:Int)/\(i=0->getT a' tl=te/\TeAt w' X.I.tU32 te (getT a' 1) cb))
  (fun a' _=>(1 - (match getT a' (tl+2) with | .int _ m=>m.toNat | _=>0))) ?_ ?_)
 ·refine ⟨0,Nat.zero_le _,?_,?_,?_,?_,fun _=>⟨?_,?_⟩⟩
  ·rw [if_pos rfl,List.append_nil]
   exact ((hi.put (by omega) (by omega) (by omega)).put (by omega) (by omega) (by omega)).put (by omega) (by omega) (by omega)
  ·intro s q1 q2
   rw [gTn (by omega),gTn (by omega),gTn (by omega)]
  ·rw [gTn (by omega),gTp (by simp only [sPu];omega)]
  ·rw [gTp (by simp only [sPu];omega)];rfl
  ·rw [gTn (by omega),gTn (by omega),gTp (by omega)]
  ·rw [gTn (by omega),gTn (by omega),gTn (by omega)];exact hte
 rintro a1 w1 ⟨i,hik,hi1,hs1,e1,e2,e3⟩
 have hz1:=hi1.size
 refine wSq (wRg ?_)
 repeat (apply ops_1;(focus (simp (disch:=(try simp only [sPu]);omega) [e1,e2];try rfl)))
 refine oNi ?_
 simp only [Exit.then]
 generalize ha2:a1.put (some (tl+3)) _=a2
 have hi2:AInv X a2 w1 (xs ++ (if i=0 then [] else knOut cb c)):=by rw [<- ha2];exact hi1.put (by omega) (by omega) (by omega)
 have hg2:∀ s,s ≠ tl+3->getT a2 s=getT a1 s:=fun s hs=>by rw [<- ha2,gTn hs]
 have e4:getT a2 (tl+3)=.bool (decide ((i:Int) < (kl cb:Int))):=by rw [<- ha2,gTp (by omega)];try simp
 clear ha2
 have hz2:=hi2.size
 refine wSq (wCd (t:=decide ((i:Int) < (kl cb:Int))) (by rw [eTm,e4]) ?_)
 by_cases hlt:(i:Int) < (kl cb:Int)
 ·rw [if_pos (by simpa using hlt)]
  refine wSk ?_
  simp only [Exit.then]
  have hi0:i=0:=by omega
  have hcb:cb=true:=by
   cases cb with
   | true=>rfl
   | false=>simp [kl] at hlt;omega
  subst hi0 hcb
  obtain ⟨e5,hte1⟩:=e3 rfl
  simp only [if_true,List.append_nil] at hi2 hte1
  unfold TeAt at hte1
  rw [if_pos rfl] at hte1
  obtain ⟨q,cap',cur,rfl,hq,hcur,hqne⟩:=hte1
  refine wSq (wBk (wSq (wRg ?_)))
  refine oNo rfl (opw_index hsl (b:=q) (o:=0) (len:=1) (cap:=cap') (j:=0) (k:=.i64) (by rw [eTm,hg2 _ (by omega)];exact e5) (by rw [eTm,hg2 _ (by omega)];exact e2) (by omega) ?_)
  refine ops_ld hK.ou (ad:=⟨q,0+0 * 1,none⟩) (v:=.int .u32 0) (by rw [gTp (by omega)]) (by rw [cell_of_row _ _ _ _ _ _ hq];exact hcur) (ops_asg (oNi ?_))
  simp only [Exit.then]
  generalize ha3:(((a2.put (some (tl+4)) _).put (some (tl+5)) (Value.int IntKind.u32 0)).put (some (v+2)) _)=a3
  have hi3:AInv X a3 w1 xs:=by rw [<- ha3];exact ((hi2.put (by omega) (by omega) (by omega)).put (by omega) (by omega) (by omega)).put (by omega) (by omega) (by omega)
  have hg3:∀ s,s ≠ v+2->s < tl+3->getT a3 s=getT a1 s:=fun s h1 h2=>by rw [<- ha3,gTn h1,gTn (by omega),gTn (by omega)];exact hg2 s (by omega)
  have e6:getT a3 (v+2)=.int .u32 0:=by rw [<- ha3,gTp (by simp only [sPu];omega),gTp (by simp only [sPu];omega)]
  clear ha3
  have hz3:=hi3.size
  refine wSq (wRg (ops_mv (oNi ?_)))
  simp only [Exit.then]
  refine wBk (wSq (wRg ?_))
  repeat (apply ops_1;(focus (simp (disch:=(try simp only [sPu]);omega) [e6];try rfl)))
  refine oNi ?_
  simp only [Exit.then]
  refine wCd (t:=true) (by simp (disch:=(try simp only [sPu]);omega)) ?_
  rw [if_pos rfl]
  generalize ha4:Act.put (Act.put (Act.put a3 _ _) _ _) _ _=a4
  have hi4:AInv X a4 w1 xs:=by rw [<- ha4];exact ((hi3.put (by omega) (by omega) (by omega)).put (by omega) (by omega) (by omega)).put (by omega) (by omega) (by omega)
  have hg4:∀ s,s ≠ v+2->s < tl+3->getT a4 s=getT a1 s:=fun s h1 h2=>by rw [<- ha4,gTn (by omega),gTn (by omega),gTn (by omega)];exact hg3 s h1 h2
  clear ha4
  have hsame4:Same X a a4 v tl:=fun s q1 q2=>(hg4 s (by omega) (by omega)).trans (hs1 s q1 q2)
  refine knScope_ok hX hK hV hlv hlf hv hvT (by omega) (by omega) (by omega) (hc rfl) hvl (hval rfl) (hbody rfl) a4 w1 xs _ hi4 (hst _ _ hsame4 hp) (by simp only [knOut,if_true,List.length_append] at hlen;rw [show (uvarint 0).length=1 by rw [uvarint,dif_pos (by omega)];rfl] at hlen;omega) fun a5 w5 hi5 hs5=>?_
  simp only [Exit.inBlock]
  have hz5:=hi5.size
  have e7:getT a5 (tl+2)=.int .i64 (0:Int):=by rw [hs5 _ (by omega) (.inr (by omega)),hg4 _ (by omega) (by omega),e2];rfl
  refine wRg ?_
  have hw1:IntKind.i64.wrap (1:Int)=1:=by decide
  repeat (apply ops_1;(focus (simp (disch:=(try simp only [sPu]);omega) [e7,hw1];try rfl)))
  refine oNi ?_
  refine ⟨⟨1,by simp [kl],?_,?_,?_,?_,fun h=>by omega⟩,?_⟩
  ·rw [if_neg (by omega)]
   simp only [knOut,if_true]
   exact (hi5.put (by omega) (by omega) (by omega)).put (by omega) (by omega) (by omega)
  ·intro s q1 q2
   rw [gTn (by omega),gTn (by omega),hs5 s q1 (by omega)]
   exact hsame4 s q1 q2
  ·rw [gTn (by omega),gTn (by omega),hs5 _ (by omega) (.inr (by omega)),hg4 _ (by omega) (by omega)]
   exact e1
  ·simp (disch:=(try simp only [sPu]);omega)
  ·rw [e2]
   simp (disch:=(try simp only [sPu]);omega)
 ·rw [if_neg (by simpa using hlt)]
  refine wXt ?_
  simp only [Exit.then,Exit.inBlock,if_true]
  have hout:(if i=0 then [] else knOut cb c)=knOut cb c:=by
   split
   ·rename_i h0
    cases cb with
    | true=>simp [kl] at hlt;omega
    | false=>simp [knOut]
   ·rfl
  rw [hout] at hi2
  exact hQ _ _ hi2 fun s q1 q2=>(hg2 s (by omega)).trans (hs1 s q1 q2)
end
end Go.Proofs.YtdnpafdgglpagaaGreatDoor.K
