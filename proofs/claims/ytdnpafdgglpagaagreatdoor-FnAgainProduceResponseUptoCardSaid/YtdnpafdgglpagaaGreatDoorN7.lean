/- Generic texts: KX4 KX5 KX6 KX7 KX8 K9 K10 R3. No condition. -/
import Derived.Test.YtdnpafdgglpagaaGreatDoorN6
namespace Go.Proofs.YtdnpafdgglpagaaGreatDoor.K
open Go Go.RowKit Go.Proofs.YtdnpafdgglpagaaGreatDoor.T
attribute [local simp] eTm eCo pNo gTp gTn qv qcall vop iop
set_option linter.unusedSimpArgs false
set_option linter.unusedVariables false
set_option maxHeartbeats 4000000
section
variable {X:Fix}
theorem aKnSC_ok {S p f off v t b l n ts bk o:Nat} {u:List (Nat × Bytes)} {cond val:SC} {body:List SC} {cb:Bool} {c:Bytes} {V:Value->World->Value->Prop} (hX:X.ok) (hK:KOk X) (hV:VOk X V)
  (hlv:X.c.ver < v) (hlf:X.c.flex < v) (hpv:p < v) (hp1:p ≠ 1) (hv:1 < v) (hvT:v+6<=X.T0) (ht:X.T0<=t) (hn1:1<=n) (hts:t+n+31<=ts) (htsN:ts+17<=X.N) (hn:X.c.never=false)
  (hS:fieldB X.P S f off=true) (hbB:bk < X.B) (hu:X.flex=true->HTags X.G X.w0 (· < X.B) bk (o+off) u) (hno:X.flex=true->∀ x ∈ u,1<=x.1)
  (hcond:X.flex=true->AFragP X cond (fun a=>getT a p=.pointer (some ⟨bk,o,none⟩)) (fun a=>getT a (t+n)=.bool cb) (v+1) (t+1) [])
  (hvl:∀ l,sFindK val l=none)
  (hval:X.flex=true->cb=true->∀ (a:Act) (w:World) (xs:Bytes) (Q:Exit->Act->World->Prop),AInv X a w xs->getT a p=.pointer (some ⟨bk,o,none⟩)->xs.length<=lim->(∀ a' w',AInv X a' w' xs->Same X a a' v (t+n+23)->V (getT a' (v+3)) w' (getT a' 1)->Q .normal a' w')->val.wp X.P Q a w)
  (hbody:X.flex=true->cb=true->CFrag X V (v+3) body (v+6) (t+n+31) c) :
  AFrag X (aKnSC X.I X.c S p f v t b l n cond val body ts) (fun a=>getT a p=.pointer (some ⟨bk,o,none⟩)) v t (wTagsB X.flex [if cb then some c else none] u):=by
 intro a w xs Q hi hp hlen hQ
 have h1:=hX.oneT
 have hver:=hX.ver1
 have hflex:=hX.flex1
 have hsz:=hi.size
 have hlim:lim=4294967295:=rfl
 have hmost:most=32767:=rfl
 unfold aKnSC
 refine wSq (wRg (ops_mv (oNi ?_)))
 simp only [Exit.then]
 generalize ha0:a.put (some t) (getT a X.c.flex)=a0
 have hi0:AInv X a0 w xs:=by rw [<- ha0];exact hi.put (by omega) (by omega) (by omega)
 have hg0:∀ s,s ≠ t->getT a0 s=getT a s:=fun s hs=>by rw [<- ha0,gTn hs]
 have e0:getT a0 t=.bool X.flex:=by rw [<- ha0,gTp (by omega)];exact hi.flex hn
 clear ha0
 refine wCd (t:=X.flex) (by rw [eTm];exact e0) ?_
 by_cases hf:X.flex=true
 ·rw [if_pos hf]
  have hT:=hu hf
  obtain ⟨-,hk,hk2,hk3,-⟩:=id hT
  have hz:=hno hf
  have hsrt:Sorted u:=by have:=(unknown_facts u).1;rw [hk] at this;exact this
  have hub:unkB u=u:=unkB_id hsrt hk2 hz
  have hout:wTagsB X.flex [if cb then some c else none] u=uvarint (kl cb+u.length) ++ (knOut cb c ++ u.flatMap wTag):=by
   rw [hf]
   cases cb with
   | true=>simp [wTagsB,hub,kl,knOut,List.append_assoc]
   | false=>simp [wTagsB,hub,kl,knOut]
  rw [hout] at hlen hQ
  have hc:cb=true->c.length < 4294967296:=fun h=>by
   subst h
   simp only [knOut,if_true,List.length_append] at hlen
   omega
  have hkl:kl cb<=1:=by unfold kl;split <;> omega
  have hul5:(uvarint (kl cb+u.length)).length<=5:=uvarint_len5 (by omega)
  obtain ⟨hus,⟨i32,hi32,hz32,hs32,hby32⟩,hsl⟩:=u32s_of hK.us
  rw [seqs_cons (by simp),seqs_cons (by simp),seqs_cons (by simp),seqs_cons (by simp)]
  simp only [seqs]
  refine wSq (wRg (oNo rfl (opw_assign (oNi ?_))))
  simp only [Exit.then,eCo]
  generalize ha1:a0.put (some v) (.slice none 0 0)=a1
  have hi1:AInv X a1 w xs:=by rw [<- ha1];exact hi0.put (by omega) (by omega) (by omega)
  have hz0:=hi0.size
  have hg1:∀ s,s ≠ v->s ≠ t->getT a1 s=getT a s:=fun s h1 h2=>by rw [<- ha1,gTn h1];exact hg0 s h2
  have e1:getT a1 v=.slice none 0 0:=by rw [<- ha1,gTp (by omega)]
  clear ha1
  refine wSq (wSq (hcond hf a1 w xs _ hi1 ((hg1 p (by omega) (by omega)).trans hp) (by simp;omega) fun a2 w2 hi2 hs2 e2=>?_))
  simp only [Exit.then]
  rw [List.append_nil] at hi2
  have hz2:=hi2.size
  have e21:getT a2 v=.slice none 0 0:=by rw [hs2 _ (by omega) (.inl (by omega))];exact e1
  have hg2:∀ s,s ≠ 1->s < v∨(X.T0<=s/\s < t)->getT a2 s=getT a s:=fun s h1 h2=>by rw [hs2 s h1 (by omega)];exact hg1 s (by omega) (by omega)
  have part2:∀ a3 w3,AInv X a3 w3 xs->Same X a a3 v t->TeAt w3 X.I.tU32 (getT a3 v) (getT a3 1) cb ->
    (SC.seq (.reg [mv (t+n+4) 1,mv (t+n+5) v,lenOp (t+n+6) X.I.tU32s (t+n+5),mv (t+n+7) p,nilc (t+n+8) (t+n+7),fa (t+n+9) S (t+n+8) f,cal (t+n+10) X.I.tagsLen [t+n+9],
   ⟨some (t+n+11),.binOp .add X.I.tInt (.tmp (t+n+6)) (.tmp (t+n+10)) X.I.tInt,none⟩,⟨some (t+n+12),.convert X.I.tInt X.I.tU32 (.tmp (t+n+11)),none⟩,cal (t+n+13) X.I.aUvar [t+n+4,t+n+12],asg 1 (t+n+13)])
   (.seq (aKnLoop X.I v (t+n+14) b (aKnScope X.I v (t+n+23) l val body ts) (ts+11))
   (.reg [mv (ts+12) p,nilc (ts+13) (ts+12),fa (ts+14) S (ts+13) f,mv (ts+15) 1,cal (ts+16) X.I.tagsEach [ts+14,ts+15],asg 1 (ts+16)]))).wp X.P Q a3 w3:=by
   intro a3 w3 hi3 hs3 hte
   have hz3:=hi3.size
   have hp3:getT a3 p=.pointer (some ⟨bk,o,none⟩):=(hs3 p hp1 (.inl hpv)).trans hp
   obtain ⟨base,cap,hteq⟩:=hte.slice
   obtain ⟨hfl,hcl⟩:=hX.ka.tagsLen hK.l0
   obtain ⟨hfe,hce⟩:=hX.ka.tagsEach hK.e0
   have hT3:=hTags_below hT hbB hi3.below
   refine wSq (wRg (ops_mv (ops_mv (ops_len hsl (base:=base) (len:=kl cb) (cap:=cap) (by rw [gTp (by simp only [sPu];omega),gTn (by omega)];exact hteq) (ops_mv (ops_nilc (ad:=⟨bk,o,none⟩) ?_ (ops_fa hS (b:=bk) (o:=o) (by rw [gTp (by simp only [sPu];omega)]) ?_)))))))
   ·rw [gTp (by simp only [sPu];omega),gTn (by omega),gTn (by omega),gTn (by omega)]
    exact hp3
   refine ops_cal hfl (R:=fun e w'=>e=.returned (.int .i64 u.length)/\w3=w') ?_ ?_
   ·have hcc:=hcl w3 (· < X.B) bk (o+off) u hT3
    refine Eq.mp (congrArg (fun z=>Calls X.P X.I.tagsLen z w3 _) ?_) hcc
    simp (disch:=(try simp only [sPu]);omega) [gTp]
   rintro e w' ⟨rfl,rfl⟩
   have hadd:IntKind.i64.wrap ((kl cb:Int)+(u.length:Int))=((kl cb+u.length:Nat):Int):=by
    rw [IntWalk.i64_in _ (by omega)];simp
   refine ⟨_,rfl,oNo rfl (opw_arith (op:=.add) (k:=.i64) (m:=(kl cb:Int)) (n:=(u.length:Int)) (r:=((kl cb+u.length:Nat):Int)) ?_ ?_ (.inl ⟨rfl,hadd.symm⟩) (oNo rfl (opw_convert hK.ti hK.tu (n:=((kl cb+u.length:Nat):Int)) ?_ ?_)))⟩
   ·simp (disch:=(try simp only [sPu]);omega) [eTm,gTp,gTn]
   ·simp (disch:=(try simp only [sPu]);omega) [eTm,gTp,gTn]
   ·rw [eTm,gTp (by simp only [sPu];omega)]
   refine oNo rfl (opw_ap2 (hX.ka.uvar2 hK.u0 (kl cb+u.length) (by omega)) (B:=X.B) (dv:=getT a3 1) (xs:=xs) ?_ hi3.own hi3.heap (by simp only [List.length_append] at hlen;omega) fun dv4 w4 ho4 hb4 hh4=>ops_asg (oNi ?_))
   ·have hwr:IntKind.u32.wrap ((kl cb:Int)+(u.length:Int))=(kl cb:Int)+(u.length:Int):=IntWalk.u32_in _ (by omega)
    simp (disch:=(try simp only [sPu]);omega) [eTm,gTp,gTn,hwr]
   simp only [Exit.then]
   generalize ha4:Act.put (Act.put (Act.put (Act.put (Act.put (Act.put (Act.put (Act.put (Act.put (Act.put (Act.put a3 _ _) _ _) _ _) _ _) _ _) _ _) _ _) _ _) _ _) _ _) (some 1) _=a4
   have hz4:a4.tmps.size=X.N:=by rw [<- ha4];simp only [sPu];exact hz3
   have hd4:a4.defers=[]:=by rw [<- ha4];simp only [dPu];exact hi3.defers
   have hg4:∀ s,s ≠ 1->s < t+n+4->getT a4 s=getT a3 s:=fun s h1 h2=>by
    rw [<- ha4]
    simp (disch:=(try simp only [sPu]);omega) [gTn]
   have e41:getT a4 1=dv4:=by
    rw [<- ha4]
    simp (disch:=(try simp only [sPu]);omega) [gTp]
   clear ha4
   have hi4:AInv X a4 w4 (xs ++ uvarint (kl cb+u.length)):=by
    refine ⟨hz4,hd4,?_,fun hn=>?_,?_,hi3.below.trans hb4.1,hh4⟩
    ·rw [hg4 _ (by omega) (by omega)];exact hi3.ver
    ·rw [hg4 _ (by omega) (by omega)];exact hi3.flex hn
    ·rw [e41];exact ho4
   have hs4:Same X a a4 v t:=fun s q1 q2=>(hg4 s q1 (by omega)).trans (hs3 s q1 q2)
   have hcl5:cb=true->(uvarint (kl cb+u.length)).length+c.length<=(uvarint (kl cb+u.length) ++ (knOut cb c ++ u.flatMap wTag)).length:=fun h=>by
    subst h
    simp only [knOut,if_true,List.length_append]
    omega
   refine wSq (knLoop_ok (pre:=fun a=>getT a p=.pointer (some ⟨bk,o,none⟩)) hX hK hV hlv hlf hv hvT (by omega) (by omega) (by omega) (stable_slot hpv hp1) hc hvl (hval hf) (hbody hf) a4 w4 _ _ hi4 ((hs4 p hp1 (.inl hpv)).trans hp) ?_ ?_ fun a5 w5 hi5 hs5=>?_)
   ·rw [hg4 _ (by omega) (by omega),e41]
    exact hte.stab hb4
   ·simp only [List.length_append] at hlen ⊢;omega
   simp only [Exit.then]
   have hz5:=hi5.size
   have hp5:getT a5 p=.pointer (some ⟨bk,o,none⟩):=(hs5 p hp1 (.inl hpv)).trans ((hs4 p hp1 (.inl hpv)).trans hp)
   have hT5:=hTags_below hT hbB hi5.below
   refine wRg (ops_mv (ops_nilc (ad:=⟨bk,o,none⟩) ?_ (ops_fa hS (b:=bk) (o:=o) (by rw [gTp (by simp only [sPu];omega)]) (ops_mv ?_))))
   ·rw [gTp (by omega)]
    exact hp5
   refine ops_cal hfe (R:=fun e w2=>∃ dv2,e=.returned dv2/\Own X.tU8 w2 X.B dv2 (((xs ++ uvarint (kl cb+u.length)) ++ knOut cb c) ++ u.flatMap wTag)/\BelG X.B (getT a5 1) dv2 w5 w2/\X.B<=w2.heap.size) ?_ ?_
   ·have hcc:=hce w5 X.B bk (o+off) u (getT a5 1) ((xs ++ uvarint (kl cb+u.length)) ++ knOut cb c) hT5 (by have:=hi5.heap;omega) (fun e=>by have:=(hi5.own.lt _ e).1;omega) hi5.own hi5.heap (by simp only [List.length_append] at hlen ⊢;omega)
    refine Eq.mp (congrArg (fun z=>Calls X.P X.I.tagsEach z w5 _) ?_) hcc
    simp (disch:=(try simp only [sPu]);omega) [gTp,gTn]
   rintro e w6 ⟨dv6,rfl,ho6,⟨hb6,-⟩,hh6⟩
   refine ⟨dv6,rfl,ops_asg (oNi ?_)⟩
   generalize ha6:Act.put (Act.put (Act.put (Act.put (Act.put (Act.put a5 _ _) _ _) _ _) _ _) _ _) (some 1) _=a6
   have hg6:∀ s,s ≠ 1->s < t->getT a6 s=getT a5 s:=fun s h1 h2=>by
    rw [<- ha6]
    simp (disch:=(try simp only [sPu]);omega) [gTn]
   have hs6:Same X a a6 v t:=fun s q1 q2=>by rw [hg6 s q1 (by omega),hs5 s q1 (by omega)];exact hs4 s q1 q2
   refine hQ a6 w6 ?_ hs6 trivial
   refine ⟨by rw [<- ha6];simp only [sPu];exact hz5,by rw [<- ha6];simp only [dPu];exact hi5.defers,?_,fun hn=>?_,?_,hi5.below.trans hb6,hh6⟩
   ·rw [hg6 _ (by omega) (by omega)];exact hi5.ver
   ·rw [hg6 _ (by omega) (by omega)];exact hi5.flex hn
   ·rw [<- ha6]
    simp (disch:=(try simp only [sPu]);omega) [gTp]
    simpa [List.append_assoc] using ho6
  refine wCd (t:=cb) (by rw [eTm];exact e2) ?_
  cases hcb:cb with
  | false =>
   rw [if_neg (by simp)]
   refine wSk ?_
   simp only [Exit.then]
   subst hcb
   exact part2 a2 w2 hi2 (fun s q1 q2=>hg2 s q1 q2) (by rw [e21];exact rfl)
  | true =>
   rw [if_pos rfl]
   subst hcb
   refine wRg (ops_mv (oNo rfl (opw_buildK (v:=.int .u32 0) hus hi32 hz32 hs32 rfl rfl (oNo rfl (opw_appendK (b:=w2.heap.size) (v:=.int .u32 0) hus hi32 hz32 rfl hs32 hby32 rfl ?_ ?_ ?_ rfl fun q cap cur w3 hq hrow hcur hbl=>ops_asg (oNi ?_))))))
   ·rw [eTm,gTn (by omega),gTp (by omega)];exact e21
   ·rw [eTm,gTp (by simp only [sPu];omega)]
   ·rw [cell_of_row _ _ _ _ _ _ (heap_alloc_new w2 _)];rfl
   simp only [Exit.then]
   have hsz3:(w2.alloc (.cells #[.int .u32 0] X.I.tU32)).heap.size=w2.heap.size+1:=by simp
   have hbl3:Below w2.heap.size w2 w3:=((Below.refl _ _).alloc (Nat.le_refl _) _).trans (hbl.mono (by omega))
   have ho3:Own X.tU8 w3 X.B (getT a2 1) xs:=by
    obtain ⟨q1,q2⟩:=hi2.own
    refine ⟨q1,q2.imp id fun ⟨g,cap,cur,r1,r2,r3,r4⟩=>⟨g,cap,cur,r1,r2,by rw [hbl3.block g (Array.getElem?_eq_some_iff.1 r3).1];exact r3,r4⟩⟩
   have hh2:=hi2.heap
   have hs3:=hbl3.size
   refine part2 _ w3 ?_ ?_ ?_
   ·refine (AInv.put ⟨?_,?_,?_,fun hn=>?_,?_,hi2.below.trans (hbl3.mono hh2),by omega⟩ (by omega) (by omega) (by omega))
    ·simp only [sPu];exact hz2
    ·simp only [dPu];exact hi2.defers
    ·rw [gTn (by omega),gTn (by omega),gTn (by omega)];exact hi2.ver
    ·rw [gTn (by omega),gTn (by omega),gTn (by omega)];exact hi2.flex hn
    ·rw [gTn (by omega),gTn (by omega),gTn (by omega)];exact ho3
   ·intro s q1 q2
    rw [gTn (by omega),gTn (by omega),gTn (by omega),gTn (by omega)]
    exact hg2 s q1 q2
   ·rw [gTp (by simp only [sPu];omega),gTp (by simp only [sPu];omega),gTn (by omega),gTn (by omega),gTn (by omega),gTn (by omega)]
    unfold TeAt
    rw [if_pos rfl]
    refine ⟨q,cap,cur,rfl,hrow,hcur,fun e=>?_⟩
    have:=(hi2.own.lt _ e).2
    omega
 ·rw [if_neg hf]
  have hf':X.flex=false:=by simpa using hf
  have hout:wTagsB X.flex [if cb then some c else none] u=[]:=by rw [hf'];cases cb <;> simp [wTagsB]
  rw [hout] at hlen hQ
  refine wSk (hQ _ _ (by rw [List.append_nil];exact hi0) (fun s q1 q2=>hg0 s (by omega)) trivial)
end
set_option maxHeartbeats 2000000
section
variable {X:Fix}
theorem AList.wp_append {pre:Act->Prop} {lo t:Nat} {l rest:List SC} {o:Bytes} {Q:Exit->Act->World->Prop} (hne:rest ≠ []) (h:AList X pre lo t l o) (hst:∀ a a',Same X a a' lo t->pre a->pre a') :
  ∀ (a:Act) (w:World) (xs:Bytes),AInv X a w xs->pre a->xs.length+o.length<=lim->(∀ a' w',AInv X a' w' (xs ++ o)->Same X a a' lo t->(seqs rest).wp X.P Q a' w')->(seqs (l ++ rest)).wp X.P Q a w:=by
 induction h with
 | nil =>
  intro a w xs hi hp hlen hQ
  exact hQ a w (by simpa using hi) (Same.refl _ _ _ _)
 | cons h1 _ ih =>
  intro a w xs hi hp hlen hQ
  rw [List.cons_append,seqs_cons (by simp [hne])]
  rw [List.length_append] at hlen
  refine wSq (h1 a w xs _ hi hp (by omega) ?_)
  intro a' w' hi' hs' _
  refine ih a' w' _ hi' (hst _ _ hs' hp) (by rw [List.length_append];omega) ?_
  intro a2 w2 hi2 hs2
  exact hQ a2 w2 (by rw [<- List.append_assoc];exact hi2) (hs'.trans hs2 (Nat.le_refl _) (Nat.le_refl _))
theorem AList.cfrag {x lo t:Nat} {l:List SC} {out:Bytes} {u:Value} (h:AList X (fun a=>getT a x=u) lo t l out) (hx:x < lo) (hx1:x ≠ 1):CFrag X (fun y _ _=>y=u) x l lo t out:=by
 intro a w xs Q rest hne hi hV hlen hQ
 refine h.wp_append hne (stable_slot hx hx1) a w xs hi hV hlen fun a' w' hi' hs'=>hQ a' w' hi' hs' ((hs' x hx1 (.inl hx)).trans hV)
theorem wList_ne {ver:Int} {T E sz:Nat} {of:Ty} {t:Tree} (hl:t.l.length<=most) :
  (wTy ver true (.list T E sz of) false t=[1]) ↔ t.l=[]:=by
 simp only [wTy,Bool.false_eq_true,if_false,List.take_of_length_le hl]
 constructor
 ·intro h
  cases hn:t.l with
  | nil=>rfl
  | cons x r =>
   exfalso
   rw [hn] at h
   simp only [counted,if_true,Bool.false_eq_true,if_false,List.length_cons] at h
   by_cases h1:r.length+1+1<=127
   ·rw [uvarint,dif_pos h1] at h
    simp only [List.cons_append,List.nil_append,List.cons.injEq] at h
    have:=congrArg UInt8.toNat h.1
    rw [UInt8.toNat_ofNat_of_lt' (by show _ < 256;omega)] at this
    simp at this
   ·rw [uvarint,dif_neg h1] at h
    simp only [List.cons_append,List.cons.injEq] at h
    have h2:uvarint ((r.length+1+1) / 128)=[]:=(List.append_eq_nil_iff.1 h.2).1
    have:0 < (uvarint ((r.length+1+1) / 128)).length:=by rw [uvarint];split <;> simp
    rw [h2] at this
    simp at this
 ·intro h
  rw [h]
  simp [counted,uvarint]
theorem aKnCondL_ok {S p t v bk o cap T E sz:Nat} {h:Hd} {n:Nat} {base:Option Addr} (hX:X.ok) (hK:KOk X) (hlv:X.c.ver < v) (hlf:X.c.flex < v) (hpv:p < v) (hp1:p ≠ 1) (hvT:v+6<=X.T0) (ht:X.T0<=t) (htN:t+7<=X.N) (hS:fieldB X.P S h.idx h.off=true) (hT:oneB X.P h.typ=true)
  (hsl:sliceB X.P T E sz=true) (hb:bk < X.B) (hc:X.w0.cell? ⟨bk,o+h.off,none⟩=some (.slice base n cap)) :
  AFragP X (aKnCondL X.I S p h T t) (fun a=>getT a p=.pointer (some ⟨bk,o,none⟩)) (fun a=>getT a (t+6)=.bool (decide (0 < n))) (v+1) (t+1) []:=by
 unfold aKnCondL
 refine AFragP.quiet hX (by omega) (by omega) fun a w xs K hi hp hk=>?_
 have hsz:=hi.size
 have hcw:w.cell? ⟨bk,o+h.off,none⟩=some (.slice base n cap):=by rw [hi.below.cell hb];exact hc
 have hN:=sliceN_of hsl
 refine ops_mv (ops_nilc (ad:=⟨bk,o,none⟩) (by rw [gTp (by omega)];exact hp) (ops_fa hS (b:=bk) (o:=o) (by rw [gTp (by simp only [sPu];omega)]) (ops_ld hT (ad:=⟨bk,o+h.off,none⟩) (by rw [gTp (by simp only [sPu];omega)]) hcw (ops_len hsl (by rw [gTp (by simp only [sPu];omega)]) ?_))))
 repeat (apply ops_1;(focus (simp (disch:=(try simp only [sPu]);omega) ;try rfl)))
 refine oNi (hk _ (by simp [sPu]) (by simp [dPu]) ?_ ?_ ?_)
 ·intro s hs1 hs2
  simp (disch:=omega) [gTn]
 ·have:=hX.oneT
  simp (disch:=omega) [gTn]
 ·simp (disch:=(try simp only [sPu]);omega)
end
set_option maxHeartbeats 4000000
theorem knChkS (I:Ids) (S p S' t:Nat) (h:Hd) (hp:p < t):chk [mv (t+1) p,nilc (t+2) (t+1),fa (t+3) S (t+2) h.idx,ld (t+4) S' (t+3),cal (t+5) I.kNew [],cal (t+6) I.kSame [t+4,t+5],⟨some (t+7),.unOp .not I.tBool (.tmp (t+6)),none⟩]
  [[],[0],[1],[2],[],[3,4,4],[5]] [(0,true),(1,true),(2,true),(3,true),(4,false),(5,false),(6,true)] (Array.replicate [[],[0],[1],[2],[],[3,4,4],[5]].length false)=true:=by
 have e1:∀ k,t+k ≠ p:=fun k=>by omega
 have e4:t ≠ p:=by omega
 have hr:List.range 7=[0,1,2,3,4,5,6]:=rfl
 simp [chk,sReady,sFree,sApart,sLooks,mv,nilc,fa,ld,cal,Op.operands,Call.operands,hr,List.filter,e1,fun k=>Ne.symm (e1 k),e4,Ne.symm e4]
section
variable {X:Fix}
theorem hTags_move {w0 w:World} {B b o g q:Nat} {u:List (Nat × Bytes)} (h:HTags X.G w0 (· < B) b o u) (hc:w.cell? ⟨g,q,none⟩=w0.cell? ⟨b,o,none⟩) (hb:Below B w0 w):HTags X.G w (· < B) g q u:=by
 obtain ⟨h0,h1,h2,h3,h4⟩:=h
 refine ⟨h0,h1,h2,h3,?_⟩
 rcases h4 with ⟨h4,h5⟩ | ⟨r,es,clock,h4,hr,h5,hne,h6,h6s,h7⟩
 ·exact .inl ⟨by rw [hc];exact h4,h5⟩
 ·refine .inr ⟨r,es,clock,by rw [hc];exact h4,hr,by rw [hb.block r hr];exact h5,hne,h6,h6s,?_⟩
  intro e he x hx hk
  obtain ⟨base,cap,q1,q2⟩:=h7 e he x hx hk
  exact ⟨base,cap,q1,bytesAt_below q2 hb⟩
theorem own_below {w w':World} {tU8 B:Nat} {dv:Value} {xs:Bytes} (h:Own tU8 w B dv xs) (hb:Below w.heap.size w w'):Own tU8 w' B dv xs:=by
 obtain ⟨q1,q2⟩:=h
 exact ⟨q1,q2.imp id fun ⟨g,cap,cur,r1,r2,r3,r4⟩=>⟨g,cap,cur,r1,r2,by rw [hb.block g (Array.getElem?_eq_some_iff.1 r3).1];exact r3,r4⟩⟩
theorem agg3 {P:Program} {T:Nat} (h:aggB P T 3=true):oneB P T=false/\aggN P T=some 3:=by
 unfold aggB at h
 unfold oneB aggN
 split at h <;> try (simp at h;done)
 ·rename_i i f hi hu
  simp at h
  simp [hi,hu,h]
 ·rename_i i n e hi hu
  simp at h
  simp [hi,hu,h]
theorem aKnCondS_ok {S p t v bk o S':Nat} {h:Hd} {x1 x2:Int} {m:Option Nat} (hX:X.ok) (hlv:X.c.ver < v) (hlf:X.c.flex < v) (hpv:p < v) (hp1:p ≠ 1) (hvT:v+6<=X.T0) (ht:X.T0<=t) (htN:t+8<=X.N) (hS:fieldB X.P S h.idx h.off=true) (hag:arrB X.P S' 3=true)
  (hb:bk < X.B) (c0:X.w0.cell? ⟨bk,o+h.off,none⟩=some (.int .i32 x1)) (c1:X.w0.cell? ⟨bk,o+h.off+1,none⟩=some (.int .i32 x2)) (c2:X.w0.cell? ⟨bk,o+h.off+1+1,none⟩=some (.map m)) (kn0:X.I.kNew ≠ 0) (ks0:X.I.kSame ≠ 0) :
  AFragP X (aKnCondS X.I S p h S' t) (fun a=>getT a p=.pointer (some ⟨bk,o,none⟩)) (fun a=>getT a (t+7)=.bool (!decide (x1=-1/\x2=-1/\m=none))) (v+1) (t+1) []:=by
 intro a w xs Q hi hp hlen hQ
 have hsz:=hi.size
 have h1:=hX.oneT
 obtain ⟨hag3,-⟩:=arr_of hag
 obtain ⟨ho,hn⟩:=agg3 hag3
 obtain ⟨oN,cN⟩:=hX.ka.kNew kn0
 obtain ⟨oS,cS⟩:=hX.ka.kSame ks0
 have hfo:=fieldOff_of hS
 have hw0:∀ j,w.drew.cell? ⟨bk,j,none⟩=X.w0.cell? ⟨bk,j,none⟩:=fun j=>(World.cell?_of_block (a:=⟨bk,j,none⟩) (w:=w) (w':=w.drew) rfl).trans (hi.below.cell hb)
 have d0:=(hw0 (o+h.off)).trans c0
 have d1:=(hw0 (o+h.off+1)).trans c1
 have d2:=(hw0 (o+h.off+1+1)).trans c2
 unfold aKnCondS
 refine wDr hX.mixed (Below X.B w.drew) [(0,true),(1,true),(2,true),(3,true),(4,false),(5,false),(6,true)] (by rfl) (knChkS X.I S p S' t h (by omega)) (by decide) (Below.refl _ _) ?_
 iterate 4 (apply dr_1;(focus rfl);(focus (simp (disch:=(try simp only [sPu]);omega) [hp,hfo,ho,hn,hb,rangeV,d0,d1,d2];try rfl)))
 obtain ⟨fN,n1,n2,n3⟩:=oN
 refine dreg_n rfl rfl (opw_call (R:=fun e w'=>e=.returned (.agg #[.int .i32 (-1),.int .i32 (-1),.map none])/\Below w.drew.heap.size w.drew w') n1 n2 n3 (by simpa using cN w.drew) ?_)
 rintro e w1 ⟨rfl,hb1⟩
 refine ⟨_,rfl,hb1.mono hi.heap,?_⟩
 obtain ⟨fS,n4,n5,n6⟩:=oS
 refine dreg_n rfl rfl (opw_call (R:=fun e w'=>e=.returned (.bool (decide (x1=-1/\x2=-1/\m=none)))/\Below w1.heap.size w1 w') n4 n5 n6 ?_ ?_)
 ·have hcc:=cS w1 x1 x2 m
  refine Eq.mp (congrArg (fun z=>Calls X.P X.I.kSame z w1 _) ?_) hcc
  simp (disch:=(try simp only [sPu]);omega) [eTm,gTp,gTn]
 rintro e w2 ⟨rfl,hb2⟩
 have hs1:=hb1.size
 have hb12:Below w.drew.heap.size w.drew w2:=hb1.trans (hb2.mono hs1)
 refine ⟨_,rfl,hb12.mono hi.heap,?_⟩
 iterate 1 (apply dr_1;(focus rfl);(focus (simp (disch:=(try simp only [sPu]);omega) ;try rfl)))
 refine dreg_nil ?_
 have hd:Below w.heap.size w w.drew:=⟨rfl,rfl,rfl,Nat.le_refl _,fun _ _=>rfl⟩
 have hbw:Below w.heap.size w w2:=hd.trans hb12
 have hh:=hi.heap
 have hs2:=hbw.size
 refine hQ _ _ ?_ ?_ ?_
 ·rw [List.append_nil]
  have hinv:AInv X a w2 xs:=⟨hi.size,hi.defers,hi.ver,hi.flex,own_below hi.own hbw,hi.below.trans (hbw.mono hh),by omega⟩
  refine ((((((hinv.put ?_ ?_ ?_).put ?_ ?_ ?_).put ?_ ?_ ?_).put ?_ ?_ ?_).put ?_ ?_ ?_).put ?_ ?_ ?_).put ?_ ?_ ?_ <;> omega
 ·intro s q1 q2
  simp (disch:=omega) [gTn]
 ·simp (disch:=(try simp only [sPu]);omega)
end
def V3 (S':Nat) (x1 x2:Int) (m:Option Nat):Value->World->Value->Prop:=fun x w dv=>∃ g,x=.pointer (some ⟨g,0,none⟩)/\w.heap[g]?=some (.cells #[.int .i32 x1,.int .i32 x2,.map m] S' (0,0))/\dv.ownBlock ≠ some g
section
variable {X:Fix}
theorem v3_ok (S':Nat) (x1 x2:Int) (m:Option Nat):VOk X (V3 S' x1 x2 m):=⟨by
 rintro x w w' dv dv' ⟨g,h1,h2,h3⟩ hb
 have hq:g < w.heap.size:=(Array.getElem?_eq_some_iff.1 h2).1
 refine ⟨g,h1,by rw [hb.2.1 g hq (Ne.symm h3)];exact h2,?_⟩
 rcases hb.2.2 with e | ⟨b,e,hle⟩
 ·rw [e];exact h3
 ·rw [e];intro e2;cases e2;omega⟩
theorem CFrag.one {V:Value->World->Value->Prop} {x lo t:Nat} {s:SC} {out:Bytes}
  (h:∀ (a:Act) (w:World) (xs:Bytes) (Q:Exit->Act->World->Prop),AInv X a w xs->V (getT a x) w (getT a 1)->xs.length+out.length<=lim->(∀ a' w',AInv X a' w' (xs ++ out)->Same X a a' lo t->V (getT a' x) w' (getT a' 1)->Q .normal a' w')->s.wp X.P Q a w):CFrag X V x [s] lo t out:=by
 intro a w xs Q rest hne hi hV hlen hQ
 rw [List.cons_append,List.nil_append,seqs_cons hne]
 exact wSq (h a w xs _ hi hV hlen fun a' w' h1 h2 h3=>hQ a' w' h1 h2 h3)
theorem CFrag.append {V:Value->World->Value->Prop} {x lo t lo2 t2:Nat} {l l2:List SC} {o1 o2:Bytes} (h:CFrag X V x l lo t o1) (h2:CFrag X V x l2 lo2 t2 o2) (hl:lo<=lo2) (ht:t<=t2):CFrag X V x (l ++ l2) lo t (o1 ++ o2):=by
 intro a w xs Q rest hne hi hV hlen hQ
 rw [List.append_assoc]
 rw [List.length_append] at hlen
 refine h a w xs Q (l2 ++ rest) (by simp [hne]) hi hV (by omega) fun a' w' hi' hs' hV'=>?_
 refine h2 a' w' _ Q rest hne hi' hV' (by rw [List.length_append];omega) fun a2 w2 hi2 hs2 hV2=>?_
 exact hQ a2 w2 (by rw [<- List.append_assoc];exact hi2) (hs'.trans hs2 hl ht) hV2
theorem flatNum_ok {S' x v t idx typ j:Nat} {x1 x2:Int} {m:Option Nat} {n:Int} (hX:X.ok) (hlv:X.c.ver < v) (hlf:X.c.flex < v) (hxv:x < v) (hx1:x ≠ 1) (hv1:1 < v) (hvT:v < X.T0) (ht:X.T0<=t) (htN:t+5<=X.N) (hS:fieldB X.P S' idx j=true) (hT:oneB X.P typ=true) (hi0:X.I.aI32 ≠ 0)
  (hn:#[Value.int .i32 x1,.int .i32 x2,.map m][j]?=some (.int .i32 n)) :
  CFrag X (V3 S' x1 x2 m) x [.seq (.reg [fa t S' x idx,ld (t+1) typ t,asg v (t+1)]) (aCall X.I.aI32 v (t+2))] v t (fixed n 4):=by
 refine CFrag.one fun a w xs Q hi hV hlen hQ=>?_
 have hsz:=hi.size
 have h1:=hX.oneT
 have hver:=hX.ver1
 have hflex:=hX.flex1
 obtain ⟨g,hx,hrow,hne⟩:=id hV
 refine wSq (wRg (ops_fa hS (b:=g) (o:=0) hx (ops_ld hT (ad:=⟨g,0+j,none⟩) (v:=.int .i32 n) (by rw [gTp (by omega)]) (by rw [Nat.zero_add,cell_of_row _ _ _ _ _ _ hrow];exact hn) (ops_asg (oNi ?_)))))
 simp only [Exit.then]
 unfold aCall
 refine wRg (ops_mv (ops_mv (oNo rfl (opw_ap2 (hX.ka.i32b hi0 n) (B:=X.B) (dv:=getT a 1) (xs:=xs) ?_ hi.own hi.heap hlen fun dv' w' ho hb hh=>ops_asg (oNi ?_)))))
 ·simp (disch:=(try simp only [sPu]);omega) [eTm,gTp,gTn]
 generalize ha6:Act.put (Act.put (Act.put (Act.put (Act.put (Act.put (Act.put a _ _) _ _) _ _) _ _) _ _) _ _) (some 1) _=a6
 have hg6:∀ s,s ≠ 1->s ≠ v->s < t->getT a6 s=getT a s:=fun s h1 h2 h3=>by
  rw [<- ha6]
  simp (disch:=(try simp only [sPu]);omega) [gTn]
 have e1:getT a6 1=dv':=by
  rw [<- ha6]
  simp (disch:=(try simp only [sPu]);omega) [gTp]
 refine hQ a6 w' ⟨by rw [<- ha6];simp only [sPu];exact hsz,by rw [<- ha6];simp only [dPu];exact hi.defers,?_,fun hn=>?_,by rw [e1];exact ho,hi.below.trans hb.1,hh⟩ ?_ ?_
 ·rw [hg6 _ (by omega) (by omega) (by omega)];exact hi.ver
 ·rw [hg6 _ (by omega) (by omega) (by omega)];exact hi.flex hn
 ·intro s q1 q2
  exact hg6 s q1 (by omega) (by omega)
 ·rw [hg6 x hx1 (by omega) (by omega),e1]
  exact (v3_ok (X:=X) S' x1 x2 m).stab _ _ _ _ _ hV hb
theorem flatTags_ok {S' x v t f bk o:Nat} {x1 x2:Int} {m:Option Nat} {u:List (Nat × Bytes)} (hX:X.ok) (hK:KOk X) (hlv:X.c.ver < v) (hlf:X.c.flex < v) (hxv:x < v) (hx1:x ≠ 1) (hv1:1 < v) (hvT:v<=X.T0) (ht:X.T0<=t) (htN:t+10<=X.N) (hn:X.c.never=false) (hf:X.flex=true) (hS:fieldB X.P S' f 2=true)
  (hu:HTags X.G X.w0 (· < X.B) bk o u) (hc:X.w0.cell? ⟨bk,o,none⟩=some (.map m)) :
  CFrag X (V3 S' x1 x2 m) x [aFlatTags X.I X.c S' x f t] v t (wTags true u):=by
 refine CFrag.one fun a w xs Q hi hV hlen hQ=>?_
 have hsz:=hi.size
 have h1:=hX.oneT
 have hver:=hX.ver1
 have hflex:=hX.flex1
 have hmost:most=32767:=rfl
 obtain ⟨-,hk,hk2,hk3,-⟩:=id hu
 have hout:wTags true u=uvarint u.length ++ u.flatMap wTag:=by simp [wTags,hk]
 rw [hout] at hlen hQ
 obtain ⟨hfl,hcl⟩:=hX.ka.tagsLen hK.l0
 obtain ⟨hfe,hce⟩:=hX.ka.tagsEach hK.e0
 unfold aFlatTags
 refine wSq (wRg (ops_mv (oNi ?_)))
 simp only [Exit.then]
 generalize ha0:a.put (some t) (getT a X.c.flex)=a0
 have hi0:AInv X a0 w xs:=by rw [<- ha0];exact hi.put (by omega) (by omega) (by omega)
 have hg0:∀ s,s ≠ t->getT a0 s=getT a s:=fun s hs=>by rw [<- ha0,gTn hs]
 have e0:getT a0 t=.bool true:=by rw [<- ha0,gTp (by omega)];rw [hi.flex hn,hf]
 clear ha0
 have hz0:=hi0.size
 refine wCd (t:=true) (by rw [eTm];exact e0) ?_
 rw [if_pos rfl]
 obtain ⟨g,hx,hrow,hne⟩:=id hV
 have hT:HTags X.G w (· < X.B) g (0+2) u:=hTags_move hu (by rw [hc,cell_of_row _ _ _ _ _ _ hrow];rfl) hi.below
 have hx0:getT a0 x=.pointer (some ⟨g,0,none⟩):=(hg0 x (by omega)).trans hx
 refine wSq (wRg (ops_mv (ops_fa hS (b:=g) (o:=0) (by rw [gTn (by omega)];exact hx0) ?_)))
 refine ops_cal hfl (R:=fun e w'=>e=.returned (.int .i64 u.length)/\w=w') ?_ ?_
 ·have hcc:=hcl w (· < X.B) g (0+2) u hT
  refine Eq.mp (congrArg (fun z=>Calls X.P X.I.tagsLen z w _) ?_) hcc
  simp (disch:=(try simp only [sPu]);omega) [gTp]
 rintro e w' ⟨rfl,rfl⟩
 refine ⟨_,rfl,oNo rfl (opw_convert hK.ti hK.tu (n:=(u.length:Int)) (by simp (disch:=(try simp only [sPu]);omega) [eTm,gTp]) (oNo rfl (opw_arith (op:=.add) (k:=.u32) (m:=0) (n:=(u.length:Int)) (r:=(u.length:Int)) rfl ?_ (.inl ⟨rfl,?_⟩) ?_)))⟩
 ·rw [eTm,gTp (by simp only [sPu];omega),IntWalk.u32_in _ (by omega)]
 ·rw [IntWalk.u32_in _ (by omega)]
  simp
 refine oNo rfl (opw_ap2 (hX.ka.uvar2 hK.u0 u.length (by omega)) (B:=X.B) (dv:=getT a 1) (xs:=xs) ?_ hi.own hi.heap (by simp only [List.length_append] at hlen;omega) fun dv' w' ho hb hh=>ops_asg (oNi ?_))
 ·simp (disch:=(try simp only [sPu]);omega) [eTm,gTp,gTn,hg0]
 simp only [Exit.then]
 generalize ha4:Act.put (Act.put (Act.put (Act.put (Act.put (Act.put (Act.put a0 _ _) _ _) _ _) _ _) _ _) _ _) (some 1) _=a4
 have hz4:a4.tmps.size=X.N:=by rw [<- ha4];simp only [sPu];exact hz0
 have hg4:∀ s,s ≠ 1->s < t->getT a4 s=getT a s:=fun s h1 h2=>by
  rw [<- ha4]
  simp (disch:=(try simp only [sPu]);omega) [gTn]
  exact hg0 s (by omega)
 have e41:getT a4 1=dv':=by
  rw [<- ha4]
  simp (disch:=(try simp only [sPu]);omega) [gTp]
 have hd4:a4.defers=[]:=by rw [<- ha4];simp only [dPu];exact hi0.defers
 clear ha4
 have hV4:V3 S' x1 x2 m (getT a x) w' dv':=(v3_ok (X:=X) S' x1 x2 m).stab _ _ _ _ _ hV hb
 obtain ⟨g4,hx4,hrow4,hne4⟩:=id hV4
 rw [hx] at hx4
 cases hx4
 have hT4:HTags X.G w' (· < X.B) g (0+2) u:=hTags_move hu (by rw [hc,cell_of_row _ _ _ _ _ _ hrow4];rfl) (hi.below.trans hb.1)
 refine wRg (ops_fa hS (b:=g) (o:=0) (by rw [hg4 x hx1 (by omega)];exact hx) (ops_mv ?_))
 refine ops_cal hfe (R:=fun e w2=>∃ dv2,e=.returned dv2/\Own X.tU8 w2 X.B dv2 ((xs ++ uvarint u.length) ++ u.flatMap wTag)/\BelG X.B dv' dv2 w' w2/\X.B<=w2.heap.size) ?_ ?_
 ·have hcc:=hce w' X.B g (0+2) u dv' (xs ++ uvarint u.length) hT4 (Array.getElem?_eq_some_iff.1 hrow4).1 hne4 ho hh (by simp only [List.length_append] at hlen ⊢;omega)
  refine Eq.mp (congrArg (fun z=>Calls X.P X.I.tagsEach z w' _) ?_) hcc
  simp (disch:=(try simp only [sPu]);omega) [gTp,gTn,e41]
 rintro e w2 ⟨dv2,rfl,ho2,hb2,hh2⟩
 refine ⟨dv2,rfl,ops_asg (oNi ?_)⟩
 generalize ha6:Act.put (Act.put (Act.put (Act.put a4 _ _) _ _) _ _) (some 1) _=a6
 have hg6:∀ s,s ≠ 1->s < t->getT a6 s=getT a s:=fun s h1 h2=>by
  rw [<- ha6]
  simp (disch:=(try simp only [sPu]);omega) [gTn]
  exact hg4 s h1 h2
 have e61:getT a6 1=dv2:=by
  rw [<- ha6]
  simp (disch:=(try simp only [sPu]);omega) [gTp]
 refine hQ a6 w2 ⟨by rw [<- ha6];simp only [sPu];exact hz4,by rw [<- ha6];simp only [dPu];exact hd4,?_,fun hn=>?_,by rw [e61,<- List.append_assoc];exact ho2,(hi.below.trans hb.1).trans hb2.1,hh2⟩ ?_ ?_
 ·rw [hg6 _ (by omega) (by omega)];exact hi.ver
 ·rw [hg6 _ (by omega) (by omega)];exact hi.flex hn
 ·intro s q1 q2
  exact hg6 s q1 (by omega)
 ·rw [hg6 x hx1 (by omega),e61]
  exact (v3_ok (X:=X) S' x1 x2 m).stab _ _ _ _ _ hV4 hb2
theorem aKnLoadS_ok {S p t v bk o S':Nat} {h:Hd} {x1 x2:Int} {m:Option Nat} (hX:X.ok) (hlv:X.c.ver < v) (hlf:X.c.flex < v) (hpv:p < v) (hp1:p ≠ 1) (hv1:1 < v) (hvT:v+6<=X.T0) (ht:X.T0<=t) (htN:t+4<=X.N) (hS:fieldB X.P S h.idx h.off=true) (hag:arrB X.P S' 3=true)
  (hb:bk < X.B) (c0:X.w0.cell? ⟨bk,o+h.off,none⟩=some (.int .i32 x1)) (c1:X.w0.cell? ⟨bk,o+h.off+1,none⟩=some (.int .i32 x2)) (c2:X.w0.cell? ⟨bk,o+h.off+1+1,none⟩=some (.map m))
  (a:Act) (w:World) (xs:Bytes) (Q:Exit->Act->World->Prop) (hi:AInv X a w xs) (hp:getT a p=.pointer (some ⟨bk,o,none⟩))
  (hQ:∀ a' w',AInv X a' w' xs->Same X a a' v t->V3 S' x1 x2 m (getT a' (v+3)) w' (getT a' 1)->Q .normal a' w'):(aKnLoadS S p h S' (v+3) t).wp X.P Q a w:=by
 have hsz:=hi.size
 have h1:=hX.oneT
 have hver:=hX.ver1
 have hflex:=hX.flex1
 obtain ⟨hagg,i,z,hinf,hz,hzs⟩:=arr_of hag
 unfold aKnLoadS
 have hcs:([Value.int .i32 x1,.int .i32 x2,.map m]:List Value).length=3:=rfl
 refine wRg (ops_mv (ops_nilc (ad:=⟨bk,o,none⟩) (by rw [gTp (by omega)];exact hp) (ops_fa hS (b:=bk) (o:=o) (by rw [gTp (by simp only [sPu];omega)]) ?_)))
 refine oNo rfl (opw_load_agg (cs:=[.int .i32 x1,.int .i32 x2,.map m]) (b:=bk) (o:=o+h.off) (by rw [hcs];exact hagg) (by rw [eTm,gTp (by simp only [sPu];omega)]) ?_ (oNo rfl (opw_alloc hinf hz (oNo rfl ?_))))
 ·intro j u hu
  rw [hi.below.cell hb]
  match j with
  | 0=>simp at hu;subst hu;exact c0
  | 1=>simp at hu;subst hu;exact c1
  | 2=>simp at hu;subst hu;exact c2
  | j+3=>simp at hu
 refine opw_store_agg (b:=w.heap.size) (E:=S') (cur:=z.cells) (cs:=[.int .i32 x1,.int .i32 x2,.map m]) (by rw [hcs];exact hagg) ?_ ?_ (heap_alloc_new w _) (by rw [hcs];exact hzs) ?_ (oNi ?_)
 ·rw [eTm,gTp (by simp only [sPu];omega)]
 ·rw [eTm,gTn (by omega),gTp (by simp only [sPu];omega)]
 ·intro v hv
  simp at hv
  rcases hv with rfl | rfl | rfl <;> rfl
 generalize hw1:(w.alloc (.cells z.cells S')).setRow w.heap.size [Value.int .i32 x1,.int .i32 x2,.map m].toArray=w1
 have hrow:w1.heap[w.heap.size]?=some (.cells #[.int .i32 x1,.int .i32 x2,.map m] S' (0,0)):=by
  rw [<- hw1]
  exact setRow_heap _ _ _ _ _ _ (heap_alloc_new w _)
 have hold:∀ k,k < w.heap.size->w1.heap[k]?=w.heap[k]?:=by
  intro k hk
  rw [<- hw1,setRow_other _ _ _ _ (by omega)]
  exact Below.heap_alloc _ _ _ hk
 have hbel:Below w.heap.size w w1:=⟨by rw [<- hw1];rfl,by rw [<- hw1];rfl,by rw [<- hw1];rfl,by rw [<- hw1];simp,hold⟩
 have hheap:=hi.heap
 have hs1:=hbel.size
 rw [pNo]
 refine hQ _ w1 ?_ ?_ ⟨w.heap.size,?_,hrow,?_⟩
 ·have hinv:AInv X a w1 xs:=⟨hi.size,hi.defers,hi.ver,hi.flex,own_below hi.own hbel,hi.below.trans (hbel.mono hheap),by omega⟩
  refine ((((hinv.put ?_ ?_ ?_).put ?_ ?_ ?_).put ?_ ?_ ?_).put ?_ ?_ ?_).put ?_ ?_ ?_ <;> omega
 ·intro s q1 q2
  simp (disch:=omega) [gTn]
 ·rw [gTp (by simp only [sPu];omega)]
 ·intro e
  simp (disch:=omega) [gTn] at e
  have:=(hi.own.lt _ e).2
  omega
end
end Go.Proofs.YtdnpafdgglpagaaGreatDoor.K
namespace Go.Proofs.YtdnpafdgglpagaaGreatDoor.K
open Go Go.RowKit Go.Proofs.YtdnpafdgglpagaaGreatDoor.T
set_option linter.unusedSimpArgs false
set_option linter.unusedVariables false
set_option maxHeartbeats 4000000
theorem wTagsB_no (x:Option Bytes) (u:List (Nat × Bytes)):wTagsB false [x] u=[]:=by cases x <;> simp [wTagsB]
theorem flat2_of {P:Program} {S:Nat} {fs:Fs} (h:flat2 P S fs=true):∃ h1 h2:Hd,fs=.cons h1 (.prim .i32) (.cons h2 (.prim .i32) .nil)/\fieldB P S h1.idx 0=true/\fieldB P S h2.idx 1=true/\oneB P h1.typ=true/\oneB P h2.typ=true/\h1.off=0/\h2.off=1 /\
  (h1.from_=0/\h1.to < 0/\h1.null < 0/\h1.dflt=-1)/\(h2.from_=0/\h2.to < 0/\h2.null < 0/\h2.dflt=-1):=by
 unfold flat2 at h
 split at h <;> try (simp at h;done)
 rename_i h1 h2
 simp only [Bool.and_eq_true,beq_iff_eq,decide_eq_true_eq] at h
 obtain ⟨⟨⟨⟨⟨⟨⟨q1,q2⟩,q3⟩,q4⟩,q5⟩,q6⟩,q7⟩,q8⟩:=h
 rw [q5] at q1
 rw [q6] at q2
 exact ⟨h1,h2,rfl,q1,q2,q3,q4,q5,q6,⟨q7.1,q7.2.1,q7.2.2.1,q7.2.2.2.1⟩,⟨q8.1,q8.2.1,q8.2.2.1,q8.2.2.2.1⟩⟩
theorem fixed4_inj {a b:Int} (ha:-2147483648<=a/\a < 2147483648) (hb:-2147483648<=b/\b < 2147483648) (h:fixed a 4=fixed b 4):a=b:=by
 have hm:∀ x y:Int,T.byteOf x=T.byteOf y->x % 256=y % 256:=fun x y e=>by
  unfold T.byteOf at e
  have:=congrArg UInt8.toNat e
  have h1:0<=x % 256/\x % 256 < 256:=⟨Int.emod_nonneg _ (by decide),Int.emod_lt_of_pos _ (by decide)⟩
  have h2:0<=y % 256/\y % 256 < 256:=⟨Int.emod_nonneg _ (by decide),Int.emod_lt_of_pos _ (by decide)⟩
  rw [UInt8.toNat_ofNat_of_lt' (by show (x % 256).toNat < 256;omega),UInt8.toNat_ofNat_of_lt' (by show (y % 256).toNat < 256;omega)] at this
  omega
 simp only [fixed,List.cons.injEq,and_true] at h
 obtain ⟨q1,q2,q3,q4⟩:=h
 have e1:=hm _ _ q1
 have e2:=hm _ _ q2
 have e3:=hm _ _ q3
 have e4:=hm _ _ q4
 simp only [show (256:Int) ^ 3=16777216 from rfl,show (256:Int) ^ 2=65536 from rfl,show (256:Int) ^ 1=256 from rfl,show (256:Int) ^ 0=1 from rfl] at e1 e2 e3 e4
 omega
section
variable {X:Fix}
def TagsAt (G:List (Nat × Bytes)->Prop) (w:World) (F:Nat->Prop) (flex:Bool) (b o:Nat) (tags:Option (Nat × Nat)) (u:List (Nat × Bytes)):Prop :=
 match tags with | none=>u=[] | some (_,off)=>flex=true->HTags G w F b (o+off) u
theorem kOk_of {tags:Option (Nat × Nat)} {f off S:Nat} (h:okTags X.P X.I X.c S (some (f,off))=true) (h1:u32sB X.P X.I.tU32s X.I.tU32=true) (h2:oneB X.P X.I.tU32=true) (h3:u8sB X.P X.I.tU8s X.tU8=true):KOk X/\X.c.never=false/\fieldB X.P S f off=true:=by
 simp only [okTags,Bool.and_eq_true,Bool.not_eq_true',bne_iff_ne,ne_eq] at h
 obtain ⟨⟨⟨⟨⟨⟨hn,hS⟩,hI⟩,hU⟩,hl0⟩,he0⟩,hu0⟩:=h
 obtain ⟨hu,i,hi,hz,hs,hb⟩:=u8s_of h3
 exact ⟨⟨by simp [sliceB,hu,hi,hs],hI,hU,hu0,h2,h1,hl0,he0⟩,hn,hS⟩
theorem aKnList_ok {S p f off v t b l ts bk o cap T E sz n:Nat} {h:Hd} {base:Option Addr} {u:List (Nat × Bytes)} {body:List SC} {c:Bytes} (hX:X.ok) (hK:KOk X) (hlv:X.c.ver < v) (hlf:X.c.flex < v) (hpv:p < v) (hp1:p ≠ 1) (hv:1 < v) (hvT:v+6<=X.T0) (ht:X.T0<=t) (hts:t+37<=ts) (htsN:ts+17<=X.N) (hn:X.c.never=false)
  (hS:fieldB X.P S f off=true) (hbB:bk < X.B) (hu:X.flex=true->HTags X.G X.w0 (· < X.B) bk (o+off) u) (hno:X.flex=true->∀ x ∈ u,1<=x.1)
  (hSk:fieldB X.P S h.idx h.off=true) (hT:oneB X.P h.typ=true) (hsl:sliceB X.P T E sz=true) (hcell:X.flex=true->X.w0.cell? ⟨bk,o+h.off,none⟩=some (.slice base n cap))
  (hbody:X.flex=true->AList X (fun a=>getT a (v+3)=.slice base n cap) (v+6) (t+37) body c) :
  AFrag X (aKnSC X.I X.c S p f v t b l 6 (aKnCondL X.I S p h T t) (aLoad S p h.idx h.typ (v+3) (t+29)) body ts) (fun a=>getT a p=.pointer (some ⟨bk,o,none⟩)) v t (wTagsB X.flex [if decide (0 < n) then some c else none] u):=by
 refine aKnSC_ok (V:=fun y _ _=>y=.slice base n cap) hX hK ⟨fun _ _ _ _ _ h _=>h⟩ hlv hlf hpv hp1 hv hvT ht (by omega) (by omega) htsN hn hS hbB hu hno (fun hf=>?_) (fun l=>rfl) (fun hf _=>?_) (fun hf _=>?_)
 ·exact aKnCondL_ok hX hK hlv hlf hpv hp1 hvT ht (by omega) hSk hT hsl hbB (hcell hf)
 ·intro a w xs Q hi hp hlen hQ
  have hl:=aLoad_ok (X:=X) (S:=S) (p:=p) (f:=h.idx) (T:=h.typ) (v:=v+3) (t:=t+29) (off:=h.off) (b:=bk) (o:=o) (lo:=v) hX (by omega) hlv hlf (by omega) (by omega) (by omega) (by omega) hSk hT hbB (hcell hf)
  exact hl a w xs Q hi hp (by simpa using hlen) fun a' w' hi' hs' hq=>hQ a' w' (by simpa using hi') hs' hq
 ·exact (hbody hf).cfrag (by omega) (by omega)
theorem aKnStruct_ok {S p f off v t b l bk o S' f':Nat} {h h1 h2:Hd} {x1 x2:Int} {m:Option Nat} {u u':List (Nat × Bytes)} (hX:X.ok) (hK:KOk X) (hlv:X.c.ver < v) (hlf:X.c.flex < v) (hpv:p < v) (hp1:p ≠ 1) (hv:1 < v) (hvT:v+8<=X.T0) (ht:X.T0<=t) (htsN:t+75<=X.N) (hn:X.c.never=false)
  (hS:fieldB X.P S f off=true) (hbB:bk < X.B) (hu:X.flex=true->HTags X.G X.w0 (· < X.B) bk (o+off) u) (hno:X.flex=true->∀ x ∈ u,1<=x.1)
  (hSk:fieldB X.P S h.idx h.off=true) (hag:arrB X.P S' 3=true) (kn0:X.I.kNew ≠ 0) (ks0:X.I.kSame ≠ 0) (hi0:X.I.aI32 ≠ 0)
  (s1:fieldB X.P S' h1.idx 0=true) (s2:fieldB X.P S' h2.idx 1=true) (o1:oneB X.P h1.typ=true) (o2:oneB X.P h2.typ=true) (s3:fieldB X.P S' f' 2=true)
  (c0:X.flex=true->X.w0.cell? ⟨bk,o+h.off,none⟩=some (.int .i32 x1)) (c1:X.flex=true->X.w0.cell? ⟨bk,o+h.off+1,none⟩=some (.int .i32 x2)) (c2:X.flex=true->X.w0.cell? ⟨bk,o+h.off+1+1,none⟩=some (.map m))
  (hu':X.flex=true->HTags X.G X.w0 (· < X.B) bk (o+h.off+1+1) u') :
  AFrag X (aKnSC X.I X.c S p f v t b l 7 (aKnCondS X.I S p h S' t) (aKnLoadS S p h S' (v+3) (t+30)) (aFlat X.I S' (v+3) (v+6) (t+38) (.cons h1 (.prim .i32) (.cons h2 (.prim .i32) .nil)) ++ [aFlatTags X.I X.c S' (v+3) f' (t+48)]) (t+58))
   (fun a=>getT a p=.pointer (some ⟨bk,o,none⟩)) v t (wTagsB X.flex [if !decide (x1=-1/\x2=-1/\m=none) then some ((fixed x1 4 ++ fixed x2 4) ++ wTags true u') else none] u):=by
 refine aKnSC_ok (V:=V3 S' x1 x2 m) hX hK (v3_ok S' x1 x2 m) hlv hlf hpv hp1 hv (by omega) ht (by omega) (by omega) (by omega) hn hS hbB hu hno (fun hf=>?_) (fun l=>rfl) (fun hf _=>?_) (fun hf _=>?_)
 ·exact aKnCondS_ok hX hlv hlf hpv hp1 (by omega) ht (by omega) hSk hag hbB (c0 hf) (c1 hf) (c2 hf) kn0 ks0
 ·intro a w xs Q hi hp _ hQ
  exact aKnLoadS_ok hX hlv hlf hpv hp1 hv (by omega) (by omega) (by omega) hSk hag hbB (c0 hf) (c1 hf) (c2 hf) a w xs Q hi hp hQ
 ·have a1:=flatNum_ok (X:=X) (S':=S') (x:=v+3) (v:=v+6) (t:=t+38) (idx:=h1.idx) (typ:=h1.typ) (j:=0) (x1:=x1) (x2:=x2) (m:=m) (n:=x1) hX (by omega) (by omega) (by omega) (by omega) (by omega) (by omega) (by omega) (by omega) s1 o1 hi0 rfl
  have a2:=flatNum_ok (X:=X) (S':=S') (x:=v+3) (v:=v+7) (t:=t+43) (idx:=h2.idx) (typ:=h2.typ) (j:=1) (x1:=x1) (x2:=x2) (m:=m) (n:=x2) hX (by omega) (by omega) (by omega) (by omega) (by omega) (by omega) (by omega) (by omega) s2 o2 hi0 rfl
  have a3:=flatTags_ok (X:=X) (S':=S') (x:=v+3) (v:=v+6) (t:=t+48) (f:=f') (x1:=x1) (x2:=x2) hX hK (by omega) (by omega) (by omega) (by omega) (by omega) (by omega) (by omega) (by omega) hn hf s3 (hu' hf) (c2 hf)
  exact (a1.append a2 (by omega) (by omega)).append a3 (by omega) (by omega)
end
end Go.Proofs.YtdnpafdgglpagaaGreatDoor.K
namespace Go.Proofs.YtdnpafdgglpagaaGreatDoor.K
open Go Go.RowKit Go.Proofs.YtdnpafdgglpagaaGreatDoor.T
attribute [local simp] eTm eCo pNo gTp gTn qv qcall vop iop
set_option linter.unusedVariables false
set_option linter.unusedSimpArgs false
section
variable {X:Fix}
theorem getElem?_map_flatten {α:Type} (l:List α) (f:α->Bytes):(l.map f).flatten=l.flatMap f:=by simp [List.flatMap]
theorem AFragP.keep {x:SC} {pre post:Act->Prop} {lo t:Nat} {o:Bytes} (h:AFragP X x pre post lo t o) (hst:∀ a a',Same X a a' lo t->pre a->pre a'):AFragP X x pre (fun a=>pre a/\post a) lo t o :=
 fun a w xs Q hi hp hlen hQ=>h a w xs Q hi hp hlen fun a' w' h1 h2 h3=>hQ a' w' h1 h2 ⟨hst _ _ h2 hp,h3⟩
theorem aElem_ne (I:Ids) (c:Ctx) (T E s i v t b:Nat) (ty:Ty):aElem I c T E s i v t b ty ≠ []:=by
 cases ty <;> simp [aElem]
 split <;> simp
theorem aTagsL_ok {S p t b o lo:Nat} {tags:Option (Nat × Nat)} {u:List (Nat × Bytes)} (hX:X.ok) (hlo:lo<=X.T0) (hlv:X.c.ver < lo) (hlf:X.c.flex < lo) (hp:p < lo) (hp1:p ≠ 1) (ht:X.T0<=t) (htN:t+tagsT tags<=X.N) (hb:b < X.B)
  (hok:okTags X.P X.I X.c S tags=true) (hu:TagsAt X.G X.w0 (· < X.B) X.flex b o tags u) :
  AList X (fun a=>getT a p=.pointer (some ⟨b,o,none⟩)) lo t (aTagsL X.I X.c S p tags t) (wTags X.flex u):=by
 cases tags with
 | none =>
  have hf:=hX.never hok
  have e:wTags X.flex u=[]:=by simp [wTags,hf]
  rw [e]
  exact .nil
 | some x =>
  obtain ⟨f,off⟩:=x
  simp only [tagsT,Option.isSome_some,if_true,aTagsT] at htN
  have h:=aTags_ok (X:=X) (S:=S) (p:=p) (f:=f) (off:=off) (t:=t) (b:=b) (o:=o) (lo:=lo) (u:=u) hX hlo hlv hlf hp hp1 ht (by omega) hb hok hu
  have:=AList.cons h (AList.nil (X:=X) (pre:=fun a=>getT a p=.pointer (some ⟨b,o,none⟩)) (lo:=lo) (t:=t))
  simpa [aTagsL] using this
mutual
theorem aVal_ok (hX:X.ok):∀ (ty:Ty) (S p:Nat) (h:Hd) (v t bk b o:Nat) (tr:Tree),okVal X.P X.I X.c X.tU8 h ty=true->fieldB X.P S h.idx h.off=true->(h.null < 0∨h.null<=X.ver) ->
  HTy X.G X.w0 (· < X.B) X.ver X.flex ty (decide (0<=h.null)) b (o+h.off) tr->b < X.B->p < v->p ≠ 1->X.c.ver < v->X.c.flex < v->2<=v->v+nV ty+(if h.enum then 1 else 0)<=X.T0->X.T0<=t->t+aVT X.c h ty<=X.N ->
  AFrag X (aVal X.I X.c S p h v t bk ty) (fun a=>getT a p=.pointer (some ⟨b,o,none⟩)) v t (wField X.ver X.flex h ty tr)
 | .prim k,S,p,h,v,t,bk,b,o,tr,hok,hS,hnull,hH,hb,hp,hp1,hlv,hlf,hv2,hvT,ht,htN=>by
  have hnul:h.isNull X.ver tr=(decide (0<=h.null) && tr.null):=by
   rcases hnull with e | e
   ·simp [Hd.isNull,show ¬ (0<=h.null) by omega]
   ·simp [Hd.isNull,e,Bool.and_comm]
  have hwf:wField X.ver X.flex h (.prim k) tr=wPrim X.flex (decide (0<=h.null) && tr.null) tr k:=by simp only [wField,wTy,hnul]
  rw [hwf]
  simp only [nV] at hvT
  simp only [aVT] at htN
  simp only [HTy,HPrim] at hH
  unfold okVal at hok
  by_cases hk:k=.uuid
  ·subst hk
   rw [if_pos rfl] at hok hH
   simp only [Bool.and_eq_true,decide_eq_true_eq,Bool.not_eq_true',bne_iff_ne,ne_eq] at hok
   obtain ⟨⟨⟨hn,he⟩,hT⟩,hU⟩:=hok
   simp only [aAppT,PK.parted,Bool.false_eq_true,if_false] at htN
   have:=aUuid_ok (X:=X) (S:=S) (p:=p) (v:=v) (t:=t) (b:=b) (o:=o) (lo:=v) (h:=h) (tr:=tr) hX (Nat.le_refl _) hlv hlf (by omega) (by omega) ht (by omega) hS hT hU hb hH
   have e2:wPrim X.flex (decide (0<=h.null) && tr.null) tr .uuid=uuidOf tr:=by simp [wPrim,uuidOf]
   rw [e2]
   simpa only [aVal,if_true] using this
  ·rw [if_neg hk] at hok hH
   obtain ⟨u,hc,hpv⟩:=hH
   simp only [Bool.and_eq_true,Bool.or_eq_true,Bool.not_eq_true',decide_eq_true_eq] at hok
   obtain ⟨⟨hT,hen⟩,happ⟩:=hok
   have hload:=aLoad_ok (X:=X) (S:=S) (p:=p) (f:=h.idx) (T:=h.typ) (v:=v) (t:=t) (off:=h.off) (b:=b) (o:=o) (u:=u) (lo:=v) hX (Nat.le_refl _) hlv hlf (by omega) (by omega) ht (by omega) hS hT hb hc
   unfold aVal
   rw [if_neg hk]
   by_cases he:h.enum=true
   ·rw [if_pos he] at hvT htN ⊢
    rcases hen with hen | hk8
    ·rw [hen] at he;cases he
    ·subst hk8
     obtain rfl:=hpv
     have hap:=aApp_ok (X:=X) (nul:=decide (0<=h.null)) (k:=.i8) (x:=v+1) (t:=t+5) (lo:=v+2) (tr:=tr) (v:=.int .i8 tr.n) hX happ rfl (by omega) (by omega) (by omega) (by omega) (by omega) (by omega) (by simp only [aAppT,PK.parted,Bool.false_eq_true,if_false] at htN ⊢;omega)
     have hmid:AFragP X (.reg [mv (t+4) v,asg (v+1) (t+4)]) (fun a=>getT a v=.int .i8 tr.n) (fun a=>getT a (v+1)=.int .i8 tr.n) (v+1) (t+4) []:=by
      refine AFragP.quiet hX (by omega) (by omega) ?_
      intro a w xs K hi hpre hK
      have hsz:=hi.size
      refine ops_mv (ops_asg (oNi ?_))
      refine hK _ (by simp [sPu]) (by simp [dPu]) ?_ ?_ ?_
      ·intro s hs1 hs2
       simp (disch:=omega) [gTn]
      ·simp (disch:=omega) [gTn]
      ·simp (disch:=(try simp only [sPu]);omega) [gTp,hpre]
     have h2:=hmid.seq hap (fun a a' _ _ hq=>hq) (by omega) (by omega)
     have h3:=hload.seq h2 (fun a a' _ _ hq=>hq) (by omega) (by omega)
     exact h3
   ·rw [if_neg he] at hvT htN ⊢
    have hap:=aApp_ok (X:=X) (nul:=decide (0<=h.null)) (k:=k) (x:=v) (t:=t+4) (lo:=v+1) (tr:=tr) (v:=u) hX happ hpv (by omega) (by omega) (by omega) (by omega) (by omega) (by omega) (by omega)
    exact hload.seq hap (fun a a' _ _ hq=>hq) (by omega) (by omega)
 | .list T E size of,S,p,h,v,t,bk,b,o,tr,hok,hS,hnull,hH,hb,hp,hp1,hlv,hlf,hv2,hvT,ht,htN=>by
  have hnul:h.isNull X.ver tr=(decide (0<=h.null) && tr.null):=by
   rcases hnull with e | e
   ·simp [Hd.isNull,show ¬ (0<=h.null) by omega]
   ·simp [Hd.isNull,e,Bool.and_comm]
  have hwf:wField X.ver X.flex h (.list T E size of) tr=wTy X.ver X.flex (.list T E size of) (decide (0<=h.null) && tr.null) tr:=by simp only [wField,hnul]
  rw [hwf]
  simp only [nV] at hvT
  simp only [aVT] at htN
  unfold okVal at hok
  simp only [Bool.and_eq_true,Bool.not_eq_true',beq_iff_eq] at hok
  obtain ⟨⟨⟨⟨⟨he,hTT⟩,hT1⟩,hsl⟩,hlen⟩,hel⟩:=hok
  rw [if_neg (by simp [he])] at hvT
  simp only [HTy] at hH
  obtain ⟨base,cap,hc,hH⟩:=hH
  have hload:=aLoad_ok (X:=X) (S:=S) (p:=p) (f:=h.idx) (T:=h.typ) (v:=v) (t:=t) (off:=h.off) (b:=b) (o:=o) (lo:=v) hX (Nat.le_refl _) hlv hlf (by omega) (by omega) ht (by omega) hS (by rw [hTT];exact hT1) hb hc
  unfold aVal
  generalize hnl:(decide (0<=h.null) && tr.null)=nl at hc hH hload ⊢
  have hisn:(decide (0<=h.null) && base.isNone)=nl/\(if nl=true then 0 else tr.l.length)<=most:=by
   cases nl with
   | true =>
    simp only [if_true] at hH ⊢
    simp only [Bool.and_eq_true] at hnl
    exact ⟨by simp [hH];simpa using hnl.1,Nat.zero_le _⟩
   | false =>
    simp only [Bool.false_eq_true,if_false] at hH ⊢
    refine ⟨?_,hH.1⟩
    by_cases hz:decide (0<=h.null)=true
    ·have:=hH.2.1 hz
     cases base <;> simp_all
    ·simp only [Bool.not_eq_true] at hz
     rw [hz];rfl
  have hlenOk:=aLen_ok (X:=X) (nul:=decide (0<=h.null)) (T:=T) (E:=E) (n:=size) (v:=v) (t:=t+4) (lo:=v+1) (cnt:=if nl=true then 0 else tr.l.length) (cap:=cap) (base:=base) hX (by omega) (by omega) (by omega) (by omega) (by omega) (by omega) (by omega) hsl hlen hisn.2
  rw [hisn.1] at hlenOk
  have hlen2:AFragP X (aLen X.I X.c (decide (0<=h.null)) T v (t+4)) (fun a=>getT a v=.slice base (if nl=true then 0 else tr.l.length) cap) (fun a=>getT a v=.slice base (if nl=true then 0 else tr.l.length) cap) v (t+4) (counted X.flex nl (if nl=true then 0 else tr.l.length) 4) :=
   (hlenOk.keep (stable_slot (by omega) (by omega))).mono (fun _ h=>h) (fun _ h=>h.1) (by omega) (Nat.le_refl _)
  have hloop:AFrag X (aLoop T v (v+1) (t+4+aLenT X.c (decide (0<=h.null))) bk (aET X.c of) (aElem X.I X.c T E v (v+1) (v+2) (t+4+aLenT X.c (decide (0<=h.null))+5) (bk+2) of) X.I.tInt)
    (fun a=>getT a v=.slice base (if nl=true then 0 else tr.l.length) cap) v (t+4+aLenT X.c (decide (0<=h.null))) ((if nl=true then [] else tr.l).flatMap (fun x=>wTy X.ver X.flex of false x)):=by
   have hnV:1<=nV of:=by cases of <;> simp [nV] <;> omega
   rw [<- getElem?_map_flatten]
   have hcnt:(if nl=true then 0 else tr.l.length)=((if nl=true then [] else tr.l).map (fun x=>wTy X.ver X.flex of false x)).length:=by split <;> simp
   rw [hcnt]
   refine aLoop_ok (X:=X) (lo:=v) hX (by omega) (by omega) (by omega) (by omega) hlv hlf (by omega) (by omega) hsl (by rw [<- hcnt];exact hisn.2) ?_
   intro i out hout
   rw [<- hcnt]
   simp only [List.getElem?_map,Option.map_eq_some_iff] at hout
   obtain ⟨x,hx,rfl⟩:=hout
   cases nl with
   | true=>simp at hx
   | false =>
    simp only [Bool.false_eq_true,if_false] at hx hH ⊢
    obtain ⟨-,-,hH⟩:=hH
    have hlt:i < tr.l.length:=(List.getElem?_eq_some_iff.1 hx).1
    rcases hH with ⟨rfl,hnil⟩ | ⟨b',o',rfl,hF,hels⟩
    ·rw [hnil] at hlt
     exact absurd hlt (Nat.not_lt_zero _)
    ·have hE:=aElem_ok hX of T E size v (v+1) (v+2) (t+4+aLenT X.c (decide (0<=h.null))+5) (bk+2) b' o' cap tr.l.length i x hel hsl (hels i x hx) hF hlt (by omega) (by omega) (by omega) (by omega) (by omega) (by omega) (by omega) (by omega) (by omega) (by omega)
     rw [seqs_cons (aElem_ne _ _ _ _ _ _ _ _ _ _)]
     have hreg:AFragP X (.reg [mv (t+4+aLenT X.c (decide (0<=h.null))+4) (t+4+aLenT X.c (decide (0<=h.null))+2),asg (v+1) (t+4+aLenT X.c (decide (0<=h.null))+4)])
       (fun a=>getT a v=.slice (some ⟨b',o',none⟩) tr.l.length cap/\getT a (t+4+aLenT X.c (decide (0<=h.null))+2)=.int .i64 (i:Int))
       (fun a=>getT a v=.slice (some ⟨b',o',none⟩) tr.l.length cap/\getT a (v+1)=.int .i64 (i:Int)) (v+1) (t+4+aLenT X.c (decide (0<=h.null))+4) []:=by
      refine AFragP.quiet hX (by omega) (by omega) ?_
      intro a w xs K hi hpre hK
      have hsz:=hi.size
      refine ops_mv (ops_asg (oNi ?_))
      refine hK _ (by simp [sPu]) (by simp [dPu]) ?_ ?_ ⟨?_,?_⟩
      ·intro s hs1 hs2
       simp (disch:=omega) [gTn]
      ·simp (disch:=omega) [gTn]
      ·simp (disch:=omega) [gTn]
       exact hpre.1
      ·simp (disch:=(try simp only [sPu]);omega) [gTp]
       exact hpre.2
     exact hreg.seq hE (fun a a' _ _ hq=>hq) (by omega) (by omega)
  have hout:wTy X.ver X.flex (.list T E size of) nl tr=counted X.flex nl (if nl=true then 0 else tr.l.length) 4 ++ (if nl=true then [] else tr.l).flatMap (fun x=>wTy X.ver X.flex of false x):=by
   simp only [wTy]
   cases nl with
   | true=>simp
   | false =>
    simp only [Bool.false_eq_true,if_false] at hH ⊢
    rw [List.take_of_length_le hH.1]
  rw [hout]
  have h2:=hlen2.seq hloop (fun a a' _ _ hq=>hq) (Nat.le_refl _) (by omega)
  exact hload.seq h2 (fun a a' _ _ hq=>hq) (Nat.le_refl _) (by omega)
 | .struct S' sz df tags fs kn,S,p,h,v,t,bk,b,o,tr,hok,hS,hnull,hH,hb,hp,hp1,hlv,hlf,hv2,hvT,ht,htN=>by
  have hnul:h.isNull X.ver tr=(decide (0<=h.null) && tr.null):=by
   rcases hnull with e | e
   ·simp [Hd.isNull,show ¬ (0<=h.null) by omega]
   ·simp [Hd.isNull,e,Bool.and_comm]
  simp only [nV] at hvT
  simp only [aVT] at htN
  unfold okVal at hok
  simp only [Bool.and_eq_true,Bool.not_eq_true',Bool.or_eq_true,decide_eq_true_eq] at hok
  obtain ⟨⟨⟨⟨he,hn⟩,htag⟩,hfs⟩,hkn⟩:=hok
  rw [if_neg (by simp [he])] at hvT
  unfold aVal
  simp only [HTy] at hH
  by_cases hz:0<=h.null
  ·rw [if_pos hz] at htN ⊢
   rw [if_pos (by simpa using hz)] at hH
   rcases hn with hn | ⟨⟨hT1,hpt⟩,hu8⟩
   ·omega
   have hwf:wField X.ver X.flex h (.struct S' sz df tags fs kn) tr=if tr.null then [255] else [1] ++ (wFs X.ver X.flex fs tr.l ++ wTagsB X.flex (wKn X.ver X.flex kn (tr.l.drop (Fs.len fs))) tr.u):=by
    have hd:h.isNull X.ver tr=tr.null:=by rw [hnul];simp [hz]
    simp only [wField,hz,if_true,hd,wTy,List.cons_append,List.nil_append]
   rw [hwf]
   by_cases hnl:tr.null=true
   ·rw [if_pos hnl] at hH ⊢
    have hload:=aLoad_ok (X:=X) (S:=S) (p:=p) (f:=h.idx) (T:=h.typ) (v:=v) (t:=t) (off:=h.off) (b:=b) (o:=o) (lo:=v) hX (Nat.le_refl _) hlv hlf (by omega) (by omega) ht (by omega) hS hT1 hb hH
    have hby:=aByte_ok (X:=X) (n:=255) (t:=t+6) (lo:=v) (u:=255) hX rfl (by omega) hlv hlf (by omega) (by omega) hu8
    have hrest:AFrag X (.seq (.reg [mv (t+4) v,bin .eql (t+5) h.typ (t+4) (.const (.pointer none))])
      (.cond (.tmp (t+5)) (aByte X.I 255 (t+6)) (seqs (aByte X.I 1 (t+9) :: (aFs X.I X.c S' v (v+1) (t+12) bk fs ++ aTagsK X.I X.c S' v tags (v+1+nVs fs) (t+12+aFT X.c fs) (bk+nBs fs) 0 kn)))))
      (fun a=>getT a v=.pointer none) v (t+4) [255]:=by
     intro a w xs Q hi hp hlen hQ
     have hsz:=hi.size
     have h1:=hX.oneT
     refine wSq (wRg (ops_mv (oNo rfl (opw_eqlnil_ptr hpt (q:=none) (by rw [eTm,gTp (by omega)];exact hp) (oNi ?_)))))
     refine wCd (t:=true) (by simp (disch:=(try simp only [sPu]);omega) [eTm,gTp]) ?_
     rw [if_pos rfl]
     have hS2:Same X a ((a.put (some (t+4)) (getT a v)).put (some (t+5)) (.bool (Option.isNone (none:Option Addr)))) v (t+4):=by
      intro s hs1 hs2
      simp (disch:=omega) [gTn]
     refine hby _ w xs _ ?_ trivial hlen fun a' w' h1 h2 h3=>hQ a' w' h1 (hS2.trans h2 (Nat.le_refl _) (by omega)) h3
     refine hi.step hX (by simp [sPu]) (by simp [dPu]) hS2 hlv hlf ?_ (Below.refl _ _) hi.heap
     simp (disch:=omega) [gTn]
     exact hi.own
    exact hload.seq hrest (fun a a' _ _ hq=>hq) (Nat.le_refl _) (by omega)
   ·rw [if_neg hnl] at hH ⊢
    obtain ⟨b',o',hc,hF,hHf,hHt,hHk⟩:=hH
    have hload:=aLoad_ok (X:=X) (S:=S) (p:=p) (f:=h.idx) (T:=h.typ) (v:=v) (t:=t) (off:=h.off) (b:=b) (o:=o) (lo:=v) hX (Nat.le_refl _) hlv hlf (by omega) (by omega) ht (by omega) hS hT1 hb hc
    have hby:=(aByte_ok (X:=X) (n:=1) (t:=t+9) (lo:=v+1) (u:=1) hX rfl (by omega) (by omega) (by omega) (by omega) (by omega) hu8).mono (pre':=fun a=>getT a v=.pointer (some ⟨b',o',none⟩)) (fun _ _=>trivial) (fun _ h=>h) (Nat.le_refl _) (Nat.le_refl _)
    have hA:=aFs_ok hX fs S' v (v+1) (t+12) bk b' o' tr.l hfs hHf hF (by omega) (by omega) (by omega) (by omega) (by omega) (by omega) (by omega) (by omega)
    have hTg:=aTagsK_ok hX kn S' v tags (v+1+nVs fs) (t+12+aFT X.c fs) (bk+nBs fs) 0 b' o' (tr.l.drop (Fs.len fs)) tr.u htag hkn hHt hHk hF (by omega) (by omega) (by omega) (by omega) (by omega) (by omega) (by omega) (by omega)
    have hL:=((AList.cons hby ((hA.append (hTg.mono (by omega) (by omega))).mono (Nat.le_refl _) (by omega))).frag (stable_slot (by omega) (by omega)))
    have hrest:AFrag X (.seq (.reg [mv (t+4) v,bin .eql (t+5) h.typ (t+4) (.const (.pointer none))])
      (.cond (.tmp (t+5)) (aByte X.I 255 (t+6)) (seqs (aByte X.I 1 (t+9) :: (aFs X.I X.c S' v (v+1) (t+12) bk fs ++ aTagsK X.I X.c S' v tags (v+1+nVs fs) (t+12+aFT X.c fs) (bk+nBs fs) 0 kn)))))
      (fun a=>getT a v=.pointer (some ⟨b',o',none⟩)) v (t+4) ([1] ++ (wFs X.ver X.flex fs tr.l ++ wTagsB X.flex (wKn X.ver X.flex kn (tr.l.drop (Fs.len fs))) tr.u)):=by
     intro a w xs Q hi hp hlen hQ
     have hsz:=hi.size
     have h1:=hX.oneT
     refine wSq (wRg (ops_mv (oNo rfl (opw_eqlnil_ptr hpt (q:=some ⟨b',o',none⟩) (by rw [eTm,gTp (by omega)];exact hp) (oNi ?_)))))
     refine wCd (t:=false) (by simp (disch:=(try simp only [sPu]);omega) [eTm,gTp]) ?_
     rw [if_neg (by simp)]
     have hS2:Same X a ((a.put (some (t+4)) (getT a v)).put (some (t+5)) (.bool (Option.isNone (some (⟨b',o',none⟩:Addr))))) (v+1) (t+4):=by
      intro s hs1 hs2
      simp (disch:=omega) [gTn]
     refine hL _ w xs _ ?_ ((hS2 v (by omega) (by omega)).trans hp) hlen fun a' w' h1 h2 h3=>hQ a' w' h1 ((hS2.trans h2 (Nat.le_refl _) (by omega)).mono (by omega) (Nat.le_refl _)) h3
     refine hi.step hX (by simp [sPu]) (by simp [dPu]) hS2 (by omega) (by omega) ?_ (Below.refl _ _) hi.heap
     simp (disch:=omega) [gTn]
     exact hi.own
    exact hload.seq hrest (fun a a' _ _ hq=>hq) (Nat.le_refl _) (by omega)
  ·rw [if_neg hz] at htN ⊢
   rw [if_neg (by simpa using hz)] at hH
   obtain ⟨hHf,hHt,hHk⟩:=hH
   have hwf:wField X.ver X.flex h (.struct S' sz df tags fs kn) tr=[] ++ (wFs X.ver X.flex fs tr.l ++ wTagsB X.flex (wKn X.ver X.flex kn (tr.l.drop (Fs.len fs))) tr.u):=by
    simp only [wField,hz,if_false,wTy,List.nil_append]
   rw [hwf]
   have hA:=aFs_ok hX fs S' v (v+1) (t+3) bk b (o+h.off) tr.l hfs hHf hb (by omega) (by omega) (by omega) (by omega) (by omega) (by omega) (by omega) (by omega)
   have hTg:=aTagsK_ok hX kn S' v tags (v+1+nVs fs) (t+3+aFT X.c fs) (bk+nBs fs) 0 b (o+h.off) (tr.l.drop (Fs.len fs)) tr.u htag hkn hHt hHk hb (by omega) (by omega) (by omega) (by omega) (by omega) (by omega) (by omega) (by omega)
   have hreg:AFragP X (.reg [mv t p,nilc (t+1) t,fa (t+2) S (t+1) h.idx,asg v (t+2)]) (fun a=>getT a p=.pointer (some ⟨b,o,none⟩)) (fun a=>getT a v=.pointer (some ⟨b,o+h.off,none⟩)) v t []:=by
    refine AFragP.quiet hX hlv hlf ?_
    intro a w xs K hi hpre hK
    have hsz:=hi.size
    refine ops_mv (ops_nilc (ad:=⟨b,o,none⟩) (by rw [gTp (by omega)];exact hpre) (ops_fa hS (b:=b) (o:=o) (by rw [gTp (by simp only [sPu];omega)]) (ops_asg (oNi ?_))))
    refine hK _ (by simp [sPu]) (by simp [dPu]) ?_ ?_ ?_
    ·intro s hs1 hs2
     simp (disch:=omega) [gTn]
    ·simp (disch:=omega) [gTn]
    ·simp (disch:=(try simp only [sPu]);omega) [gTp]
   exact AList.behind hreg (hA.append (hTg.mono (by omega) (by omega))) (stable_slot (by omega) (by omega)) (fun a a' _ _ hq=>hq) (by omega) (by omega)
theorem aElem_ok (hX:X.ok):∀ (ty:Ty) (T E size s i v t bk b o cap cnt idx:Nat) (tr:Tree),okElem X.P X.I X.c X.tU8 E size ty=true->sliceB X.P T E size=true ->
  HTy X.G X.w0 (· < X.B) X.ver X.flex ty false b (o+idx * size) tr->b < X.B->idx < cnt->s < v->i < v->s ≠ 1->i ≠ 1->X.c.ver < v->X.c.flex < v->2<=v->v+nV ty<=X.T0->X.T0<=t->t+aET X.c ty<=X.N ->
  AFrag X (seqs (aElem X.I X.c T E s i v t bk ty)) (fun a=>getT a s=.slice (some ⟨b,o,none⟩) cnt cap/\getT a i=.int .i64 (idx:Int)) v t (wTy X.ver X.flex ty false tr)
 | .prim k,T,E,size,s,i,v,t,bk,b,o,cap,cnt,idx,tr,hok,hsl,hH,hb,hidx,hsv,hiv,hs1,hi1,hlv,hlf,hv2,hvT,ht,htN=>by
  unfold okElem at hok
  by_cases hk:k=.uuid
  ·subst hk
   rw [if_pos rfl] at hok
   simp only [Bool.and_eq_true,bne_iff_ne,ne_eq,beq_iff_eq] at hok
   obtain ⟨⟨hsz1,hT1⟩,hU⟩:=hok
   subst hsz1
   simp only [HTy,HPrim,if_true] at hH
   simp only [nV] at hvT
   simp only [aET,aAppT,PK.parted,Bool.false_eq_true,if_false] at htN
   exact aUuidE_ok (X:=X) hX (Nat.le_refl _) hlv hlf (by omega) (by omega) ht (by omega) hsl hidx hsv hiv hT1 hU hb hH
  rw [if_neg hk] at hok
  simp only [Bool.and_eq_true,bne_iff_ne,ne_eq,beq_iff_eq] at hok
  obtain ⟨⟨hsz1,hT1⟩,happ⟩:=hok
  subst hsz1
  simp only [HTy,HPrim,if_neg hk] at hH
  obtain ⟨u,hc,hpv⟩:=hH
  simp only [nV] at hvT
  simp only [aET] at htN
  simp only [aElem,if_neg hk,seqs,wTy]
  have hreg:AFragP X (.reg [mv t s,mv (t+1) i,⟨some (t+2),.indexAddr T (.tmp t) (.tmp (t+1)),none⟩,ld (t+3) E (t+2),asg v (t+3)]) (fun a=>getT a s=.slice (some ⟨b,o,none⟩) cnt cap/\getT a i=.int .i64 (idx:Int)) (fun a=>getT a v=u) v t []:=by
   refine AFragP.quiet hX hlv hlf ?_
   intro a w xs K hi hpre hK
   have hsz:=hi.size
   refine ops_mv (ops_mv (oNo rfl (opw_index hsl (b:=b) (o:=o) (len:=cnt) (cap:=cap) (j:=idx) (k:=.i64) ?_ ?_ hidx (ops_ld hT1 (ad:=⟨b,o+idx * 1,none⟩) (v:=u) ?_ ?_ (ops_asg (oNi ?_))))))
   ·simp (disch:=(try simp only [sPu]);omega) [eTm,gTp,gTn]
    exact hpre.1
   ·simp (disch:=(try simp only [sPu]);omega) [eTm,gTp,gTn]
    exact hpre.2
   ·rw [gTp (by simp only [sPu];omega)]
   ·rw [hi.below.cell hb]
    exact hc
   refine hK _ (by simp [sPu]) (by simp [dPu]) ?_ ?_ ?_
   ·intro q hq1 hq2
    simp (disch:=omega) [gTn]
   ·simp (disch:=omega) [gTn]
   ·simp (disch:=(try simp only [sPu]);omega) [gTp]
  have hap:=aApp_ok (X:=X) (nul:=false) (k:=k) (x:=v) (t:=t+4) (lo:=v+1) (tr:=tr) (v:=u) hX happ hpv (by omega) (by omega) (by omega) (by omega) (by omega) (by omega) (by omega)
  exact hreg.seq hap (fun a a' _ _ hq=>hq) (by omega) (by omega)
 | .list _ _ _ _,T,E,size,s,i,v,t,bk,b,o,cap,cnt,idx,tr,hok,hsl,hH,hb,hidx,hsv,hiv,hs1,hi1,hlv,hlf,hv2,hvT,ht,htN=>by
  simp [okElem] at hok
 | .struct S sz df tags fs kn,T,E,size,s,i,v,t,bk,b,o,cap,cnt,idx,tr,hok,hsl,hH,hb,hidx,hsv,hiv,hs1,hi1,hlv,hlf,hv2,hvT,ht,htN=>by
  unfold okElem at hok
  simp only [Bool.and_eq_true,beq_iff_eq] at hok
  obtain ⟨⟨⟨⟨hSE,hsz1⟩,htag⟩,hfs⟩,hkn⟩:=hok
  simp only [HTy,Bool.false_eq_true,if_false] at hH
  obtain ⟨hHf,hHt,hHk⟩:=hH
  simp only [nV] at hvT
  simp only [aET] at htN
  simp only [aElem,wTy]
  have hreg:AFragP X (.reg [mv t s,mv (t+1) i,⟨some (t+2),.indexAddr T (.tmp t) (.tmp (t+1)),none⟩,asg v (t+2)]) (fun a=>getT a s=.slice (some ⟨b,o,none⟩) cnt cap/\getT a i=.int .i64 (idx:Int)) (fun a=>getT a v=.pointer (some ⟨b,o+idx * size,none⟩)) v t []:=by
   refine AFragP.quiet hX hlv hlf ?_
   intro a w xs K hi hpre hK
   have hsz:=hi.size
   refine ops_mv (ops_mv (oNo rfl (opw_index hsl (b:=b) (o:=o) (len:=cnt) (cap:=cap) (j:=idx) (k:=.i64) ?_ ?_ hidx (ops_asg (oNi ?_)))))
   ·simp (disch:=(try simp only [sPu]);omega) [eTm,gTp,gTn]
    exact hpre.1
   ·simp (disch:=(try simp only [sPu]);omega) [eTm,gTp,gTn]
    exact hpre.2
   refine hK _ (by simp [sPu]) (by simp [dPu]) ?_ ?_ ?_
   ·intro q hq1 hq2
    simp (disch:=omega) [gTn]
   ·simp (disch:=omega) [gTn]
   ·simp (disch:=(try simp only [sPu]);omega) [gTp]
  have hA:=aFs_ok hX fs S v (v+1) (t+3) bk b (o+idx * size) tr.l hfs hHf hb (by omega) (by omega) (by omega) (by omega) (by omega) (by omega) (by omega) (by omega)
  have hTg:=aTagsK_ok hX kn S v tags (v+1+nVs fs) (t+3+aFT X.c fs) (bk+nBs fs) 0 b (o+idx * size) (tr.l.drop (Fs.len fs)) tr.u htag hkn hHt hHk hb (by omega) (by omega) (by omega) (by omega) (by omega) (by omega) (by omega) (by omega)
  have:=AList.behind hreg (hA.append (hTg.mono (by omega) (by omega))) (stable_slot (by omega) (by omega)) (fun a a' _ _ hq=>hq) (by omega) (by omega)
  simpa using this
theorem aFs_ok (hX:X.ok):∀ (fs:Fs) (S p v t bk b o:Nat) (ts:List Tree),okFs X.P X.I X.c X.tU8 S fs=true->HFs X.G X.w0 (· < X.B) X.ver X.flex fs b o ts->b < X.B->p < v->p ≠ 1->X.c.ver < v->X.c.flex < v->2<=v ->
  v+nVs fs<=X.T0->X.T0<=t->t+aFT X.c fs<=X.N->AList X (fun a=>getT a p=.pointer (some ⟨b,o,none⟩)) v t (aFs X.I X.c S p v t bk fs) (wFs X.ver X.flex fs ts)
 | .nil,S,p,v,t,bk,b,o,ts,hok,hH,hb,hp,hp1,hlv,hlf,hv2,hvT,ht,htN=>by
  simp only [aFs,wFs]
  exact .nil
 | .cons h ty r,S,p,v,t,bk,b,o,ts,hok,hH,hb,hp,hp1,hlv,hlf,hv2,hvT,ht,htN=>by
  unfold okFs at hok
  simp only [Bool.and_eq_true,Bool.or_eq_true,decide_eq_true_eq] at hok
  obtain ⟨⟨⟨hS,hnull⟩,hval⟩,hrest⟩:=hok
  simp only [HFs] at hH
  simp only [nVs] at hvT
  simp only [aFT] at htN
  rw [wFs_cons]
  unfold aFs
  refine .cons ?_ ?_
  ·refine vCond_ok hX (by omega) hlv hlf ht (by omega) (stable_slot hp hp1) (fun hh=>?_)
   have hfrom:h.from_<=X.ver:=by
    simp only [Hd.has,Bool.and_eq_true,decide_eq_true_eq] at hh
    exact hh.1
   exact (aVal_ok hX ty S p h v (t+vTmps h) bk b o (ts.headD Tree.zero) hval hS (hnull.imp id fun e=>Int.le_trans e hfrom) (hH.1 hh) hb hp hp1 hlv hlf hv2 (by omega) (by omega) (by omega)).mono (fun _ h=>h) (fun _ h=>h) (Nat.le_refl _) (Nat.le_refl _)
  ·exact (aFs_ok hX r S p (v+nV ty+(if h.enum then 1 else 0)) (t+vTmps h+aVT X.c h ty) (bk+nB ty) b o ts.tail hrest hH.2 hb (by omega) hp1 (by omega) (by omega) (by omega) (by omega) (by omega) (by omega)).mono (by omega) (by omega)
theorem aTagsK_ok (hX:X.ok):∀ (kn:Fs) (S p:Nat) (tags:Option (Nat × Nat)) (v t bk l b o:Nat) (ks:List Tree) (u:List (Nat × Bytes)),okTags X.P X.I X.c S tags=true->okKnA X.P X.I X.c X.tU8 S tags kn=true->TagsAt X.G X.w0 (· < X.B) X.flex b o tags u ->
  HKn X.G X.w0 (· < X.B) X.ver X.flex kn b o ks u->b < X.B->p < v->p ≠ 1->X.c.ver < v->X.c.flex < v->2<=v->v+nVk kn<=X.T0->X.T0<=t->t+aKT X.c tags kn<=X.N ->
  AList X (fun a=>getT a p=.pointer (some ⟨b,o,none⟩)) v t (aTagsK X.I X.c S p tags v t bk l kn) (wTagsB X.flex (wKn X.ver X.flex kn ks) u)
 | .nil,S,p,tags,v,t,bk,l,b,o,ks,u,htag,hkn,hT,hk,hb,hp,hp1,hlv,hlf,hv2,hvT,ht,htN=>by
  simp only [aTagsK,wKn,wTagsB]
  simp only [nVk] at hvT
  simp only [aKT] at htN
  exact aTagsL_ok (lo:=v) hX (by omega) hlv hlf hp hp1 ht htN hb htag hT
 | .cons h ty r,S,p,tags,v,t,bk,l,b,o,ks,u,htag,hkn,hT,hk,hb,hp,hp1,hlv,hlf,hv2,hvT,ht,htN=>by
  simp only [okKnA,Bool.and_eq_true,decide_eq_true_eq] at hkn
  obtain ⟨⟨⟨⟨⟨⟨⟨k1,k2⟩,k3⟩,-⟩,k4⟩,k5⟩,k6⟩,k7⟩:=hkn
  simp only [nVk] at hvT
  simp only [aKT] at htN
  simp only [HKn] at hk
  cases tags with
  | none=>simp at k1
  | some x =>
   obtain ⟨f,off⟩:=x
   simp only [aTagsK,wKn]
   exact aKn_ok hX ty S p f off h v t bk l b o (ks.headD Tree.zero) u htag k4 k5 k6 k2 k7 hT hk hb hp hp1 hlv hlf hv2 (by omega) ht htN
theorem aKn_ok (hX:X.ok):∀ (ty:Ty) (S p f off:Nat) (h:Hd) (v t bk l b o:Nat) (tr:Tree) (u:List (Nat × Bytes)),okTags X.P X.I X.c S (some (f,off))=true->u32sB X.P X.I.tU32s X.I.tU32=true->oneB X.P X.I.tU32=true->u8sB X.P X.I.tU8s X.tU8=true->fieldB X.P S h.idx h.off=true ->
  okKnT X.P X.I X.c X.tU8 h ty=true->TagsAt X.G X.w0 (· < X.B) X.flex b o (some (f,off)) u->(X.flex=true->HTy X.G X.w0 (· < X.B) X.ver X.flex ty false b (o+h.off) tr/\rngTy ty tr/\∀ x ∈ u,1<=x.1)->b < X.B->p < v->p ≠ 1->X.c.ver < v->X.c.flex < v->2<=v->v+6+nVc ty<=X.T0->X.T0<=t->t+aKTc X.c ty<=X.N ->
  AList X (fun a=>getT a p=.pointer (some ⟨b,o,none⟩)) v t (aKn X.I X.c S p (some (f,off)) h v t bk l ty) (wTagsB X.flex [if wTy X.ver X.flex ty false tr=wTy X.ver X.flex ty false (dT h ty) then none else some (wTy X.ver X.flex ty false tr)] u)
 | .prim _,S,p,f,off,h,v,t,bk,l,b,o,tr,u,htag,k4,k5,k6,k2,hok,hT,hk,hb,hp,hp1,hlv,hlf,hv2,hvT,ht,htN=>by
  simp [okKnT] at hok
 | .list T E size of,S,p,f,off,h,v,t,bk,l,b,o,tr,u,htag,k4,k5,k6,k2,hok,hT,hk,hb,hp,hp1,hlv,hlf,hv2,hvT,ht,htN=>by
  obtain ⟨hK,hn,hS⟩:=kOk_of (tags:=none) htag k4 k5 k6
  simp only [okKnT,Bool.and_eq_true,beq_iff_eq] at hok
  obtain ⟨⟨⟨⟨q1,q2⟩,q3⟩,q4⟩,q5⟩:=hok
  simp only [nVc] at hvT
  simp only [aKTc] at htN
  simp only [aKn,tagF]
  have one:∀ {s:SC} {out:Bytes},AFrag X s (fun a=>getT a p=.pointer (some ⟨b,o,none⟩)) v t out->AList X (fun a=>getT a p=.pointer (some ⟨b,o,none⟩)) v t [s] out:=fun h=>by
   have:=AList.cons h (AList.nil (X:=X) (pre:=fun a=>getT a p=.pointer (some ⟨b,o,none⟩)) (lo:=v) (t:=t))
   simpa using this
  refine one ?_
  by_cases hf:X.flex=true
  ·obtain ⟨hH,-,hno⟩:=hk hf
   simp only [HTy,Bool.false_and,Bool.false_eq_true,if_false] at hH
   obtain ⟨base,cap,hc,hm,-,hels⟩:=hH
   have hbody:AList X (fun a=>getT a (v+3)=.slice base tr.l.length cap) (v+6) (t+37)
     [aLen X.I X.c false T (v+3) (t+37),aLoop T (v+3) (v+6) (t+37+aLenT X.c false) (bk+3) (aET X.c of) (aElem X.I X.c T E (v+3) (v+6) (v+7) (t+42+aLenT X.c false) (bk+5) of) X.I.tInt] (wTy X.ver X.flex (.list T E size of) false tr):=by
    have hlenOk:=aLen_ok (X:=X) (nul:=false) (T:=T) (E:=E) (n:=size) (v:=v+3) (t:=t+37) (lo:=v+6) (cnt:=tr.l.length) (cap:=cap) (base:=base) hX (by omega) (by omega) (by omega) (by omega) (by omega) (by omega) (by omega) q3 q4 hm
    have hloop:AFrag X (aLoop T (v+3) (v+6) (t+37+aLenT X.c false) (bk+3) (aET X.c of) (aElem X.I X.c T E (v+3) (v+6) (v+7) (t+42+aLenT X.c false) (bk+5) of) X.I.tInt)
      (fun a=>getT a (v+3)=.slice base tr.l.length cap) (v+6) (t+37+aLenT X.c false) (tr.l.flatMap (fun x=>wTy X.ver X.flex of false x)):=by
     have hnV:1<=nV of:=by cases of <;> simp [nV] <;> omega
     rw [<- getElem?_map_flatten]
     have hcnt:tr.l.length=(tr.l.map (fun x=>wTy X.ver X.flex of false x)).length:=by simp
     rw [hcnt]
     refine aLoop_ok (X:=X) (lo:=v+6) hX (by omega) (by omega) (by omega) (by omega) (by omega) (by omega) (by omega) (by omega) q3 (by rw [<- hcnt];exact hm) ?_
     intro i out hout
     rw [<- hcnt]
     simp only [List.getElem?_map,Option.map_eq_some_iff] at hout
     obtain ⟨x,hx,rfl⟩:=hout
     have hlt:i < tr.l.length:=(List.getElem?_eq_some_iff.1 hx).1
     rcases hels with ⟨rfl,hnil⟩ | ⟨b',o',rfl,hF,hels⟩
     ·rw [hnil] at hlt
      exact absurd hlt (Nat.not_lt_zero _)
     ·have hE:=aElem_ok hX of T E size (v+3) (v+6) (v+7) (t+42+aLenT X.c false) (bk+5) b' o' cap tr.l.length i x q5 q3 (hels i x hx) hF hlt (by omega) (by omega) (by omega) (by omega) (by omega) (by omega) (by omega) (by omega) (by omega) (by omega)
      rw [seqs_cons (aElem_ne _ _ _ _ _ _ _ _ _ _)]
      have hreg:AFragP X (.reg [mv (t+37+aLenT X.c false+4) (t+37+aLenT X.c false+2),asg (v+6) (t+37+aLenT X.c false+4)])
        (fun a=>getT a (v+3)=.slice (some ⟨b',o',none⟩) tr.l.length cap/\getT a (t+37+aLenT X.c false+2)=.int .i64 (i:Int))
        (fun a=>getT a (v+3)=.slice (some ⟨b',o',none⟩) tr.l.length cap/\getT a (v+6)=.int .i64 (i:Int)) (v+6) (t+37+aLenT X.c false+4) []:=by
       refine AFragP.quiet hX (by omega) (by omega) ?_
       intro a w xs K hi hpre hK
       have hsz:=hi.size
       refine ops_mv (ops_asg (oNi ?_))
       refine hK _ (by simp [sPu]) (by simp [dPu]) ?_ ?_ ⟨?_,?_⟩
       ·intro s hs1 hs2
        simp (disch:=omega) [gTn]
       ·simp (disch:=omega) [gTn]
       ·simp (disch:=omega) [gTn]
        exact hpre.1
       ·simp (disch:=(try simp only [sPu]);omega) [gTp]
        exact hpre.2
      exact hreg.seq hE (fun a a' _ _ hq=>hq) (by omega) (by omega)
    have hout:wTy X.ver X.flex (.list T E size of) false tr=counted X.flex (false && base.isNone) tr.l.length 4 ++ (tr.l.flatMap (fun x=>wTy X.ver X.flex of false x) ++ []):=by
     simp only [wTy,Bool.false_eq_true,if_false,List.take_of_length_le hm,Bool.false_and,List.append_nil]
    rw [hout]
    exact .cons hlenOk (.cons (hloop.mono (fun _ h=>h) (fun _ h=>h) (Nat.le_refl _) (by omega)) .nil)
   have:=aKnList_ok (X:=X) (S:=S) (p:=p) (f:=f) (off:=off) (v:=v) (t:=t) (b:=bk) (l:=l) (ts:=t+43+aLenT X.c false+aET X.c of) (bk:=b) (o:=o) (cap:=cap) (T:=T) (E:=E) (sz:=size) (n:=tr.l.length) (h:=h) (base:=base) (u:=u) hX hK hlv hlf hp hp1 (by omega) (by omega) ht (by omega) (by omega) hn hS hb hT (fun _=>hno) k2 (by rw [q1];exact q2) q3 (fun _=>hc) (fun _=>hbody)
   have hiff:(wTy X.ver X.flex (.list T E size of) false tr=wTy X.ver X.flex (.list T E size of) false (dT h (.list T E size of))) ↔ tr.l=[]:=by
    rw [hf,show wTy X.ver true (.list T E size of) false (dT h (.list T E size of))=[1] by simp [wTy,dT,Tree.l,counted,uvarint]]
    exact wList_ne hm
   have he:(if decide (0 < tr.l.length)=true then some (wTy X.ver X.flex (.list T E size of) false tr) else none)=(if wTy X.ver X.flex (.list T E size of) false tr=wTy X.ver X.flex (.list T E size of) false (dT h (.list T E size of)) then none else some (wTy X.ver X.flex (.list T E size of) false tr)):=by
    by_cases h0:tr.l=[]
    ·rw [if_neg (by simp [h0]),if_pos (hiff.2 h0)]
    ·rw [if_pos (by simpa using List.length_pos_iff.2 h0),if_neg (fun e=>h0 (hiff.1 e))]
   rw [<- he]
   exact this
  ·have hf':X.flex=false:=by simpa using hf
   have:=aKnList_ok (X:=X) (S:=S) (p:=p) (f:=f) (off:=off) (v:=v) (t:=t) (b:=bk) (l:=l) (ts:=t+43+aLenT X.c false+aET X.c of) (bk:=b) (o:=o) (cap:=0) (T:=T) (E:=E) (sz:=size) (n:=0) (h:=h) (base:=none) (u:=u) (c:=[])
    (body:=[aLen X.I X.c false T (v+3) (t+37),aLoop T (v+3) (v+6) (t+37+aLenT X.c false) (bk+3) (aET X.c of) (aElem X.I X.c T E (v+3) (v+6) (v+7) (t+42+aLenT X.c false) (bk+5) of) X.I.tInt])
    hX hK hlv hlf hp hp1 (by omega) (by omega) ht (by omega) (by omega) hn hS hb hT (fun h=>absurd h hf) k2 (by rw [q1];exact q2) q3 (fun h=>absurd h hf) (fun h=>absurd h hf)
   rw [hf'] at this ⊢
   rw [wTagsB_no] at this ⊢
   exact this
 | .struct S' sz df tags' fs kn',S,p,f,off,h,v,t,bk,l,b,o,tr,u,htag,k4,k5,k6,k2,hok,hT,hk,hb,hp,hp1,hlv,hlf,hv2,hvT,ht,htN=>by
  obtain ⟨hK,hn,hS⟩:=kOk_of (tags:=none) htag k4 k5 k6
  simp only [okKnT,Bool.and_eq_true,beq_iff_eq,bne_iff_ne,ne_eq] at hok
  obtain ⟨⟨⟨⟨⟨⟨⟨q1,q2⟩,q3⟩,q4⟩,q5⟩,q6⟩,q7⟩,q8⟩:=hok
  obtain ⟨h1,h2,rfl,s1,s2,o1,o2,f1,f2,⟨d1,d2,d3,d4⟩,e1,e2,e3,e4⟩:=flat2_of q4
  have hkn':kn'=.nil/\∃ f',tags'=some (f',2):=by
   split at q5
   ·exact ⟨rfl,_,rfl⟩
   ·cases q5
  obtain ⟨rfl,f',rfl⟩:=hkn'
  obtain ⟨-,-,s3⟩:=kOk_of (tags:=none) q3 k4 k5 k6
  simp only [nVc,Fs.len] at hvT
  simp only [aKTc,Fs.len] at htN
  simp only [aKn,tagF,Fs.len]
  have one:∀ {s:SC} {out:Bytes},AFrag X s (fun a=>getT a p=.pointer (some ⟨b,o,none⟩)) v t out->AList X (fun a=>getT a p=.pointer (some ⟨b,o,none⟩)) v t [s] out:=fun h=>by
   have:=AList.cons h (AList.nil (X:=X) (pre:=fun a=>getT a p=.pointer (some ⟨b,o,none⟩)) (lo:=v) (t:=t))
   simpa using this
  refine one ?_
  by_cases hf:X.flex=true
  ·obtain ⟨hH,hr,hno⟩:=hk hf
   have hv1:h1.has X.ver=true:=by simp [Hd.has,d1,d2,hX.hver]
   have hv2':h2.has X.ver=true:=by simp [Hd.has,e1,e2,hX.hver]
   simp only [HTy,HFs,HKn,Bool.false_eq_true,if_false,hv1,hv2',true_implies,f1,f2,HPrim,PVal] at hH
   obtain ⟨⟨⟨_,c0,rfl⟩,⟨_,c1,rfl⟩,-⟩,hT',-⟩:=hH
   simp only [rngTy,rngFs] at hr
   obtain ⟨r1,r2,-⟩:=hr
   have hTt:=hT' hf
   obtain ⟨m,c2,hm⟩:∃ m,X.w0.cell? ⟨b,o+h.off+2,none⟩=some (.map m)/\(m=none ↔ tr.u=[]):=by
    obtain ⟨-,-,-,-,hh⟩:=hTt
    rcases hh with ⟨z1,z2⟩ | ⟨r,es,clock,z1,-,-,z2,-⟩
    ·exact ⟨none,z1,by simp [z2]⟩
    ·exact ⟨some r,z1,by simp [z2]⟩
   have hunk:unknown tr.u=tr.u:=hTt.2.1
   have:=aKnStruct_ok (X:=X) (S:=S) (p:=p) (f:=f) (off:=off) (v:=v) (t:=t) (b:=bk) (l:=l) (bk:=b) (o:=o) (S':=S') (f':=f') (h:=h) (h1:=h1) (h2:=h2) (u:=u) (u':=tr.u) hX hK hlv hlf hp hp1 (by omega) (by omega) ht (by omega) hn hS hb hT (fun _=>hno) k2 q2 q7 q8 q6 s1 s2 o1 o2 s3 (fun _=>c0) (fun _=>c1) (fun _=>c2) (fun _=>hTt)
   have hw:wTy X.ver X.flex (.struct S' sz df (some (f',2)) (.cons h1 (.prim .i32) (.cons h2 (.prim .i32) .nil)) .nil) false tr=(fixed (tr.l.headD Tree.zero).n 4 ++ fixed (tr.l.tail.headD Tree.zero).n 4) ++ wTags true tr.u:=by
    simp [wTy,wFs,hv1,hv2',wKn,wTagsB,hf,wPrim,PK.width,Fs.len]
   have hd:wTy X.ver X.flex (.struct S' sz df (some (f',2)) (.cons h1 (.prim .i32) (.cons h2 (.prim .i32) .nil)) .nil) false (dT h (.struct S' sz df (some (f',2)) (.cons h1 (.prim .i32) (.cons h2 (.prim .i32) .nil)) .nil))=(fixed (-1) 4 ++ fixed (-1) 4) ++ wTags true []:=by
    simp [wTy,wFs,hv1,hv2',wKn,wTagsB,hf,wPrim,PK.width,Fs.len,dT,dFs,Tree.l,Tree.u,Tree.n,d4,e4]
   have hiff:((fixed (tr.l.headD Tree.zero).n 4 ++ fixed (tr.l.tail.headD Tree.zero).n 4) ++ wTags true tr.u=(fixed (-1) 4 ++ fixed (-1) 4) ++ wTags true []) ↔ ((tr.l.headD Tree.zero).n=-1/\(tr.l.tail.headD Tree.zero).n=-1/\m=none):=by
    have hl:∀ n:Int,(fixed n 4).length=4:=fun n=>rfl
    constructor
    ·intro e
     rw [List.append_assoc,List.append_assoc] at e
     obtain ⟨y1,e⟩:=List.append_inj e (by rw [hl,hl])
     obtain ⟨y2,e⟩:=List.append_inj e (by rw [hl,hl])
     refine ⟨fixed4_inj r1 (by omega) y1,fixed4_inj r2 (by omega) y2,hm.2 ?_⟩
     simp only [wTags,if_true,hunk] at e
     cases hu:tr.u with
     | nil=>rfl
     | cons x r =>
      exfalso
      rw [hu] at e
      have h0:(uvarint (unknown []).length ++ (unknown []).flatMap wTag).length=1:=by simp [unknown,uvarint]
      have h1:1<=(uvarint (x :: r).length).length:=uvarint_pos _
      have h2:1<=(wTag x).length:=by unfold wTag;have:=uvarint_pos x.1;simp only [List.length_append];omega
      have:=congrArg List.length e
      rw [h0] at this
      simp only [List.length_append,List.flatMap_cons] at this
      omega
    ·rintro ⟨y1,y2,y3⟩
     rw [y1,y2,hm.1 y3]
   rw [hw,hd]
   have he:(if (!decide ((tr.l.headD Tree.zero).n=-1/\(tr.l.tail.headD Tree.zero).n=-1/\m=none))=true then some ((fixed (tr.l.headD Tree.zero).n 4 ++ fixed (tr.l.tail.headD Tree.zero).n 4) ++ wTags true tr.u) else none)=(if (fixed (tr.l.headD Tree.zero).n 4 ++ fixed (tr.l.tail.headD Tree.zero).n 4) ++ wTags true tr.u=(fixed (-1) 4 ++ fixed (-1) 4) ++ wTags true [] then none else some ((fixed (tr.l.headD Tree.zero).n 4 ++ fixed (tr.l.tail.headD Tree.zero).n 4) ++ wTags true tr.u)):=by
    by_cases h0:(tr.l.headD Tree.zero).n=-1/\(tr.l.tail.headD Tree.zero).n=-1/\m=none
    ·rw [if_neg (by rw [decide_eq_true h0];decide),if_pos (hiff.2 h0)]
    ·rw [if_pos (by rw [decide_eq_false h0];rfl),if_neg (fun e=>h0 (hiff.1 e))]
   rw [<- he]
   exact this
  ·have hf':X.flex=false:=by simpa using hf
   have:=aKnStruct_ok (X:=X) (S:=S) (p:=p) (f:=f) (off:=off) (v:=v) (t:=t) (b:=bk) (l:=l) (bk:=b) (o:=o) (S':=S') (f':=f') (h:=h) (h1:=h1) (h2:=h2) (u:=u) (u':=[]) (x1:=0) (x2:=0) (m:=none) hX hK hlv hlf hp hp1 (by omega) (by omega) ht (by omega) hn hS hb hT (fun h=>absurd h hf) k2 q2 q7 q8 q6 s1 s2 o1 o2 s3 (fun h=>absurd h hf) (fun h=>absurd h hf) (fun h=>absurd h hf) (fun h=>absurd h hf)
   rw [hf'] at this ⊢
   rw [wTagsB_no] at this ⊢
   exact this
end
end
set_option maxHeartbeats 200000
section
variable {X:Fix}
theorem top_mid {S b o:Nat} {tags:Option (Nat × Nat)} {fs kn:Fs} {v t:Nat} {ts:List Tree} {u:List (Nat × Bytes)} {Q:Exit->Act->World->Prop} {a:Act} {w:World} (hX:X.ok) (hvT:v+nVs fs+nVk kn<=X.T0) (ht:X.T0<=t) (htN:t+aFT X.c fs+aKT X.c tags kn+1<=X.N)
  (hlv:X.c.ver < v) (hlf:X.c.flex < v) (hv:5 < v) (hb:b < X.B) (htags:okTags X.P X.I X.c S tags=true) (hfs:okFs X.P X.I X.c X.tU8 S fs=true) (hkn:okKnA X.P X.I X.c X.tU8 S tags kn=true)
  (hH:HFs X.G X.w0 (· < X.B) X.ver X.flex fs b o ts) (hT:TagsAt X.G X.w0 (· < X.B) X.flex b o tags u) (hk:HKn X.G X.w0 (· < X.B) X.ver X.flex kn b o (ts.drop (Fs.len fs)) u) (hi:AInv X a w []) (hp:getT a 0=.pointer (some ⟨b,o,none⟩))
  (hlim:(wFs X.ver X.flex fs ts ++ wTagsB X.flex (wKn X.ver X.flex kn (ts.drop (Fs.len fs))) u).length<=lim)
  (hQ:∀ a' w' dv,a'.defers=[]->getT a' 4=dv->Own X.tU8 w' X.B dv (wFs X.ver X.flex fs ts ++ wTagsB X.flex (wKn X.ver X.flex kn (ts.drop (Fs.len fs))) u)->Below X.B X.w0 w'->Q .ret a' w') :
  (seqs ((aFs X.I X.c S 0 v t 0 fs ++ aTagsK X.I X.c S 0 tags (v+nVs fs) (t+aFT X.c fs) (nBs fs) 1 kn) ++ [.reg [mv (t+aFT X.c fs+aKT X.c tags kn) 1,asg 4 (t+aFT X.c fs+aKT X.c tags kn)],.ret])).wp X.P Q a w:=by
 have h1:=hX.oneT
 have hA:=aFs_ok hX fs S 0 v t 0 b o ts hfs hH hb (by omega) (by omega) hlv hlf (by omega) (by omega) ht (by omega)
 have hTg:=aTagsK_ok hX kn S 0 tags (v+nVs fs) (t+aFT X.c fs) (nBs fs) 1 b o (ts.drop (Fs.len fs)) u htags hkn hT hk hb (by omega) (by omega) (by omega) (by omega) (by omega) (by omega) (by omega) (by omega)
 refine (hA.append (hTg.mono (by omega) (by omega))).wp_append (by simp) (stable_slot (by omega) (by omega)) a w [] hi hp (by simpa using hlim) ?_
 intro a' w' hi' _
 have hsz:=hi'.size
 rw [List.nil_append] at hi'
 refine wSq (wRg (ops_mv (ops_asg (oNi ?_))))
 refine wRt (hQ _ _ (getT a' 1) (by simp [dPu,hi'.defers]) ?_ hi'.own hi'.below)
 rw [gTp (by simp only [sPu];omega),gTp (by omega)]
end
def flexAt (flex:Option Int) (ver:Int):Bool:=match flex with | none=>false | some n=>decide (n<=ver)
def okTop (P:Program) (I:Ids) (tU8 S t N:Nat) (flex:Option Int) (tags:Option (Nat × Nat)) (fs kn:Fs):Bool :=
 decide (v0Of flex+nVs fs+nVk kn<=t) && decide (t1Of t flex+aFT (ctxOf flex) fs+aKT (ctxOf flex) tags kn+1<=N) && fieldB P S 0 0 && oneB P I.tI16 && okTags P I (ctxOf flex) S tags && okFs P I (ctxOf flex) tU8 S fs && okKnA P I (ctxOf flex) tU8 S tags kn
theorem appendTo_calls {P:Program} {I:Ids} {tU8:Nat} {G:List (Nat × Bytes)->Prop} {f S t:Nat} {fn:Func} {flex:Option Int} {tags:Option (Nat × Nat)} {fs kn:Fs} (hm:P.follows .mixedOrders=true) (hka:KA G P I tU8)
  (hf:P.funcs[f]?=some fn) (hb:fn.body.map strip=some (aTop I S t flex tags fs kn)) (hr:fn.results=#[.tmp 4]) (hok:okTop P I tU8 S t fn.ntmps flex tags fs kn=true)
  (w:World) (b o:Nat) (ver:Int) (ts:List Tree) (u:List (Nat × Bytes)) (hbB:b < w.heap.size) (hver:w.cell? ⟨b,o,none⟩=some (.int .i16 ver)) (hv0:0<=ver)
  (hH:HFs G w (· < w.heap.size) ver (flexAt flex ver) fs b o ts) (hT:TagsAt G w (· < w.heap.size) (flexAt flex ver) b o tags u) (hk:HKn G w (· < w.heap.size) ver (flexAt flex ver) kn b o (ts.drop (Fs.len fs)) u)
  (hlim:(wFs ver (flexAt flex ver) fs ts ++ wTagsB (flexAt flex ver) (wKn ver (flexAt flex ver) kn (ts.drop (Fs.len fs))) u).length<=lim) :
  Calls P f #[.pointer (some ⟨b,o,none⟩),.slice none 0 0] w fun e w'=>∃ dv,e=.returned dv/\Own tU8 w' w.heap.size dv (wFs ver (flexAt flex ver) fs ts ++ wTagsB (flexAt flex ver) (wKn ver (flexAt flex ver) kn (ts.drop (Fs.len fs))) u)/\Below w.heap.size w w':=by
 unfold okTop at hok
 simp only [Bool.and_eq_true,decide_eq_true_eq] at hok
 obtain ⟨⟨⟨⟨⟨⟨h1,h2⟩,h3⟩,h4⟩,h5⟩,h6⟩,h7⟩:=hok
 obtain ⟨c,hc,hs⟩:∃ c,fn.body=some c/\strip c=aTop I S t flex tags fs kn:=by
  cases hc:fn.body with
  | none=>simp [hc] at hb
  | some c=>exact ⟨c,rfl,by simpa [hc] using hb⟩
 refine calls_of_wp hf hc ?_
 generalize hR:bodyPost P fn _=Q
 suffices h:(aTop I S t flex tags fs kn).wp P Q { tmps:=#[.pointer (some ⟨b,o,none⟩),.slice none 0 0] ++ Array.replicate (fn.ntmps - 2) undef,defers:=[] } w from h c hs
 have hQ:∀ a w' dv,a.defers=[]->getT a 4=dv->Own tU8 w' w.heap.size dv (wFs ver (flexAt flex ver) fs ts ++ wTagsB (flexAt flex ver) (wKn ver (flexAt flex ver) kn (ts.drop (Fs.len fs))) u)->Below w.heap.size w w'->Q .ret a w':=by
  intro a w' dv hd h4 ho hbl
  subst hR
  exact bodyPost_ret (results_tmp hr _ _ _) hd ⟨_,rfl,by rw [<- h4] at ho;exact ho,hbl⟩
 clear hR hs hc hb hf hr
 have hown0:Own tU8 w w.heap.size (.slice none 0 0) []:=World.ownsRow_nil _ _ _ _
 have ht5:6<=t/\t+6<=fn.ntmps:=by cases flex <;> simp [v0Of,t1Of] at h1 h2 <;> omega
 generalize ha0:({ tmps:=#[.pointer (some ⟨b,o,none⟩),.slice none 0 0] ++ Array.replicate (fn.ntmps - 2) undef,defers:=[] }:Act)=a0
 have h00:getT a0 0=.pointer (some ⟨b,o,none⟩):=by rw [<- ha0];simp [getT,Array.getD]
 have h01:getT a0 1=.slice none 0 0:=by
  rw [<- ha0]
  simp only [getT,Array.getD_eq_getD_getElem?]
  rw [Array.getElem?_append_left (by simp)]
  rfl
 have hd0:a0.defers=[]:=by rw [<- ha0]
 have hs0:a0.tmps.size=fn.ntmps:=by rw [<- ha0];simp;omega
 clear ha0
 have fin:∀ a1:Act,a1.tmps.size=fn.ntmps->a1.defers=[]->getT a1 0=.pointer (some ⟨b,o,none⟩)->getT a1 1=.slice none 0 0->getT a1 5=.int .i16 ver ->
   (seqs (flexPart I t flex ++ ((aFs I (ctxOf flex) S 0 (v0Of flex) (t1Of t flex) 0 fs ++ aTagsK I (ctxOf flex) S 0 tags (v0Of flex+nVs fs) (t1Of t flex+aFT (ctxOf flex) fs) (nBs fs) 1 kn) ++
    [.reg [mv (t1Of t flex+aFT (ctxOf flex) fs+aKT (ctxOf flex) tags kn) 1,asg 4 (t1Of t flex+aFT (ctxOf flex) fs+aKT (ctxOf flex) tags kn)],.ret]))).wp P Q a1 w:=by
  intro a1 hs1 hd1 h10 h11 h15
  cases flex with
  | none =>
   simp only [v0Of,t1Of,ctxOf,flexAt,flexPart,List.nil_append] at *
   let X:Fix:=⟨P,I,tU8,G,⟨5,5,true,0⟩,w,w.heap.size,ver,false,t,fn.ntmps⟩
   have hX:X.ok:=⟨hka,(by omega:(5:Nat) ≠ 1),(by omega:(5:Nat) ≠ 1),(by omega:5 < t),(by omega:5 < t),(by omega:1 < t),fun _=>rfl,Nat.le_refl _,hv0,hm⟩
   exact top_mid (X:=X) hX h1 (by show t<=t+5;omega) h2 (by show 5 < 6;omega) (by show 5 < 6;omega) (by omega) hbB h5 h6 h7 hH hT hk
    ⟨hs1,hd1,h15,(by intro h;cases h),(by rw [h11];exact hown0),Below.refl _ _,Nat.le_refl _⟩ h10 hlim hQ
  | some n =>
   simp only [v0Of,t1Of,ctxOf,flexAt,flexPart] at *
   rw [List.cons_append,seqs_cons (by simp)]
   refine wSq (wRg (ops_mv (oNo rfl (opw_cmp (op:=.geq) (k:=.i16) (m:=ver) (n:=n) (r:=decide (n<=ver)) ?_ rfl (by simp) (ops_asg (oNi ?_))))))
   ·rw [eTm,gTp (by omega)]
    exact h15
   rw [List.cons_append,List.nil_append,seqs_cons (by simp)]
   refine wSq (wRg (ops_mv (oNi ?_)))
   let X:Fix:=⟨P,I,tU8,G,⟨5,6,false,0⟩,w,w.heap.size,ver,decide (n<=ver),t,fn.ntmps⟩
   have hX:X.ok:=⟨hka,(by omega:(5:Nat) ≠ 1),(by omega:(6:Nat) ≠ 1),(by omega:5 < t),(by omega:6 < t),(by omega:1 < t),(fun h=>by cases h),Nat.le_refl _,hv0,hm⟩
   refine top_mid (X:=X) hX h1 (by show t<=t+8;omega) h2 (by show 5 < 7;omega) (by show 6 < 7;omega) (by omega) hbB h5 h6 h7 hH hT hk
    ⟨?_,?_,?_,?_,?_,Below.refl _ _,Nat.le_refl _⟩ ?_ hlim hQ
   ·simp [sPu,hs1];rfl
   ·simp [dPu,hd1]
   ·show getT _ 5=_
    simp (disch:=omega) [gTn]
    exact h15
   ·intro _
    show getT _ 6=_
    simp (disch:=(try simp only [sPu]);omega) [gTp,gTn]
    rfl
   ·simp (disch:=omega) [gTn]
    rw [h11];exact hown0
   ·simp (disch:=omega) [gTn]
    exact h10
 obtain ⟨rest,hrest⟩:∃ rest,rest=(flexPart I t flex ++ ((aFs I (ctxOf flex) S 0 (v0Of flex) (t1Of t flex) 0 fs ++ aTagsK I (ctxOf flex) S 0 tags (v0Of flex+nVs fs) (t1Of t flex+aFT (ctxOf flex) fs) (nBs fs) 1 kn) ++
    [.reg [mv (t1Of t flex+aFT (ctxOf flex) fs+aKT (ctxOf flex) tags kn) 1,asg 4 (t1Of t flex+aFT (ctxOf flex) fs+aKT (ctxOf flex) tags kn)],.ret])):=⟨_,rfl⟩
 have htop:aTop I S t flex tags fs kn=seqs (.reg [⟨some 4,.assign (.const (.slice none 0 0)),none⟩] :: aLoad S 0 0 I.tI16 5 t :: .reg [mv (t+4) 5] :: rest):=by rw [hrest];rfl
 have hne:rest ≠ []:=by rw [hrest];simp
 rw [<- hrest] at fin
 clear hrest
 rw [htop,seqs_cons (by simp)]
 refine wSq (wRg (oNo rfl (opw_assign (oNi ?_))))
 rw [eCo,seqs_cons (by simp)]
 refine wSq (wRg (ops_mv (ops_nilc (ad:=⟨b,o,none⟩) ?_ (ops_fa h3 (b:=b) (o:=o) (by rw [gTp (by simp only [sPu];omega)]) ?_))))
 ·rw [gTp (by simp only [sPu];omega),gTn (by omega)]
  exact h00
 refine ops_ld h4 (ad:=⟨b,o+0,none⟩) (v:=.int .i16 ver) (by rw [gTp (by simp only [sPu];omega)]) (by rw [Nat.add_zero];exact hver) (ops_asg (oNi ?_))
 rw [seqs_cons hne]
 refine wSq (wRg (ops_mv (oNi ?_)))
 refine fin _ (by simp [sPu,hs0]) (by simp [dPu,hd0]) ?_ ?_ ?_
 ·simp (disch:=omega) [gTn,h00]
 ·simp (disch:=omega) [gTn,h01]
 ·simp (disch:=(try simp only [sPu]);omega) [gTp,gTn]
end Go.Proofs.YtdnpafdgglpagaaGreatDoor.K
namespace Go.Proofs.YtdnpafdgglpagaaGreatDoor.K
open Go Go.RowKit Go.Proofs.YtdnpafdgglpagaaGreatDoor.T
set_option linter.unusedVariables false
set_option linter.unusedSimpArgs false
def wpL (P:Program) (Q:Exit->Act->World->Prop):List SC->Act->World->Prop
 | [],a,w=>Q .normal a w
 | x :: l,a,w=>x.wp P (Exit.then (wpL P Q l) Q) a w
theorem wpL_seqs {P:Program} {Q:Exit->Act->World->Prop}:∀ (l:List SC) (a:Act) (w:World),wpL P Q l a w->(seqs l).wp P Q a w
 | [],a,w,h=>wSk h
 | [x],a,w,h=>SC.wp_mono h fun e a w hq=>by cases e <;> exact hq
 | x :: y :: l,a,w,h=>wSq (SC.wp_mono h fun e a w hq=>by
   cases e
   case normal=>exact wpL_seqs (y :: l) a w hq
   all_goals exact hq)
def szTy (nul:Bool):Ty->Nat
 | .prim k=>if k=.uuid then 16 else 1
 | .list _ _ _ _=>1
 | .struct _ size _ _ _ _=>if nul then 1 else size
def nuOf (h:Hd):Bool:=decide (0<=h.null)
def knSz:Ty->Bool
 | .struct _ sz _ _ _ _=>decide (3<=sz)
 | .list _ _ _ _=>true
 | _=>false
def endF (size:Nat) (tags:Option (Nat × Nat)):Fs->Nat
 | .nil=>match tags with | none=>size | some (_,off)=>off
 | .cons h _ _=>h.off
mutual
def layTy (nul:Bool):Ty->Bool
 | .prim _=>true
 | .list _ _ size of=>layTy false of && decide (szTy false of<=size)
 | .struct _ size _ tags fs kn=>layFs 0 (endF size tags kn) fs && (match tags with | none=>true | some (_,off)=>decide (off < size)) && layKn tags kn
def layFs (lo n:Nat):Fs->Bool
 | .nil=>decide (lo<=n)
 | .cons h ty r=>decide (lo<=h.off) && decide (h.off+szTy (nuOf h) ty<=n) && layTy (nuOf h) ty && layFs (h.off+szTy (nuOf h) ty) n r
def layKn (tags:Option (Nat × Nat)):Fs->Bool
 | .nil=>true
 | .cons h ty _=>layTy false ty && (match tags with | none=>false | some (_,off)=>decide (h.off+szTy false ty<=off) && knSz ty)
end
section
variable {G:List (Nat × Bytes)->Prop} {w w':World} {F F':Nat->Prop}
theorem bytesAt_frame {base:Option Addr} {bs:Bytes} (hF:∀ k,F k->F' k/\w'.heap[k]?=w.heap[k]?) (h:BytesAt w F base bs):BytesAt w' F' base bs:=by
 rcases h with h | ⟨b,o,h1,h2,h3⟩
 ·exact .inl h
 ·exact .inr ⟨b,o,h1,(hF b h2).1,fun j u hu=>by rw [World.cell?_of_block (hF b h2).2];exact h3 j u hu⟩
theorem pVal_frame {nul:Bool} {t:Tree} {k:PK} {v:Value} (hF:∀ k,F k->F' k/\w'.heap[k]?=w.heap[k]?) (h:PVal w F nul t k v):PVal w' F' nul t k v:=by
 cases k <;> simp only [PVal] at h ⊢
 case str =>
  split at h
  ·rename_i hn
   split at h
   ·rename_i ht
    rw [if_pos hn,if_pos ht]
    exact h
   ·rename_i ht
    rw [if_pos hn,if_neg ht]
    obtain ⟨b',o',s,h1,h2,h3,h4⟩:=h
    exact ⟨b',o',s,h1,(hF _ h2).1,by rw [World.cell?_of_block (hF _ h2).2];exact h3,h4⟩
  ·rename_i hn
   rw [if_neg hn]
   exact h
 case bytes =>
  obtain ⟨base,cap,h1,h2⟩:=h
  refine ⟨base,cap,h1,?_⟩
  split at h2
  ·rename_i hn
   rw [if_pos hn]
   exact h2
  ·rename_i hn
   rw [if_neg hn]
   exact ⟨bytesAt_frame hF h2.1,h2.2⟩
 all_goals exact h
theorem tagsV_frame {u:List (Nat × Bytes)} {m:Value} (hF:∀ k,F k->F' k/\w'.heap[k]?=w.heap[k]?) (h:TagsV w F u m):TagsV w' F' u m:=by
 rcases h with h | ⟨r,es,clock,h1,h2,h3,hne,h4,h4s,h5⟩
 ·exact .inl h
 ·refine .inr ⟨r,es,clock,h1,(hF _ h2).1,by rw [(hF _ h2).2];exact h3,hne,h4,h4s,fun e he x hx hk=>?_⟩
  obtain ⟨base,cap,q1,q2⟩:=h5 e he x hx hk
  exact ⟨base,cap,q1,bytesAt_frame hF q2⟩
theorem hTags_frame {b o:Nat} {u:List (Nat × Bytes)} (hF:∀ k,F k->F' k/\w'.heap[k]?=w.heap[k]?) (hc:w'.cell? ⟨b,o,none⟩=w.cell? ⟨b,o,none⟩) (h:HTags G w F b o u):HTags G w' F' b o u:=by
 obtain ⟨h1,h2,h3,h4,h5⟩:=h
 refine ⟨h1,h2,h3,h4,?_⟩
 rw [hc]
 rcases h5 with h5 | ⟨r,es,clock,q1,q2,q3,hne,q4,q4s,q5⟩
 ·exact .inl h5
 ·refine .inr ⟨r,es,clock,q1,(hF _ q2).1,by rw [(hF _ q2).2];exact q3,hne,q4,q4s,fun e he x hx hk=>?_⟩
  obtain ⟨base,cap,k1,k2⟩:=q5 e he x hx hk
  exact ⟨base,cap,k1,bytesAt_frame hF k2⟩
mutual
theorem hTy_frame (hF:∀ k,F k->F' k/\w'.heap[k]?=w.heap[k]?) (ver:Int) (flex:Bool):∀ (ty:Ty) (nul:Bool) (b o:Nat) (t:Tree),layTy nul ty=true ->
  (∀ j,o<=j->j < o+szTy nul ty->w'.cell? ⟨b,j,none⟩=w.cell? ⟨b,j,none⟩)->HTy G w F ver flex ty nul b o t->HTy G w' F' ver flex ty nul b o t
 | .prim k,nul,b,o,t,_,hc,h=>by
  simp only [HTy,HPrim] at h ⊢
  simp only [szTy] at hc
  split
  ·rename_i hk
   subst hk
   rw [if_pos rfl] at h
   intro j u hu
   have hj:j < 16:=by
    have:=(List.getElem?_eq_some_iff.1 hu).1
    rw [uuidOf_length] at this
    exact this
   rw [hc (o+j) (by omega) (by simp;omega)]
   exact h j u hu
  ·rename_i hk
   rw [if_neg hk] at h hc
   obtain ⟨v,h1,h2⟩:=h
   exact ⟨v,by rw [hc o (by omega) (by omega)];exact h1,pVal_frame hF h2⟩
 | .list _ _ size of,nul,b,o,t,hl,hc,h=>by
  simp only [HTy] at h ⊢
  simp only [layTy,Bool.and_eq_true] at hl
  simp only [szTy] at hc
  obtain ⟨base,cap,h1,h2⟩:=h
  refine ⟨base,cap,by rw [hc o (by omega) (by omega)];exact h1,?_⟩
  split at h2
  ·rename_i hn
   rw [if_pos hn]
   exact h2
  ·rename_i hn
   rw [if_neg hn]
   refine ⟨h2.1,h2.2.1,h2.2.2.imp id fun ⟨b',o',q1,q2,q3⟩=>⟨b',o',q1,(hF _ q2).1,fun i x hx=>?_⟩⟩
   exact hTy_frame hF ver flex of false b' (o'+i * size) x hl.1 (fun j _ _=>World.cell?_of_block (hF _ q2).2) (q3 i x hx)
 | .struct _ size _ tags fs kn,nul,b,o,t,hl,hc,h=>by
  simp only [HTy] at h ⊢
  simp only [layTy,Bool.and_eq_true] at hl
  have key:∀ (b o:Nat),(∀ j,o<=j->j < o+size->w'.cell? ⟨b,j,none⟩=w.cell? ⟨b,j,none⟩)->(HFs G w F ver flex fs b o t.l/\TagsAt G w F flex b o tags t.u/\HKn G w F ver flex kn b o (t.l.drop (Fs.len fs)) t.u) ->
    (HFs G w' F' ver flex fs b o t.l/\TagsAt G w' F' flex b o tags t.u/\HKn G w' F' ver flex kn b o (t.l.drop (Fs.len fs)) t.u):=by
   clear hc h
   intro b o hc h
   obtain ⟨hl1,hl3⟩:=hl
   obtain ⟨hl1,hl2⟩:=hl1
   have hend:endF size tags kn<=size:=by
    cases kn with
    | nil =>
     cases tags with
     | none=>exact Nat.le_refl _
     | some x=>simp only [decide_eq_true_eq] at hl2;simp only [endF];omega
    | cons h2 ty r =>
     cases tags with
     | none=>simp [layKn] at hl3
     | some x =>
      simp only [decide_eq_true_eq] at hl2
      simp only [layKn,Bool.and_eq_true,decide_eq_true_eq] at hl3
      simp only [endF];omega
   refine ⟨hFs_frame hF ver flex fs 0 _ b o t.l hl1 (fun j h1 h2=>hc j (by omega) (by omega)) h.1,?_,hKn_frame hF ver flex kn size tags b o _ _ hl3 (fun f off e=>by subst e;simpa using hl2) hc h.2.2⟩
   have h2:=h.2.1
   unfold TagsAt at h2 ⊢
   cases tags with
   | none=>exact h2
   | some x =>
    obtain ⟨f,off⟩:=x
    simp only [decide_eq_true_eq] at hl2
    exact fun hf=>hTags_frame hF (hc _ (by omega) (by omega)) (h2 hf)
  split
  ·rename_i hn
   rw [if_pos hn] at h
   simp only [szTy,hn,if_true] at hc
   split
   ·rename_i ht
    rw [if_pos ht] at h
    rw [hc o (by omega) (by omega)]
    exact h
   ·rename_i ht
    rw [if_neg ht] at h
    obtain ⟨b',o',q1,q2,q3⟩:=h
    exact ⟨b',o',by rw [hc o (by omega) (by omega)];exact q1,(hF _ q2).1,key b' o' (fun j _ _=>World.cell?_of_block (hF _ q2).2) q3⟩
  ·rename_i hn
   rw [if_neg hn] at h
   have hn':nul=false:=by simpa using hn
   simp only [szTy,hn',Bool.false_eq_true,if_false] at hc
   exact key b o hc h
theorem hFs_frame (hF:∀ k,F k->F' k/\w'.heap[k]?=w.heap[k]?) (ver:Int) (flex:Bool):∀ (fs:Fs) (lo n:Nat) (b o:Nat) (ts:List Tree),layFs lo n fs=true ->
  (∀ j,o+lo<=j->j < o+n->w'.cell? ⟨b,j,none⟩=w.cell? ⟨b,j,none⟩)->HFs G w F ver flex fs b o ts->HFs G w' F' ver flex fs b o ts
 | .nil,_,_,_,_,_,_,_,_=>by simp [HFs]
 | .cons h ty r,lo,n,b,o,ts,hl,hc,hh=>by
  simp only [HFs] at hh ⊢
  simp only [layFs,Bool.and_eq_true,decide_eq_true_eq] at hl
  obtain ⟨⟨⟨l1,l2⟩,l3⟩,l4⟩:=hl
  refine ⟨fun hv=>hTy_frame hF ver flex ty _ b (o+h.off) _ l3 (fun j h1 h2=>hc j (by omega) (by unfold nuOf at l2;omega)) (hh.1 hv),hFs_frame hF ver flex r _ n b o _ l4 (fun j h1 h2=>hc j (by omega) h2) hh.2⟩
theorem hKn_frame (hF:∀ k,F k->F' k/\w'.heap[k]?=w.heap[k]?) (ver:Int) (flex:Bool):∀ (kn:Fs) (size:Nat) (tags:Option (Nat × Nat)) (b o:Nat) (ks:List Tree) (u:List (Nat × Bytes)),layKn tags kn=true->(∀ f off,tags=some (f,off)->off < size) ->
  (∀ j,o<=j->j < o+size->w'.cell? ⟨b,j,none⟩=w.cell? ⟨b,j,none⟩)->HKn G w F ver flex kn b o ks u->HKn G w' F' ver flex kn b o ks u
 | .nil,_,_,_,_,_,_,_,_,_,_=>by simp [HKn]
 | .cons h ty r,size,tags,b,o,ks,u,hl,ht,hc,hh=>by
  simp only [HKn] at hh ⊢
  intro hf
  obtain ⟨h1,h2⟩:=hh hf
  simp only [layKn,Bool.and_eq_true] at hl
  obtain ⟨l1,l2⟩:=hl
  cases tags with
  | none=>simp at l2
  | some x =>
   have:=ht x.1 x.2 rfl
   simp only [Bool.and_eq_true,decide_eq_true_eq] at l2
   exact ⟨hTy_frame hF ver flex ty false b (o+h.off) _ l1 (fun j h1 h2=>hc j (by omega) (by omega)) h1,h2⟩
end
end
def knCells (w:World) (b:Nat) (ty:Ty) (o:Nat):Prop:=match ty with
 | .struct _ _ _ _ _ _=>w.cell? ⟨b,o+2,none⟩=some (.map none)
 | _=>True
mutual
def FrTy (w:World) (b:Nat) (nul:Bool):Ty->Nat->Prop
 | .prim _,_=>True
 | .list _ _ _ _,o=>w.cell? ⟨b,o,none⟩=some (.slice none 0 0)
 | .struct _ _ _ tags fs kn,o=>if nul then w.cell? ⟨b,o,none⟩=some (.pointer none) else FrFs w b fs o/\FrKn w b tags kn o
def FrFs (w:World) (b:Nat):Fs->Nat->Prop
 | .nil,_=>True
 | .cons h ty r,o=>FrTy w b (nuOf h) ty (o+h.off)/\FrFs w b r o
def FrKn (w:World) (b:Nat) (tags:Option (Nat × Nat)):Fs->Nat->Prop
 | .nil,_=>True
 | .cons h ty _,o=>(∃ f off,tags=some (f,off)/\w.cell? ⟨b,o+off,none⟩=some (.map none))/\FrTy w b false ty (o+h.off)/\knCells w b ty (o+h.off)
end
mutual
theorem frTy_frame {w w':World} {b:Nat}:∀ (nul:Bool) (ty:Ty) (o:Nat),layTy nul ty=true->(∀ j,o<=j->j < o+szTy nul ty->w'.cell? ⟨b,j,none⟩=w.cell? ⟨b,j,none⟩)->FrTy w b nul ty o->FrTy w' b nul ty o
 | nul,.prim _,_,_,_,_=>by simp [FrTy]
 | nul,.list _ _ _ _,o,_,hc,h=>by
  simp only [FrTy] at h ⊢
  simp only [szTy] at hc
  rw [hc o (by omega) (by omega)]
  exact h
 | nul,.struct _ size _ tags fs kn,o,hl,hc,h=>by
  simp only [FrTy] at h ⊢
  simp only [layTy,Bool.and_eq_true] at hl
  cases nul with
  | true =>
   simp only [szTy,if_true] at hc h ⊢
   rw [hc o (by omega) (by omega)]
   exact h
  | false =>
   simp only [szTy,Bool.false_eq_true,if_false] at hc h ⊢
   obtain ⟨⟨hl1,hl2⟩,hl3⟩:=hl
   have hend:endF size tags kn<=size:=by
    cases kn with
    | nil =>
     cases tags with
     | none=>exact Nat.le_refl _
     | some x=>simp only [decide_eq_true_eq] at hl2;simp only [endF];omega
    | cons h2 ty r =>
     cases tags with
     | none=>simp [layKn] at hl3
     | some x =>
      simp only [decide_eq_true_eq] at hl2
      simp only [layKn,Bool.and_eq_true,decide_eq_true_eq] at hl3
      simp only [endF];omega
   exact ⟨frFs_frame fs 0 _ o hl1 (fun j h1 h2=>hc j (by omega) (by omega)) h.1,frKn_frame kn size tags o hl3 (fun f off e=>by subst e;simpa using hl2) hc h.2⟩
theorem frFs_frame {w w':World} {b:Nat}:∀ (fs:Fs) (lo n o:Nat),layFs lo n fs=true->(∀ j,o+lo<=j->j < o+n->w'.cell? ⟨b,j,none⟩=w.cell? ⟨b,j,none⟩)->FrFs w b fs o->FrFs w' b fs o
 | .nil,_,_,_,_,_,_=>by simp [FrFs]
 | .cons h ty r,lo,n,o,hl,hc,hh=>by
  simp only [FrFs] at hh ⊢
  simp only [layFs,Bool.and_eq_true,decide_eq_true_eq] at hl
  obtain ⟨⟨⟨l1,l2⟩,l3⟩,l4⟩:=hl
  exact ⟨frTy_frame (nuOf h) ty _ l3 (fun j h1 h2=>hc j (by omega) (by omega)) hh.1,frFs_frame r _ n o l4 (fun j h1 h2=>hc j (by omega) h2) hh.2⟩
theorem frKn_frame {w w':World} {b:Nat}:∀ (kn:Fs) (size:Nat) (tags:Option (Nat × Nat)) (o:Nat),layKn tags kn=true->(∀ f off,tags=some (f,off)->off < size)->(∀ j,o<=j->j < o+size->w'.cell? ⟨b,j,none⟩=w.cell? ⟨b,j,none⟩)->FrKn w b tags kn o->FrKn w' b tags kn o
 | .nil,_,_,_,_,_,_,_=>by simp [FrKn]
 | .cons h ty r,size,tags,o,hl,ht,hc,hh=>by
  simp only [FrKn] at hh ⊢
  simp only [layKn,Bool.and_eq_true] at hl
  obtain ⟨l1,l2⟩:=hl
  obtain ⟨⟨f,off,rfl,h1⟩,h2,h3⟩:=hh
  have hlt:=ht f off rfl
  simp only [decide_eq_true_eq,Bool.and_eq_true] at l2
  refine ⟨⟨f,off,rfl,by rw [hc _ (by omega) (by omega)];exact h1⟩,frTy_frame false ty _ l1 (fun j q1 q2=>hc j (by omega) (by omega)) h2,?_⟩
  unfold knCells at h3 ⊢
  cases ty with
  | struct a sz d tg fs kn =>
   simp only [szTy,Bool.false_eq_true,if_false,knSz,decide_eq_true_eq] at l2
   simp only at h3 ⊢
   rw [hc _ (by omega) (by omega)]
   exact h3
  | _=>trivial
end
def knCellsB (get:Nat->Option Value) (ty:Ty) (o:Nat):Bool:=match ty with
 | .struct _ _ _ _ _ _=>(match get (o+2) with | some (.map none)=>true | _=>false)
 | _=>true
mutual
def frTyB (get:Nat->Option Value) (nul:Bool):Ty->Nat->Bool
 | .prim _,_=>true
 | .list _ _ _ _,o=>match get o with | some (.slice none 0 0)=>true | _=>false
 | .struct _ _ _ tags fs kn,o=>if nul then (match get o with | some (.pointer none)=>true | _=>false) else frFsB get fs o && frKnB get tags kn o
def frFsB (get:Nat->Option Value):Fs->Nat->Bool
 | .nil,_=>true
 | .cons h ty r,o=>frTyB get (nuOf h) ty (o+h.off) && frFsB get r o
def frKnB (get:Nat->Option Value) (tags:Option (Nat × Nat)):Fs->Nat->Bool
 | .nil,_=>true
 | .cons h ty _,o=>(match tags with | none=>false | some (_,off)=>(match get (o+off) with | some (.map none)=>true | _=>false)) && frTyB get false ty (o+h.off) && knCellsB get ty (o+h.off)
end
mutual
theorem frTyB_ok {w:World} {b q:Nat} {get:Nat->Option Value} (hg:∀ j v,get j=some v->w.cell? ⟨b,q+j,none⟩=some v):∀ (nul:Bool) (ty:Ty) (o:Nat),frTyB get nul ty o=true->FrTy w b nul ty (q+o)
 | nul,.prim _,_,_=>by simp [FrTy]
 | nul,.list _ _ _ _,o,h=>by
  simp only [frTyB] at h
  simp only [FrTy]
  split at h
  ·rename_i hv
   exact hg _ _ hv
  ·simp at h
 | nul,.struct _ _ _ tags fs kn,o,h=>by
  simp only [frTyB] at h
  simp only [FrTy]
  cases nul with
  | true =>
   simp only [if_true] at h ⊢
   split at h
   ·rename_i hv
    exact hg _ _ hv
   ·simp at h
  | false =>
   simp only [Bool.false_eq_true,if_false] at h ⊢
   simp only [Bool.and_eq_true] at h
   exact ⟨frFsB_ok hg fs o h.1,frKnB_ok hg tags kn o h.2⟩
theorem frFsB_ok {w:World} {b q:Nat} {get:Nat->Option Value} (hg:∀ j v,get j=some v->w.cell? ⟨b,q+j,none⟩=some v):∀ (fs:Fs) (o:Nat),frFsB get fs o=true->FrFs w b fs (q+o)
 | .nil,_,_=>by simp [FrFs]
 | .cons h ty r,o,hh=>by
  simp only [frFsB,Bool.and_eq_true] at hh
  simp only [FrFs]
  exact ⟨by rw [Nat.add_assoc];exact frTyB_ok hg (nuOf h) ty _ hh.1,frFsB_ok hg r o hh.2⟩
theorem frKnB_ok {w:World} {b q:Nat} {get:Nat->Option Value} (hg:∀ j v,get j=some v->w.cell? ⟨b,q+j,none⟩=some v):∀ (tags:Option (Nat × Nat)) (kn:Fs) (o:Nat),frKnB get tags kn o=true->FrKn w b tags kn (q+o)
 | _,.nil,_,_=>by simp [FrKn]
 | tags,.cons h ty r,o,hh=>by
  simp only [frKnB,Bool.and_eq_true] at hh
  simp only [FrKn]
  obtain ⟨⟨h1,h2⟩,h3⟩:=hh
  cases tags with
  | none=>simp at h1
  | some x =>
   obtain ⟨f,off⟩:=x
   simp only at h1
   refine ⟨⟨f,off,rfl,?_⟩,by rw [Nat.add_assoc];exact frTyB_ok hg false ty _ h2,?_⟩
   ·split at h1
    ·rename_i hv
     rw [Nat.add_assoc]
     exact hg _ _ hv
    ·simp at h1
   ·unfold knCells
    cases ty with
    | struct a sz d tg fs kn =>
     simp only [knCellsB] at h3 ⊢
     split at h3
     ·rename_i hv
      rw [Nat.add_assoc,Nat.add_assoc,<- Nat.add_assoc o]
      exact hg _ _ hv
     ·simp at h3
    | _=>trivial
end
def outKc (out:List (Nat × Value)) (ty:Ty) (o:Nat):Bool:=match ty with
 | .struct _ _ _ _ _ _=>out.all fun x=>x.1 != o+2
 | _=>true
mutual
def outTy (out:List (Nat × Value)) (nul:Bool):Ty->Nat->Bool
 | .prim _,_=>true
 | .list _ _ _ _,o=>out.all fun x=>x.1 != o
 | .struct _ _ _ tags fs kn,o=>if nul then (out.all fun x=>x.1 != o) else outFs out fs o && outKn out tags kn o
def outFs (out:List (Nat × Value)):Fs->Nat->Bool
 | .nil,_=>true
 | .cons h ty r,o=>outTy out (nuOf h) ty (o+h.off) && outFs out r o
def outKn (out:List (Nat × Value)) (tags:Option (Nat × Nat)):Fs->Nat->Bool
 | .nil,_=>true
 | .cons h ty _,o=>(match tags with | none=>false | some (_,off)=>out.all fun x=>x.1 != o+off) && outTy out false ty (o+h.off) && outKc out ty (o+h.off)
end
theorem dSetAll_other {q j:Nat}:∀ (out:List (Nat × Value)) (cs:Array Value),(∀ x ∈ out,q+x.1 ≠ j)->(dSetAll q out cs)[j]?=cs[j]?
 | [],_,_=>rfl
 | x :: r,cs,h=>by
  rw [dSetAll,dSetAll_other r _ (fun y hy=>h y (List.mem_cons_of_mem _ hy))]
  rw [Array.getElem?_setIfInBounds_ne (h x (by simp))]
mutual
theorem outTy_ok {w w':World} {b q:Nat} {out:List (Nat × Value)} (hc:∀ j,(∀ x ∈ out,x.1 ≠ j)->w'.cell? ⟨b,q+j,none⟩=w.cell? ⟨b,q+j,none⟩):∀ (nul:Bool) (ty:Ty) (o:Nat),outTy out nul ty o=true->FrTy w b nul ty (q+o)->FrTy w' b nul ty (q+o)
 | nul,.prim _,_,_,_=>by simp [FrTy]
 | nul,.list _ _ _ _,o,h,hf=>by
  simp only [outTy,List.all_eq_true,bne_iff_ne,ne_eq] at h
  simp only [FrTy] at hf ⊢
  rw [hc o h]
  exact hf
 | nul,.struct _ _ _ tags fs kn,o,h,hf=>by
  simp only [outTy] at h
  simp only [FrTy] at hf ⊢
  cases nul with
  | true =>
   simp only [if_true,List.all_eq_true,bne_iff_ne,ne_eq] at h hf ⊢
   rw [hc o h]
   exact hf
  | false =>
   simp only [Bool.false_eq_true,if_false] at h hf ⊢
   simp only [Bool.and_eq_true] at h
   exact ⟨outFs_ok hc fs o h.1 hf.1,outKn_ok hc tags kn o h.2 hf.2⟩
theorem outFs_ok {w w':World} {b q:Nat} {out:List (Nat × Value)} (hc:∀ j,(∀ x ∈ out,x.1 ≠ j)->w'.cell? ⟨b,q+j,none⟩=w.cell? ⟨b,q+j,none⟩):∀ (fs:Fs) (o:Nat),outFs out fs o=true->FrFs w b fs (q+o)->FrFs w' b fs (q+o)
 | .nil,_,_,_=>by simp [FrFs]
 | .cons h ty r,o,hh,hf=>by
  simp only [outFs,Bool.and_eq_true] at hh
  simp only [FrFs] at hf ⊢
  refine ⟨?_,outFs_ok hc r o hh.2 hf.2⟩
  rw [Nat.add_assoc]
  exact outTy_ok hc (nuOf h) ty _ hh.1 (by rw [<- Nat.add_assoc];exact hf.1)
theorem outKn_ok {w w':World} {b q:Nat} {out:List (Nat × Value)} (hc:∀ j,(∀ x ∈ out,x.1 ≠ j)->w'.cell? ⟨b,q+j,none⟩=w.cell? ⟨b,q+j,none⟩):∀ (tags:Option (Nat × Nat)) (kn:Fs) (o:Nat),outKn out tags kn o=true->FrKn w b tags kn (q+o)->FrKn w' b tags kn (q+o)
 | _,.nil,_,_,_=>by simp [FrKn]
 | tags,.cons h ty r,o,hh,hf=>by
  simp only [outKn,Bool.and_eq_true] at hh
  simp only [FrKn] at hf ⊢
  obtain ⟨⟨h1,h2⟩,h3⟩:=hh
  obtain ⟨⟨f,off,rfl,f1⟩,f2,f3⟩:=hf
  simp only [List.all_eq_true,bne_iff_ne,ne_eq] at h1
  refine ⟨⟨f,off,rfl,?_⟩,?_,?_⟩
  ·rw [Nat.add_assoc,hc _ h1,<- Nat.add_assoc]
   exact f1
  ·rw [Nat.add_assoc]
   exact outTy_ok hc false ty _ h2 (by rw [<- Nat.add_assoc];exact f2)
  ·unfold knCells at f3 ⊢
   cases ty with
   | struct a sz d tg fs kn =>
    simp only [outKc,List.all_eq_true,bne_iff_ne,ne_eq] at h3
    simp only at f3 ⊢
    rw [show q+o+h.off+2=q+(o+h.off+2) by omega,hc _ h3,show q+(o+h.off+2)=q+o+h.off+2 by omega]
    exact f3
   | _=>trivial
end
end Go.Proofs.YtdnpafdgglpagaaGreatDoor.K
