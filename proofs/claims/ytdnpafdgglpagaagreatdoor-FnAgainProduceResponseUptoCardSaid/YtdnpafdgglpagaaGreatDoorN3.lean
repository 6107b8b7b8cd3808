/- Generic texts: S7 S8 S9 W1 W2 W3 W4. No condition. -/
import Derived.Test.YtdnpafdgglpagaaGreatDoorN2
namespace Go.Proofs.YtdnpafdgglpagaaGreatDoor.K
open Go Go.RowKit Go.Proofs.YtdnpafdgglpagaaGreatDoor.T
attribute [local simp] eTm eCo pNo gTp gTn qv qcall vop iop
set_option linter.unusedSimpArgs false
set_option linter.unusedVariables false
set_option maxHeartbeats 2000000
def PartC (G:List (Nat × Bytes)->Prop) (P:Program) (X:STy) (f:FuncId) (fs kn:Fs):Prop :=
 ∀ (w:World) (fv:Value) (ver:Int) (flex:Bool) (tv:Value) (t:Tree),0<=ver->FsV w (· < w.heap.size) fs kn fv->TV G w (· < w.heap.size) t tv->(wFs ver flex fs t.l ++ wTagsB flex (wKn ver flex kn (t.l.drop (Fs.len fs))) t.u).length<=lim ->
  Calls P f #[fv,.int .i64 ver,.bool flex,tv] w (RetOwn X.U8 w (wFs ver flex fs t.l ++ wTagsB flex (wKn ver flex kn (t.l.drop (Fs.len fs))) t.u))
def SubC (C:Fs->Fs->Prop):Ty->Prop
 | .struct _ _ _ _ fs kn=>C fs kn
 | .list _ _ _ of=>SubC C of
 | .prim _=>True
structure SmallC (P:Program) (X:STy) (fW fTh fC fWi fF fU fHas fNull fAt:FuncId) (G:List (Nat × Bytes)->Prop):Prop where
 oW:FnOK P fW
 cW:∀ (w:World) (base:Option Addr) (len cap:Nat),len<=cap->Calls P fW #[.slice base len cap] w fun e w'=>e=.returned (.slice base (min len most) cap)/\w=w'
 oTh:FnOK P fTh
 cTh:∀ (w:World) (base:Option Addr) (len cap:Nat),len<=cap->Calls P fTh #[.slice base len cap] w fun e w'=>e=.returned (.slice base (min len most) cap)/\w=w'
 oC:FnOK P fC
 cC:∀ (w:World) (flex null:Bool) (n size:Nat),n < 9223372036854775807->size<=8->Calls P fC #[.bool flex,.bool null,.int .i64 (n:Int),.int .i64 (size:Int)] w (RetOwn X.U8 w (counted flex null n size))
 oWi:FnOK P fWi
 cWi:∀ (w:World) (kind:Int),Calls P fWi #[.int .i64 kind] w fun e w'=>e=.returned (.int .i64 (widthOf kind:Int))/\w=w'
 oF:FnOK P fF
 cF:∀ (w:World) (n:Int) (size:Nat),size<=8->Calls P fF #[.int .i64 n,.int .i64 (size:Int)] w (RetOwn X.U8 w (fixed n size))
 oU:FnOK P fU
 cU:∀ (w:World) (n:Nat),n < 18446744073709551616->Calls P fU #[.int .u64 (n:Int)] w (RetOwn X.U8 w (uvarint n))
 oH:FnOK P fHas
 cH:∀ (w:World) (k fr to nu tg df of_:Int) (sub:Value) (ver:Int),Calls P fHas #[fldV k fr to nu tg df of_ sub,.int .i64 ver] w fun e w'=>e=.returned (.bool (decide (fr<=ver) && (decide (to < 0) || decide (ver<=to))))/\Below w.heap.size w w'
 oN:FnOK P fNull
 cN:∀ (w:World) (k fr to nu tg df of_:Int) (sub:Value) (ver:Int) (n:Int) (s l u:Value) (null:Bool),Calls P fNull #[fldV k fr to nu tg df of_ sub,.int .i64 ver,treV n s null l u] w fun e w'=>e=.returned (.bool (null && (decide (0<=nu) && decide (nu<=ver))))/\Below w.heap.size w w'
 oA:FnOK P fAt
 cA:∀ (w:World) (t:Tree) (tv:Value) (i:Nat),TV G w (· < w.heap.size) t tv->Calls P fAt #[tv,.int .i64 (i:Int)] w fun e w'=>∃ v,e=.returned v/\TV G w (· < w.heap.size) ((t.l.drop i).headD Tree.zero) v/\Below w.heap.size w w'
section
variable {G:List (Nat × Bytes)->Prop} {P:Program} {X:STy} {f:FuncId} {fn:Func} {fW fTh fC fWi fF fU fHas fNull fAt fPart:FuncId}
theorem setCells_row (P:Program) {w:World} {g o:Nat} {t:TypeId} {vs:List Value} {cur:Array Value} (hg:w.heap[g]?=some (.cells cur t (0,0))) (hl:o+vs.length<=cur.size) (h1:∀ v ∈ vs,v.oneCell'=true) :
  w.setCells g o vs=w.setRow g (cur.toList.take o ++ vs ++ cur.toList.drop (o+vs.length)).toArray:=by
 have e1:=run_storeCells_at P g o t vs 0 cur w hg (by simpa using hl) h1
 have e2:=run_storeCells_cells (P:=P) g o vs 0 w (fun j hj=>by
   rw [cell_of_row _ _ _ _ _ _ hg]
   simp only [Nat.add_zero]
   rw [Array.getElem?_eq_getElem (by omega)]
   rfl) (fun j hj=>by simp [World.frozen?,hg]) h1
 rw [e1] at e2
 simp only [Nat.add_zero,Result.ok.injEq,true_and] at e2
 exact e2.symm
theorem bytesAt_whole {w:World} {F:Nat->Prop} {base:Option Addr} {bs:Bytes} (h:BytesAt w F base bs) (n:Nat):BytesAt w F base (bs.take n):=by
 rcases h with h2 | ⟨b,o,h1,h2,h3⟩
 ·exact .inl (by rw [h2];simp)
 ·refine .inr ⟨b,o,h1,h2,fun j u hu=>h3 j u ?_⟩
  rw [List.getElem?_take] at hu
  split at hu
  ·exact hu
  ·cases hu
theorem own_down {tU8:Nat} {w:World} {B B':Nat} {v:Value} {xs:Bytes} (h:Own tU8 w B v xs) (hB:B'<=B):Own tU8 w B' v xs:=by
 refine ⟨h.1,h.2.imp id ?_⟩
 rintro ⟨g,cap,cur,h1,h2,h3⟩
 exact ⟨g,cap,cur,h1,Nat.le_trans hB h2,h3⟩
theorem text_tail (hX:stOK P X=true) (S:SmallC P X fW fTh fC fWi fF fU fHas fNull fAt G) {a:Act} {w w1:World} {Q:Exit->Act->World->Prop} (s d size:Nat) (hs8:size<=8) (h12:12 < s) (hsd:s < d) (hd70:d+6 < a.tmps.size)
  (bs:Bytes) (base:Option Addr) (cap:Nat) (flex null:Bool) (h4:getT a 4=.bool flex) (h2:getT a 2=.bool null) (hsv:getT a s=.slice base bs.length cap) (hb:BytesAt w1 (· < w1.heap.size) base bs) (hbw:Below w.heap.size w w1) (hsz:w.heap.size<=w1.heap.size)
  (hl:(counted flex null bs.length size ++ bs).length<=lim)
  (hQ:∀ (a':Act) (w':World) (v:Value),a'.defers=a.defers->getT a' 12=v->Own X.U8 w' w.heap.size v (counted flex null bs.length size ++ bs)->Below w.heap.size w w'->Q .ret a' w') :
  SC.wp P (.seq (.reg [mv d 4,mv (d+1) 2,mv (d+2) s,lenOp (d+3) X.Bs (d+2),⟨some (d+4),.call ⟨.value (.func fC),#[.tmp d,.tmp (d+1),.tmp (d+3),.const (.int .i64 (size:Int))],#[]⟩,none⟩,mv (d+5) s,⟨some (d+6),.call ⟨.builtin .append,#[.tmp (d+4),.tmp (d+5)],#[X.Bs,X.Bs]⟩,none⟩,asg 12 (d+6)]) .ret) Q a w1:=by
 have hst:=st_facts hX
 have hU8s:=hst.2.2.1.1
 have hlim:lim=4294967295:=rfl
 have hbl:bs.length < 9223372036854775807:=by rw [List.length_append] at hl;omega
 refine wSq (wRg ?_)
 iterate 4 (apply ops_1;(focus (simp (disch:=(try simp only [sPu]);omega) [hst,h4,h2,hsv];try rfl)))
 refine ops_call S.oC (S.cC w1 flex null bs.length size hbl hs8) (by simp (disch:=(try simp only [sPu]);omega)) ?_
 rintro e w2 ⟨v,rfl,r1,r2⟩
 refine ⟨v,rfl,?_⟩
 iterate 1 (apply ops_1;(focus (simp (disch:=(try simp only [sPu]);omega) [hsv];try rfl)))
 refine oNo rfl (opw_appendU8 (B:=w.heap.size) (dv:=v) (xv:=.slice base bs.length cap) (xs:=counted flex null bs.length size) (bs:=bs) hU8s (by simp (disch:=(try simp only [sPu]);omega)) (by simp (disch:=(try simp only [sPu]);omega)) rfl (own_down r1 hsz) (Nat.le_trans hsz r2.size) (src_bytes hU8s (bytesAt_mono (F':=fun _=>True) hb (fun _ _=>trivial) (fun k hk=>r2.block k hk)) cap) (by rw [List.length_append] at hl;exact hl) ?_)
 intro v2 w3 p1 p2 p3 _
 repeat (apply ops_1;(focus (simp (disch:=(try simp only [sPu]);omega) ;try rfl)))
 refine oNi (wRt (hQ _ _ v2 (by simp [dPu]) (by simp (disch:=(try simp only [sPu]);omega)) p1 ((hbw.trans (r2.mono hsz)).trans p2)))
theorem value_ok (hX:stOK P X=true) (S:SmallC P X fW fTh fC fWi fF fU fHas fNull fAt G) (hm:P.follows .mixedOrders=true) (oP:FnOK P fPart)
  (hf:P.funcs[f]?=some fn) (hb:fn.body.map strip=some (sc_value X.T X.I X.I64 X.U8 X.Bs fW fC fPart fWi fF)) (hn:fn.ntmps=70) (hr:fn.results=#[.tmp 12])
  (w:World) (ty:Ty) (hty:isList ty=false) (sub:Value) (null:Bool) (ver:Int) (hver:0<=ver) (flex:Bool) (t:Tree) (tv:Value) (hsub:SubV w (· < w.heap.size) ty sub) (cP:SubC (PartC G P X fPart) ty)
  (ht:TV G w (· < w.heap.size) t tv) (hl:(wTy ver flex ty null t).length<=lim) :
  Calls P f #[.int .i64 (kindOf ty),sub,.bool null,.int .i64 ver,.bool flex,tv] w (RetOwn X.U8 w (wTy ver flex ty null t)):=by
 have hst:=st_facts hX
 have hU8s:=hst.2.2.1.1
 refine fCa hf hb hn (by simp) fun a0 hs hd ha=>?_
 have h0:=ha 0 _ rfl
 have h1:=ha 1 _ rfl
 have h2:=ha 2 _ rfl
 have h3:=ha 3 _ rfl
 have h4:=ha 4 _ rfl
 have h5:=ha 5 _ rfl
 simp only [List.getElem_toArray,List.getElem_cons_zero,List.getElem_cons_succ] at h0 h1 h2 h3 h4 h5
 have ht0:=ht
 cases ht with
 | mk n s tnull l u sb lb ub sc lc uc b o cs hs1 hsc hlc huc hll hrr htt hG hu =>
 refine wSq (wRg (ops_box (B:=w.heap.size) (w0:=w) (by rw [eTm,h5];rfl) (Nat.le_refl _) (Below.refl _ _) fun w1 q1 q2 q3 hc q5=>?_))
 repeat (apply ops_1;(focus (simp (disch:=(try simp only [sPu]);omega) ;try rfl)))
 refine oNi (wSq (wSq (wRg ?_)))
 repeat (apply ops_1;(focus (simp (disch:=(try simp only [sPu]);omega) [h0];try rfl)))
 refine oNi (wBk ?_)
 have hsz1:w.heap.size<=w1.heap.size:=by omega
 clear q1 q5
 have fin:∀ (out:Bytes) (a:Act) (w':World) (v:Value),a.defers=[]->getT a 12=v->Own X.U8 w' w.heap.size v out->Below w.heap.size w w'->out=wTy ver flex ty null (.mk n s tnull l u)->bodyPost P fn (RetOwn X.U8 w (wTy ver flex ty null (.mk n s tnull l u))) .ret a w':=by
  intro out a w' v q2 q3 q4 q5 q6
  subst q6
  exact ret_tmp hr q2 ⟨v,by rw [q3],q4,q5⟩
 cases ty with
 | list _ _ _ _=>simp [isList] at hty
 | struct typ size dflt tags fs kn =>
  simp only [SubC] at cP
  simp only [SubV] at hsub
  simp only [kindOf] at h0 ⊢
  iterate 4 (refine wSq (wRg ?_);(repeat (apply ops_1;(focus (simp (disch:=(try simp only [sPu]);omega) ;try rfl))));refine oNi (wCd (t:=false) (by simp (disch:=(try simp only [sPu]);omega)) ?_);rw [if_neg (by simp)])
  (refine wSq (wRg ?_);(repeat (apply ops_1;(focus (simp (disch:=(try simp only [sPu]);omega) ;try rfl))));refine oNi (wCd (t:=true) (by simp (disch:=(try simp only [sPu]);omega)) ?_);rw [if_pos rfl])
  refine wSq (wRg ?_)
  have hr5:rangeV w1 w.heap.size 0 5=some [.int .i64 n,.slice sb s.length sc,.bool tnull,.slice lb l.length lc,.slice ub u.length uc]:=by simp [rangeV,hc]
  iterate 4 (apply ops_1;(focus (simp (disch:=(try simp only [sPu]);omega) [hst,h1,h3,h4,hr5];try rfl)))
  have hfv:FsV w1 (· < w1.heap.size) fs kn sub:=FsV.down q2 hsz1 hsub
  have htv:=TV.down q2 hsz1 ht0
  refine ops_call oP (cP w1 sub ver flex _ _ hver hfv htv (by simpa [wTy] using hl)) (by simp (disch:=(try simp only [sPu]);omega) [h1,h3,h4];rfl) ?_
  rintro e w2 ⟨v,rfl,r1,r2⟩
  refine ⟨v,rfl,?_⟩
  repeat (apply ops_1;(focus (simp (disch:=(try simp only [sPu]);omega) ;try rfl)))
  refine oNi (wRt ?_)
  simp only [Exit.then,Exit.inBlock]
  refine fin _ _ _ v (by simp [dPu,hd]) (by simp (disch:=(try simp only [sPu]);omega)) (own_down r1 hsz1) (q2.trans (r2.mono hsz1)) (by simp [wTy,Tree.l,Tree.u])
 | prim k =>
  have hBs:BytesAt w1 (· < w1.heap.size) sb s:=bytesAt_mono hs1 (fun k hk=>Nat.lt_of_lt_of_le hk hsz1) (fun k hk=>q2.block k hk)
  have nums:∀ (a:Act) (kd:Int),a.tmps.size=70->a.defers=[]->getT a 11=.pointer (some ⟨w.heap.size,0,none⟩)->getT a 0=.int .i64 kd->widthOf kd<=8->fixed n (widthOf kd)=wTy ver flex (.prim k) null (.mk n s tnull l u) ->
    SC.wp P (.seq (.dreg [fa 65 X.T 11 0,ld 66 X.I64 65,mv 67 0,cal 68 fWi [67],cal 69 fF [66,68],asg 12 69] [[],[0],[],[2],[1,3,3],[4,4,0,1,2,3,4]]) .ret) (bodyPost P fn (RetOwn X.U8 w (wTy ver flex (.prim k) null (.mk n s tnull l u)))) a w1:=by
   intro a kd p1 p2 p3 p4 p5 p6
   refine wSq (wDr hm (Below w1.heap.size w1.drew) [(0,true),(1,true),(2,true),(3,false),(4,false),(5,true)] (by rfl) (by rfl) (by decide) (Below.refl _ _) ?_)
   have hlt:w.heap.size < w1.heap.size:=by omega
   have hcd:∀ j,w1.drew.cell? ⟨w.heap.size,j,none⟩=#[Value.int .i64 n,.slice sb s.length sc,.bool tnull,.slice lb l.length lc,.slice ub u.length uc][j]?:=hc
   repeat (apply dr_1;(focus rfl);(focus (simp (disch:=(try simp only [sPu]);omega) [hst,p3,p4,hlt,hcd];try rfl)))
   refine dreg_n rfl rfl ?_
   obtain ⟨fn1,g1,g2,g3⟩:=S.oWi
   refine opw_call g1 g2 g3 (R:=fun e w'=>e=.returned (.int .i64 (widthOf kd:Int))/\w1.drew=w') ?_ ?_
   ·refine Eq.mp (congrArg (fun z=>Calls P fWi z w1.drew _) ?_) (S.cWi w1.drew kd)
    simp (disch:=(try simp only [sPu]);omega) [p4]
   rintro e w2 ⟨rfl,rfl⟩
   refine ⟨_,rfl,Below.refl _ _,?_⟩
   refine dreg_n rfl rfl ?_
   obtain ⟨fn1,g1,g2,g3⟩:=S.oF
   refine opw_call g1 g2 g3 (R:=RetOwn X.U8 w1.drew (fixed n (widthOf kd))) ?_ ?_
   ·refine Eq.mp (congrArg (fun z=>Calls P fF z w1.drew _) ?_) (S.cF w1.drew n (widthOf kd) p5)
    simp (disch:=(try simp only [sPu]);omega)
   rintro e w2 ⟨v,rfl,r1,r2⟩
   refine ⟨v,rfl,r2,?_⟩
   repeat (apply dr_1;(focus rfl);(focus (simp (disch:=(try simp only [sPu]);omega) ;try rfl)))
   refine dreg_nil ?_
   simp only [Exit.then]
   refine wRt ?_
   refine fin _ _ _ v (by simp [dPu,p2]) (by simp (disch:=(try simp only [sPu]);omega)) (own_down r1 hsz1) (q2.drew.trans (r2.mono hsz1)) p6
  cases k with
  | i8 =>
   simp only [kindOf] at h0 ⊢
   iterate 4 (refine wSq (wRg ?_);(repeat (apply ops_1;(focus (simp (disch:=(try simp only [sPu]);omega) ;try rfl))));refine oNi (wCd (t:=false) (by simp (disch:=(try simp only [sPu]);omega)) ?_);rw [if_neg (by simp)])
   refine wSq (wRg ?_)
   repeat (apply ops_1;(focus (simp (disch:=(try simp only [sPu]);omega) ;try rfl)))
   refine oNi (wCd (t:=false) (by simp (disch:=(try simp only [sPu]);omega)) ?_)
   rw [if_neg (by simp)]
   refine wSk ?_
   simp only [Exit.then,Exit.inBlock]
   exact nums _ 1 (by simp [sPu,hs]) (by simp [dPu,hd]) (by simp (disch:=(try simp only [sPu]);omega)) (by simp (disch:=(try simp only [sPu]);omega) [h0]) (by decide) (by simp only [wTy,wPrim];rfl)
  | i16 =>
   simp only [kindOf] at h0 ⊢
   iterate 4 (refine wSq (wRg ?_);(repeat (apply ops_1;(focus (simp (disch:=(try simp only [sPu]);omega) ;try rfl))));refine oNi (wCd (t:=false) (by simp (disch:=(try simp only [sPu]);omega)) ?_);rw [if_neg (by simp)])
   refine wSq (wRg ?_)
   repeat (apply ops_1;(focus (simp (disch:=(try simp only [sPu]);omega) ;try rfl)))
   refine oNi (wCd (t:=false) (by simp (disch:=(try simp only [sPu]);omega)) ?_)
   rw [if_neg (by simp)]
   refine wSk ?_
   simp only [Exit.then,Exit.inBlock]
   exact nums _ 2 (by simp [sPu,hs]) (by simp [dPu,hd]) (by simp (disch:=(try simp only [sPu]);omega)) (by simp (disch:=(try simp only [sPu]);omega) [h0]) (by decide) (by simp only [wTy,wPrim];rfl)
  | i32 =>
   simp only [kindOf] at h0 ⊢
   iterate 4 (refine wSq (wRg ?_);(repeat (apply ops_1;(focus (simp (disch:=(try simp only [sPu]);omega) ;try rfl))));refine oNi (wCd (t:=false) (by simp (disch:=(try simp only [sPu]);omega)) ?_);rw [if_neg (by simp)])
   refine wSq (wRg ?_)
   repeat (apply ops_1;(focus (simp (disch:=(try simp only [sPu]);omega) ;try rfl)))
   refine oNi (wCd (t:=false) (by simp (disch:=(try simp only [sPu]);omega)) ?_)
   rw [if_neg (by simp)]
   refine wSk ?_
   simp only [Exit.then,Exit.inBlock]
   exact nums _ 3 (by simp [sPu,hs]) (by simp [dPu,hd]) (by simp (disch:=(try simp only [sPu]);omega)) (by simp (disch:=(try simp only [sPu]);omega) [h0]) (by decide) (by simp only [wTy,wPrim];rfl)
  | i64 =>
   simp only [kindOf] at h0 ⊢
   iterate 4 (refine wSq (wRg ?_);(repeat (apply ops_1;(focus (simp (disch:=(try simp only [sPu]);omega) ;try rfl))));refine oNi (wCd (t:=false) (by simp (disch:=(try simp only [sPu]);omega)) ?_);rw [if_neg (by simp)])
   refine wSq (wRg ?_)
   repeat (apply ops_1;(focus (simp (disch:=(try simp only [sPu]);omega) ;try rfl)))
   refine oNi (wCd (t:=false) (by simp (disch:=(try simp only [sPu]);omega)) ?_)
   rw [if_neg (by simp)]
   refine wSk ?_
   simp only [Exit.then,Exit.inBlock]
   exact nums _ 4 (by simp [sPu,hs]) (by simp [dPu,hd]) (by simp (disch:=(try simp only [sPu]);omega)) (by simp (disch:=(try simp only [sPu]);omega) [h0]) (by decide) (by simp only [wTy,wPrim];rfl)
  | u16 =>
   simp only [kindOf] at h0 ⊢
   iterate 4 (refine wSq (wRg ?_);(repeat (apply ops_1;(focus (simp (disch:=(try simp only [sPu]);omega) ;try rfl))));refine oNi (wCd (t:=false) (by simp (disch:=(try simp only [sPu]);omega)) ?_);rw [if_neg (by simp)])
   refine wSq (wRg ?_)
   repeat (apply ops_1;(focus (simp (disch:=(try simp only [sPu]);omega) ;try rfl)))
   refine oNi (wCd (t:=false) (by simp (disch:=(try simp only [sPu]);omega)) ?_)
   rw [if_neg (by simp)]
   refine wSk ?_
   simp only [Exit.then,Exit.inBlock]
   exact nums _ 5 (by simp [sPu,hs]) (by simp [dPu,hd]) (by simp (disch:=(try simp only [sPu]);omega)) (by simp (disch:=(try simp only [sPu]);omega) [h0]) (by decide) (by simp only [wTy,wPrim];rfl)
  | bool =>
   simp only [kindOf] at h0 ⊢
   (refine wSq (wRg ?_);(repeat (apply ops_1;(focus (simp (disch:=(try simp only [sPu]);omega) ;try rfl))));refine oNi (wCd (t:=true) (by simp (disch:=(try simp only [sPu]);omega)) ?_);rw [if_pos rfl])
   refine wSq (wRg ?_)
   iterate 2 (apply ops_1;(focus (simp (disch:=(try simp only [sPu]);omega) [hst,hc];try rfl)))
   refine oNo rfl (opw_andOne (m:=n) (by simp (disch:=(try simp only [sPu]);omega)) ?_)
   have e2:(n % 2) % 256=n % 2:=by omega
   iterate 1 (apply ops_1;(focus (simp (disch:=(try simp only [sPu]);omega) [hst,wrap_u8,e2];try rfl)))
   refine ops_u8lit (B:=w.heap.size) (bs:=[T.byteOf (n % 2)]) hU8s rfl (by decide) (by decide) ?_ hsz1 ?_
   ·simp only [cellsOf,List.map_cons,List.map_nil]
    rw [byteOf_cell,e2]
    simp (disch:=(try simp only [sPu]);omega) [List.range']
   intro v w2 r1 r2
   repeat (apply ops_1;(focus (simp (disch:=(try simp only [sPu]);omega) ;try rfl)))
   refine oNi (wRt ?_)
   simp only [Exit.then,Exit.inBlock]
   exact fin _ _ _ v (by simp [dPu,hd]) (by simp (disch:=(try simp only [sPu]);omega)) r1 (q2.trans r2) (by simp [wTy,wPrim,Tree.n])
  | uuid =>
   simp only [kindOf] at h0 ⊢
   iterate 1 (refine wSq (wRg ?_);(repeat (apply ops_1;(focus (simp (disch:=(try simp only [sPu]);omega) ;try rfl))));refine oNi (wCd (t:=false) (by simp (disch:=(try simp only [sPu]);omega)) ?_);rw [if_neg (by simp)])
   (refine wSq (wRg ?_);(repeat (apply ops_1;(focus (simp (disch:=(try simp only [sPu]);omega) ;try rfl))));refine oNi (wCd (t:=true) (by simp (disch:=(try simp only [sPu]);omega)) ?_);rw [if_pos rfl])
   refine wSq (wRg ?_)
   refine oNo rfl (opw_mkU8s (n:=16) hU8s rfl rfl (by decide) fun w2 hw2=>?_)
   repeat (apply ops_1;(focus (simp (disch:=(try simp only [sPu]);omega) ;try rfl)))
   refine oNi (wSq (wRg ?_))
   have hnew:w2.heap[w1.heap.size]?=some (.cells (madeCells #[.int .u8 0] (16 * 1)) X.U8 (0,0)):=by rw [hw2];exact heap_alloc_new w1 _
   have hb2:Below w.heap.size w w2:=by rw [hw2];exact q2.alloc hsz1 _
   have hold:∀ k,k < w1.heap.size->w2.heap[k]?=w1.heap[k]?:=fun k hk=>by rw [hw2];exact Below.heap_alloc w1 _ k hk
   have hc2:∀ j,w2.cell? ⟨w.heap.size,j,none⟩=#[Value.int .i64 n,.slice sb s.length sc,.bool tnull,.slice lb l.length lc,.slice ub u.length uc][j]?:=fun j=>by
    rw [World.cell?_of_block (a:=⟨w.heap.size,j,none⟩) (hold w.heap.size (by omega))];exact hc j
   clear hw2
   iterate 3 (apply ops_1;(focus (simp (disch:=(try simp only [sPu]);omega) [hst,hc2];try rfl)))
   have hB2:BytesAt w2 (· < w1.heap.size) sb s:=bytesAt_mono hBs (fun _ h=>h) hold
   obtain ⟨hu8,i8,hi8,hz8,hs8,hby8⟩:=u8s_of hU8s
   have hsize8:(P.info? X.U8).map (·.size)=some 1:=by rw [hi8];simp [hs8]
   have hmade:(madeCells #[Value.int .u8 0] (16 * 1)).toList=List.replicate 16 (Value.int .u8 0):=by simp [madeCells,List.range,List.range.loop,Array.range,List.replicate]
   have hcopy:∃ (k:Int) (w3:World),(∀ ty,(Builtin.copy_ #[X.Bs,X.Bs] ty #[.slice (some ⟨w1.heap.size,0,none⟩) 16 16,.slice sb s.length sc]).run P w2=.ok (.int .i64 k) w3)/\Below w.heap.size w w3/\Own X.U8 w3 w.heap.size (.slice (some ⟨w1.heap.size,0,none⟩) 16 16) (uuidOf (.mk n s tnull l u)):=by
    have own:∀ (w3:World) (cells:List Value),w3.heap[w1.heap.size]?=some (.cells cells.toArray X.U8 (0,0))->cells=cellsOf (uuidOf (.mk n s tnull l u))->Own X.U8 w3 w.heap.size (.slice (some ⟨w1.heap.size,0,none⟩) 16 16) (uuidOf (.mk n s tnull l u)):=by
     intro w3 cells p1 p2
     subst p2
     have hlen:=uuidOf_length (.mk n s tnull l u)
     refine ⟨by rw [cLen,hlen],.inr ⟨w1.heap.size,16,_,by rw [hlen],hsz1,p1,by rw [hlen];exact Nat.le_refl _,by decide,by simp [cLen,hlen],?_⟩⟩
     rw [hlen]
     simp
     rw [List.take_of_length_le (by rw [cLen,hlen];exact Nat.le_refl _)]
    by_cases hmin:min s.length 16=0
    ·have hs0:s=[]:=List.eq_nil_of_length_eq_zero (by omega)
     refine ⟨0,w2,fun ty=>?_,hb2,own w2 (List.replicate 16 (Value.int .u8 0)) (by rw [hnew,<- hmade]) ?_⟩
     ·exact run_copy_none w2 X.Bs X.Bs ty X.U8 _ _ 16 16 s.length sc hu8 hsize8 hmin
     ·subst hs0
      simp [uuidOf,Tree.s,cellsOf,cell]
    ·rcases hB2 with e | ⟨sb',so',rfl,_,hcells⟩
     ·subst e;simp at hmin
     ·have hcl:(cellsOf (s.take 16)).length=min s.length 16:=by rw [cLen,List.length_take];omega
      have hone:∀ v ∈ cellsOf (s.take 16),v.oneCell'=true:=by
       intro v hv
       simp only [cellsOf,List.mem_map] at hv
       obtain ⟨c,_,rfl⟩:=hv
       rfl
      have hrow:=setCells_row P (w:=w2) (g:=w1.heap.size) (o:=0) (vs:=cellsOf (s.take 16)) hnew (by rw [hcl];simp [madeCells];omega) hone
      refine ⟨(cellsOf (s.take 16)).length,w2.setCells w1.heap.size 0 (cellsOf (s.take 16)),fun ty=>?_,?_,?_⟩
      ·refine run_copy_cells w2 X.Bs X.Bs ty X.U8 w1.heap.size 0 16 16 ⟨sb',so',none⟩ s.length sc _ hu8 hsize8 hcl ?_ ?_ ?_ hone
       ·intro j v hj
        rw [add_none]
        refine cells_cell (bs:=s) hcells j v ?_
        simp only [cellsOf,List.getElem?_map] at hj ⊢
        rw [List.getElem?_take] at hj
        split at hj
        ·exact hj
        ·simp at hj
       ·intro j hj
        rw [cell_of_row _ _ _ _ _ _ hnew,Array.getElem?_eq_getElem (by rw [hcl] at hj;simp [madeCells];omega)]
        rfl
       ·intro j hj
        simp [World.frozen?,hnew]
      ·rw [hrow]
       exact below_setRow hb2 (by omega) _
      ·rw [hrow]
       refine own _ _ (setRow_heap w2 _ _ _ _ _ hnew) ?_
       rw [hmade,hcl]
       simp only [List.take_zero,List.nil_append,Nat.zero_add]
       unfold uuidOf
       simp only [Tree.s]
       rw [List.take_append,cellsOf_append]
       congr 1
       simp only [List.drop_replicate,List.take_replicate,cellsOf,List.map_replicate]
       congr 1
       omega
   obtain ⟨k,w3,hrun,hb3,ho3⟩:=hcopy
   refine oNo rfl (opw_of fun o next Q hdd ho hnn=>?_)
   have hop:=stripOp_eq (by simp) ho
   have hr':∀ av:Operand->Value,av (.tmp 27)=.slice (some ⟨w1.heap.size,0,none⟩) 16 16->av (.tmp 29)=.slice sb s.length sc->(execOp av o).run P w2=.ok (.value (.int .i64 k)) w3:=by
    intro av e1 e2
    simp [execOp,hop,resolve,invoke,builtin,e1,e2,hrun]
   rw [hr' _ (by simp (disch:=(try simp only [sPu]);omega)) (by simp (disch:=(try simp only [sPu]);omega)),Oper.upon_value,hdd]
   refine hnn _ _ (oNi ?_)
   simp only [Exit.then]
   refine wSq (wRg ?_)
   repeat (apply ops_1;(focus (simp (disch:=(try simp only [sPu]);omega) ;try rfl)))
   refine oNi (wRt ?_)
   simp only [Exit.then,Exit.inBlock]
   exact fin _ _ _ _ (by simp [dPu,hd]) (by simp (disch:=(try simp only [sPu]);omega)) ho3 hb3 (by simp [wTy,wPrim,uuidOf,Tree.s])
  | str =>
   simp only [kindOf] at h0 ⊢
   iterate 2 (refine wSq (wRg ?_);(repeat (apply ops_1;(focus (simp (disch:=(try simp only [sPu]);omega) ;try rfl))));refine oNi (wCd (t:=false) (by simp (disch:=(try simp only [sPu]);omega)) ?_);rw [if_neg (by simp)])
   (refine wSq (wRg ?_);(repeat (apply ops_1;(focus (simp (disch:=(try simp only [sPu]);omega) ;try rfl))));refine oNi (wCd (t:=true) (by simp (disch:=(try simp only [sPu]);omega)) ?_);rw [if_pos rfl])
   refine wSq (wRg ?_)
   iterate 2 (apply ops_1;(focus (simp (disch:=(try simp only [sPu]);omega) [hst,hc];try rfl)))
   refine ops_call S.oW (S.cW w1 sb s.length sc hsc) (by simp (disch:=(try simp only [sPu]);omega)) ?_
   rintro e w2 ⟨rfl,rfl⟩
   refine ⟨_,rfl,?_⟩
   repeat (apply ops_1;(focus (simp (disch:=(try simp only [sPu]);omega) ;try rfl)))
   refine oNi (wSq (wSq (wRg ?_)))
   repeat (apply ops_1;(focus (simp (disch:=(try simp only [sPu]);omega) [h2];try rfl)))
   refine oNi (wCd (t:=null) (by simp (disch:=(try simp only [sPu]);omega)) ?_)
   have ew:(whole s).length=min s.length most:=by simp [whole,Nat.min_comm]
   cases null
   ·rw [if_neg (by simp)]
    refine wSk ?_
    simp only [Exit.then]
    refine text_tail hX S 14 38 2 (by decide) (by decide) (by decide) (by simp only [sPu];omega) (whole s) sb sc flex false (by simp (disch:=(try simp only [sPu]);omega) [h4]) (by simp (disch:=(try simp only [sPu]);omega) [h2]) (by simp (disch:=(try simp only [sPu]);omega) [ew]) (bytesAt_whole hBs most) q2 hsz1 (by simpa [wTy,wPrim,Tree.s] using hl) ?_
    intro a' w' v p1 p2 p3 p4
    simp only [Exit.inBlock]
    exact fin _ _ _ v (by rw [p1];simp [dPu,hd]) p2 p3 p4 (by simp [wTy,wPrim,Tree.s])
   ·rw [if_pos rfl]
    refine wRg ?_
    repeat (apply ops_1;(focus (simp (disch:=(try simp only [sPu]);omega) ;try rfl)))
    refine oNi ?_
    simp only [Exit.then]
    refine text_tail hX S 14 38 2 (by decide) (by decide) (by decide) (by simp only [sPu];omega) [] none 0 flex true (by simp (disch:=(try simp only [sPu]);omega) [h4]) (by simp (disch:=(try simp only [sPu]);omega) [h2]) (by simp (disch:=(try simp only [sPu]);omega)) (.inl rfl) q2 hsz1 (by simpa [wTy,wPrim,Tree.s] using hl) ?_
    intro a' w' v p1 p2 p3 p4
    simp only [Exit.inBlock]
    exact fin _ _ _ v (by rw [p1];simp [dPu,hd]) p2 p3 p4 (by simp [wTy,wPrim,Tree.s])
  | bytes =>
   simp only [kindOf] at h0 ⊢
   iterate 3 (refine wSq (wRg ?_);(repeat (apply ops_1;(focus (simp (disch:=(try simp only [sPu]);omega) ;try rfl))));refine oNi (wCd (t:=false) (by simp (disch:=(try simp only [sPu]);omega)) ?_);rw [if_neg (by simp)])
   (refine wSq (wRg ?_);(repeat (apply ops_1;(focus (simp (disch:=(try simp only [sPu]);omega) ;try rfl))));refine oNi (wCd (t:=true) (by simp (disch:=(try simp only [sPu]);omega)) ?_);rw [if_pos rfl])
   refine wSq (wRg ?_)
   iterate 2 (apply ops_1;(focus (simp (disch:=(try simp only [sPu]);omega) [hst,hc];try rfl)))
   refine ops_call S.oW (S.cW w1 sb s.length sc hsc) (by simp (disch:=(try simp only [sPu]);omega)) ?_
   rintro e w2 ⟨rfl,rfl⟩
   refine ⟨_,rfl,?_⟩
   repeat (apply ops_1;(focus (simp (disch:=(try simp only [sPu]);omega) ;try rfl)))
   refine oNi (wSq (wSq (wRg ?_)))
   repeat (apply ops_1;(focus (simp (disch:=(try simp only [sPu]);omega) [h2];try rfl)))
   refine oNi (wCd (t:=null) (by simp (disch:=(try simp only [sPu]);omega)) ?_)
   have ew:(whole s).length=min s.length most:=by simp [whole,Nat.min_comm]
   cases null
   ·rw [if_neg (by simp)]
    refine wSk ?_
    simp only [Exit.then]
    refine text_tail hX S 15 51 4 (by decide) (by decide) (by decide) (by simp only [sPu];omega) (whole s) sb sc flex false (by simp (disch:=(try simp only [sPu]);omega) [h4]) (by simp (disch:=(try simp only [sPu]);omega) [h2]) (by simp (disch:=(try simp only [sPu]);omega) [ew]) (bytesAt_whole hBs most) q2 hsz1 (by simpa [wTy,wPrim,Tree.s] using hl) ?_
    intro a' w' v p1 p2 p3 p4
    simp only [Exit.inBlock]
    exact fin _ _ _ v (by rw [p1];simp [dPu,hd]) p2 p3 p4 (by simp [wTy,wPrim,Tree.s])
   ·rw [if_pos rfl]
    refine wRg ?_
    repeat (apply ops_1;(focus (simp (disch:=(try simp only [sPu]);omega) ;try rfl)))
    refine oNi ?_
    simp only [Exit.then]
    refine text_tail hX S 15 51 4 (by decide) (by decide) (by decide) (by simp only [sPu];omega) [] none 0 flex true (by simp (disch:=(try simp only [sPu]);omega) [h4]) (by simp (disch:=(try simp only [sPu]);omega) [h2]) (by simp (disch:=(try simp only [sPu]);omega)) (.inl rfl) q2 hsz1 (by simpa [wTy,wPrim,Tree.s] using hl) ?_
    intro a' w' v p1 p2 p3 p4
    simp only [Exit.inBlock]
    exact fin _ _ _ v (by rw [p1];simp [dPu,hd]) p2 p3 p4 (by simp [wTy,wPrim,Tree.s])
end
set_option maxHeartbeats 4000000
def ValueC (G:List (Nat × Bytes)->Prop) (P:Program) (X:STy) (f:FuncId) (ty:Ty):Prop :=
 ∀ (w:World) (sub:Value) (null:Bool) (ver:Int) (flex:Bool) (t:Tree) (tv:Value),0<=ver->SubV w (· < w.heap.size) ty sub->TV G w (· < w.heap.size) t tv->(wTy ver flex ty null t).length<=lim ->
  Calls P f #[.int .i64 (kindOf ty),sub,.bool null,.int .i64 ver,.bool flex,tv] w (RetOwn X.U8 w (wTy ver flex ty null t))
section
variable {G:List (Nat × Bytes)->Prop} {P:Program} {X:STy} {f:FuncId} {fn:Func} {fW fTh fC fWi fF fU fHas fNull fAt fPart fVal:FuncId}
theorem gen_act {s:SC} {Q:Exit->Act->World->Prop} {a:Act} {w:World} (C:Act->Prop) (ha:C a) (h:∀ a,C a->SC.wp P s Q a w):SC.wp P s Q a w:=h a ha
theorem dreg_call {S:World->Prop} {ops:List SOp} {i t g:Nat} {args:Array Operand} {argsV:Array Value} {r:List (Nat × Bool)} {a:Act} {w:World} {K:Act->World->Prop} {R:Ending->World->Prop} (hs:ops[i]?=some ⟨some t,.call ⟨.value (.func g),args,#[]⟩,none⟩) (hf:FnOK P g) (hc:Calls P g argsV w R) (hargs:args.map a.eval=argsV)
  (hR:∀ e w',R e w'->∃ v,e=.returned v/\S w'/\dregw P S ops r K (a.put (some t) v) w'):dregw P S ops ((i,false) :: r) K a w:=by
 obtain ⟨fn,h1,h2,h3⟩:=hf
 exact dreg_n hs rfl (opw_call (R:=R) h1 h2 h3 (by rw [hargs];exact hc) hR)
theorem own_keep {tU8:Nat} {w w':World} {B:Nat} {v:Value} {xs:Bytes} (h:Own tU8 w B v xs) (hb:Below w.heap.size w w'):Own tU8 w' B v xs:=by
 refine ⟨h.1,h.2.imp id ?_⟩
 rintro ⟨g,cap,cur,h1,h2,h3,h4⟩
 refine ⟨g,cap,cur,h1,h2,?_,h4⟩
 rw [hb.block g (by rcases Nat.lt_or_ge g w.heap.size with h | h
                    ·exact h
                    ·rw [Array.getElem?_eq_none h] at h3;cases h3)]
 exact h3
theorem src_own {T tU8:TypeId} (hT:u8sB P T tU8=true) {w:World} {B:Nat} {v:Value} {bs:Bytes} (h:Own tU8 w B v bs):Src P 1 T v bs.length (cellsOf bs) w:=by
 obtain ⟨hu,_⟩:=u8s_of hT
 have hc:=fun g (e:v.ownBlock=some g)=>h.cells e
 rcases h.2 with ⟨rfl,h0⟩ | ⟨g,cap,cur,rfl,_⟩
 ·have:bs=[]:=List.eq_nil_of_length_eq_zero h0
  subst this
  exact Src.ofNil w hu 0
 ·refine Src.ofSlice w hu ⟨g,0,none⟩ _ cap _ (by rw [cLen,Nat.mul_one]) (hc g rfl) ?_
  intro u hu
  simp only [cellsOf,List.mem_map] at hu
  obtain ⟨c,_,rfl⟩:=hu
  rfl
theorem take_flat {α:Type} (l:List α) (enc:α->Bytes) (j:Nat) (hj:j < l.length):(l.take (j+1)).flatMap enc=(l.take j).flatMap enc ++ enc l[j]/\((l.take j).flatMap enc).length+(enc l[j]).length<=(l.flatMap enc).length:=by
 have e1:l.take (j+1)=l.take j ++ [l[j]]:=by rw [List.take_add_one,List.getElem?_eq_getElem hj];rfl
 refine ⟨by rw [e1];simp only [List.flatMap_append,List.flatMap_cons,List.flatMap_nil,List.append_nil],?_⟩
 have e2:l=l.take j ++ (l[j] :: l.drop (j+1)):=by rw [<- List.drop_eq_getElem_cons hj,List.take_append_drop]
 have:(l.flatMap enc).length=((l.take j).flatMap enc).length+((enc l[j]).length+((l.drop (j+1)).flatMap enc).length):=by
  conv=>lhs;rw [e2]
  rw [List.flatMap_append,List.flatMap_cons,List.length_append,List.length_append]
 omega
theorem list_tail (hX:stOK P X=true) (S:SmallC P X fW fTh fC fWi fF fU fHas fNull fAt G) (hm:P.follows .mixedOrders=true) (oV:FnOK P fVal) {of:Ty} (hV:ValueC G P X fVal of) {a:Act} {w w3:World} {Q:Exit->Act->World->Prop}
  (F0:Array Value) (sub:Value) (hF0:F0.size=8) (hF6:F0[6]?=some (.int .i64 (kindOf of))) (hF7:F0[7]?=some sub) (hc3:∀ j,w3.cell? ⟨w.heap.size,j,none⟩=F0[j]?) (hbw:Below w.heap.size w w3) (hsz3:w.heap.size+2<=w3.heap.size) (hsub:SubV w (· < w.heap.size) of sub)
  (ver:Int) (hver:0<=ver) (flex nl:Bool) (l:List Tree) (lb:Option Addr) (lc b o:Nat) (cs:Nat->List Value) (hlc:l.length<=lc) (hm63:l.length<=most) (hll:l ≠ []->lb=some ⟨b,o,none⟩/\b < w.heap.size) (hrr:∀ i,i < l.length->rangeV w b (o+i * 5) 5=some (cs i)) (htt:∀ i x,l[i]?=some x->TV G w (· < w.heap.size) x (.agg (cs i).toArray))
  (g:a.tmps.size=76) (g1:getT a 1=.int .i64 ver) (g2:getT a 2=.bool flex) (g4:getT a 4=.pointer (some ⟨w.heap.size,0,none⟩)) (g9:getT a 9=.bool nl) (g10:getT a 10=.slice lb l.length lc)
  (hl:(counted flex nl l.length 4 ++ l.flatMap (fun x=>wTy ver flex of false x)).length<=lim)
  (hQ:∀ (a':Act) (w':World) (v:Value),a'.defers=a.defers->getT a' 8=v->Own X.U8 w' w.heap.size v (counted flex nl l.length 4 ++ l.flatMap (fun x=>wTy ver flex of false x))->Below w.heap.size w w'->Q .ret a' w') :
  SC.wp P (.seq (.reg [mv 24 2,mv 25 9,mv 26 10,lenOp 27 X.Ts 26,⟨some 28,.call ⟨.value (.func fC),#[(.tmp 24),(.tmp 25),(.tmp 27),(.const (.int .i64 4))],#[]⟩,none⟩,asg 11 28]) (.seq (.seq (.reg [mv 29 10,lenOp 30 X.Ts 29,⟨some 31,.move (.const (.int .i64 0)),none⟩]) (.block 0 (.loop (.seq (.reg [⟨some 32,.binOp .lss X.I (.tmp 31) (.tmp 30) X.I,none⟩]) (.seq (.cond (.tmp 32) (.skip) (.exit 0)) (.seq (.block 1 (.seq (.reg [mv 33 31,asg 12 33]) (.dreg [mv 34 11,fa 35 X.F 4 6,ld 36 X.I 35,fa 37 X.F 4 7,ld 38 X.Fs 37,mv 39 1,mv 40 2,mv 41 10,mv 42 12,⟨some 43,.indexAddr X.Ts (.tmp 41) (.tmp 42),none⟩,ld 44 X.T 43,⟨some 45,.call ⟨.value (.func fVal),#[(.tmp 36),(.tmp 38),(.const (.bool false)),(.tmp 39),(.tmp 40),(.tmp 44)],#[]⟩,none⟩,⟨some 46,.call ⟨.builtin .append,#[(.tmp 34),(.tmp 45)],#[X.Bs,X.Bs]⟩,none⟩,asg 11 46] [[],[],[1],[],[3],[],[],[],[],[7,8],[9],[2,4,5,6,10],[0,11,11],[12,12,0,1,2,3,4,5,6,7,8,9,10,11,12]]))) (.reg [⟨some 47,.binOp .add X.I (.tmp 31) (.const (.int .i64 1)) X.I,none⟩,mv 31 47]))))))) (.seq (.reg [mv 48 11,asg 8 48]) (.ret)))) Q a w3:=by
 have hst:=st_facts hX
 have hU8s:=hst.2.2.1.1
 have hlim:lim=4294967295:=rfl
 have hmost:most=32767:=rfl
 refine wSq (wRg ?_)
 iterate 4 (apply ops_1;(focus (simp (disch:=(try simp only [sPu]);omega) [hst,g2,g9,g10];try rfl)))
 refine ops_call S.oC (S.cC w3 flex nl l.length 4 (by omega) (by decide)) (by simp (disch:=(try simp only [sPu]);omega)) ?_
 rintro e w4 ⟨v0,rfl,r1,r2⟩
 refine ⟨v0,rfl,?_⟩
 repeat (apply ops_1;(focus (simp (disch:=(try simp only [sPu]);omega) ;try rfl)))
 refine oNi ?_
 simp only [Exit.then]
 refine wSq (wSq (wRg ?_))
 repeat (apply ops_1;(focus (simp (disch:=(try simp only [sPu]);omega) [hst,g10];try rfl)))
 refine oNi ?_
 simp only [Exit.then]
 have hsz4:w3.heap.size<=w4.heap.size:=r2.size
 refine wBk (wLp (fun a4 w5=>∃ (j:Nat) (v:Value),a4.tmps.size=76/\a4.defers=a.defers/\getT a4 1=.int .i64 ver/\getT a4 2=.bool flex/\getT a4 4=.pointer (some ⟨w.heap.size,0,none⟩)/\getT a4 10=.slice lb l.length lc/\getT a4 30=.int .i64 (l.length:Int)/\getT a4 31=.int .i64 (j:Int)/\j<=l.length /\
   getT a4 11=v/\Own X.U8 w5 (w.heap.size+2) v (counted flex nl l.length 4 ++ (l.take j).flatMap (fun x=>wTy ver flex of false x))/\Below (w.heap.size+2) w3 w5)
  (fun a4 _=>match getT a4 31 with | .int _ m=>(l.length - m).toNat | _=>0) ⟨0,v0,by simp [sPu,g],by simp [dPu],by simp (disch:=(try simp only [sPu]);omega) [g1],by simp (disch:=(try simp only [sPu]);omega) [g2],by simp (disch:=(try simp only [sPu]);omega) [g4],by simp (disch:=(try simp only [sPu]);omega) [g10],by simp (disch:=(try simp only [sPu]);omega),by simp (disch:=(try simp only [sPu]);omega),by omega,by simp (disch:=(try simp only [sPu]);omega),?_,r2.mono hsz3⟩ ?_)
 ·simpa using own_down r1 hsz3
 rintro a4 w5 ⟨j,v,q,qd,q1,q2,q4,q10,q30,q31,hj,q11,ho,hb5⟩
 have hsz5:w.heap.size+2<=w5.heap.size:=by have:=hb5.size;omega
 refine wSq (wRg ?_)
 repeat (apply ops_1;(focus (simp (disch:=(try simp only [sPu]);omega) [hst,q30,q31];try rfl)))
 refine oNi ?_
 simp only [Exit.then]
 refine wSq (wCd (t:=decide ((j:Int) < (l.length:Int))) (by simp (disch:=(try simp only [sPu]);omega)) ?_)
 cases e1:decide ((j:Int) < (l.length:Int))
 ·have hje:j=l.length:=by simp at e1;omega
  subst hje
  rw [if_neg (by simp)]
  refine wXt ?_
  simp only [Exit.then,Exit.inBlock,if_true]
  refine wSq (wRg ?_)
  repeat (apply ops_1;(focus (simp (disch:=(try simp only [sPu]);omega) [q11];try rfl)))
  refine oNi (wRt ?_)
  refine hQ _ _ v (by simp [dPu,qd]) (by simp (disch:=(try simp only [sPu]);omega)) ?_ (hbw.trans (hb5.mono (by omega)))
  rw [List.take_length] at ho
  exact own_down ho (by omega)
 ·have hjl:j < l.length:=by simp at e1;omega
  rw [if_pos rfl]
  refine wSk ?_
  simp only [Exit.then]
  refine wSq (wBk (wSq (wRg ?_)))
  repeat (apply ops_1;(focus (simp (disch:=(try simp only [sPu]);omega) [q31];try rfl)))
  refine oNi ?_
  simp only [Exit.then]
  have hne:l ≠ []:=by intro e;subst e;simp at hjl
  obtain ⟨hlb,hbF⟩:=hll hne
  subst hlb
  have hri:=hrr j hjl
  have hb5':Below w.heap.size w w5:=hbw.trans (hb5.mono (by omega))
  rw [<- rangeV_mono (w:=w5.drew) (hb5'.block b hbF)] at hri
  have hti:=htt j _ (List.getElem?_eq_getElem hjl)
  have hcd:∀ i,w5.drew.cell? ⟨w.heap.size,i,none⟩=F0[i]?:=fun i =>
   (World.cell?_of_block (w:=w3) (w':=w5.drew) (a:=⟨w.heap.size,i,none⟩) (hb5.block w.heap.size (by omega))).trans (hc3 i)
  have hcd6:=(hcd 6).trans hF6
  have hcd7:=(hcd 7).trans hF7
  have hlt:w.heap.size < w.heap.size+2:=by omega
  have hlb2:b < w.heap.size+2:=by omega
  have ej:(0:Int)<=(j:Int)/\(j:Int) < (l.length:Int):=by omega
  obtain ⟨tf1,tf2⟩:=take_flat l (fun x=>wTy ver flex of false x) j hjl
  rw [List.length_append] at hl
  refine wDr hm (Below (w.heap.size+2) w5.drew) [(0,true),(1,true),(2,true),(3,true),(4,true),(5,true),(6,true),(7,true),(8,true),(9,true),(10,true),(11,false),(12,false),(13,true)] (by rfl) (by rfl) (by decide) (Below.refl _ _) ?_
  iterate 11 (apply dr_1;(focus rfl);(focus (simp (disch:=(try simp only [sPu]);omega) [hst,q1,q2,q4,q10,q11,hlt,hlb2,hcd6,hcd7,hri,ej,hjl];try rfl)))
  refine dreg_call rfl oV (hV w5.drew sub false ver flex l[j] _ hver (SubV.mono (w:=w5.drew) (F':=fun x=>x < w5.drew.heap.size) (fun k hk=>by have:k < w.heap.size:=hk;show k < w5.heap.size;omega) (fun k hk=>hb5'.block k hk) of sub hsub) (TV.down hb5'.drew (by show w.heap.size<=w5.heap.size;omega) hti) (by omega)) (by simp (disch:=(try simp only [sPu]);omega)) ?_
  rintro e w6 ⟨v2,rfl,p3,p4⟩
  have p4:Below w5.heap.size w5.drew w6:=p4
  refine ⟨v2,rfl,p4.mono hsz5,?_⟩
  have hsz6:w5.heap.size<=w6.heap.size:=p4.size
  have ho1:Own X.U8 w6 (w.heap.size+2) v (counted flex nl l.length 4 ++ (l.take j).flatMap (fun x=>wTy ver flex of false x)):=own_keep (w:=w5.drew) ho p4
  refine dreg_n rfl rfl (opw_appendU8 (B:=w.heap.size+2) (dv:=v) (xv:=v2) (xs:=counted flex nl l.length 4 ++ (l.take j).flatMap (fun x=>wTy ver flex of false x)) (bs:=wTy ver flex of false l[j]) hU8s (by simp (disch:=(try simp only [sPu]);omega)) (by simp (disch:=(try simp only [sPu]);omega)) rfl ho1 (by omega) (src_own hU8s p3) (by rw [List.length_append];omega) ?_)
  intro v3 w7 p5 p6 p7 _
  refine ⟨(p4.mono hsz5).trans p6,?_⟩
  repeat (apply dr_1;(focus rfl);(focus (simp (disch:=(try simp only [sPu]);omega) ;try rfl)))
  refine dreg_nil ?_
  simp only [Exit.inBlock,Exit.then]
  have ew:((j:Int)+1)=((j+1:Nat):Int):=by omega
  have eww:IntKind.i64.wrap ((j:Int)+1)=((j+1:Nat):Int):=by rw [wrap_i64'];split <;> omega
  refine wRg ?_
  repeat (apply ops_1;(focus (simp (disch:=(try simp only [sPu]);omega) [q31,eww];try rfl)))
  refine oNi ?_
  refine ⟨⟨j+1,v3,by simp [sPu,q],by simp [dPu,qd],by simp (disch:=(try simp only [sPu]);omega) [q1],by simp (disch:=(try simp only [sPu]);omega) [q2],by simp (disch:=(try simp only [sPu]);omega) [q4],by simp (disch:=(try simp only [sPu]);omega) [q10],by simp (disch:=(try simp only [sPu]);omega) [q30],by simp (disch:=(try simp only [sPu]);omega),by omega,by simp (disch:=(try simp only [sPu]);omega),?_,hb5.drew.trans ((p4.mono hsz5).trans p6)⟩,?_⟩
  ·rw [tf1,<- List.append_assoc];exact p5
  ·simp (disch:=(try simp only [sPu]);omega) [q31];omega
theorem field_ok (hX:stOK P X=true) (S:SmallC P X fW fTh fC fWi fF fU fHas fNull fAt G) (hm:P.follows .mixedOrders=true) (oP:FnOK P fPart) (oV:FnOK P fVal) (hV:∀ ty,isList ty=false->SubC (PartC G P X fPart) ty->ValueC G P X fVal ty)
  (hf:P.funcs[f]?=some fn) (hb:fn.body.map strip=some (sc_sfield X.F X.T X.I X.Ts X.Fs X.Bs fNull fTh fC fVal fF fPart)) (hn:fn.ntmps=76) (hr:fn.results=#[.tmp 8])
  (w:World) (h:Hd) (tg:Int) (ty:Ty) (of_:Int) (sub:Value) (ver:Int) (hver:0<=ver) (flex:Bool) (t:Tree) (tv:Value) (hof:ofOK of_ ty) (hsub:SubV w (· < w.heap.size) ty sub) (hs1c:sub.oneCell'=true) (cP:SubC (PartC G P X fPart) ty)
  (ht:TV G w (· < w.heap.size) t tv) (hl:(wField ver flex h ty t).length<=lim) :
  Calls P f #[fldV (kindOf ty) h.from_ h.to h.null tg h.dflt of_ sub,.int .i64 ver,.bool flex,tv] w (RetOwn X.U8 w (wField ver flex h ty t)):=by
 have hst:=st_facts hX
 have hU8s:=hst.2.2.1.1
 have hlim:lim=4294967295:=rfl
 refine fCa hf hb hn (by simp) fun a0 hs hd ha=>?_
 have h0:=ha 0 _ rfl
 have h1:=ha 1 _ rfl
 have h2:=ha 2 _ rfl
 have h3:=ha 3 _ rfl
 simp only [List.getElem_toArray,List.getElem_cons_zero,List.getElem_cons_succ] at h0 h1 h2 h3
 have ht0:=ht
 cases ht with
 | mk n s tnull l u sb lb ub sc lc uc b o cs hs1 hsc hlc huc hll hrr htt hG hu =>
 refine wSq (wRg (ops_box (B:=w.heap.size) (w0:=w) (by rw [eTm,h0];rfl) (Nat.le_refl _) (Below.refl _ _) fun w1 q1 q2 q3 hc q5=>?_))
 refine ops_box (B:=w.heap.size) (w0:=w) (cs:=#[.int .i64 n,.slice sb s.length sc,.bool tnull,.slice lb l.length lc,.slice ub u.length uc]) (by simp (disch:=(try simp only [sPu]);omega) [h3,treV]) (by omega) q2 fun w2 r1 r2 r3 hd2 r5=>?_
 repeat (apply ops_1;(focus (simp (disch:=(try simp only [sPu]);omega) ;try rfl)))
 refine oNi ?_
 have hc2:∀ j,w2.cell? ⟨w.heap.size,j,none⟩=#[Value.int .i64 (kindOf ty),.int .i64 h.from_,.int .i64 h.to,.int .i64 h.null,.int .i64 tg,.int .i64 h.dflt,.int .i64 of_,sub][j]?:=fun j=>by rw [r1.cell (by show w.heap.size < w1.heap.size;omega)];exact hc j
 have hsz2:w2.heap.size=w.heap.size+2:=by omega
 rw [q3] at hd2 ⊢
 clear hc q1 q2 q3 q5 r1 r3 r5 w1
 have hF8:rangeV w2 w.heap.size 0 8=some [.int .i64 (kindOf ty),.int .i64 h.from_,.int .i64 h.to,.int .i64 h.null,.int .i64 tg,.int .i64 h.dflt,.int .i64 of_,sub]:=by simp [rangeV,hc2]
 have hT5:rangeV w2 (w.heap.size+1) 0 5=some [.int .i64 n,.slice sb s.length sc,.bool tnull,.slice lb l.length lc,.slice ub u.length uc]:=by simp [rangeV,hd2]
 refine wSq (wRg ?_)
 iterate 3 (apply ops_1;(focus (simp (disch:=(try simp only [sPu]);omega) [hst,hF8,hT5,h1];try rfl)))
 refine ops_call S.oN (S.cN w2 (kindOf ty) h.from_ h.to h.null tg h.dflt of_ sub ver n (.slice sb s.length sc) (.slice lb l.length lc) (.slice ub u.length uc) tnull) (by simp (disch:=(try simp only [sPu]);omega) [fldV,treV]) ?_
 rintro e w3 ⟨rfl,r1⟩
 refine ⟨_,rfl,?_⟩
 have hnull:h.isNull ver (.mk n s tnull l u)=(tnull && (decide (0<=h.null) && decide (h.null<=ver))):=rfl
 rw [<- hnull]
 generalize hnl:h.isNull ver (.mk n s tnull l u)=nl at *
 have hc3:∀ j,w3.cell? ⟨w.heap.size,j,none⟩=#[Value.int .i64 (kindOf ty),.int .i64 h.from_,.int .i64 h.to,.int .i64 h.null,.int .i64 tg,.int .i64 h.dflt,.int .i64 of_,sub][j]?:=fun j=>by rw [r1.cell (by show w.heap.size < w2.heap.size;omega)];exact hc2 j
 have hd3:∀ j,w3.cell? ⟨w.heap.size+1,j,none⟩=#[Value.int .i64 n,.slice sb s.length sc,.bool tnull,.slice lb l.length lc,.slice ub u.length uc][j]?:=fun j=>by rw [r1.cell (by show w.heap.size+1 < w2.heap.size;omega)];exact hd2 j
 have hbw:Below w.heap.size w w3:=r2.trans (r1.mono (by omega))
 have hsz3:w.heap.size+2<=w3.heap.size:=by have:=r1.size;omega
 clear hc2 hd2 hF8 hT5 r1 r2 hsz2
 have hT5:rangeV w3 (w.heap.size+1) 0 5=some [.int .i64 n,.slice sb s.length sc,.bool tnull,.slice lb l.length lc,.slice ub u.length uc]:=by simp [rangeV,hd3]
 repeat (apply ops_1;(focus (simp (disch:=(try simp only [sPu]);omega) ;try rfl)))
 refine oNi ?_
 simp only [Exit.then]
 refine gen_act (fun a=>a.tmps.size=76/\a.defers=[]/\getT a 1=.int .i64 ver/\getT a 2=.bool flex/\getT a 4=.pointer (some ⟨w.heap.size,0,none⟩)/\getT a 7=.pointer (some ⟨w.heap.size+1,0,none⟩)/\getT a 9=.bool nl)
  ⟨by simp [sPu,hs],by simp [dPu,hd],by simp (disch:=(try simp only [sPu]);omega) [h1],by simp (disch:=(try simp only [sPu]);omega) [h2],by simp (disch:=(try simp only [sPu]);omega),by simp (disch:=(try simp only [sPu]);omega),by simp (disch:=(try simp only [sPu]);omega)⟩ ?_
 rintro a ⟨g,gd,g1,g2,g4,g7,g9⟩
 clear h0 h1 h2 h3 ha hs hd
 have fin:∀ (out:Bytes) (a:Act) (w':World) (v:Value),a.defers=[]->getT a 8=v->Own X.U8 w' w.heap.size v out->Below w.heap.size w w'->out=wField ver flex h ty (.mk n s tnull l u)->bodyPost P fn (RetOwn X.U8 w (wField ver flex h ty (.mk n s tnull l u))) .ret a w':=by
  intro out a w' v q2 q3 q4 q5 q6
  subst q6
  exact ret_tmp hr q2 ⟨v,by rw [q3],q4,q5⟩
 have plain:isList ty=false->wField ver flex h ty (.mk n s tnull l u)=wTy ver flex ty nl (.mk n s tnull l u)->∀ (a:Act),a.tmps.size=76->a.defers=[]->getT a 1=.int .i64 ver->getT a 2=.bool flex->getT a 4=.pointer (some ⟨w.heap.size,0,none⟩)->getT a 7=.pointer (some ⟨w.heap.size+1,0,none⟩)->getT a 9=.bool nl ->
   SC.wp P (.seq (.reg [fa 67 X.F 4 0,ld 68 X.I 67,fa 69 X.F 4 7,ld 70 X.Fs 69,mv 71 9,mv 72 1,mv 73 2,ld 74 X.T 7,cal 75 fVal [68,70,71,72,73,74],asg 8 75]) .ret) (bodyPost P fn (RetOwn X.U8 w (wField ver flex h ty (.mk n s tnull l u)))) a w3:=by
  intro hty heq a g gd g1 g2 g4 g7 g9
  refine wSq (wRg ?_)
  iterate 8 (apply ops_1;(focus (simp (disch:=(try simp only [sPu]);omega) [hst,hc3,hd3,hT5,g1,g2,g4,g7,g9];try rfl)))
  refine ops_call oV (hV ty hty cP w3 sub nl ver flex _ _ hver (SubV.mono (fun k hk=>by have:k < w.heap.size:=hk;show k < w3.heap.size;omega) (fun k hk=>hbw.block k hk) ty sub hsub) (TV.down hbw (by omega) ht0) (by rw [<- heq];exact hl)) (by simp (disch:=(try simp only [sPu]);omega) [fldV,treV]) ?_
  rintro e w4 ⟨v,rfl,r1,r2⟩
  refine ⟨v,rfl,?_⟩
  repeat (apply ops_1;(focus (simp (disch:=(try simp only [sPu]);omega) ;try rfl)))
  refine oNi (wRt ?_)
  try simp only [Exit.then]
  exact fin _ _ _ v (by simp [dPu,gd]) (by simp (disch:=(try simp only [sPu]);omega)) (own_down r1 (by omega)) (hbw.trans (r2.mono (by omega))) heq.symm
 have htv3:TV G w3 (· < w3.heap.size) (.mk n s tnull l u) (treV n (.slice sb s.length sc) tnull (.slice lb l.length lc) (.slice ub u.length uc)):=TV.down hbw (by omega) ht0
 have hf1:fixed (-1) 1=[255]:=by decide
 have hf2:fixed 1 1=[1]:=by decide
 cases ty with
 | prim k =>
  have e11:(kindOf (.prim k) == 11)=false:=by cases k <;> rfl
  have e10:(kindOf (.prim k) == 10)=false:=by cases k <;> rfl
  refine wSq (wSq (wRg ?_))
  repeat (apply ops_1;(focus (simp (disch:=(try simp only [sPu]);omega) [hst,hc3,g4,e11];try rfl)))
  refine oNi (wCd (t:=false) (by simp (disch:=(try simp only [sPu]);omega)) ?_)
  rw [if_neg (by simp)]
  refine wSk ?_
  simp only [Exit.then]
  refine wSq (wSq (wRg ?_))
  repeat (first | (apply ops_1;(focus (simp (disch:=(try simp only [sPu]);omega) [hst,hc3,g4,e10];try rfl))) | (apply ops_y;(focus rfl);(focus ((try simp only [sPu]);omega));(focus (simp (disch:=(try simp only [sPu]);omega) [hst,hc3,g4,e10];done));(focus (simp (disch:=(try simp only [sPu]);omega) [hst,hc3,g4,e10];try rfl))) | (apply ops_n;(focus rfl);(focus ((try simp only [sPu]);omega));(focus (first | (left;simp (disch:=(try simp only [sPu]);omega) [hst,hc3,g4,e10];done) | (right;simp (disch:=(try simp only [sPu]);omega);done)))))
  refine oNi (wCd (t:=false) (by simp (disch:=(try simp only [sPu]);omega)) ?_)
  rw [if_neg (by simp)]
  refine wSk ?_
  simp only [Exit.then]
  refine plain rfl (by rw [<- hnl];rfl) _ (by simp [sPu,g]) (by simp [dPu,gd]) ?_ ?_ ?_ ?_ ?_
  ·simp (disch:=(try simp only [sPu]);omega) [g1]
  ·simp (disch:=(try simp only [sPu]);omega) [g2]
  ·simp (disch:=(try simp only [sPu]);omega) [g4]
  ·simp (disch:=(try simp only [sPu]);omega) [g7]
  ·simp (disch:=(try simp only [sPu]);omega) [g9]
 | struct typ size dflt tags fs kn =>
  have e11:(kindOf (.struct typ size dflt tags fs kn) == 11)=false:=rfl
  have e10:(kindOf (.struct typ size dflt tags fs kn) == 10)=true:=rfl
  refine wSq (wSq (wRg ?_))
  repeat (apply ops_1;(focus (simp (disch:=(try simp only [sPu]);omega) [hst,hc3,g4,e11];try rfl)))
  refine oNi (wCd (t:=false) (by simp (disch:=(try simp only [sPu]);omega)) ?_)
  rw [if_neg (by simp)]
  refine wSk ?_
  simp only [Exit.then]
  refine wSq (wSq (wRg ?_))
  cases enn:decide (0<=h.null)
  ·repeat (first | (apply ops_1;(focus (simp (disch:=(try simp only [sPu]);omega) [hst,hc3,g4,e10,enn];try rfl))) | (apply ops_y;(focus rfl);(focus ((try simp only [sPu]);omega));(focus (simp (disch:=(try simp only [sPu]);omega) [hst,hc3,g4,e10,enn];done));(focus (simp (disch:=(try simp only [sPu]);omega) [hst,hc3,g4,e10,enn];try rfl))) | (apply ops_n;(focus rfl);(focus ((try simp only [sPu]);omega));(focus (first | (left;simp (disch:=(try simp only [sPu]);omega) [hst,hc3,g4,e10,enn];done) | (right;simp (disch:=(try simp only [sPu]);omega);done)))))
   refine oNi (wCd (t:=false) (by simp (disch:=(try simp only [sPu]);omega)) ?_)
   rw [if_neg (by simp)]
   refine wSk ?_
   simp only [Exit.then]
   refine plain rfl (by have:¬ 0<=h.null:=by simpa using enn
                        simp [wField,this,wTy]) _ (by simp [sPu,g]) (by simp [dPu,gd]) ?_ ?_ ?_ ?_ ?_
   ·simp (disch:=(try simp only [sPu]);omega) [g1]
   ·simp (disch:=(try simp only [sPu]);omega) [g2]
   ·simp (disch:=(try simp only [sPu]);omega) [g4]
   ·simp (disch:=(try simp only [sPu]);omega) [g7]
   ·simp (disch:=(try simp only [sPu]);omega) [g9]
  ·have h0n:0<=h.null:=by simpa using enn
   repeat (first | (apply ops_1;(focus (simp (disch:=(try simp only [sPu]);omega) [hst,hc3,g4,e10,enn];try rfl))) | (apply ops_y;(focus rfl);(focus ((try simp only [sPu]);omega));(focus (simp (disch:=(try simp only [sPu]);omega) [hst,hc3,g4,e10,enn];done));(focus (simp (disch:=(try simp only [sPu]);omega) [hst,hc3,g4,e10,enn];try rfl))) | (apply ops_n;(focus rfl);(focus ((try simp only [sPu]);omega));(focus (first | (left;simp (disch:=(try simp only [sPu]);omega) [hst,hc3,g4,e10,enn];done) | (right;simp (disch:=(try simp only [sPu]);omega);done)))))
   refine oNi (wCd (t:=true) (by simp (disch:=(try simp only [sPu]);omega)) ?_)
   rw [if_pos rfl]
   refine wSq (wSq (wRg ?_))
   repeat (apply ops_1;(focus (simp (disch:=(try simp only [sPu]);omega) [g9];try rfl)))
   refine oNi (wCd (t:=nl) (by simp (disch:=(try simp only [sPu]);omega)) ?_)
   cases nl
   ·rw [if_neg (by simp)]
    refine wSk ?_
    simp only [Exit.then]
    have heq:wField ver flex h (.struct typ size dflt tags fs kn) (.mk n s tnull l u)=[1] ++ (wFs ver flex fs l ++ wTagsB flex (wKn ver flex kn (l.drop (Fs.len fs))) u):=by simp [wField,h0n,hnl,wTy,Tree.l,Tree.u]
    rw [heq] at hl
    refine wSq (wDr hm (Below (w.heap.size+2) w3.drew) [(1,true),(2,true),(3,true),(4,true),(5,true),(0,false),(6,false),(7,false),(8,true)] (by rfl) (by rfl) (by decide) (Below.refl _ _) ?_)
    have hlt:w.heap.size < w.heap.size+2:=by omega
    have hlt1:w.heap.size+1 < w.heap.size+2:=by omega
    have hcd:∀ j,w3.drew.cell? ⟨w.heap.size,j,none⟩=#[Value.int .i64 (kindOf (.struct typ size dflt tags fs kn)),.int .i64 h.from_,.int .i64 h.to,.int .i64 h.null,.int .i64 tg,.int .i64 h.dflt,.int .i64 of_,sub][j]?:=hc3
    have hTd:rangeV w3.drew (w.heap.size+1) 0 5=some [.int .i64 n,.slice sb s.length sc,.bool tnull,.slice lb l.length lc,.slice ub u.length uc]:=(rangeV_mono (w:=w3.drew) (w0:=w3) rfl 5 0).trans hT5
    iterate 5 (apply dr_1;(focus rfl);(focus (simp (disch:=(try simp only [sPu]);omega) [hst,g1,g2,g4,g7,hlt,hlt1,hcd,hTd];try rfl)))
    refine dreg_call (argsV:=#[.int .i64 1,.int .i64 ((1:Nat):Int)]) rfl S.oF (S.cF w3.drew 1 1 (by decide)) (by simp [eCo]) ?_
    rintro e w4 ⟨v,rfl,p1,p2⟩
    refine ⟨v,rfl,p2.mono (by exact hsz3),?_⟩
    rw [hf2] at p1
    have hw4:w3.heap.size<=w4.heap.size:=p2.size
    have hb4:Below w.heap.size w w4:=hbw.drew.trans ((show Below w3.heap.size w3.drew w4 from p2).mono (by omega))
    simp only [SubV] at hsub
    refine dreg_call rfl oP (cP w4 sub ver flex _ _ hver (FsV.down hb4 (by omega) hsub) (TV.down hb4 (by omega) ht0) (by simp only [Tree.l,Tree.u];simp only [List.length_append,List.length_cons,List.length_nil] at hl ⊢;omega)) (by simp (disch:=(try simp only [sPu]);omega) [treV]) ?_
    rintro e w5 ⟨v2,rfl,p3,p4⟩
    refine ⟨v2,rfl,(p2.mono hsz3).trans (p4.mono (by omega)),?_⟩
    have hB5:w.heap.size+2<=w5.heap.size:=by have:=p4.size;omega
    have ho1:Own X.U8 w5 (w.heap.size+2) v [1]:=own_down (own_keep p1 p4) hsz3
    refine dreg_n rfl rfl (opw_appendU8 (B:=w.heap.size+2) (dv:=v) (xv:=v2) (xs:=[1]) (bs:=wFs ver flex fs l ++ wTagsB flex (wKn ver flex kn (l.drop (Fs.len fs))) u) hU8s (by simp (disch:=(try simp only [sPu]);omega)) (by simp (disch:=(try simp only [sPu]);omega)) rfl ho1 hB5 (src_own hU8s p3) (by simp only [List.length_append] at hl ⊢;exact hl) ?_)
    intro v3 w6 p5 p6 p7 _
    refine ⟨((p2.mono hsz3).trans (p4.mono (by omega))).trans p6,?_⟩
    repeat (apply dr_1;(focus rfl);(focus (simp (disch:=(try simp only [sPu]);omega) ;try rfl)))
    refine dreg_nil ?_
    simp only [Exit.then]
    refine wRt ?_
    try simp only [Exit.then]
    exact fin _ _ _ v3 (by simp [dPu,gd]) (by simp (disch:=(try simp only [sPu]);omega)) (own_down p5 (by omega)) (hb4.trans ((p4.mono (by omega)).trans (p6.mono (by omega)))) heq.symm
   ·rw [if_pos rfl]
    refine wSq (wRg ?_)
    refine ops_call (argsV:=#[.int .i64 (-1),.int .i64 ((1:Nat):Int)]) S.oF (S.cF w3 (-1) 1 (by decide)) (by simp [eCo]) ?_
    rintro e w4 ⟨v,rfl,p1,p2⟩
    refine ⟨v,rfl,?_⟩
    repeat (apply ops_1;(focus (simp (disch:=(try simp only [sPu]);omega) ;try rfl)))
    refine oNi (wRt ?_)
    simp only [Exit.then]
    rw [hf1] at p1
    exact fin _ _ _ v (by simp [dPu,gd]) (by simp (disch:=(try simp only [sPu]);omega)) (own_down p1 (by omega)) (hbw.trans (p2.mono (by omega))) (by simp [wField,h0n,hnl])
 | list typ el size of =>
  simp only [ofOK] at hof
  obtain ⟨rfl,hofl⟩:=hof
  simp only [SubV] at hsub
  simp only [SubC] at cP
  have hlcase:∀ l':List Tree,l'=(if nl then [] else l.take most)->wField ver flex h (.list typ el size of) (.mk n s tnull l u)=counted flex nl l'.length 4 ++ l'.flatMap (fun x=>wTy ver flex of false x):=by
   intro l' hl'
   simp only [wField,wTy,hnl,Tree.l]
   rw [<- hl']
  refine wSq (wSq (wRg ?_))
  have e11:(kindOf (.list typ el size of) == 11)=true:=rfl
  repeat (apply ops_1;(focus (simp (disch:=(try simp only [sPu]);omega) [hst,hc3,g4,e11];try rfl)))
  refine oNi (wCd (t:=true) (by simp (disch:=(try simp only [sPu]);omega)) ?_)
  rw [if_pos rfl]
  refine wSq (wRg ?_)
  iterate 2 (apply ops_1;(focus (simp (disch:=(try simp only [sPu]);omega) [hst,hd3,g7];try rfl)))
  refine ops_call S.oTh (S.cTh w3 lb l.length lc hlc) (by simp (disch:=(try simp only [sPu]);omega)) ?_
  rintro e w4 ⟨rfl,rfl⟩
  refine ⟨_,rfl,?_⟩
  repeat (apply ops_1;(focus (simp (disch:=(try simp only [sPu]);omega) ;try rfl)))
  refine oNi ?_
  simp only [Exit.then]
  refine wSq (wSq (wRg ?_))
  repeat (apply ops_1;(focus (simp (disch:=(try simp only [sPu]);omega) [g9];try rfl)))
  refine oNi (wCd (t:=nl) (by simp (disch:=(try simp only [sPu]);omega)) ?_)
  have elen:(l.take most).length=min l.length most:=by simp [Nat.min_comm]
  cases nl
  ·rw [if_neg (by simp)]
   refine wSk ?_
   simp only [Exit.then]
   have heq:=hlcase (l.take most) rfl
   rw [heq] at hl
   refine list_tail hX S hm oV (hV of hofl cP) #[Value.int .i64 (kindOf (.list typ el size of)),.int .i64 h.from_,.int .i64 h.to,.int .i64 h.null,.int .i64 tg,.int .i64 h.dflt,.int .i64 (kindOf of),sub] sub rfl rfl rfl hc3 hbw hsz3 hsub ver hver flex false (l.take most) lb lc b o cs
    (by rw [elen];omega) (by rw [elen];omega) ?_ ?_ ?_ (by simp [sPu,g]) (by simp (disch:=(try simp only [sPu]);omega) [g1]) (by simp (disch:=(try simp only [sPu]);omega) [g2]) (by simp (disch:=(try simp only [sPu]);omega) [g4]) (by simp (disch:=(try simp only [sPu]);omega) [g9]) (by simp (disch:=(try simp only [sPu]);omega) [elen]) hl ?_
   ·intro hne
    exact hll (fun e=>hne (by rw [e];rfl))
   ·intro i hi
    exact hrr i (by rw [elen] at hi;omega)
   ·intro i x hx
    refine htt i x ?_
    rw [List.getElem?_take] at hx
    split at hx
    ·exact hx
    ·cases hx
   ·intro a' w' v p1 p2 p3 p4
    exact fin _ _ _ v (by rw [p1];simp [dPu,gd]) p2 p3 p4 heq.symm
  ·rw [if_pos rfl]
   refine wRg ?_
   repeat (apply ops_1;(focus (simp (disch:=(try simp only [sPu]);omega) ;try rfl)))
   refine oNi ?_
   simp only [Exit.then]
   have heq:=hlcase [] rfl
   rw [heq] at hl
   refine list_tail hX S hm oV (hV of hofl cP) #[Value.int .i64 (kindOf (.list typ el size of)),.int .i64 h.from_,.int .i64 h.to,.int .i64 h.null,.int .i64 tg,.int .i64 h.dflt,.int .i64 (kindOf of),sub] sub rfl rfl rfl hc3 hbw hsz3 hsub ver hver flex true [] none 0 0 0 (fun _=>[])
    (Nat.le_refl _) (Nat.zero_le _) (fun h=>absurd rfl h) (fun i hi=>by simp at hi) (fun i x hx=>by simp at hx) (by simp [sPu,g]) (by simp (disch:=(try simp only [sPu]);omega) [g1]) (by simp (disch:=(try simp only [sPu]);omega) [g2]) (by simp (disch:=(try simp only [sPu]);omega) [g4]) (by simp (disch:=(try simp only [sPu]);omega) [g9]) (by simp (disch:=(try simp only [sPu]);omega)) hl ?_
   intro a' w' v p1 p2 p3 p4
   exact fin _ _ _ v (by rw [p1];simp [dPu,gd]) p2 p3 p4 heq.symm
end
end Go.Proofs.YtdnpafdgglpagaaGreatDoor.K
namespace Go.Proofs.YtdnpafdgglpagaaGreatDoor.K
open Go Go.RowKit Go.Proofs.YtdnpafdgglpagaaGreatDoor.T
set_option linter.unusedSimpArgs false
set_option linter.unusedVariables false
set_option maxHeartbeats 4000000
def Keeps (ok:Nat->Bool) (w0 w:World):Prop:=∀ b,ok b=true->w.heap[b]?=w0.heap[b]?
def FieldC (G:List (Nat × Bytes)->Prop) (P:Program) (X:STy) (f fPart:FuncId):Prop :=
 ∀ (w:World) (h:Hd) (tg:Int) (ty:Ty) (of_:Int) (sub:Value) (ver:Int) (flex:Bool) (t:Tree) (tv:Value),0<=ver->ofOK of_ ty->SubV w (· < w.heap.size) ty sub->sub.oneCell'=true->SubC (PartC G P X fPart) ty ->
  TV G w (· < w.heap.size) t tv->(wField ver flex h ty t).length<=lim ->
  Calls P f #[fldV (kindOf ty) h.from_ h.to h.null tg h.dflt of_ sub,.int .i64 ver,.bool flex,tv] w (RetOwn X.U8 w (wField ver flex h ty t))
def SubsC (C:Fs->Fs->Prop):Fs->Prop
 | .nil=>True
 | .cons _ ty r=>SubC C ty/\SubsC C r
section
variable {G:List (Nat × Bytes)->Prop} {P:Program} {X:STy} {f:FuncId} {fn:Func} {fW fTh fC fWi fF fU fHas fNull fAt fPart fVal fFld:FuncId}
variable {a:Act} {w:World} {K:Act->World->Prop}
theorem opqk_of {w0:World} {ok:Nat->Bool} {s:SOp} {v:Value} (h:qv ok P w0 a s.op=some v):opq P (Keeps ok w0) s a v:=fun o ho w' hS' =>
 qv_sound (w0:=w0) (fun b o hb=>World.cell?_of_block (hS' b hb)) h o (congrArg SOp.op ho)
theorem dk_1 {w0:World} {ok:Nat->Bool} {i d:Nat} {op:Op} {ops:List SOp} {v:Value} {r:List (Nat × Bool)} (hs:ops[i]?=some ⟨some d,op,none⟩) (h:qv ok P w0 a op=some v)
  (hk:dregw P (Keeps ok w0) ops r K (a.put (some d) v) w):dregw P (Keeps ok w0) ops ((i,true) :: r) K a w:=by
 unfold dregw
 exact ⟨_,hs,by simpa only [if_true] using ⟨v,opqk_of (s:=⟨some d,op,none⟩) h,hk⟩⟩
theorem own_lt {tU8:Nat} {w:World} {B:Nat} {v:Value} {xs:Bytes} (h:Own tU8 w B v xs):∀ k,v.ownBlock=some k->B<=k/\k < w.heap.size:=fun k hk=>h.lt k hk
theorem own_same {tU8:Nat} {w w':World} {B:Nat} {v:Value} {xs:Bytes} (h:Own tU8 w B v xs) (hb:∀ k,v.ownBlock=some k->w'.heap[k]?=w.heap[k]?):Own tU8 w' B v xs:=by
 refine ⟨h.1,h.2.imp id ?_⟩
 rintro ⟨g,cap,cur,h1,h2,h3,h4⟩
 refine ⟨g,cap,cur,h1,h2,?_,h4⟩
 rw [hb g (by rw [h1];rfl)]
 exact h3
theorem fsAt_drop {w:World} {F:Nat->Prop} {tg:Int}:∀ (i:Nat) (fs:Fs) (b o:Nat),FsAt w F tg fs b o->FsAt w F tg (Fs.drop i fs) b (o+i * 8)
 | 0,fs,b,o,h=>by simpa [Fs.drop] using h
 | i+1,.nil,b,o,_=>by simp [Fs.drop,FsAt]
 | i+1,.cons h ty r,b,o,hh=>by
  simp only [FsAt] at hh
  have:=fsAt_drop i r b (o+8) hh.2
  rwa [show o+8+i * 8=o+(i+1) * 8 by omega] at this
theorem drop_cons:∀ (i:Nat) (fs:Fs),i < Fs.len fs->∃ h ty,Fs.drop i fs=.cons h ty (Fs.drop (i+1) fs)
 | i,.nil,h=>by simp [Fs.len] at h
 | 0,.cons h ty r,_=>⟨h,ty,by simp [Fs.drop]⟩
 | i+1,.cons h ty r,hi=>by
  simp only [Fs.drop]
  exact drop_cons i r (by simp only [Fs.len] at hi;omega)
theorem drop_len:∀ (fs:Fs),Fs.drop (Fs.len fs) fs=.nil
 | .nil=>rfl
 | .cons h ty r=>by simp only [Fs.len,Fs.drop];exact drop_len r
theorem subsC_drop {C:Fs->Fs->Prop}:∀ (i:Nat) (fs:Fs),SubsC C fs->SubsC C (Fs.drop i fs)
 | 0,fs,h=>by simpa [Fs.drop] using h
 | i+1,.nil,_=>by simp [Fs.drop,SubsC]
 | i+1,.cons h ty r,hh=>by
  simp only [SubsC] at hh
  simp only [Fs.drop]
  exact subsC_drop i r hh.2
theorem headD_drop (l:List Tree) (i:Nat):(l.drop i).tail=l.drop (i+1):=by simp
end
def FsAtT (w:World) (F:Nat->Prop):Fs->List Int->Nat->Nat->Prop
 | .nil,_,_,_=>True
 | .cons h ty r,tg,b,o=>(∃ of_ sub,rangeV w b o 8=some [.int .i64 (kindOf ty),.int .i64 h.from_,.int .i64 h.to,.int .i64 h.null,.int .i64 (tg.headD (-1)),.int .i64 h.dflt,.int .i64 of_,sub]/\sub.oneCell'=true/\ofOK of_ ty/\SubV w F ty sub)/\FsAtT w F r tg.tail b (o+8)
def FsVT (w:World) (F:Nat->Prop) (fs:Fs) (tg:List Int) (v:Value):Prop :=
 ∃ base cap,v=.slice base (Fs.len fs) cap/\(Fs.len fs=0∨∃ b o,base=some ⟨b,o,none⟩/\F b/\FsAtT w F fs tg b o)
theorem FsAtT.mono {w0 w:World} {F F':Nat->Prop} (hF:∀ k,F k->F' k) (hw:∀ k,F k->w.heap[k]?=w0.heap[k]?):∀ (fs:Fs) (tg:List Int) (b o:Nat),F b->FsAtT w0 F fs tg b o->FsAtT w F' fs tg b o
 | .nil,_,_,_,_,_=>by simp [FsAtT]
 | .cons h ty r,tg,b,o,hb,hh=>by
  simp only [FsAtT] at hh ⊢
  obtain ⟨⟨of_,sub,h1,h2,h3,h4⟩,h5⟩:=hh
  exact ⟨⟨of_,sub,by rw [rangeV_mono (hw b hb)];exact h1,h2,h3,SubV.mono hF hw ty sub h4⟩,FsAtT.mono hF hw r tg.tail b (o+8) hb h5⟩
theorem FsVT.mono {w0 w:World} {F F':Nat->Prop} (hF:∀ k,F k->F' k) (hw:∀ k,F k->w.heap[k]?=w0.heap[k]?) {fs:Fs} {tg:List Int} {v:Value} (h:FsVT w0 F fs tg v):FsVT w F' fs tg v:=by
 obtain ⟨base,cap,h1,h2⟩:=h
 exact ⟨base,cap,h1,h2.imp id fun ⟨b,o,q1,q2,q3⟩=>⟨b,o,q1,hF _ q2,FsAtT.mono hF hw fs tg b o q2 q3⟩⟩
theorem FsVT.down {w0 w:World} {B:Nat} (hb:Below B w0 w) (hB:B<=w.heap.size) {fs:Fs} {tg:List Int} {v:Value} (h:FsVT w0 (· < B) fs tg v):FsVT w (· < w.heap.size) fs tg v :=
 h.mono (fun k hk=>Nat.lt_of_lt_of_le hk hB) (fun k hk=>hb.block k hk)
theorem fsAtT_drop {w:World} {F:Nat->Prop}:∀ (i:Nat) (fs:Fs) (tg:List Int) (b o:Nat),FsAtT w F fs tg b o->FsAtT w F (Fs.drop i fs) (tg.drop i) b (o+i * 8)
 | 0,fs,tg,b,o,h=>by simpa [Fs.drop] using h
 | i+1,.nil,tg,b,o,_=>by simp [Fs.drop,FsAtT]
 | i+1,.cons h ty r,tg,b,o,hh=>by
  simp only [FsAtT] at hh
  have:=fsAtT_drop i r tg.tail b (o+8) hh.2
  rw [List.drop_tail] at this
  rwa [show o+8+i * 8=o+(i+1) * 8 by omega] at this
def wFsT (ver:Int) (flex:Bool):Fs->List Int->List Tree->Bytes
 | .nil,_,_=>[]
 | .cons h ty r,tg,ts=>(if tg.headD (-1) < 0/\h.has ver=true then wField ver flex h ty (ts.headD Tree.zero) else []) ++ wFsT ver flex r tg.tail ts.tail
theorem tail_drop (tg:List Int) (i:Nat):(tg.drop i).tail=tg.drop (i+1):=by simp
def TgOK (tg:List Int):Prop:=∀ x ∈ tg,x=-1∨(0<=x/\x < 1000)
theorem TgOK.at {tg:List Int} (h:TgOK tg) (j:Nat):(tg.drop j).headD (-1)=-1∨(0<=(tg.drop j).headD (-1)/\(tg.drop j).headD (-1) < 1000):=by
 cases e:tg.drop j with
 | nil=>exact .inl rfl
 | cons x r=>exact h x (List.mem_of_mem_drop (by rw [e];exact List.mem_cons_self ..))
def Fs.app:Fs->Fs->Fs
 | .nil,k=>k
 | .cons h ty r,k=>.cons h ty (Fs.app r k)
theorem Fs.len_app:∀ fs kn:Fs,Fs.len (Fs.app fs kn)=Fs.len fs+Fs.len kn
 | .nil,kn=>by simp [Fs.app,Fs.len]
 | .cons h ty r,kn=>by simp only [Fs.app,Fs.len,Fs.len_app r kn];omega
def tgOf (fs kn:Fs):List Int:=List.replicate (Fs.len fs) (-1) ++ List.replicate (Fs.len kn) 0
theorem tgOf_ok (fs kn:Fs):TgOK (tgOf fs kn):=by
 intro x hx
 rcases List.mem_append.1 hx with h | h <;> have:=List.eq_of_mem_replicate h <;> omega
theorem fsAtT_kn {w:World} {F:Nat->Prop}:∀ (kn:Fs) (b o:Nat),FsAt w F 0 kn b o->FsAtT w F kn (List.replicate (Fs.len kn) 0) b o
 | .nil,_,_,_=>by simp [FsAtT]
 | .cons h ty r,b,o,hh=>by
  simp only [FsAt] at hh
  simp only [FsAtT,Fs.len,List.replicate_succ,List.headD_cons,List.tail_cons]
  exact ⟨hh.1,fsAtT_kn r b (o+8) hh.2⟩
theorem fsAtT_app {w:World} {F:Nat->Prop}:∀ (fs kn:Fs) (b o:Nat),FsAt w F (-1) fs b o->FsAt w F 0 kn b (o+Fs.len fs * 8)->FsAtT w F (Fs.app fs kn) (tgOf fs kn) b o
 | .nil,kn,b,o,_,hk=>by
  have:=fsAtT_kn kn b o (by simpa [Fs.len] using hk)
  simpa [Fs.app,tgOf,Fs.len] using this
 | .cons h ty r,kn,b,o,hh,hk=>by
  simp only [FsAt] at hh
  have ih:=fsAtT_app r kn b (o+8) hh.2 (by simp only [Fs.len] at hk;rwa [show o+(Fs.len r+1) * 8=o+8+Fs.len r * 8 by omega] at hk)
  simp only [Fs.app,FsAtT,tgOf,Fs.len,List.replicate_succ,List.cons_append,List.headD_cons,List.tail_cons]
  exact ⟨hh.1,ih⟩
theorem fsVT_of {w:World} {F:Nat->Prop} {fs kn:Fs} {v:Value} (h:FsV w F fs kn v):FsVT w F (Fs.app fs kn) (tgOf fs kn) v:=by
 obtain ⟨base,cap,h1,h2⟩:=h
 refine ⟨base,cap,by rw [Fs.len_app];exact h1,?_⟩
 rw [Fs.len_app]
 exact h2.imp id fun ⟨b,o,q1,q2,q3,q4⟩=>⟨b,o,q1,q2,fsAtT_app fs kn b o q3 q4⟩
theorem wFsT_kn (ver:Int) (flex:Bool):∀ (kn:Fs) (ts:List Tree),wFsT ver flex kn (List.replicate (Fs.len kn) 0) ts=[]
 | .nil,_=>rfl
 | .cons h ty r,ts=>by
  simp only [wFsT,Fs.len,List.replicate_succ,List.headD_cons,List.tail_cons,wFsT_kn ver flex r ts.tail,List.append_nil]
  simp
theorem wFsT_app (ver:Int) (flex:Bool):∀ (fs kn:Fs) (ts:List Tree),wFsT ver flex (Fs.app fs kn) (tgOf fs kn) ts=wFs ver flex fs ts
 | .nil,kn,ts=>by
  have:=wFsT_kn ver flex kn ts
  simpa [Fs.app,tgOf,Fs.len,wFs] using this
 | .cons h ty r,kn,ts=>by
  have ih:=wFsT_app ver flex r kn ts.tail
  unfold tgOf at ih
  rw [wFs_cons]
  simp only [Fs.app,wFsT,tgOf,Fs.len,List.replicate_succ,List.cons_append,List.headD_cons,List.tail_cons,ih,show (-1:Int) < 0 by decide,true_and]
theorem subsC_app {C:Fs->Fs->Prop}:∀ (fs kn:Fs),SubsC C fs->SubsC C kn->SubsC C (Fs.app fs kn)
 | .nil,_,_,h=>by simpa [Fs.app] using h
 | .cons h ty r,kn,h1,h2=>by
  simp only [SubsC,Fs.app] at h1 ⊢
  exact ⟨h1.1,subsC_app r kn h1.2 h2⟩
end Go.Proofs.YtdnpafdgglpagaaGreatDoor.K
namespace Go.Proofs.YtdnpafdgglpagaaGreatDoor.K
open Go Go.RowKit Go.Proofs.YtdnpafdgglpagaaGreatDoor.T
attribute [local simp] eTm eCo pNo gTp gTn qv qcall vop iop
set_option linter.unusedSimpArgs false
set_option linter.unusedVariables false
set_option maxHeartbeats 4000000
section
variable {G:List (Nat × Bytes)->Prop} {P:Program} {X:STy} {f:FuncId} {fn:Func} {fW fTh fC fWi fF fU fHas fNull fAt fPart fVal fFld:FuncId}
theorem fieldsT_loop (hX:stOK P X=true) (hTF:arrB P X.F 8=true) (S:SmallC P X fW fTh fC fWi fF fU fHas fNull fAt G) (hm:P.follows .mixedOrders=true) (oF:FnOK P fFld) (cFd:FieldC G P X fFld fPart)
  {a:Act} {w w1:World} {Q:Exit->Act->World->Prop} (fs:Fs) (tg:List Int) (htg:TgOK tg) (fb:Option Addr) (fcap:Nat) (cP:SubsC (PartC G P X fPart) fs)
  (hfs:Fs.len fs=0∨∃ b o,fb=some ⟨b,o,none⟩/\b < w.heap.size/\FsAtT w (· < w.heap.size) fs tg b o) (hlen63:Fs.len fs < 4294967296)
  (ver:Int) (hver:0<=ver) (flex:Bool) (t:Tree) (n:Int) (s l u:Value) (tnull:Bool) (ht:TV G w (· < w.heap.size) t (treV n s tnull l u))
  (hbw:Below w.heap.size w w1) (hsz:w.heap.size+1<=w1.heap.size) (hT5:rangeV w1 w.heap.size 0 5=some [.int .i64 n,s,.bool tnull,l,u])
  (g:a.tmps.size=132) (g0:getT a 0=.slice fb (Fs.len fs) fcap) (g1:getT a 1=.int .i64 ver) (g2:getT a 2=.bool flex) (g7:getT a 7=.pointer (some ⟨w.heap.size,0,none⟩)) (g9:getT a 9=.slice none 0 0)
  (hl:(wFsT ver flex fs tg t.l).length<=lim)
  (hQ:∀ (a':Act) (w':World),a'.tmps.size=132->a'.defers=a.defers->(∀ s,s < 12->s ≠ 9->getT a' s=getT a s)->Own X.U8 w' (w.heap.size+1) (getT a' 9) (wFsT ver flex fs tg t.l)->Below (w.heap.size+1) w1 w'->Q .normal a' w') :
  SC.wp P (.seq (.reg [mv 21 0,lenOp 22 X.Fs 21,⟨some 23,.move (.const (.int .i64 0)),none⟩]) (.block 0 (.loop (.seq (.reg [⟨some 24,.binOp .lss X.I (.tmp 23) (.tmp 22) X.I,none⟩]) (.seq (.cond (.tmp 24) (.skip) (.exit 0)) (.seq (.block 1 (.seq (.reg [mv 25 23,⟨some 26,.indexAddr X.Fs (.tmp 21) (.tmp 23),none⟩,ld 27 X.F 26,⟨some 13,.alloc X.F,none⟩,asg 12 25,⟨none,.store X.F (.tmp 13) (.tmp 27),none⟩]) (.seq (.reg [fa 28 X.F 13 4,ld 29 X.I 28,⟨some 30,.binOp .lss X.I (.tmp 29) (.const (.int .i64 0)) X.I,none⟩,mv 31 30,⟨some 32,.load X.F (.tmp 13),some (3,true)⟩,⟨some 33,.move (.tmp 1),some (3,true)⟩,⟨some 34,.call ⟨.value (.func fHas),#[(.tmp 32),(.tmp 33)],#[]⟩,some (3,true)⟩,⟨some 35,.pick (.tmp 31) (.tmp 34) (.const (.bool false)),none⟩]) (.cond (.tmp 35) (.dreg [mv 36 9,ld 37 X.F 13,mv 38 1,mv 39 2,ld 40 X.T 7,mv 41 12,cal 42 fAt [40,41],cal 43 fFld [37,38,39,42],⟨some 44,.call ⟨.builtin .append,#[(.tmp 36),(.tmp 43)],#[X.Bs,X.Bs]⟩,none⟩,asg 9 44] [[],[],[],[],[],[],[4,5],[1,2,3,6,6],[0,7,7],[8,8,0,1,2,3,4,5,6,7,8]]) (.skip))))) (.reg [⟨some 45,.binOp .add X.I (.tmp 23) (.const (.int .i64 1)) X.I,none⟩,mv 23 45]))))))) Q a w1:=by
 have hst:=st_facts hX
 have hU8s:=hst.2.2.1.1
 have hlim:lim=4294967295:=rfl
 obtain ⟨hTF1,iF,zF,hiF,hzF,hzFs⟩:=arr_of hTF
 refine wSq (wRg ?_)
 repeat (apply ops_1;(focus (simp (disch:=(try simp only [sPu]);omega) [hst,g0];try rfl)))
 refine oNi ?_
 simp only [Exit.then]
 refine wBk (wLp (fun a4 w5=>∃ (j:Nat) (xs:Bytes),a4.tmps.size=132/\a4.defers=a.defers/\(∀ s,s < 12->s ≠ 9->getT a4 s=getT a s)/\getT a4 21=.slice fb (Fs.len fs) fcap/\getT a4 22=.int .i64 (Fs.len fs:Int)/\getT a4 23=.int .i64 (j:Int)/\j<=Fs.len fs /\
   Own X.U8 w5 (w.heap.size+1) (getT a4 9) xs/\xs ++ wFsT ver flex (Fs.drop j fs) (tg.drop j) (t.l.drop j)=wFsT ver flex fs tg t.l/\Below (w.heap.size+1) w1 w5)
  (fun a4 _=>match getT a4 23 with | .int _ m=>(Fs.len fs - m).toNat | _=>0) ⟨0,[],by simp [sPu,g],by simp [dPu],?_,by simp (disch:=(try simp only [sPu]);omega),by simp (disch:=(try simp only [sPu]);omega),by simp (disch:=(try simp only [sPu]);omega),by omega,by simp (disch:=(try simp only [sPu]);omega) [g9];exact own_nil _ _ _,by simp [Fs.drop],Below.refl _ _⟩ ?_)
 ·intro s h1 h2
  simp (disch:=omega) [gTn]
 rintro a4 w5 ⟨j,xs,q,qd,qs,q21,q22,q23,hj,ho,hx,hb5⟩
 have hsz5:w.heap.size+1<=w5.heap.size:=by have:=hb5.size;omega
 refine wSq (wRg ?_)
 repeat (apply ops_1;(focus (simp (disch:=(try simp only [sPu]);omega) [hst,q22,q23];try rfl)))
 refine oNi ?_
 simp only [Exit.then]
 refine wSq (wCd (t:=decide ((j:Int) < (Fs.len fs:Int))) (by simp (disch:=(try simp only [sPu]);omega)) ?_)
 cases e1:decide ((j:Int) < (Fs.len fs:Int))
 ·have hje:j=Fs.len fs:=by simp at e1;omega
  subst hje
  rw [if_neg (by simp)]
  refine wXt ?_
  simp only [Exit.then,Exit.inBlock,if_true]
  rw [drop_len,wFsT,List.append_nil] at hx
  refine hQ _ _ (by simp [sPu,q]) (by simp [dPu,qd]) ?_ ?_ hb5
  ·intro s h1 h2
   rw [<- qs s h1 h2]
   simp (disch:=omega) [gTn]
  ·rw [<- hx]
   refine own_eq ho ?_
   simp (disch:=(try simp only [sPu]);omega)
 ·have hjl:j < Fs.len fs:=by simp at e1;omega
  rw [if_pos rfl]
  refine wSk ?_
  simp only [Exit.then]
  obtain ⟨h,ty,hdrop⟩:=drop_cons j fs hjl
  rcases hfs with hfs | ⟨b,o,rfl,hbF,hfs⟩
  ·omega
  have hfj:=fsAtT_drop j fs tg b o hfs
  have hcj:=subsC_drop j fs cP
  rw [hdrop] at hfj hcj hx
  simp only [FsAtT,SubsC] at hfj hcj
  obtain ⟨⟨of_,sub,hr8,h1c,hof,hsub⟩,_⟩:=hfj
  have htj:=htg.at j
  obtain ⟨tj,etj⟩:∃ tj,tj=(tg.drop j).headD (-1):=⟨_,rfl⟩
  rw [<- etj] at htj hr8
  have hb5':Below w.heap.size w w5:=hbw.trans (hb5.mono (by omega))
  have hr8':=(rangeV_mono (w:=w5) (hb5'.block b hbF) 8 (o+j * 8)).trans hr8
  have ej:(0:Int)<=(j:Int)/\(j:Int) < (Fs.len fs:Int):=by omega
  have k0:=(qs 0 (by decide) (by decide)).trans g0
  have k1:=(qs 1 (by decide) (by decide)).trans g1
  have k2:=(qs 2 (by decide) (by decide)).trans g2
  have k7:=(qs 7 (by decide) (by decide)).trans g7
  refine wSq (wBk (wSq (wRg ?_)))
  iterate 3 (apply ops_1;(focus (simp (disch:=(try simp only [sPu]);omega) [hst,q21,q23,ej,hr8',hjl];try rfl)))
  refine oNo rfl (opw_alloc hiF hzF ?_)
  iterate 1 (apply ops_1;(focus (simp (disch:=(try simp only [sPu]);omega) ;try rfl)))
  refine oNo rfl (opw_store_agg (b:=w5.heap.size) (cs:=[.int .i64 (kindOf ty),.int .i64 h.from_,.int .i64 h.to,.int .i64 h.null,.int .i64 tj,.int .i64 h.dflt,.int .i64 of_,sub]) hTF1 (by simp (disch:=(try simp only [sPu]);omega)) (by simp (disch:=(try simp only [sPu]);omega)) (heap_alloc_new w5 _) (by simp [hzFs]) (by
   intro v hv
   simp only [List.mem_cons,List.not_mem_nil,or_false] at hv
   rcases hv with rfl | rfl | rfl | rfl | rfl | rfl | rfl | rfl <;> first | rfl | exact h1c) (oNi ?_))
  have hnew:((w5.alloc (.cells zF.cells X.F)).setRow w5.heap.size #[.int .i64 (kindOf ty),.int .i64 h.from_,.int .i64 h.to,.int .i64 h.null,.int .i64 tj,.int .i64 h.dflt,.int .i64 of_,sub]).heap[w5.heap.size]?=some (.cells #[.int .i64 (kindOf ty),.int .i64 h.from_,.int .i64 h.to,.int .i64 h.null,.int .i64 tj,.int .i64 h.dflt,.int .i64 of_,sub] X.F (0,0)):=setRow_heap _ _ _ _ _ _ (heap_alloc_new w5 _)
  have hb6:Below w5.heap.size w5 ((w5.alloc (.cells zF.cells X.F)).setRow w5.heap.size #[.int .i64 (kindOf ty),.int .i64 h.from_,.int .i64 h.to,.int .i64 h.null,.int .i64 tj,.int .i64 h.dflt,.int .i64 of_,sub]):=below_setRow ((Below.refl _ _).alloc (Nat.le_refl _) _) (Nat.le_refl _) _
  have hsz6:((w5.alloc (.cells zF.cells X.F)).setRow w5.heap.size #[.int .i64 (kindOf ty),.int .i64 h.from_,.int .i64 h.to,.int .i64 h.null,.int .i64 tj,.int .i64 h.dflt,.int .i64 of_,sub]).heap.size=w5.heap.size+1:=by simp
  simp only [Exit.then,pNo]
  generalize ((w5.alloc (.cells zF.cells X.F)).setRow w5.heap.size #[.int .i64 (kindOf ty),.int .i64 h.from_,.int .i64 h.to,.int .i64 h.null,.int .i64 tj,.int .i64 h.dflt,.int .i64 of_,sub])=w6 at *
  have hc6:∀ i,w6.cell? ⟨w5.heap.size,i,none⟩=#[Value.int .i64 (kindOf ty),.int .i64 h.from_,.int .i64 h.to,.int .i64 h.null,.int .i64 tj,.int .i64 h.dflt,.int .i64 of_,sub][i]?:=fun i=>cell_of_row _ _ _ _ _ _ hnew
  have hF8:rangeV w6 w5.heap.size 0 8=some [.int .i64 (kindOf ty),.int .i64 h.from_,.int .i64 h.to,.int .i64 h.null,.int .i64 tj,.int .i64 h.dflt,.int .i64 of_,sub]:=by simp [rangeV,hc6]
  refine gen_act (fun a6=>a6.tmps.size=132/\a6.defers=a.defers/\(∀ s,s < 12->s ≠ 9->getT a6 s=getT a s)/\getT a6 9=getT a4 9/\getT a6 21=.slice (some ⟨b,o,none⟩) (Fs.len fs) fcap/\getT a6 22=.int .i64 (Fs.len fs:Int)/\getT a6 23=.int .i64 (j:Int)/\getT a6 12=.int .i64 (j:Int)/\getT a6 13=.pointer (some ⟨w5.heap.size,0,none⟩))
   ⟨by simp [sPu,q],by simp [dPu,qd],?_,by simp (disch:=(try simp only [sPu]);omega),by simp (disch:=(try simp only [sPu]);omega) [q21],by simp (disch:=(try simp only [sPu]);omega) [q22],by simp (disch:=(try simp only [sPu]);omega) [q23],by simp (disch:=(try simp only [sPu]);omega),by simp (disch:=(try simp only [sPu]);omega)⟩ ?_
  ·intro s h1 h2
   rw [<- qs s h1 h2]
   simp (disch:=omega) [gTn]
  rintro a6 ⟨p,pd,ps,p9,p21,p22,p23,p12,p13⟩
  have k1:=(ps 1 (by decide) (by decide)).trans g1
  have k2:=(ps 2 (by decide) (by decide)).trans g2
  have k7:=(ps 7 (by decide) (by decide)).trans g7
  clear q qd qs q21 q22 k0
  have ew:IntKind.i64.wrap ((j:Int)+1)=((j+1:Nat):Int):=by rw [wrap_i64'];split <;> omega
  have next:∀ (a':Act) (w':World) (ys:Bytes) (Q':Exit->Act->World->Prop),a'.tmps.size=132->a'.defers=a.defers->(∀ s,s < 12->s ≠ 9->getT a' s=getT a s)->getT a' 21=.slice (some ⟨b,o,none⟩) (Fs.len fs) fcap->getT a' 22=.int .i64 (Fs.len fs:Int)->getT a' 23=.int .i64 (j:Int) ->
    Own X.U8 w' (w.heap.size+1) (getT a' 9) ys->ys=xs ++ (if tj < 0/\h.has ver=true then wField ver flex h ty ((t.l.drop j).headD Tree.zero) else [])->Below (w.heap.size+1) w5 w' ->
    (∀ a'' w'',(∃ (j:Nat) (xs:Bytes),a''.tmps.size=132/\a''.defers=a.defers/\(∀ s,s < 12->s ≠ 9->getT a'' s=getT a s)/\getT a'' 21=.slice (some ⟨b,o,none⟩) (Fs.len fs) fcap/\getT a'' 22=.int .i64 (Fs.len fs:Int)/\getT a'' 23=.int .i64 (j:Int)/\j<=Fs.len fs /\
     Own X.U8 w'' (w.heap.size+1) (getT a'' 9) xs/\xs ++ wFsT ver flex (Fs.drop j fs) (tg.drop j) (t.l.drop j)=wFsT ver flex fs tg t.l/\Below (w.heap.size+1) w1 w'')->(match getT a'' 23 with | .int _ m=>(Fs.len fs - m).toNat | _=>0) < (Fs.len fs - (j:Int)).toNat->Q' .normal a'' w'') ->
    SC.wp P (.reg [⟨some 45,.binOp .add X.I (.tmp 23) (.const (.int .i64 1)) X.I,none⟩,mv 23 45]) Q' a' w':=by
   intro a' w' ys Q' z zd zs z21 z22 z23 zo hy zb hq
   refine wRg ?_
   repeat (apply ops_1;(focus (simp (disch:=(try simp only [sPu]);omega) [z23,ew];try rfl)))
   refine oNi (hq _ _ ⟨j+1,ys,by simp [sPu,z],by simp [dPu,zd],?_,by simp (disch:=(try simp only [sPu]);omega) [z21],by simp (disch:=(try simp only [sPu]);omega) [z22],by simp (disch:=(try simp only [sPu]);omega),by omega,?_,?_,hb5.trans zb⟩ ?_)
   ·intro s h1 h2
    rw [<- zs s h1 h2]
    simp (disch:=omega) [gTn]
   ·refine own_eq zo ?_
    simp (disch:=(try simp only [sPu]);omega)
   ·rw [hy,List.append_assoc]
    simpa only [wFsT,headD_drop,tail_drop,<- etj] using hx
   ·simp (disch:=(try simp only [sPu]);omega);omega
  rcases (Classical.em (tj=-1)).symm with hneg | hneg
  ·have htj0:0<=tj:=by omega
   have hnt:decide (tj < 0)=false:=decide_eq_false (by omega)
   refine wSq (wRg ?_)
   repeat (first | (apply ops_1;(focus (simp (disch:=(try simp only [sPu]);omega) [hst,hc6,p13,hnt];try rfl))) | (apply ops_y;(focus rfl);(focus ((try simp only [sPu]);omega));(focus (simp (disch:=(try simp only [sPu]);omega) [hst,hc6,p13,hnt];done));(focus (simp (disch:=(try simp only [sPu]);omega) [hst,hc6,p13,hnt];try rfl))) | (apply ops_n;(focus rfl);(focus ((try simp only [sPu]);omega));(focus (first | (left;simp (disch:=(try simp only [sPu]);omega) [hst,hc6,p13,hnt];done) | (right;simp (disch:=(try simp only [sPu]);omega);done)))))
   refine oNi ?_
   simp only [Exit.then]
   refine wCd (t:=false) (by simp (disch:=(try simp only [sPu]);omega) [hnt]) ?_
   rw [if_neg (by simp)]
   refine wSk ?_
   simp only [Exit.inBlock,Exit.then]
   refine next _ _ xs _ (by simp [sPu,p]) (by simp [dPu,pd]) ?_ (by simp (disch:=(try simp only [sPu]);omega) [p21]) (by simp (disch:=(try simp only [sPu]);omega) [p22]) (by simp (disch:=(try simp only [sPu]);omega) [p23]) ?_ (by rw [if_neg (by omega),List.append_nil]) (hb6.mono (by omega)) ?_
   ·intro s h1 h2
    rw [<- ps s h1 h2]
    simp (disch:=omega) [gTn]
   ·refine own_eq (own_keep ho hb6) ?_
    simp (disch:=(try simp only [sPu]);omega) [p9]
   ·intro a'' w'' hI hlt
    exact ⟨hI,by rw [q23];exact hlt⟩
  subst hneg
  refine wSq (wRg ?_)
  iterate 6 (first | (apply ops_1;(focus (simp (disch:=(try simp only [sPu]);omega) [hst,hc6,hF8,k1,p13];try rfl))) | (apply ops_y;(focus rfl);(focus ((try simp only [sPu]);omega));(focus (simp (disch:=(try simp only [sPu]);omega) [hst,hc6,hF8,k1,p13];done));(focus (simp (disch:=(try simp only [sPu]);omega) [hst,hc6,hF8,k1,p13];try rfl))) | (apply ops_n;(focus rfl);(focus ((try simp only [sPu]);omega));(focus (first | (left;simp (disch:=(try simp only [sPu]);omega) [hst,hc6,hF8,k1,p13];done) | (right;simp (disch:=(try simp only [sPu]);omega);done)))))
  obtain ⟨fnH,hH1,hH2,hH3⟩:=S.oH
  refine opsw_yes rfl rfl (by (try simp only [sPu]);omega) (by simp (disch:=(try simp only [sPu]);omega)) (opw_call hH1 hH2 hH3 (R:=fun e w'=>e=.returned (.bool (h.has ver))/\Below w6.heap.size w6 w') ?_ ?_)
  ·refine Eq.mp (congrArg (fun z=>Calls P fHas z w6 _) ?_) (S.cH w6 (kindOf ty) h.from_ h.to h.null (-1) h.dflt of_ sub ver)
   simp (disch:=(try simp only [sPu]);omega) [fldV]
  rintro e w7 ⟨rfl,hb7⟩
  refine ⟨_,rfl,?_⟩
  repeat (apply ops_1;(focus (simp (disch:=(try simp only [sPu]);omega) ;try rfl)))
  refine oNi ?_
  simp only [Exit.then]
  have hb7':Below w5.heap.size w5 w7:=hb6.trans (hb7.mono (by omega))
  have hsz7:w5.heap.size+1<=w7.heap.size:=by have:=hb7.size;omega
  have hnew7:w7.heap[w5.heap.size]?=w6.heap[w5.heap.size]?:=hb7.block _ (by omega)
  refine wCd (t:=h.has ver) (by simp (disch:=(try simp only [sPu]);omega)) ?_
  cases hh:h.has ver
  ·rw [if_neg (by simp)]
   refine wSk ?_
   simp only [Exit.inBlock,Exit.then]
   refine next _ _ xs _ (by simp [sPu,p]) (by simp [dPu,pd]) ?_ (by simp (disch:=(try simp only [sPu]);omega) [p21]) (by simp (disch:=(try simp only [sPu]);omega) [p22]) (by simp (disch:=(try simp only [sPu]);omega) [p23]) ?_ (by simp [hh]) (hb7'.mono (by omega)) ?_
   ·intro s h1 h2
    rw [<- ps s h1 h2]
    simp (disch:=omega) [gTn]
   ·refine own_eq (own_keep ho hb7') ?_
    simp (disch:=(try simp only [sPu]);omega) [p9]
   ·intro a'' w'' hI hlt
    exact ⟨hI,by rw [q23];exact hlt⟩
  ·rw [if_pos rfl]
   have hF8d:rangeV w7.drew w5.heap.size 0 8=some [.int .i64 (kindOf ty),.int .i64 h.from_,.int .i64 h.to,.int .i64 h.null,.int .i64 (-1),.int .i64 h.dflt,.int .i64 of_,sub]:=(rangeV_mono (w:=w7.drew) (w0:=w6) hnew7 8 0).trans hF8
   have hT5d:rangeV w7.drew w.heap.size 0 5=some [.int .i64 n,s,.bool tnull,l,u]:=(rangeV_mono (w:=w7.drew) (w0:=w1) ((hb7'.block _ (by omega)).trans (hb5.block _ (by omega))) 5 0).trans hT5
   have hb7w:Below w.heap.size w w7:=hb5'.trans (hb7'.mono (by omega))
   refine wDr hm (Keeps (fun b=>b == w.heap.size || b == w5.heap.size) w7.drew) [(0,true),(1,true),(2,true),(3,true),(4,true),(5,true),(6,false),(7,false),(8,false),(9,true)] (by rfl) (by rfl) (by decide) (fun _ _=>rfl) ?_
   iterate 6 (apply dk_1;(focus rfl);(focus (simp (disch:=(try simp only [sPu]);omega) [hst,k1,k2,k7,p12,p13,hF8d,hT5d];try rfl)))
   have hkeep:∀ (wa wb:World),w5.heap.size+1<=wa.heap.size->Below wa.heap.size wa wb->Keeps (fun b=>b == w.heap.size || b == w5.heap.size) w7.drew wa->Keeps (fun b=>b == w.heap.size || b == w5.heap.size) w7.drew wb:=by
    intro wa wb z1 z2 z3 bb hbb
    have:bb < wa.heap.size:=by
     simp only [Bool.or_eq_true,beq_iff_eq] at hbb
     omega
    exact (z2.block bb this).trans (z3 bb hbb)
   refine dreg_call rfl S.oA (S.cA w7.drew t (treV n s tnull l u) j (TV.down hb7w.drew (by show w.heap.size<=w7.heap.size;omega) ht)) (by simp (disch:=(try simp only [sPu]);omega) [treV]) ?_
   rintro e w8 ⟨tv,rfl,htv,hb8⟩
   have hb8:Below w7.heap.size w7.drew w8:=hb8
   have hk8:=hkeep w7.drew w8 (by show _<=w7.heap.size;omega) hb8 (fun _ _=>rfl)
   refine ⟨tv,rfl,hk8,?_⟩
   have hsz8:w7.heap.size<=w8.heap.size:=hb8.size
   have hb8w:Below w.heap.size w w8:=hb7w.drew.trans (hb8.mono (by omega))
   have hlf:(wField ver flex h ty ((t.l.drop j).headD Tree.zero)).length<=lim/\xs.length+(wField ver flex h ty ((t.l.drop j).headD Tree.zero)).length<=lim:=by
    simp only [wFsT,<- etj,hh,and_true,show (-1:Int) < 0 by decide,if_true] at hx
    have:=congrArg List.length hx
    simp only [List.length_append] at this
    omega
   refine dreg_call rfl oF (cFd w8 h (-1) ty of_ sub ver flex ((t.l.drop j).headD Tree.zero) tv hver hof (SubV.mono (w:=w8) (F':=fun x=>x < w8.heap.size) (fun k hk=>by have:k < w.heap.size:=hk;show k < w8.heap.size;omega) (fun k hk=>hb8w.block k hk) ty sub hsub) h1c hcj.1 (TV.down hb8 (by omega) htv) hlf.1) (by simp (disch:=(try simp only [sPu]);omega) [fldV]) ?_
   rintro e w9 ⟨v2,rfl,ho2,hb9⟩
   have hk9:=hkeep w8 w9 (by omega) hb9 hk8
   refine ⟨v2,rfl,hk9,?_⟩
   have hsz9:w8.heap.size<=w9.heap.size:=hb9.size
   have hb59:Below w5.heap.size w5 w9:=hb7'.drew.trans ((hb8.mono (by omega)).trans (hb9.mono (by omega)))
   have ho9:Own X.U8 w9 (w.heap.size+1) (getT a4 9) xs:=own_keep ho hb59
   refine dreg_n rfl rfl (opw_appendU8 (B:=w.heap.size+1) (dv:=getT a4 9) (xv:=v2) (xs:=xs) (bs:=wField ver flex h ty ((t.l.drop j).headD Tree.zero)) hU8s (by simp (disch:=(try simp only [sPu]);omega) [p9]) (by simp (disch:=(try simp only [sPu]);omega)) rfl ho9 (by omega) (src_own hU8s ho2) hlf.2 ?_)
   intro v3 w10 z1 z2 z3 z4
   refine ⟨fun bb hbb=>?_,?_⟩
   ·rw [<- hk9 bb hbb]
    have hbb':bb=w.heap.size∨bb=w5.heap.size:=by simpa only [Bool.or_eq_true,beq_iff_eq] using hbb
    refine z4.block bb (by omega) (fun e=>?_)
    have:=own_lt ho bb e.symm
    omega
   repeat (apply dk_1;(focus rfl);(focus (simp (disch:=(try simp only [sPu]);omega) ;try rfl)))
   refine dreg_nil ?_
   simp only [Exit.inBlock,Exit.then]
   refine next _ _ (xs ++ wField ver flex h ty ((t.l.drop j).headD Tree.zero)) _ (by simp [sPu,p]) (by simp [dPu,pd]) ?_ (by simp (disch:=(try simp only [sPu]);omega) [p21]) (by simp (disch:=(try simp only [sPu]);omega) [p22]) (by simp (disch:=(try simp only [sPu]);omega) [p23]) ?_ (by simp [hh]) ((hb59.mono (by omega)).trans z2) ?_
   ·intro s h1 h2
    rw [<- ps s h1 h2]
    simp (disch:=omega) [gTn]
   ·refine own_eq z1 ?_
    simp (disch:=(try simp only [sPu]);omega)
   ·intro a'' w'' hI hlt
    exact ⟨hI,by rw [q23];exact hlt⟩
end
def knT:Fs->List Int->Nat
 | .nil,_=>0
 | .cons _ _ r,tg=>max (if 0<=tg.headD (-1) then (tg.headD (-1)).toNat+1 else 0) (knT r tg.tail)
def knK:Fs->Nat
 | .nil=>0
 | .cons _ _ _=>1
theorem knT_kn:∀ kn:Fs,knT kn (List.replicate (Fs.len kn) 0)=knK kn
 | .nil=>rfl
 | .cons h ty r=>by
  have ih:=knT_kn r
  simp only [knT,Fs.len,List.replicate_succ,List.headD_cons,List.tail_cons,ih,knK]
  cases r <;> simp [knK]
theorem knT_app:∀ fs kn:Fs,knT (Fs.app fs kn) (tgOf fs kn)=knK kn
 | .nil,kn=>by simpa [Fs.app,tgOf,Fs.len] using knT_kn kn
 | .cons h ty r,kn=>by
  have ih:=knT_app r kn
  unfold tgOf at ih
  simp only [Fs.app,knT,tgOf,Fs.len,List.replicate_succ,List.cons_append,List.headD_cons,List.tail_cons,ih]
  simp
def KnownTC (P:Program) (f:FuncId):Prop :=
 ∀ (w:World) (fs:Fs) (tg:List Int) (fv:Value),TgOK tg->FsVT w (· < w.heap.size) fs tg fv->Fs.len fs < 4294967296->Calls P f #[fv] w fun e w'=>e=.returned (.int .u32 (knT fs tg:Int))/\Below w.heap.size w w'
def KnownC (P:Program) (f:FuncId):Prop :=
 ∀ (w:World) (fs kn:Fs) (fv:Value),FsV w (· < w.heap.size) fs kn fv->Fs.len fs+Fs.len kn < 4294967296->Calls P f #[fv] w fun e w'=>e=.returned (.int .u32 (knK kn:Int))/\Below w.heap.size w w'
def unkK (kn:Fs) (u:List (Nat × Bytes)):List (Nat × Bytes):=((u.take most).filter fun t=>decide (knK kn<=t.1)).foldl (fun acc t=>insTag t acc) []
theorem unkK_nil (u:List (Nat × Bytes)):unkK .nil u=unknown u:=by
 unfold unkK unknown knK
 rw [List.filter_eq_self.2 (fun a _=>by simp)]
theorem unkK_cons (h:Hd) (ty:Ty) (r:Fs) (u:List (Nat × Bytes)):unkK (.cons h ty r) u=unkB u:=rfl
def UnkC (G:List (Nat × Bytes)->Prop) (P:Program) (f:FuncId):Prop :=
 ∀ (w:World) (F:Nat->Prop) (fs kn:Fs) (fv:Value) (ub:Option Addr) (u:List (Nat × Bytes)) (uc:Nat),(∀ k,F k->k < w.heap.size)->FsV w (· < w.heap.size) fs kn fv->Fs.len fs+Fs.len kn < 4294967296->G u->UTagsAt w F ub u->u.length<=uc ->
  Calls P f #[fv,.slice ub u.length uc] w fun e w'=>∃ ub' uc',e=.returned (.slice ub' (unkK kn u).length uc')/\UTagsAt w' (fun k=>F k∨(w.heap.size<=k/\k < w'.heap.size)) ub' (unkK kn u)/\Below w.heap.size w w'
section
variable {P:Program} {X:STy} {f:FuncId} {fn:Func} {fKn:FuncId}
theorem knownT_ok (hX:stOK P X=true) (hTF:arrB P X.F 8=true) (hf:P.funcs[f]?=some fn) (hb:fn.body.map strip=some (sc_known X.Fs X.I X.F X.U32)) (hn:fn.ntmps=23) (hr:fn.results=#[.tmp 2]):KnownTC P f:=by
 intro w fs tg fv htg hfs hlen63
 have hst:=st_facts hX
 obtain ⟨hTF1,iF,zF,hiF,hzF,hzFs⟩:=arr_of hTF
 obtain ⟨fb,fcap,rfl,hfs⟩:=hfs
 refine fCa hf hb hn (by simp) fun a0 hs hd ha=>?_
 have h0:=ha 0 _ rfl
 simp only [List.getElem_toArray,List.getElem_cons_zero,List.getElem_cons_succ] at h0
 refine wSq (wRg ?_)
 repeat (apply ops_1;(focus (simp (disch:=(try simp only [sPu]);omega) ;try rfl)))
 refine oNi (wSq (wRg ?_))
 repeat (apply ops_1;(focus (simp (disch:=(try simp only [sPu]);omega) ;try rfl)))
 refine oNi (wSq (wSq (wRg ?_)))
 repeat (apply ops_1;(focus (simp (disch:=(try simp only [sPu]);omega) [hst,h0];try rfl)))
 refine oNi ?_
 simp only [Exit.then]
 refine wBk (wLp (fun a4 w5=>∃ (j:Nat),a4.tmps.size=23/\a4.defers=[]/\getT a4 6=.slice fb (Fs.len fs) fcap/\getT a4 7=.int .i64 (Fs.len fs:Int)/\getT a4 8=.int .i64 (j:Int)/\j<=Fs.len fs/\(∃ m:Nat,getT a4 3=.int .u32 (m:Int)/\max m (knT (Fs.drop j fs) (tg.drop j))=knT fs tg)/\Below w.heap.size w w5)
  (fun a4 _=>match getT a4 8 with | .int _ m=>(Fs.len fs - m).toNat | _=>0) ⟨0,by simp [sPu,hs],by simp [dPu,hd],by simp (disch:=(try simp only [sPu]);omega),by simp (disch:=(try simp only [sPu]);omega),by simp (disch:=(try simp only [sPu]);omega),by omega,⟨0,by simp (disch:=(try simp only [sPu]);omega),by simp [Fs.drop]⟩,Below.refl _ _⟩ ?_)
 rintro a4 w5 ⟨j,q,qd,q6,q7,q8,hj,⟨m,q3,hm3⟩,hb5⟩
 have hsz5:w.heap.size<=w5.heap.size:=hb5.size
 refine wSq (wRg ?_)
 repeat (apply ops_1;(focus (simp (disch:=(try simp only [sPu]);omega) [hst,q7,q8];try rfl)))
 refine oNi ?_
 simp only [Exit.then]
 refine wSq (wCd (t:=decide ((j:Int) < (Fs.len fs:Int))) (by simp (disch:=(try simp only [sPu]);omega)) ?_)
 cases e1:decide ((j:Int) < (Fs.len fs:Int))
 ·have hje:j=Fs.len fs:=by simp at e1;omega
  subst hje
  rw [drop_len] at hm3
  have hm4:m=knT fs tg:=by rw [<- hm3];simp [knT]
  rw [if_neg (by simp)]
  refine wXt ?_
  simp only [Exit.then,Exit.inBlock,if_true]
  refine wSq (wRg ?_)
  repeat (apply ops_1;(focus (simp (disch:=(try simp only [sPu]);omega) [q3];try rfl)))
  refine oNi (wRt (ret_tmp hr (by simp [dPu,qd]) ⟨?_,hb5⟩))
  rw [<- hm4]
  simp (disch:=(try simp only [sPu]);omega)
 ·have hjl:j < Fs.len fs:=by simp at e1;omega
  rw [if_pos rfl]
  refine wSk ?_
  simp only [Exit.then]
  obtain ⟨h,ty,hdrop⟩:=drop_cons j fs hjl
  rcases hfs with hfs | ⟨b,o,rfl,hbF,hfs⟩
  ·omega
  have hfj:=fsAtT_drop j fs tg b o hfs
  rw [hdrop] at hfj hm3
  simp only [FsAtT] at hfj
  obtain ⟨⟨of_,sub,hr8,h1c,hof,hsub⟩,_⟩:=hfj
  simp only [knT,tail_drop] at hm3
  have htj:=htg.at j
  obtain ⟨tj,etj⟩:∃ tj,tj=(tg.drop j).headD (-1):=⟨_,rfl⟩
  rw [<- etj] at htj hr8 hm3
  have hr8':=(rangeV_mono (w:=w5) (hb5.block b hbF) 8 (o+j * 8)).trans hr8
  have ej:(0:Int)<=(j:Int)/\(j:Int) < (Fs.len fs:Int):=by omega
  refine wSq (wBk (wSq (wRg ?_)))
  iterate 2 (apply ops_1;(focus (simp (disch:=(try simp only [sPu]);omega) [hst,q6,q8,ej,hr8',hjl];try rfl)))
  refine oNo rfl (opw_alloc hiF hzF ?_)
  refine oNo rfl (opw_store_agg (b:=w5.heap.size) (cs:=[.int .i64 (kindOf ty),.int .i64 h.from_,.int .i64 h.to,.int .i64 h.null,.int .i64 tj,.int .i64 h.dflt,.int .i64 of_,sub]) hTF1 (by simp (disch:=(try simp only [sPu]);omega)) (by simp (disch:=(try simp only [sPu]);omega)) (heap_alloc_new w5 _) (by simp [hzFs]) (by
   intro v hv
   simp only [List.mem_cons,List.not_mem_nil,or_false] at hv
   rcases hv with rfl | rfl | rfl | rfl | rfl | rfl | rfl | rfl <;> first | rfl | exact h1c) (oNi ?_))
  have hnew:((w5.alloc (.cells zF.cells X.F)).setRow w5.heap.size #[.int .i64 (kindOf ty),.int .i64 h.from_,.int .i64 h.to,.int .i64 h.null,.int .i64 tj,.int .i64 h.dflt,.int .i64 of_,sub]).heap[w5.heap.size]?=some (.cells #[.int .i64 (kindOf ty),.int .i64 h.from_,.int .i64 h.to,.int .i64 h.null,.int .i64 tj,.int .i64 h.dflt,.int .i64 of_,sub] X.F (0,0)):=setRow_heap _ _ _ _ _ _ (heap_alloc_new w5 _)
  have hb6:Below w5.heap.size w5 ((w5.alloc (.cells zF.cells X.F)).setRow w5.heap.size #[.int .i64 (kindOf ty),.int .i64 h.from_,.int .i64 h.to,.int .i64 h.null,.int .i64 tj,.int .i64 h.dflt,.int .i64 of_,sub]):=below_setRow ((Below.refl _ _).alloc (Nat.le_refl _) _) (Nat.le_refl _) _
  simp only [Exit.then,pNo]
  generalize ((w5.alloc (.cells zF.cells X.F)).setRow w5.heap.size #[.int .i64 (kindOf ty),.int .i64 h.from_,.int .i64 h.to,.int .i64 h.null,.int .i64 tj,.int .i64 h.dflt,.int .i64 of_,sub])=w6 at *
  have hc6:∀ i,w6.cell? ⟨w5.heap.size,i,none⟩=#[Value.int .i64 (kindOf ty),.int .i64 h.from_,.int .i64 h.to,.int .i64 h.null,.int .i64 tj,.int .i64 h.dflt,.int .i64 of_,sub][i]?:=fun i=>cell_of_row _ _ _ _ _ _ hnew
  have ew:IntKind.i64.wrap ((j:Int)+1)=((j+1:Nat):Int):=by rw [wrap_i64'];split <;> omega
  have next:∀ (a':Act) (m':Nat) (Q':Exit->Act->World->Prop),a'.tmps.size=23->a'.defers=[]->getT a' 6=.slice (some ⟨b,o,none⟩) (Fs.len fs) fcap->getT a' 7=.int .i64 (Fs.len fs:Int)->getT a' 8=.int .i64 (j:Int)->getT a' 3=.int .u32 (m':Int)->max m' (knT (Fs.drop (j+1) fs) (tg.drop (j+1)))=knT fs tg ->
    (∀ a'',(∃ (j:Nat),a''.tmps.size=23/\a''.defers=[]/\getT a'' 6=.slice (some ⟨b,o,none⟩) (Fs.len fs) fcap/\getT a'' 7=.int .i64 (Fs.len fs:Int)/\getT a'' 8=.int .i64 (j:Int)/\j<=Fs.len fs/\(∃ m:Nat,getT a'' 3=.int .u32 (m:Int)/\max m (knT (Fs.drop j fs) (tg.drop j))=knT fs tg)/\Below w.heap.size w w6)->(match getT a'' 8 with | .int _ m=>(Fs.len fs - m).toNat | _=>0) < (Fs.len fs - (j:Int)).toNat->Q' .normal a'' w6) ->
    SC.wp P (.reg [⟨some 21,.binOp .add X.I (.tmp 8) (.const (.int .i64 1)) X.I,none⟩,mv 8 21]) Q' a' w6:=by
   intro a' m' Q' z zd z6 z7 z8 z3 hm' hq
   refine wRg ?_
   repeat (apply ops_1;(focus (simp (disch:=(try simp only [sPu]);omega) [z8,ew];try rfl)))
   refine oNi (hq _ ⟨j+1,by simp [sPu,z],by simp [dPu,zd],by simp (disch:=(try simp only [sPu]);omega) [z6],by simp (disch:=(try simp only [sPu]);omega) [z7],by simp (disch:=(try simp only [sPu]);omega),by omega,⟨m',by simp (disch:=(try simp only [sPu]);omega) [z3],hm'⟩,hb5.trans (hb6.mono hsz5)⟩ ?_)
   simp (disch:=(try simp only [sPu]);omega);omega
  rcases (Classical.em (tj=-1)).symm with hneg | hneg
  ·have htj0:0<=tj/\tj < 1000:=by omega
   obtain ⟨k,rfl⟩:∃ k:Nat,tj=(k:Int):=⟨tj.toNat,by omega⟩
   have hge:decide ((k:Int) ≥ 0)=true:=decide_eq_true (by omega)
   have e1:IntKind.u32.wrap (k:Int)=(k:Int):=by rw [wrap_u32];omega
   have e2:IntKind.u32.wrap ((k:Int)+1)=((k+1:Nat):Int):=by rw [wrap_u32];omega
   refine wSq (wRg ?_)
   repeat (apply ops_1;(focus (simp (disch:=(try simp only [sPu]);omega) [hst,hc6,hge];try rfl)))
   refine oNi (wCd (t:=true) (by simp (disch:=(try simp only [sPu]);omega)) ?_)
   rw [if_pos rfl]
   refine wRg ?_
   iterate 5 (apply ops_1;(focus (simp (disch:=(try simp only [sPu]);omega) [hst,hc6,e1,e2];try rfl)))
   refine oNo rfl (opw_max (k:=.u32) (m:=(m:Int)) (n:=((k+1:Nat):Int)) (by simp (disch:=(try simp only [sPu]);omega) [q3]) (by simp (disch:=(try simp only [sPu]);omega) [e2]) ?_)
   repeat (apply ops_1;(focus (simp (disch:=(try simp only [sPu]);omega) ;try rfl)))
   refine oNi ?_
   simp only [Exit.inBlock,Exit.then]
   refine next _ (max m (k+1)) _ (by simp [sPu,q]) (by simp [dPu,qd]) (by simp (disch:=(try simp only [sPu]);omega) [q6]) (by simp (disch:=(try simp only [sPu]);omega) [q7]) (by simp (disch:=(try simp only [sPu]);omega) [q8]) ?_ ?_ fun a'' hI hlt=>⟨hI,by rw [q8];exact hlt⟩
   ·simp (disch:=(try simp only [sPu]);omega)
    try omega
   ·rw [<- hm3,if_pos (by omega)]
    simp only [Int.toNat_natCast]
    omega
  ·subst hneg
   refine wSq (wRg ?_)
   repeat (apply ops_1;(focus (simp (disch:=(try simp only [sPu]);omega) [hst,hc6];try rfl)))
   refine oNi (wCd (t:=false) (by simp (disch:=(try simp only [sPu]);omega)) ?_)
   rw [if_neg (by simp)]
   refine wSk ?_
   simp only [Exit.inBlock,Exit.then]
   refine next _ m _ (by simp [sPu,q]) (by simp [dPu,qd]) (by simp (disch:=(try simp only [sPu]);omega) [q6]) (by simp (disch:=(try simp only [sPu]);omega) [q7]) (by simp (disch:=(try simp only [sPu]);omega) [q8]) (by simp (disch:=(try simp only [sPu]);omega) [q3]) ?_ fun a'' hI hlt=>⟨hI,by rw [q8];exact hlt⟩
   rw [<- hm3,if_neg (by decide)]
   omega
theorem known_ok (hX:stOK P X=true) (hTF:arrB P X.F 8=true) (hf:P.funcs[f]?=some fn) (hb:fn.body.map strip=some (sc_known X.Fs X.I X.F X.U32)) (hn:fn.ntmps=23) (hr:fn.results=#[.tmp 2]):KnownC P f:=by
 intro w fs kn fv hfs hlen
 have h:=knownT_ok hX hTF hf hb hn hr w (Fs.app fs kn) (tgOf fs kn) fv (tgOf_ok fs kn) (fsVT_of hfs) (by rw [Fs.len_app];exact hlen)
 rw [knT_app] at h
 exact h
end
section
variable {P:Program} {X:STy} {f:FuncId} {fn:Func}
theorem own_bytesAt {tU8:Nat} {w:World} {B:Nat} {v:Value} {xs:Bytes} (h:Own tU8 w B v xs):∃ base cap,v=.slice base xs.length cap/\BytesAt w (fun k=>k < w.heap.size) base xs:=by
 rcases h.2 with ⟨rfl,h0⟩ | ⟨g,cap,cur,rfl,hBg,hg,_⟩
 ·have:xs=[]:=List.eq_nil_of_length_eq_zero h0
  subst this
  exact ⟨none,0,rfl,.inl rfl⟩
 ·refine ⟨some ⟨g,0,none⟩,cap,rfl,.inr ⟨g,0,rfl,(Array.getElem?_eq_some_iff.1 hg).1,fun j u hu=>?_⟩⟩
  have hc:∀ j u,(cellsOf xs)[j]?=some u->w.cell? ((⟨g,0,none⟩:Addr).add j)=some u:=World.ownsRow.cells h rfl
  rw [<- add_none]
  exact hc j _ (by simp [cellsOf,hu])
def sOK (P:Program) (X:STy):Bool :=
 intK P X.I == some .i64 && intK P X.U8 == some .u8 && oneB P X.I && oneB P X.U8 && oneB P X.Bs && u8sB P X.Bs X.U8 && sliceN P X.Bs == some 1
theorem s_facts {P:Program} {X:STy} (h:sOK P X=true):(intK P X.I=some .i64/\intK P X.U8=some .u8)/\(oneB P X.I=true/\oneB P X.U8=true/\oneB P X.Bs=true)/\u8sB P X.Bs X.U8=true/\sliceN P X.Bs=some 1:=by
 simp only [sOK,Bool.and_eq_true,beq_iff_eq] at h
 simp only [h,and_self]
def SameC (P:Program) (f:FuncId):Prop :=
 ∀ (w:World) (xs ys:Bytes) (b1 b2:Option Addr) (c1 c2:Nat),BytesAt w (fun k=>k < w.heap.size) b1 xs->BytesAt w (fun k=>k < w.heap.size) b2 ys->xs.length<=lim->ys.length<=lim ->
  Calls P f #[.slice b1 xs.length c1,.slice b2 ys.length c2] w fun e w'=>e=.returned (.bool (decide (xs=ys)))/\Below w.heap.size w w'
theorem sameD_ok (hX:sOK P X=true) (hm:P.follows .mixedOrders=true) (hf:P.funcs[f]?=some fn) (hb:fn.body.map strip=some (sc_Same X.Bs X.I X.U8)) (hn:fn.ntmps=26) (hr:fn.results=#[.tmp 4]):SameC P f:=by
 intro w xs ys b1 b2 c1 c2 h1 h2 hl hly
 have hst:=s_facts hX
 have hlim:lim=4294967295:=rfl
 refine fCa hf hb hn (by simp) fun a0 hs hd ha=>?_
 have k0:=ha 0 _ rfl
 have k1:=ha 1 _ rfl
 simp only [List.getElem_toArray,List.getElem_cons_zero,List.getElem_cons_succ] at k0 k1
 refine wSq (wRg ?_)
 repeat (apply ops_1;(focus (simp (disch:=(try simp only [sPu]);omega) ;try rfl)))
 refine oNi (wSq (wSq (wRg ?_)))
 by_cases hlen:xs.length ≠ ys.length
 ·have hne:¬ ((xs.length:Int)=(ys.length:Int)):=by omega
  have hne2:((xs.length:Int) == (ys.length:Int))=false:=by simpa using hne
  repeat (apply ops_1;(focus (simp (disch:=(try simp only [sPu]);omega) [hst,k0,k1,hne,hne2];try rfl)))
  refine oNi (wCd (t:=true) (by simp (disch:=(try simp only [sPu]);omega) [hne]) ?_)
  rw [if_pos rfl]
  refine wSq (wRg ?_)
  repeat (apply ops_1;(focus (simp (disch:=(try simp only [sPu]);omega) ;try rfl)))
  refine oNi (wRt ?_)
  simp only [Exit.then]
  refine ret_tmp hr (by simp [dPu,hd]) ⟨?_,Below.refl _ _⟩
  rw [decide_eq_false (fun e=>hlen (by rw [e]))]
  simp (disch:=(try simp only [sPu]);omega)
 have hlen:ys.length=xs.length:=by omega
 rw [hlen] at k1
 repeat (apply ops_1;(focus (simp (disch:=(try simp only [sPu]);omega) [hst,k0,k1];try rfl)))
 refine oNi (wCd (t:=false) (by simp (disch:=(try simp only [sPu]);omega)) ?_)
 rw [if_neg (by simp)]
 refine wSk ?_
 simp only [Exit.then]
 refine wSq (wSq (wRg ?_))
 repeat (apply ops_1;(focus (simp (disch:=(try simp only [sPu]);omega) [hst,k0,k1];try rfl)))
 refine oNi ?_
 simp only [Exit.then]
 refine wBk (wLp (fun a4 w5=>∃ (j:Nat),a4.tmps.size=26/\a4.defers=[]/\getT a4 0=.slice b1 xs.length c1/\getT a4 1=.slice b2 xs.length c2/\getT a4 12=.int .i64 (xs.length:Int)/\getT a4 13=.int .i64 (j:Int)/\j<=xs.length/\xs.take j=ys.take j/\Below w.heap.size w w5)
  (fun a4 _=>match getT a4 13 with | .int _ m=>(xs.length - m).toNat | _=>0) ⟨0,by simp [sPu,hs],by simp [dPu,hd],by simp (disch:=(try simp only [sPu]);omega) [k0],by simp (disch:=(try simp only [sPu]);omega) [k1],by simp (disch:=(try simp only [sPu]);omega),by simp (disch:=(try simp only [sPu]);omega),by omega,by simp,Below.refl _ _⟩ ?_)
 rintro a4 w5 ⟨j,q,qd,q0,q1,q12,q13,hj,htk,hb5⟩
 refine wSq (wRg ?_)
 repeat (apply ops_1;(focus (simp (disch:=(try simp only [sPu]);omega) [hst,q12,q13];try rfl)))
 refine oNi ?_
 simp only [Exit.then]
 refine wSq (wCd (t:=decide ((j:Int) < (xs.length:Int))) (by simp (disch:=(try simp only [sPu]);omega)) ?_)
 cases e1:decide ((j:Int) < (xs.length:Int))
 ·rw [if_neg (by simp)]
  refine wXt ?_
  simp only [Exit.then,Exit.inBlock,if_true]
  refine wSq (wRg ?_)
  repeat (apply ops_1;(focus (simp (disch:=(try simp only [sPu]);omega) ;try rfl)))
  refine oNi (wRt (ret_tmp hr (by simp [dPu,qd]) ⟨?_,hb5⟩))
  have hje:j=xs.length:=by simp at e1;omega
  rw [hje,List.take_length,<- hlen,List.take_length] at htk
  rw [decide_eq_true htk]
  simp (disch:=(try simp only [sPu]);omega)
 ·have hjl:j < xs.length:=by simp at e1;omega
  rw [if_pos rfl]
  refine wSk ?_
  simp only [Exit.then]
  rcases h1 with e | ⟨g1,o1,rfl,hg1,hc1⟩
  ·subst e;simp at hjl
  rcases h2 with e | ⟨g2,o2,rfl,hg2,hc2⟩
  ·subst e;simp at hlen;omega
  have hjl2:j < ys.length:=by omega
  have hx2:=List.getElem?_eq_getElem hjl2
  have hx:=List.getElem?_eq_getElem hjl
  have hd1:w5.drew.cell? ⟨g1,o1+j,none⟩=some (cell xs[j]):=(World.cell?_of_block (w:=w) (w':=w5.drew) (a:=⟨g1,o1+j,none⟩) (hb5.block g1 hg1)).trans (hc1 j _ hx)
  have hd2:w5.drew.cell? ⟨g2,o2+j,none⟩=some (cell ys[j]):=(World.cell?_of_block (w:=w) (w':=w5.drew) (a:=⟨g2,o2+j,none⟩) (hb5.block g2 hg2)).trans (hc2 j _ hx2)
  have ej:(0:Int)<=(j:Int)/\(j:Int) < (xs.length:Int):=by omega
  have hcell:cell xs[j]=.int .u8 (xs[j].toNat:Int):=rfl
  have hcell2:cell ys[j]=.int .u8 (ys[j].toNat:Int):=rfl
  rw [hcell] at hd1
  rw [hcell2] at hd2
  have etx:xs.take (j+1)=xs.take j ++ [xs[j]]:=by rw [List.take_add_one,hx];rfl
  have ety:ys.take (j+1)=ys.take j ++ [ys[j]]:=by rw [List.take_add_one,hx2];rfl
  have etxy:decide (xs[j].toNat=ys[j].toNat)=true->xs.take (j+1)=ys.take (j+1):=fun h=>by
   rw [etx,ety,htk,UInt8.toNat_inj.1 (of_decide_eq_true h)]
  have etne:decide (xs[j].toNat=ys[j].toNat)=false->xs ≠ ys:=fun h e=>by
   subst e
   simp at h
  generalize xs[j].toNat=cj at *
  generalize ys[j].toNat=dj at *
  refine wSq (wBk (wSq (wRg ?_)))
  repeat (apply ops_1;(focus (simp (disch:=(try simp only [sPu]);omega) [q13];try rfl)))
  refine oNi ?_
  simp only [Exit.then]
  refine wSq (wDr hm (Below w.heap.size w5.drew) [(0,true),(1,true),(2,true),(3,true),(4,true),(5,true),(6,true),(7,true),(8,true)] (by rfl) (by rfl) (by decide) (Below.refl _ _) ?_)
  cases hcd:decide (cj=dj)
  ·have hcn:¬ ((cj:Int)=(dj:Int)):=by have:=of_decide_eq_false hcd;omega
   have hcn2:((cj:Int) == (dj:Int))=false:=by simpa using hcn
   repeat (apply dr_1;(focus rfl);(focus (simp (disch:=(try simp only [sPu]);omega) [hst,q0,q1,ej,hd1,hd2,hg1,hg2,hjl,hcn,hcn2];try rfl)))
   refine dreg_nil ?_
   simp only [Exit.then]
   refine wCd (t:=true) (by simp (disch:=(try simp only [sPu]);omega) [hcn]) ?_
   rw [if_pos rfl]
   refine wSq (wRg ?_)
   repeat (apply ops_1;(focus (simp (disch:=(try simp only [sPu]);omega) ;try rfl)))
   refine oNi (wRt ?_)
   simp only [Exit.then,Exit.inBlock]
   refine ret_tmp hr (by simp [dPu,qd]) ⟨?_,hb5.drew⟩
   rw [decide_eq_false (etne hcd)]
   simp (disch:=(try simp only [sPu]);omega)
  have hcd':cj=dj:=of_decide_eq_true hcd
  subst hcd'
  repeat (apply dr_1;(focus rfl);(focus (simp (disch:=(try simp only [sPu]);omega) [hst,q0,q1,ej,hd1,hd2,hg1,hg2,hjl];try rfl)))
  refine dreg_nil ?_
  simp only [Exit.then]
  refine wCd (t:=false) (by simp (disch:=(try simp only [sPu]);omega)) ?_
  rw [if_neg (by simp)]
  refine wSk ?_
  simp only [Exit.inBlock,Exit.then]
  have ew:IntKind.i64.wrap ((j:Int)+1)=((j+1:Nat):Int):=by rw [wrap_i64'];split <;> omega
  refine wRg ?_
  repeat (apply ops_1;(focus (simp (disch:=(try simp only [sPu]);omega) [q13,ew];try rfl)))
  refine oNi ?_
  refine ⟨⟨j+1,by simp [sPu,q],by simp [dPu,qd],by simp (disch:=(try simp only [sPu]);omega) [q0],by simp (disch:=(try simp only [sPu]);omega) [q1],by simp (disch:=(try simp only [sPu]);omega) [q12],by simp (disch:=(try simp only [sPu]);omega),by omega,etxy hcd,hb5.drew⟩,?_⟩
  rw [q13]
  simp (disch:=(try simp only [sPu]);omega);omega
theorem same_ok (hX:sOK P X=true) (hm:P.follows .mixedOrders=true) (hf:P.funcs[f]?=some fn) (hb:fn.body.map strip=some (sc_Same X.Bs X.I X.U8)) (hn:fn.ntmps=26) (hr:fn.results=#[.tmp 4])
  (w:World) (xs:Bytes) (b1 b2:Option Addr) (c1 c2:Nat) (h1:BytesAt w (fun k=>k < w.heap.size) b1 xs) (h2:BytesAt w (fun k=>k < w.heap.size) b2 xs) (hl:xs.length<=lim) :
  Calls P f #[.slice b1 xs.length c1,.slice b2 xs.length c2] w fun e w'=>e=.returned (.bool true)/\Below w.heap.size w w':=by
 have h:=sameD_ok hX hm hf hb hn hr w xs xs b1 b2 c1 c2 h1 h2 hl hl
 rwa [decide_eq_true (rfl:xs=xs)] at h
theorem opw_rem {a:Act} {w:World} {K:Act->World->Prop} {d:Option Tmp} {g:Option (Nat × Bool)} {T T':TypeId} {x y:Operand} {m n:Nat} (hx:a.eval x=.int .i64 (m:Int)) (hy:a.eval y=.int .i64 (n:Int)) (hn:0 < n) (h:K (a.put d (.int .i64 ((m % n:Nat):Int))) w) :
  opw P ⟨d,.binOp .rem T x y T',g⟩ a w K:=by
 refine oVa (by simp) (fun p hp=>?_) h
 have hne:¬ n=0:=by omega
 simp [execOp,hp,hx,hy,run_eqGuard_int,binOp,Op.intDiv,hne]
 exact Int.tmod_eq_emod_of_nonneg (by omega)
theorem version_ok (hX:sOK P X=true) (hf:P.funcs[f]?=some fn) (hb:fn.body.map strip=some (sc_version X.U8 X.I)) (hn:fn.ntmps=10) (hr:fn.results=#[.tmp 4]) (w:World) (n m:Nat) (hn8:n < 256) (hm16:m < 65536) :
  Calls P f #[.int .u8 (n:Int),.int .i64 (m:Int)] w fun e w'=>e=.returned (.int .i64 ((n % (m+1):Nat):Int))/\w=w':=by
 have hst:=s_facts hX
 refine fCa hf hb hn (by simp) fun a0 hs hd ha=>?_
 have k0:=ha 0 _ rfl
 have k1:=ha 1 _ rfl
 simp only [List.getElem_toArray,List.getElem_cons_zero,List.getElem_cons_succ] at k0 k1
 have e1:IntKind.i64.wrap (n:Int)=(n:Int):=by rw [wrap_i64'];split <;> omega
 have e2:IntKind.i64.wrap ((m:Int)+1)=((m+1:Nat):Int):=by rw [wrap_i64'];split <;> omega
 refine wSq (wRg ?_)
 repeat (apply ops_1;(focus (simp (disch:=(try simp only [sPu]);omega) ;try rfl)))
 refine oNi (wSq (wRg ?_))
 iterate 4 (apply ops_1;(focus (simp (disch:=(try simp only [sPu]);omega) [hst,k0,k1,e1,e2];try rfl)))
 refine oNo rfl (opw_rem (m:=n) (n:=m+1) (by simp (disch:=(try simp only [sPu]);omega)) (by simp (disch:=(try simp only [sPu]);omega)) (by omega) ?_)
 repeat (apply ops_1;(focus (simp (disch:=(try simp only [sPu]);omega) ;try rfl)))
 refine oNi (wRt (ret_tmp hr (by simp [dPu,hd]) ⟨?_,rfl⟩))
 simp (disch:=(try simp only [sPu]);omega)
end
end Go.Proofs.YtdnpafdgglpagaaGreatDoor.K
