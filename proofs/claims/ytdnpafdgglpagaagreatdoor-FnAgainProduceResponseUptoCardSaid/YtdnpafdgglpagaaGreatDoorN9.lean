/- Generic texts: R6 R7 RK1 RK2 RK3 RK4. No condition. -/
import Derived.Test.YtdnpafdgglpagaaGreatDoorN8
namespace Go.Proofs.YtdnpafdgglpagaaGreatDoor.K
open Go Go.RowKit Go.Proofs.YtdnpafdgglpagaaGreatDoor.T
set_option linter.unusedVariables false
set_option linter.unusedSimpArgs false
def zOK (P:Program) (E size:Nat) (chk:(Nat->Option Value)->Bool):Bool :=
 match P.info? E with
 | some i=>match i.zero with
  | some z=>z.cells.size == size && i.size == size && decide (0 < size) && decide (i.bytes<=131072) && chk (fun j=>z.cells[j]?)
  | none=>false
 | none=>false
theorem zOK_of {P:Program} {E size:Nat} {chk:(Nat->Option Value)->Bool} (h:zOK P E size chk=true) :
  ∃ i z,P.info? E=some i/\i.zero=some z/\z.cells.size=size/\i.size=size/\0 < size/\i.bytes<=131072/\chk (fun j=>z.cells[j]?)=true:=by
 unfold zOK at h
 split at h <;> try (simp at h;done)
 rename_i i hi
 split at h <;> try (simp at h;done)
 rename_i z hz
 simp only [Bool.and_eq_true,beq_iff_eq,decide_eq_true_eq] at h
 obtain ⟨⟨⟨⟨h1,h2⟩,h3⟩,h4⟩,h5⟩:=h
 exact ⟨i,z,hi,hz,h1,h2,h3,h4,h5⟩
def rdNew (P:Program) (TR:Nat):Bool:=aggB P TR 2 && (match P.info? TR,P.underlying TR with
 | some it,some (.struct fs)=>(match it.zero with | some z=>(match z.cells.toList with | [.slice none 0 0,.bool false]=>true | _=>false) | none=>false) &&
   (match fs.toList.mapM (fun f=>(P.info? f.type).map fun i=>(f.offset,i.size)) with | some [(0,1),(1,1)]=>true | _=>false)
 | _,_=>false)
def isErr:Value->Bool
 | .iface _ _=>true
 | _=>false
def ifaceT (P:Program) (T:Nat):Bool:=match P.underlying T with
 | some (.interface _)=>true
 | _=>false
theorem opw_isErr {P:Program} {a:Act} {w:World} {K:Act->World->Prop} {d:Option Tmp} {g:Option (Nat × Bool)} {T T':Nat} {x:Operand} {v:Value} (hT:ifaceT P T=true) (hx:a.eval x=v) (hv:v=.nilIface∨∃ t y,v=.iface t y) (h:K (a.put d (.bool (isErr v))) w) :
  opw P ⟨d,.binOp .neq T x (.const .nilIface) T',g⟩ a w K:=by
 unfold ifaceT at hT
 split at hT <;> try (simp at hT;done)
 rename_i ms hu
 refine oVa (v:=.bool (isErr v)) (by simp) (fun p hp=>?_) h
 have he:(Op.equal T v .nilIface).run P w=.ok (!isErr v) w:=by
  have hd:∀ d,(Op.equalIn (d+1) T v .nilIface).run P w=.ok (!isErr v) w:=fun d=>by
   rcases hv with rfl | ⟨t,y,rfl⟩ <;> simp [Op.equalIn,run_underlying hu,isErr]
  exact hd 9999
 rcases hv with rfl | ⟨t,y,rfl⟩ <;> simp [execOp,hp,hx,eCo,eqGuard,binOp,he,isErr]
def primsOnly:Fs->Bool
 | .nil=>true
 | .cons _ (.prim _) r=>primsOnly r
 | _=>false
def knAlw:Fs->Bool
 | .nil=>true
 | .cons _ (.struct _ _ _ _ fs .nil) _=>primsOnly fs
 | _=>false
def rngFsB:Fs->Bool
 | .nil=>true
 | .cons h (.prim .i32) r=>decide (-2147483648<=h.dflt/\h.dflt < 2147483648) && rngFsB r
 | _=>false
def rngB:Ty->Bool
 | .struct _ _ _ _ fs _=>rngFsB fs
 | _=>true
def dfOK (P:Program):Ty->Bool
 | .prim _=>false
 | .list _ _ _ _=>true
 | .struct S _ _ tags fs kn=>flat2 P S fs && (match tags,kn with | some (_,2),.nil=>true | _,_=>false)
def okRTags (P:Program) (I:RIds) (c:Ctx) (S:Nat):Option (Nat × Nat)->Bool
 | none=>c.never
 | some (f,off)=>!c.never && fieldB P S f off && aggB P I.tTags 1 && I.rTags != 0
mutual
def okRElem (P:Program) (I:RIds) (c:Ctx) (T E size:Nat):Ty->Bool
 | .prim k=>if k=.uuid then size == 16 && arrB P E 16 && I.rUuid != 0 && zOK P E size (fun _=>true) else size == 1 && oneB P E && okRP I c false k && zOK P E size (fun _=>true)
 | .list _ _ _ _=>false
 | .struct S sz _ tags fs kn=>sz == size && zOK P E size (fun g=>frFsB g fs 0 && frKnB g tags kn 0) && okRTags P I c S tags && okRFs P I c S fs && okRKn P I c S tags kn && knAlw kn
def okRVal (P:Program) (I:RIds) (c:Ctx) (h:Hd):Ty->Bool
 | .prim k =>
  if k=.uuid then !h.enum && !nuOf h && arrB P h.typ 16 && I.rUuid != 0
  else if h.enum then k == .i8 && !nuOf h && oneB P h.typ && I.rI8 != 0
  else oneB P h.typ && okRP I c (nuOf h) k
 | .list T E size of=>!h.enum && oneB P T && sliceB P T E size && (c.never || I.rCArr != 0) && I.rArr != 0 && I.rOk != 0 && (intK P I.tI32 == some .i32) && okRElem P I c T E size of
 | .struct S size _ tags fs kn=>!h.enum && (!nuOf h || (oneB P h.typ && I.rI8 != 0 && I.rOk != 0 && zOK P S size (fun g=>frFsB g fs 0 && frKnB g tags kn 0))) && okRTags P I c S tags && okRFs P I c S fs && okRKn P I c S tags kn && knAlw kn
def okRFs (P:Program) (I:RIds) (c:Ctx) (S:Nat):Fs->Bool
 | .nil=>true
 | .cons h ty r=>fieldB P S h.idx h.off && (decide (h.null < 0) || decide (h.null<=h.from_)) && okRVal P I c h ty && okRFs P I c S r
def okRKn (P:Program) (I:RIds) (c:Ctx) (S:Nat) (tags:Option (Nat × Nat)):Fs->Bool
 | .nil=>true
 | .cons h ty _=>tags.isSome && fieldB P S h.idx h.off && decide (h.null < 0) && I.rUvar != 0 && I.rSpan != 0 && I.tSet != 0 && intB P I.tU32 .u32 && intB P I.tInt .i64 && rdNew P I.tRd && ifaceT P I.tErr && rngB ty && dfOK P ty && okRVal P I c h ty
end
def knSet (out:List (Nat × Value)) (size:Nat) (kn:Fs):Prop:=match kn with
 | .cons h (.struct _ _ _ _ _ _) _=>∀ (cs:Array Value) (q:Nat),q+size<=cs.size->(dSetAll q out cs)[q+h.off]?=some (.int .i32 (-1))/\(dSetAll q out cs)[q+h.off+1]?=some (.int .i32 (-1))
 | _=>True
mutual
def DefTy (P:Program):Ty->Prop
 | .prim _=>True
 | .list _ _ _ of=>DefTy P of
 | .struct _ size d tags fs kn=>(∃ out,DefAt P d size out/\(outFs out fs 0=true/\outKn out tags kn 0=true/\knSet out size kn)/\(out.all fun x=>decide (x.1 < size))=true)/\DefFs P fs/\DefKn P kn
def DefFs (P:Program):Fs->Prop
 | .nil=>True
 | .cons _ ty r=>DefTy P ty/\DefFs P r
def DefKn (P:Program):Fs->Prop
 | .nil=>True
 | .cons _ ty _=>DefTy P ty
end
abbrev RetOK (X:RX) (Q:Exit->Act->World->Prop) (C:Prop):Prop:=∀ (a':Act) (w':World),a'.defers=[]->getT a' 6=X.err->Below X.B X.w0 w'->C->Q .ret a' w'
def ValOK (X:RX) (ty:Ty):Prop:=∀ (S p:Nat) (h:Hd) (v t bk b o:Nat) (O:Nat->Prop) (a:Act) (w:World) (st:Option Bytes) (Q:Exit->Act->World->Prop),
 okRVal X.P X.I X.c h ty=true->layTy (nuOf h) ty=true->DefTy X.P ty->fieldB X.P S h.idx h.off=true->(h.null < 0∨h.null<=X.ver) ->
 RInv X a w st->getT a p=.pointer (some ⟨b,o,none⟩)->Opn X O b w->RowAt w b (o+h.off) (szTy (nuOf h) ty)->FrTy w b (nuOf h) ty (o+h.off) ->
 p < v->X.v0<=v->v+rV h ty<=X.T0->X.T0<=t->t+rVT X.c h ty<=X.N ->
 (∀ a' w',RInv X a' w' (after st (pTy X.ver X.flex ty (nuOf h)))->RSame X a a' v t->Foot X.rb b (o+h.off) (o+h.off+szTy (nuOf h) ty) w w' ->
  (∀ r x r',st=some r->pTy X.ver X.flex ty (nuOf h) r=some (x,r')->FitTy X.ver ty x->HTy X.G w' (FO O w') X.ver X.flex ty (nuOf h) b (o+h.off) x)->Q .normal a' w') ->
 RetOK X Q (after st (pTy X.ver X.flex ty (nuOf h))=none) ->
 wpL X.P Q (rValL X.I X.c S p h v t bk ty) a w
def ElemOK (X:RX) (ty:Ty):Prop:=∀ (T E size sa si v t bk bl l cap idx:Nat) (O:Nat->Prop) (a:Act) (w:World) (st:Option Bytes) (Q:Exit->Act->World->Prop),
 okRElem X.P X.I X.c T E size ty=true->sliceB X.P T E size=true->layTy false ty=true->DefTy X.P ty ->
 RInv X a w st->getT a sa=.slice (some ⟨bl,0,none⟩) l cap->getT a si=.int .i32 (idx:Int)->idx < l->Opn X O bl w->RowAt w bl (idx * size) size->FrTy w bl false ty (idx * size) ->
 sa < v->si < v->X.v0<=v->v+rVE ty<=X.T0->X.T0<=t->t+rET X.c ty<=X.N ->
 (∀ a' w',RInv X a' w' (after st (pTy X.ver X.flex ty false))->RSame X a a' v t->Foot X.rb bl (idx * size) (idx * size+size) w w' ->
  (∀ r x r',st=some r->pTy X.ver X.flex ty false r=some (x,r')->FitTy X.ver ty x->HTy X.G w' (FO O w') X.ver X.flex ty false bl (idx * size) x)->Q .normal a' w') ->
 RetOK X Q (after st (pTy X.ver X.flex ty false)=none) ->
 wpL X.P Q (rElem X.I X.c T E sa si v t bk ty) a w
def FsOK (X:RX) (fs:Fs):Prop:=∀ (S p v t bk b o lo n:Nat) (O:Nat->Prop) (a:Act) (w:World) (st:Option Bytes) (Q:Exit->Act->World->Prop) (rest:List SC),
 okRFs X.P X.I X.c S fs=true->layFs lo n fs=true->DefFs X.P fs ->
 RInv X a w st->getT a p=.pointer (some ⟨b,o,none⟩)->Opn X O b w->RowAt w b o n->FrFs w b fs o ->
 p < v->X.v0<=v->v+rVs fs<=X.T0->X.T0<=t->t+rFT X.c fs<=X.N ->
 (∀ a' w',RInv X a' w' (after st (pFs X.ver X.flex fs))->RSame X a a' v t->Foot X.rb b (o+lo) (o+n) w w' ->
  (∀ r xs r',st=some r->pFs X.ver X.flex fs r=some (xs,r')->FitFs X.ver fs xs->HFs X.G w' (FO O w') X.ver X.flex fs b o xs)->wpL X.P Q rest a' w') ->
 RetOK X Q (after st (pFs X.ver X.flex fs)=none) ->
 wpL X.P Q (rFs X.I X.c S p v t bk fs ++ rest) a w
theorem wpL_one {P:Program} {Q:Exit->Act->World->Prop} {s:SC} {a:Act} {w:World} (h:s.wp P Q a w):wpL P Q [s] a w:=SC.wp_mono h fun e a w hq=>by cases e <;> exact hq
theorem wpL_append {P:Program} {Q:Exit->Act->World->Prop} {rest:List SC}:∀ (l:List SC) (a:Act) (w:World),wpL P (Exit.then (wpL P Q rest) Q) l a w->wpL P Q (l ++ rest) a w
 | [],_,_,h=>h
 | x :: l,a,w,h=>SC.wp_mono h fun e a w hq=>by
   cases e
   case normal=>exact wpL_append l a w hq
   all_goals exact hq
section
variable {X:RX}
theorem hPrim_put {O:Nat->Prop} {b o:Nat} {w w1:World} {cs:Array Value} {E:TypeId} {nul:Bool} {k:PK} {x:Tree} {y:Value} (hk:k ≠ .uuid) (ho:Opn X O b w) (hs:w.heap.size<=w1.heap.size) (hsrc:∀ sb,X.S=some sb->sb < w.heap.size)
  (hrow:w1.heap[b]?=some (.cells cs E (0,0))) (hlt:o < cs.size) (hok:okP nul k w1 (NewF X.S w w1) x y) (hfit:x.s.length<=most):HPrim (w1.setRow b (cs.setIfInBounds o y)) (FO O (w1.setRow b (cs.setIfInBounds o y))) nul b o x k:=by
 unfold HPrim
 rw [if_neg hk]
 refine ⟨y,?_,?_⟩
 ·rw [cell_setRow_same _ _ _ _ _ _ _ hrow]
  simp [Array.getElem?_setIfInBounds,hlt]
 ·have:=hok hfit
  rw [if_neg hk] at this
  refine pVal_frame (fun k hk=>⟨?_,?_⟩) this
  ·have:=newF_fo ho hs hsrc k hk
   exact ⟨by simpa using this.1,this.2⟩
  ·refine setRow_other _ _ _ _ fun e=>?_
   have:=(newF_fo ho hs hsrc k hk).2
   exact this (e ▸ ho.ob)
theorem valOK_prim (hX:X.ok) (k:PK):ValOK X (.prim k):=by
 intro S p h v t bk b o O a w st Q hok hlay hdef hS hnull hi hp ho hrow hfr hpv hv hvT ht htN hQ hR
 have hten:=hX.ten
 have hbS:X.S ≠ some b:=fun e=>ho.src b e ho.ob
 unfold rValL
 refine wpL_one ?_
 simp only [rVT,rV] at htN hvT
 simp only [okRVal] at hok
 simp only [szTy] at hrow hQ
 obtain ⟨cs,E,hcs,hlen⟩:=hrow
 by_cases hk:k=.uuid
 ·subst hk
  rw [if_pos rfl] at htN hok ⊢
  rw [if_pos rfl] at hlen
  simp only [Bool.and_eq_true,Bool.not_eq_true',bne_iff_ne,ne_eq] at hok
  obtain ⟨⟨⟨hen,hnu⟩,harr⟩,hfn⟩:=hok
  rw [hen] at hvT
  simp only [Bool.false_eq_true,if_false] at hvT
  have hsz:=hi.size
  have hrc:=hX.kr.uuid hfn
  obtain ⟨hagg,i,z,hii,hiz,hzc⟩:=arr_of harr
  refine wSq (wRg (ops_cal hrc.1 (R:=fun e w'=>∃ y,e=.returned y/\RdAt X.TR w' X.S X.rb (after st (pPrim false false .uuid))/\Only X.rb w w'/\tyP false .uuid y/\∀ b x r,st=some b->pPrim false false .uuid b=some (x,r)->okP false .uuid w' (NewF X.S w w') x y) ?_ ?_))
  ·have:=hrc.2 w X.S X.rb st (Nat.lt_of_lt_of_le hX.hgb hi.heap) hi.at_ hi.src
   rw [show (([X.c.rd].map (getT a)).toArray:Array Value)=#[.pointer (some ⟨X.rb,0,none⟩)] by simp [hi.rd]]
   exact this
  rintro e w1 ⟨y,rfl,hrd,honly,⟨bs,hbs,rfl⟩,hokv⟩
  refine ⟨_,rfl,?_⟩
  have hi1:RInv X a w1 (after st (pPrim false false .uuid)):=hi.only hX honly hrd
  have hl16:(cellsOf bs).length=16:=by rw [cLen];exact hbs
  refine oNo rfl (opw_alloc hii hiz ?_)
  have hnew:=heap_alloc_new w1 (.cells z.cells h.typ)
  refine oNo rfl (opw_store_agg (cs:=cellsOf bs) (cur:=z.cells) (b:=w1.heap.size) (E:=h.typ) (by rw [hl16];exact hagg) ?_ ?_ hnew (by rw [hzc,hl16]) (by intro v hv;simp [cellsOf] at hv;obtain ⟨u,_,rfl⟩:=hv;rfl) (oNi ?_))
  ·rw [eTm,gTp (by rw [sPu];omega)]
  ·rw [eTm,gTn (by omega),gTp (by omega)]
  rw [pNo]
  simp only [Exit.then]
  have hb1:w.heap.size<=w1.heap.size:=honly.size
  have hbw:b < w.heap.size:=ho.lt b ho.ob
  have hrow1:w1.heap[b]?=some (.cells cs E (0,0)):=by rw [honly.block b hbw ho.ne];exact hcs
  have hne:b ≠ w1.heap.size:=by omega
  generalize hw2:((w1.alloc (.cells z.cells h.typ)).setRow w1.heap.size (cellsOf bs).toArray)=w2
  have hi2:RInv X a w2 (after st (pPrim false false .uuid)):=by
   rw [<- hw2]
   refine (hi1.alloc _).setRow (by have:=hi1.at_.lt;omega) (fun e=>?_) (by have:=hi1.heap;omega) _
   have:=(hi1.src _ e).2
   omega
  have hrow2:w2.heap[b]?=some (.cells cs E (0,0)):=by
   rw [<- hw2,setRow_other _ _ _ _ hne,Below.heap_alloc _ _ _ (by omega)]
   exact hrow1
  have hval:∀ j v,(cellsOf bs)[j]?=some v->w2.cell? ⟨w1.heap.size,0+j,none⟩=some v:=by
   intro j v hv
   rw [<- hw2,cell_setRow_same _ _ _ _ _ _ _ hnew]
   simpa using hv
  have hf2:Foot X.rb b (o+h.off) (o+h.off+16) w w2:=by
   refine (Foot.of_only honly ho.ne).trans ?_
   rw [<- hw2]
   exact (foot_alloc _).other (foot_setRow (q:=0) (n:=16) (heap_alloc_new _ _) (by simp [hl16,hzc]) (fun j hj=>by
    rw [Array.getElem?_eq_none (by simp [hl16];omega),Array.getElem?_eq_none (by omega)])) (by omega) (by omega) ho.ne
  generalize ha1:((a.put (some t) (Value.agg (cellsOf bs).toArray)).put (some v) (Value.pointer (some ⟨w1.heap.size,0,none⟩)))=a1
  have hs1:a1.tmps.size=X.N:=by rw [<- ha1];simp only [sPu];exact hsz
  have hg1:∀ s,s ≠ v->s ≠ t->getT a1 s=getT a s:=by
   intro s h1 h2
   rw [<- ha1,gTn h1,gTn h2]
  have hgv:getT a1 v=.pointer (some ⟨w1.heap.size,0,none⟩):=by rw [<- ha1,gTp (by rw [sPu];omega)]
  have hd1:a1.defers=[]:=by rw [<- ha1];simp only [dPu];exact hi.defers
  refine wRg (ops_mv (oNo rfl (opw_load_agg (cs:=cellsOf bs) (b:=w1.heap.size) (o:=0) (by rw [hl16];exact hagg) ?_ hval (ops_nilc (ad:=⟨b,o,none⟩) ?_ (ops_fa hS (b:=b) (o:=o) ?_ (oNo rfl (opw_store_aggAt (b:=b) (o:=o+h.off) (E:=E) (cur:=cs) (cs:=cellsOf bs) (by rw [hl16];exact hagg) ?_ ?_ hrow2 (by rw [hl16];omega) (by intro v hv;simp [cellsOf] at hv;obtain ⟨u,_,rfl⟩:=hv;rfl) (oNi ?_))))))))
  ·rw [eTm,gTn (by omega)]
   exact hgv
  ·rw [gTn (by omega),gTp (by omega)]
   rw [hg1 p (by omega) (by omega)]
   exact hp
  ·rw [gTp (by simp only [sPu];omega)]
  ·rw [eTm,gTp (by simp only [sPu];omega)]
  ·rw [eTm,gTn (by omega),gTn (by omega),gTp (by simp only [sPu];omega)]
  rw [pNo]
  have hcl:(cs.toList.take (o+h.off) ++ cellsOf bs ++ cs.toList.drop (o+h.off+(cellsOf bs).length)).length=cs.size:=by
   simp only [List.length_append,List.length_take,List.length_drop,Array.length_toList,hl16]
   omega
  have hget:∀ j,(j < o+h.off∨o+h.off+16<=j)->((cs.toList.take (o+h.off) ++ cellsOf bs ++ cs.toList.drop (o+h.off+(cellsOf bs).length)).toArray)[j]?=cs[j]?:=by
   intro j hj
   rw [List.getElem?_toArray,hl16]
   rcases hj with hj | hj
   ·rw [List.append_assoc,List.getElem?_append_left (by simp;omega),List.getElem?_take,if_pos hj,Array.getElem?_toList]
   ·rw [List.getElem?_append_right (by simp [hl16];omega),List.getElem?_drop]
    simp only [List.length_append,List.length_take,Array.length_toList,hl16]
    rw [show o+h.off+16+(j - (min (o+h.off) cs.size+16))=j by omega,Array.getElem?_toList]
  refine hQ _ _ ?_ ?_ ?_ ?_
  ·refine ((hi2.setRow ho.ne hbS ho.hB _).act (a:=a) ?_ ?_ fun s hs=>?_)
   ·simp only [sPu];rw [hs1,hsz]
   ·simp only [dPu];rw [hd1,hi.defers]
   ·rw [gTn (by omega),gTn (by omega),gTn (by omega),gTn (by omega)]
    exact hg1 s (by omega) (by omega)
  ·intro s hs
   rw [gTn (by omega),gTn (by omega),gTn (by omega),gTn (by omega)]
   exact hg1 s (by omega) (by omega)
  ·refine hf2.trans (foot_setRow hrow2 (by simpa using hcl) hget)
  ·intro r x r' hst hpx hfit
   simp only [HTy,HPrim,if_pos]
   have hkv:=hokv r x r' hst hpx (by simpa [FitTy] using hfit)
   rw [if_pos rfl] at hkv
   simp only [Value.agg.injEq] at hkv
   intro j u hu
   have hj:j < 16:=by
    have:=(List.getElem?_eq_some_iff.1 hu).1
    rw [uuidOf_length] at this
    exact this
   have hcu:(cellsOf bs)[j]?=some (cell u):=by
    have:cellsOf bs=cellsOf (uuidOf x):=by simpa using congrArg Array.toList hkv
    rw [this]
    simp [cellsOf,hu]
   rw [cell_setRow_same _ _ _ _ _ _ _ hrow2]
   have hlt:o+h.off<=cs.size:=by omega
   rw [List.getElem?_toArray,List.append_assoc,List.getElem?_append_right (by simp;omega),List.getElem?_append_left (by simp [hl16];omega)]
   simp only [List.length_take,Array.length_toList]
   rw [show o+h.off+j - min (o+h.off) cs.size=j by omega]
   exact hcu
 ·rw [if_neg hk] at htN hok ⊢
  rw [if_neg hk] at hlen
  have key:∀ (a1:Act) (w1:World) (x t':Nat) (y:Value) (st':Option Bytes),RInv X a1 w1 st'->st'=after st (pPrim X.flex (nuOf h) k)->getT a1 p=.pointer (some ⟨b,o,none⟩)->getT a1 x=y->y.oneCell'=true->x < t'->t<=t'->t'+4<=X.N->oneB X.P h.typ=true ->
    (∀ s,(s < v∨(X.T0<=s/\s < t))->getT a1 s=getT a s)->Only X.rb w w1->(∀ b x r,st=some b->pPrim X.flex (nuOf h) k b=some (x,r)->okP (nuOf h) k w1 (NewF X.S w w1) x y)->(rStore p x t' S h.idx h.typ).wp X.P Q a1 w1:=by
   intro a1 w1 x t' y st' hi1 hst1 hp1 hx1 hy hxt htt htN' hT hs1 honly hokv
   have hbw:b < w.heap.size:=ho.lt b ho.ob
   have hrow1:w1.heap[b]?=some (.cells cs E (0,0)):=by rw [honly.block b hbw ho.ne];exact hcs
   refine rStore_ok hX hi1 hp1 hx1 hy (by omega) hxt (by omega) htN' hS hT hrow1 (by omega) ho.ne hbS ho.hB fun a2 hi2 hs2=>?_
   refine hQ a2 _ ?_ ?_ ?_ ?_
   ·simp only [pTy]
    rw [<- hst1]
    exact hi2
   ·intro s hs
    rw [hs2 s (by omega)]
    exact hs1 s hs
   ·rw [if_neg hk]
    refine (Foot.of_only honly ho.ne).trans (foot_setRow hrow1 (by simp) fun j hj=>?_)
    rw [Array.getElem?_setIfInBounds_ne (by omega)]
   ·intro r x r' hst hpx hfit
    simp only [HTy]
    simp only [pTy] at hpx
    exact hPrim_put hk ho honly.size (fun sb hsb=>(hi.src sb hsb).2) hrow1 (by omega) (hokv r x r' hst hpx) (by simpa [FitTy] using hfit)
  by_cases he:h.enum=true
  ·rw [if_pos he] at hok htN hvT ⊢
   simp only [Bool.and_eq_true,Bool.not_eq_true',bne_iff_ne,ne_eq,beq_iff_eq] at hok
   obtain ⟨⟨⟨rfl,hnu⟩,hT⟩,hfn⟩:=hok
   refine wSq (cset_ok hi (by omega) (by omega) fun a1 hi1 _ hs1=>wSq (wSq ?_))
   have hrc:=hX.kr.num .i8 rfl hfn
   refine rGet_ok hX hrc hi1 (by omega) (by omega) (by omega) (by omega) fun a2 w2 y hi2 hy2 hs2 honly hty hokv=>?_
   have hsz2:=hi2.size
   simp only [Exit.then]
   refine wRg (ops_mv (ops_asg (oNi ?_)))
   simp only [Exit.then]
   generalize ha3:((a2.put (some (t+1)) (getT a2 (v+1))).put (some v) (getT (a2.put (some (t+1)) (getT a2 (v+1))) (t+1)))=a3
   have hs3:a3.tmps.size=X.N:=by rw [<- ha3];simp only [sPu];exact hsz2
   have hg3:∀ s,s ≠ v->s ≠ t+1->getT a3 s=getT a2 s:=fun s h1 h2=>by rw [<- ha3,gTn h1,gTn h2]
   have hv3:getT a3 v=y:=by rw [<- ha3,gTp (by rw [sPu];omega),gTp (by omega)];exact hy2
   have hi3:RInv X a3 w2 (after st (pPrim false false .i8)):=hi2.act (by rw [hs3,hsz2]) (by rw [<- ha3];simp [dPu]) fun s hs=>hg3 s (by omega) (by omega)
   refine wSq (wRg (ops_mv (ops_asg (oNi ?_))))
   simp only [Exit.then]
   generalize ha4:((a3.put (some (t+2)) (getT a3 v)).put (some (v+2)) (getT (a3.put (some (t+2)) (getT a3 v)) (t+2)))=a4
   have hs4:a4.tmps.size=X.N:=by rw [<- ha4];simp only [sPu];exact hs3
   have hg4:∀ s,s ≠ v+2->s ≠ t+2->getT a4 s=getT a3 s:=fun s h1 h2=>by rw [<- ha4,gTn h1,gTn h2]
   have hv4:getT a4 (v+2)=y:=by rw [<- ha4,gTp (by rw [sPu];omega),gTp (by omega)];exact hv3
   have hi4:RInv X a4 w2 (after st (pPrim false false .i8)):=hi3.act (by rw [hs4,hs3]) (by rw [<- ha4];simp [dPu]) fun s hs=>hg4 s (by omega) (by omega)
   have hall:∀ s,(s < v∨(X.T0<=s/\s < t))->getT a4 s=getT a s:=fun s hs=>by
    rw [hg4 s (by omega) (by omega),hg3 s (by omega) (by omega),hs2 s (by omega) (by omega),hs1 s (by omega)]
   exact key a4 w2 (v+2) (t+3) y _ hi4 rfl (by rw [hall p (by omega)];exact hp) hv4 (tyP_one (nul:=false) (k:=.i8) (by decide) hty) (by omega) (by omega) (by omega) hT hall honly hokv
  ·rw [if_neg he] at hok htN hvT ⊢
   simp only [Bool.and_eq_true] at hok
   refine rPrim_ok hX hk hok.2 hi hv (by omega) ht (by change t+rPrimT X.c (decide (0<=h.null)) k<=X.N;omega) fun a1 w1 y hi1 hy1 hs1 honly hty hokv=>?_
   have hall:∀ s,(s < v∨(X.T0<=s/\s < t))->getT a1 s=getT a s:=fun s hs=>hs1 s (by omega) (by omega)
   exact key a1 w1 v _ y _ hi1 rfl (by rw [hall p (by omega)];exact hp) hy1 (tyP_one hk hty) (by omega) (by omega) (by omega) hok.1 hall honly hokv
end
set_option maxHeartbeats 200000
section
variable {X:RX}
theorem rUuid_ok {E v t b lo hi:Nat} {a:Act} {w:World} {st:Option Bytes} {Q:Exit->Act->World->Prop} (hX:X.ok) (hfn:X.I.rUuid ≠ 0) (harr:arrB X.P E 16=true) (hi_:RInv X a w st) (hv:X.v0<=v) (hvT:v < X.T0) (ht:X.T0<=t) (htN:t < X.N)
  (hb:b < w.heap.size) (hn:b ≠ X.rb)
  (hQ:∀ a1 w2 n1 bs,RInv X a1 w2 (after st (pPrim X.flex false .uuid))->(∀ s,s ≠ v->s ≠ t->getT a1 s=getT a s)->getT a1 v=.pointer (some ⟨n1,0,none⟩)->bs.length=16->(∀ j u,(cellsOf bs)[j]?=some u->w2.cell? ⟨n1,0+j,none⟩=some u) ->
   Foot X.rb b lo hi w w2->w2.heap[b]?=w.heap[b]?->(∀ r x r',st=some r->pPrim X.flex false .uuid r=some (x,r')->x.s.length<=most->bs=uuidOf x)->Q .normal a1 w2) :
  (SC.reg [cal t X.I.rUuid [X.c.rd],⟨some v,.alloc E,none⟩,⟨none,.store E (.tmp v) (.tmp t),none⟩]).wp X.P Q a w:=by
 have hten:=hX.ten
 have hsz:=hi_.size
 have hrc:=hX.kr.uuid hfn
 obtain ⟨hagg,i,z,hii,hiz,hzc⟩:=arr_of harr
 refine wRg (ops_cal hrc.1 (R:=fun e w'=>∃ y,e=.returned y/\RdAt X.TR w' X.S X.rb (after st (pPrim false false .uuid))/\Only X.rb w w'/\tyP false .uuid y/\∀ b x r,st=some b->pPrim false false .uuid b=some (x,r)->okP false .uuid w' (NewF X.S w w') x y) ?_ ?_)
 ·have:=hrc.2 w X.S X.rb st (Nat.lt_of_lt_of_le hX.hgb hi_.heap) hi_.at_ hi_.src
  rw [show (([X.c.rd].map (getT a)).toArray:Array Value)=#[.pointer (some ⟨X.rb,0,none⟩)] by simp [hi_.rd]]
  exact this
 rintro e w1 ⟨y,rfl,hrd,honly,⟨bs,hbs,rfl⟩,hokv⟩
 refine ⟨_,rfl,?_⟩
 have hi1:RInv X a w1 (after st (pPrim false false .uuid)):=hi_.only hX honly hrd
 have hl16:(cellsOf bs).length=16:=by rw [cLen];exact hbs
 refine oNo rfl (opw_alloc hii hiz ?_)
 have hnew:=heap_alloc_new w1 (.cells z.cells E)
 refine oNo rfl (opw_store_agg (cs:=cellsOf bs) (cur:=z.cells) (b:=w1.heap.size) (E:=E) (by rw [hl16];exact hagg) ?_ ?_ hnew (by rw [hzc,hl16]) (by intro v hv;simp [cellsOf] at hv;obtain ⟨u,_,rfl⟩:=hv;rfl) (oNi ?_))
 ·rw [eTm,gTp (by rw [sPu];omega)]
 ·rw [eTm,gTn (by omega),gTp (by omega)]
 rw [pNo]
 have hb1:w.heap.size<=w1.heap.size:=honly.size
 have hne:b ≠ w1.heap.size:=by omega
 refine hQ _ _ w1.heap.size bs (RInv.act (a:=a) ?_ ?_ ?_ ?_) ?_ ?_ hbs ?_ ?_ ?_ ?_
 ·refine (hi1.alloc _).setRow (by have:=hi1.at_.lt;omega) (fun e=>?_) (by have:=hi1.heap;omega) _
  have:=(hi1.src _ e).2
  omega
 ·simp only [sPu]
 ·simp only [dPu]
 ·intro s hs
  rw [gTn (by omega),gTn (by omega)]
 ·intro s h1 h2
  rw [gTn h1,gTn h2]
 ·rw [gTp (by rw [sPu];omega)]
 ·intro j u hu
  rw [cell_setRow_same _ _ _ _ _ _ _ hnew]
  simpa using hu
 ·refine (Foot.of_only honly hn).trans ?_
  exact (foot_alloc _).other (foot_setRow (q:=0) (n:=16) hnew (by simp [hl16,hzc]) (fun j hj=>by
   rw [Array.getElem?_eq_none (by simp [hl16];omega),Array.getElem?_eq_none (by omega)])) (by omega) (by omega) hn
 ·rw [setRow_other _ _ _ _ hne,Below.heap_alloc _ _ _ (by omega),honly.block b hb hn]
 ·intro r x r' hst hpx hfit
  have hkv:=hokv r x r' hst hpx hfit
  rw [if_pos rfl] at hkv
  simp only [Value.agg.injEq] at hkv
  have hc:cellsOf bs=cellsOf (uuidOf x):=by simpa using congrArg Array.toList hkv
  have hinj:∀ (l l':Bytes),cellsOf l=cellsOf l'->l=l':=by
   intro l
   induction l with
   | nil=>intro l' h;cases l' with | nil=>rfl | cons y l'=>simp [cellsOf] at h
   | cons y l ih =>
    intro l' h
    cases l' with
    | nil=>simp [cellsOf] at h
    | cons z l' =>
     simp only [cellsOf,List.map_cons,List.cons.injEq] at h
     have h1:y=z:=by
      have:=h.1
      simp only [cell,Value.int.injEq,true_and] at this
      exact UInt8.toNat_inj.1 (by omega)
     rw [h1,ih l' h.2]
  exact hinj _ _ hc
theorem cells16 {q:Nat} {cs:Array Value} {xs:List Value} (hl:xs.length=16) (hq:q+16<=cs.size) :
  ((cs.toList.take q ++ xs ++ cs.toList.drop (q+xs.length)).toArray).size=cs.size/\(∀ j,(j < q∨q+16<=j)->((cs.toList.take q ++ xs ++ cs.toList.drop (q+xs.length)).toArray)[j]?=cs[j]?) /\
   ∀ j u,xs[j]?=some u->((cs.toList.take q ++ xs ++ cs.toList.drop (q+xs.length)).toArray)[q+j]?=some u:=by
 refine ⟨?_,?_,?_⟩
 ·simp only [List.size_toArray,List.length_append,List.length_take,List.length_drop,Array.length_toList,hl]
  omega
 ·intro j hj
  rw [List.getElem?_toArray,hl]
  rcases hj with hj | hj
  ·rw [List.append_assoc,List.getElem?_append_left (by simp;omega),List.getElem?_take,if_pos hj,Array.getElem?_toList]
  ·rw [List.getElem?_append_right (by simp [hl];omega),List.getElem?_drop]
   simp only [List.length_append,List.length_take,Array.length_toList,hl]
   rw [show q+16+(j - (min q cs.size+16))=j by omega,Array.getElem?_toList]
 ·intro j u hu
  have hj:j < xs.length:=(List.getElem?_eq_some_iff.1 hu).1
  rw [List.getElem?_toArray,List.append_assoc,List.getElem?_append_right (by simp;omega),List.getElem?_append_left (by simp;omega)]
  simp only [List.length_take,Array.length_toList]
  rw [show q+j - min q cs.size=j by omega]
  exact hu
theorem elemOK_prim (hX:X.ok) (k:PK):ElemOK X (.prim k):=by
 intro T E size sa si v t bk bl l cap idx O a w st Q hok hsl hlay hdef hi ha_ hidx hlt ho hrow hfr hsav hsiv hv hvT ht htN hQ hR
 have hten:=hX.ten
 have hbS:X.S ≠ some bl:=fun e=>ho.src bl e ho.ob
 have hbw:bl < w.heap.size:=ho.lt bl ho.ob
 unfold rElem
 simp only [rET,rVE] at htN hvT
 simp only [okRElem] at hok
 obtain ⟨cs,E',hcs,hlen⟩:=hrow
 by_cases hk:k=.uuid
 ·subst hk
  rw [if_pos rfl] at htN hok ⊢
  simp only [Bool.and_eq_true,bne_iff_ne,ne_eq,beq_iff_eq] at hok
  obtain ⟨⟨⟨rfl,harr⟩,hfn⟩,_⟩:=hok
  obtain ⟨hagg,_⟩:=arr_of harr
  have hsz:=hi.size
  refine rUuid_ok (b:=bl) (lo:=idx * 16) (hi:=idx * 16+16) hX hfn harr hi hv (by omega) ht (by omega) hbw ho.ne fun a1 w2 n1 bs hi2 hs1 hv1 hbs hcell hf2 hrow2 hval=>?_
  have hl16:(cellsOf bs).length=16:=by rw [cLen];exact hbs
  have hs2:=hi2.size
  rw [hcs] at hrow2
  simp only [Exit.then,wpL]
  obtain ⟨k1,k2,k3⟩:=cells16 (cs:=cs) (xs:=cellsOf bs) (q:=idx * 16) hl16 (by omega)
  refine wRg (ops_mv (ops_mv (oNo rfl (opw_load_agg (cs:=cellsOf bs) (b:=n1) (o:=0) (by rw [hl16];exact hagg) ?_ hcell (oNo rfl (opw_index (E:=E) (n:=16) (b:=bl) (o:=0) (len:=l) (cap:=cap) (j:=idx) (k:=.i32) hsl ?_ ?_ hlt (oNo rfl (opw_store_aggAt (b:=bl) (o:=idx * 16) (E:=E') (cur:=cs) (cs:=cellsOf bs) (by rw [hl16];exact hagg) ?_ ?_ hrow2 (by rw [hl16];omega) (by intro v hv;simp [cellsOf] at hv;obtain ⟨u,_,rfl⟩:=hv;rfl) (oNi ?_)))))))))
  ·rw [eTm,gTn (by omega),gTn (by omega)]
   exact hv1
  ·rw [eTm,gTn (by omega),gTn (by omega),gTp (by omega),hs1 sa (by omega) (by omega)]
   exact ha_
  ·rw [eTm,gTn (by omega),gTp (by rw [sPu];omega),gTn (by omega),hs1 si (by omega) (by omega)]
   exact hidx
  ·rw [eTm,gTp (by simp only [sPu];omega),Nat.zero_add]
  ·rw [eTm,gTn (by omega),gTp (by simp only [sPu];omega)]
  rw [pNo]
  have hg:∀ s,s ≠ v->s < t->getT ((((a1.put (some (t+1)) (getT a1 sa)).put (some (t+2)) (getT (a1.put (some (t+1)) (getT a1 sa)) si)).put (some (t+3)) (Value.agg (cellsOf bs).toArray)).put (some (t+4)) (Value.pointer (some ⟨bl,0+idx * 16,none⟩))) s=getT a s:=by
   intro s h1 h2
   rw [gTn (by omega),gTn (by omega),gTn (by omega),gTn (by omega)]
   exact hs1 s h1 (by omega)
  refine hQ _ _ ?_ ?_ ?_ ?_
  ·refine ((hi2.setRow ho.ne hbS ho.hB _).act (a:=a1) ?_ ?_ fun s hs=>?_)
   ·simp only [sPu]
   ·simp only [dPu]
   ·rw [gTn (by omega),gTn (by omega),gTn (by omega),gTn (by omega)]
  ·intro s hs
   exact hg s (by omega) (by omega)
  ·exact hf2.trans (foot_setRow hrow2 k1 k2)
  ·intro r x r' hst hpx hfit
   simp only [HTy,HPrim,if_pos]
   simp only [pTy] at hpx
   have:=hval r x r' hst hpx (by simpa [FitTy] using hfit)
   subst this
   intro j u hu
   rw [cell_setRow_same _ _ _ _ _ _ _ hrow2]
   exact k3 j _ (by simp [cellsOf,hu])
 ·rw [if_neg hk] at htN hok ⊢
  simp only [Bool.and_eq_true,beq_iff_eq] at hok
  obtain ⟨⟨⟨rfl,hT⟩,hrp⟩,_⟩:=hok
  simp only [wpL]
  refine rPrim_ok hX hk hrp hi hv (by omega) ht (by omega) fun a1 w1 y hi1 hy1 hs1 honly hty hokv=>?_
  have hsz:=hi1.size
  have hrow1:w1.heap[bl]?=some (.cells cs E' (0,0)):=by rw [honly.block bl hbw ho.ne];exact hcs
  have hy:=tyP_one hk hty
  have hgt:∀ s,s < v->getT a1 s=getT a s:=fun s hs=>hs1 s (by omega) (by omega)
  generalize hu:t+rPrimT X.c false k=u at htN
  have htu:t<=u:=by omega
  refine wRg (ops_mv (ops_mv (ops_mv (oNo rfl (opw_index (E:=E) (n:=1) (b:=bl) (o:=0) (len:=l) (cap:=cap) (j:=idx) (k:=.i32) hsl ?_ ?_ hlt (oNo rfl (opw_store_one (ad:=⟨bl,idx * 1,none⟩) (v:=y) (v0:=cs[idx * 1]'(by omega)) hT ?_ ?_ hy ?_ ?_ (oNi ?_))))))))
  ·rw [eTm,gTn (by omega),gTn (by omega),gTp (by omega),hgt sa hsav]
   exact ha_
  ·rw [eTm,gTn (by omega),gTp (by rw [sPu];omega),gTn (by omega),hgt si hsiv]
   exact hidx
  ·rw [eTm,gTp (by simp only [sPu];omega),Nat.zero_add]
  ·rw [eTm,gTn (by omega),gTp (by simp only [sPu];omega),gTn (by omega),gTn (by omega)]
   exact hy1
  ·rw [cell_of_row _ _ _ _ _ _ hrow1]
   exact Array.getElem?_eq_getElem _
  ·simp [World.frozen?,hrow1]
  rw [pNo,setCell_eq_setRow _ _ _ _ _ _ _ hrow1]
  simp only [Exit.then,wpL]
  refine hQ _ _ ?_ ?_ ?_ ?_
  ·refine ((hi1.setRow ho.ne hbS ho.hB _).act (a:=a1) ?_ ?_ fun s hs=>?_)
   ·simp only [sPu]
   ·simp only [dPu]
   ·rw [gTn (by omega),gTn (by omega),gTn (by omega),gTn (by omega)]
  ·intro s hs
   rw [gTn (by omega),gTn (by omega),gTn (by omega),gTn (by omega)]
   exact hs1 s (by omega) (by omega)
  ·refine (Foot.of_only honly ho.ne).trans (foot_setRow hrow1 (by simp) fun j hj=>?_)
   rw [Array.getElem?_setIfInBounds_ne (by omega)]
  ·intro r x r' hst hpx hfit
   simp only [HTy]
   simp only [pTy] at hpx
   exact hPrim_put hk ho honly.size (fun sb hsb=>(hi.src sb hsb).2) hrow1 (by omega) (hokv r x r' hst hpx) (by simpa [FitTy] using hfit)
theorem fsOK_nil:FsOK X .nil:=by
 intro S p v t bk b o lo n O a w st Q rest hok hlay hdef hi hp ho hrow hfr hpv hv hvT ht htN hQ hR
 simp only [rFs,List.nil_append]
 have e:after st (pFs X.ver X.flex .nil)=st:=by simp only [pFs];exact after_rOk _ _
 refine hQ a w (by rw [e];exact hi) (RSame.refl _ _ _ _) (Foot.refl _ _ _ _ _) fun r xs r' _ _ _=>?_
 simp [HFs]
theorem rvCond_ok {h:Hd} {t:Nat} {body:SC} {a:Act} {w:World} {st:Option Bytes} {Q:Exit->Act->World->Prop} (hX:X.ok) (hi:RInv X a w st) (ht:X.T0<=t) (htN:t+vTmps h<=X.N)
  (hQ:∀ a',RInv X a' w st->(∀ s,s < t->getT a' s=getT a s)->(if h.has X.ver then body.wp X.P Q a' w else Q .normal a' w)):(rvCond X.I X.c h t body).wp X.P Q a w:=by
 have hten:=hX.ten
 have hcv:=hX.cver
 unfold rvCond
 by_cases c1:h.from_=0/\h.to < 0
 ·rw [if_pos c1]
  have hh:h.has X.ver=true:=by simp [Hd.has,c1.1,c1.2,hX.hver]
  have:=hQ a hi (fun _ _=>rfl)
  rw [if_pos hh] at this
  exact this
 ·rw [if_neg c1]
  unfold vTmps at htN
  rw [if_neg c1] at htN
  have hsz:=hi.size
  have hver:=hi.ver
  by_cases c2:h.to < 0
  ·rw [if_pos c2] at htN ⊢
   refine wSq (wRg (ops_mv (oNo rfl (opw_cmp (op:=.geq) (k:=.i16) (m:=X.ver) (n:=h.from_) (r:=decide (X.ver ≥ h.from_)) ?_ rfl (by simp) (oNi ?_)))))
   ·rw [eTm,gTp (by omega),hcv]
    exact hver
   refine wCd (t:=decide (X.ver ≥ h.from_)) (by rw [eTm,gTp (by rw [sPu];omega)]) ?_
   have hh:h.has X.ver=decide (X.ver ≥ h.from_):=by simp [Hd.has,c2]
   have:=hQ ((a.put (some t) (getT a X.c.ver)).put (some (t+1)) (.bool (decide (X.ver ≥ h.from_)))) (hi.act (by simp [sPu]) (by simp [dPu]) fun s hs=>by rw [gTn (by omega),gTn (by omega)]) fun s hs=>by rw [gTn (by omega),gTn (by omega)]
   rw [hh] at this
   cases hd:decide (X.ver ≥ h.from_) with
   | true=>rw [hd] at this;simpa using this
   | false=>rw [hd] at this;exact wSk (by simpa using this)
  ·rw [if_neg c2] at htN ⊢
   have hh:h.has X.ver=(decide (h.from_<=X.ver) && decide (X.ver<=h.to)):=by simp [Hd.has,c2]
   have fin:∀ (a':Act),a'.tmps.size=X.N->a'.defers=a.defers->(∀ s,s < t->getT a' s=getT a s)->getT a' (t+5)=.bool (h.has X.ver)->(SC.cond (.tmp (t+5)) body .skip).wp X.P Q a' w:=by
    intro a' h1 h2 h3 h4
    refine wCd (t:=h.has X.ver) (by rw [eTm];exact h4) ?_
    have:=hQ a' (hi.act (h1.trans hsz.symm) h2 fun s hs=>h3 s (by omega)) h3
    cases hd:h.has X.ver with
    | true=>rw [hd] at this;simpa using this
    | false=>rw [hd] at this;exact wSk (by simpa using this)
   refine wSq (wRg (ops_mv (oNo rfl (opw_cmp (op:=.geq) (k:=.i16) (m:=X.ver) (n:=h.from_) (r:=decide (X.ver ≥ h.from_)) ?_ rfl (by simp) (ops_mv ?_)))))
   ·rw [eTm,gTp (by omega),hcv]
    exact hver
   generalize ha1:(((a.put (some t) (getT a X.c.ver)).put (some (t+1)) (.bool (decide (X.ver ≥ h.from_)))).put (some (t+2)) (getT ((a.put (some t) (getT a X.c.ver)).put (some (t+1)) (.bool (decide (X.ver ≥ h.from_)))) (t+1)))=a1
   have s1:a1.tmps.size=X.N:=by rw [<- ha1];simp only [sPu];exact hsz
   have d1:a1.defers=a.defers:=by rw [<- ha1];simp [dPu]
   have g1:∀ s,s < t->getT a1 s=getT a s:=fun s hs=>by rw [<- ha1,gTn (by omega),gTn (by omega),gTn (by omega)]
   have v1:getT a1 (t+2)=.bool (decide (X.ver ≥ h.from_)):=by rw [<- ha1,gTp (by simp only [sPu];omega),gTp (by rw [sPu];omega)]
   by_cases hge:h.from_<=X.ver
   ·have hd:decide (X.ver ≥ h.from_)=true:=by simpa using hge
    unfold opsw
    refine ⟨t+2,true,rfl,by omega,.inl (by rw [v1,hd]),?_⟩
    rw [if_pos rfl]
    refine opw_move ?_
    unfold opsw
    refine ⟨t+2,true,rfl,by rw [sPu];omega,.inl (by rw [gTn (by omega),v1,hd]),?_⟩
    rw [if_pos rfl]
    refine opw_cmp (op:=.leq) (k:=.i16) (m:=X.ver) (n:=h.to) (r:=decide (X.ver<=h.to)) ?_ rfl (by simp) ?_
    ·rw [eTm,gTp (by omega),eTm,hcv,g1 8 (by omega)]
     exact hver
    refine oNo rfl (opw_pick (b:=true) ?_ (oNi ?_))
    ·rw [eTm,gTn (by omega),gTn (by omega),v1,hd]
    rw [if_pos rfl]
    refine fin _ (by simp only [sPu];exact s1) (by simp only [dPu];exact d1) (fun s hs=>by rw [gTn (by omega),gTn (by omega),gTn (by omega)];exact g1 s hs) ?_
    rw [gTp (by simp only [sPu];omega),eTm,gTp (by rw [sPu];omega),hh]
    simp [hge]
   ·have hd:decide (X.ver ≥ h.from_)=false:=by simpa using hge
    unfold opsw
    refine ⟨t+2,false,rfl,by omega,.inl (by rw [v1,hd]),?_⟩
    rw [if_neg (by simp)]
    unfold opsw
    refine ⟨t+2,false,rfl,by rw [sPu];omega,.inl (by rw [gTn (by omega),v1,hd]),?_⟩
    rw [if_neg (by simp)]
    refine oNo rfl (opw_pick (b:=false) ?_ (oNi ?_))
    ·rw [eTm,gTn (by omega),gTn (by omega),v1,hd]
    rw [if_neg (by simp)]
    refine fin _ (by simp only [sPu];exact s1) (by simp only [dPu];exact d1) (fun s hs=>by rw [gTn (by omega),gTn (by omega),gTn (by omega)];exact g1 s hs) ?_
    rw [gTp (by simp only [sPu];omega),eCo,hh]
    simp [hge]
theorem fsOK_cons (hX:X.ok) {h:Hd} {ty:Ty} {r:Fs} (hV:ValOK X ty) (hF:FsOK X r):FsOK X (.cons h ty r):=by
 intro S p v t bk b o lo n O a w st Q rest hok hlay hdef hi hp ho hrow hfr hpv hv hvT ht htN hQ hR
 simp only [okRFs,Bool.and_eq_true,Bool.or_eq_true,decide_eq_true_eq] at hok
 obtain ⟨⟨⟨hS,hnul⟩,hval⟩,hrest⟩:=hok
 have hlay0:=hlay
 simp only [layFs,Bool.and_eq_true,decide_eq_true_eq] at hlay
 obtain ⟨⟨⟨l1,l2⟩,l3⟩,l4⟩:=hlay
 simp only [DefFs] at hdef
 simp only [FrFs] at hfr
 simp only [rVs] at hvT
 simp only [rFT] at htN
 simp only [rFs,List.cons_append,wpL]
 refine rvCond_ok hX hi ht (by omega) fun a1 hi1 hs1=>?_
 by_cases hh:h.has X.ver=true
 ·rw [if_pos hh]
  have hver:h.null < 0∨h.null<=X.ver:=by
   rcases hnul with e | e
   ·exact .inl e
   ·right
    have:h.from_<=X.ver:=by
     simp only [Hd.has,Bool.and_eq_true,decide_eq_true_eq] at hh
     exact hh.1
    omega
  have hnat:nulAt X.ver h ty=nuOf h:=by
   unfold nuOf
   rcases hver with e | e
   ·cases ty <;> simp [nulAt,show ¬ (0<=h.null) by omega]
   ·cases ty <;> simp [nulAt,e]
  have hpf:pFs X.ver X.flex (.cons h ty r)=rThen (pTy X.ver X.flex ty (nuOf h)) fun x=>rThen (pFs X.ver X.flex r) fun xs=>rOk (x :: xs):=by
   simp only [pFs]
   rw [if_pos hh,hnat]
  refine wpL_seqs _ _ _ (hV S p h v (t+vTmps h) bk b o O a1 w st _ hval l3 hdef.1 hS hver hi1 ((hs1 p (by omega)).trans hp) ho (hrow.mono (by omega)) hfr.1 hpv hv (by omega) (by omega) (by omega) ?_ ?_)
  ·intro a2 w2 hi2 hs2 hf2 hv2
   have hs12:RSame X a a2 v t:=fun s hs=>(hs2 s (by omega)).trans (hs1 s (by omega))
   refine hF S p (v+rV h ty) _ _ b o (h.off+szTy (nuOf h) ty) n O a2 w2 _ Q rest hrest l4 hdef.2 hi2 ((hs12 p (.inl hpv)).trans hp) (ho.mono hf2.size) (hf2.rowAt hrow) ?_ (by omega) (by omega) (by omega) (by omega) (by omega) ?_ ?_
   ·exact frFs_frame r _ n o l4 (fun j h1 h2=>hf2.cell hrow (by omega)) hfr.2
   ·intro a3 w3 hi3 hs3 hf3 hv3
    have hle:h.off+szTy (nuOf h) ty<=n:=l2
    refine hQ a3 w3 ?_ (hs12.trans hs3 (by omega) (by omega)) ((hf2.mono (by omega) (by omega)).trans (hf3.mono (by omega) (Nat.le_refl _))) ?_
    ·rw [hpf]
     have e:after st (rThen (pTy X.ver X.flex ty (nuOf h)) fun x=>rThen (pFs X.ver X.flex r) fun xs=>rOk (x :: xs))=after (after st (pTy X.ver X.flex ty (nuOf h))) (pFs X.ver X.flex r):=by
      cases st with
      | none=>rfl
      | some bb =>
       cases hp1:pTy X.ver X.flex ty (nuOf h) bb with
       | none=>simp [after,rThen,hp1]
       | some z =>
        rw [after_then _ _ _ rfl hp1,after_ok hp1]
        cases hp2:pFs X.ver X.flex r z.2 with
        | none=>simp [after,rThen,hp2]
        | some y=>rw [after_then _ _ _ rfl hp2,after_ok hp2];exact after_rOk _ _
     rw [e]
     exact hi3
    ·intro bb xs rr hst hpx hfit
     rw [hpf] at hpx
     obtain ⟨x,r1,q1,q2⟩:=rThen_some hpx
     obtain ⟨ys,r2,q3,q4⟩:=rThen_some q2
     obtain ⟨rfl,rfl⟩:=rOk_some q4
     simp only [FitFs,List.headD_cons,List.tail_cons] at hfit
     simp only [HFs,List.headD_cons,List.tail_cons]
     have hst2:after st (pTy X.ver X.flex ty (nuOf h))=some r1:=by rw [hst];exact after_ok q1
     refine ⟨fun _=>?_,hv3 r1 ys _ hst2 q3 hfit.2⟩
     have:=hv2 bb x r1 hst q1 (hfit.1 hh)
     exact hTy_frame (hf3.fo (ho.mono hf2.size)) X.ver X.flex ty _ b (o+h.off) x l3 (fun j h1 h2=>hf3.cell (hf2.rowAt hrow) (by unfold nuOf at *;omega)) this
   ·intro a' w' h1 h2 h3 h4
    refine hR a' w' h1 h2 h3 ?_
    rw [hpf]
    cases st with
    | none=>rfl
    | some bb =>
     cases hp1:pTy X.ver X.flex ty (nuOf h) bb with
     | none=>simp [after,rThen,hp1]
     | some z =>
      rw [after_ok hp1] at h4
      rw [after_then _ _ _ rfl hp1]
      exact after_then_none h4
  ·intro a' w' h1 h2 h3 h4
   refine hR a' w' h1 h2 h3 ?_
   rw [hpf]
   exact after_then_none h4
 ·rw [if_neg hh]
  have hpf:pFs X.ver X.flex (.cons h ty r)=rThen (rOk Tree.zero) fun x=>rThen (pFs X.ver X.flex r) fun xs=>rOk (x :: xs):=by
   simp only [pFs]
   rw [if_neg hh]
  have e:after st (pFs X.ver X.flex (.cons h ty r))=after st (pFs X.ver X.flex r):=by
   rw [hpf]
   cases st with
   | none=>rfl
   | some bb =>
    rw [after_then (x:=Tree.zero) (r:=bb) _ _ _ rfl rfl]
    cases hp2:pFs X.ver X.flex r bb with
    | none=>simp [after,rThen,hp2]
    | some y=>rw [after_then _ _ _ rfl hp2,after_ok hp2];exact after_rOk _ _
  simp only [Exit.then]
  refine hF S p (v+rV h ty) _ _ b o (h.off+szTy (nuOf h) ty) n O a1 w st Q rest hrest l4 hdef.2 hi1 ((hs1 p (by omega)).trans hp) ho hrow hfr.2 (by omega) (by omega) (by omega) (by omega) (by omega) ?_ ?_
  ·intro a3 w3 hi3 hs3 hf3 hv3
   refine hQ a3 w3 (by rw [e];exact hi3) (RSame.trans (fun s hs=>hs1 s (by omega)) hs3 (by omega) (by omega)) (hf3.mono (by omega) (Nat.le_refl _)) ?_
   intro bb xs rr hst hpx hfit
   rw [hpf] at hpx
   obtain ⟨x,r1,q1,q2⟩:=rThen_some hpx
   obtain ⟨rfl,rfl⟩:=rOk_some q1
   obtain ⟨ys,r2,q3,q4⟩:=rThen_some q2
   obtain ⟨rfl,rfl⟩:=rOk_some q4
   simp only [FitFs,List.headD_cons,List.tail_cons] at hfit
   simp only [HFs,List.headD_cons,List.tail_cons]
   exact ⟨fun h=>absurd h hh,hv3 bb ys _ hst q3 hfit.2⟩
  ·intro a' w' h1 h2 h3 h4
   exact hR a' w' h1 h2 h3 (by rw [e];exact h4)
end
section
variable {P:Program} {I:RIds}
theorem okRTags_rd {c c':Ctx} (h:c.never=c'.never) (S:Nat) (tags:Option (Nat × Nat)):okRTags P I c S tags=okRTags P I c' S tags:=by cases tags <;> simp [okRTags,h]
theorem okRP_rd {c c':Ctx} (h:c.never=c'.never) (nul:Bool) (k:PK):okRP I c nul k=okRP I c' nul k:=by simp [okRP,h]
mutual
theorem okRElem_rd {c c':Ctx} (hc:c.never=c'.never):∀ (ty:Ty) (T E size:Nat),okRElem P I c T E size ty=okRElem P I c' T E size ty
 | .prim k,T,E,size=>by simp only [okRElem,okRP_rd hc]
 | .list _ _ _ _,T,E,size=>by simp only [okRElem]
 | .struct S sz d tags fs kn,T,E,size=>by simp only [okRElem,okRTags_rd hc,okRFs_rd hc fs,okRKn_rd hc kn]
theorem okRVal_rd {c c':Ctx} (hc:c.never=c'.never):∀ (ty:Ty) (h:Hd),okRVal P I c h ty=okRVal P I c' h ty
 | .prim k,h=>by simp only [okRVal,okRP_rd hc]
 | .list T E size of,h=>by simp only [okRVal,hc,okRElem_rd hc of]
 | .struct S sz d tags fs kn,h=>by simp only [okRVal,okRTags_rd hc,okRFs_rd hc fs,okRKn_rd hc kn]
theorem okRFs_rd {c c':Ctx} (hc:c.never=c'.never):∀ (fs:Fs) (S:Nat),okRFs P I c S fs=okRFs P I c' S fs
 | .nil,S=>by simp only [okRFs]
 | .cons h ty r,S=>by simp only [okRFs,okRVal_rd hc ty,okRFs_rd hc r]
theorem okRKn_rd {c c':Ctx} (hc:c.never=c'.never):∀ (kn:Fs) (S:Nat) (tags:Option (Nat × Nat)),okRKn P I c S tags kn=okRKn P I c' S tags kn
 | .nil,S,tags=>by simp only [okRKn]
 | .cons h ty r,S,tags=>by simp only [okRKn,okRVal_rd hc ty]
end
theorem rPrimT_rd {c c':Ctx} (h:c.never=c'.never) (nul:Bool) (k:PK):rPrimT c nul k=rPrimT c' nul k:=by simp [rPrimT,rTextT,h]
theorem rLenT_rd {c c':Ctx} (h:c.never=c'.never):rLenT c=rLenT c':=by simp [rLenT,h]
mutual
theorem rET_rd {c c':Ctx} (hc:c.never=c'.never):∀ (ty:Ty),rET c ty=rET c' ty
 | .prim k=>by simp only [rET,rPrimT_rd hc]
 | .list _ _ _ _=>by simp only [rET]
 | .struct S sz d tags fs kn=>by simp only [rET,rFT_rd hc fs,rKT_rd hc kn]
theorem rVT_rd {c c':Ctx} (hc:c.never=c'.never):∀ (ty:Ty) (h:Hd),rVT c h ty=rVT c' h ty
 | .prim k,h=>by simp only [rVT,rPrimT_rd hc]
 | .list T E size of,h=>by simp only [rVT,rLenT_rd hc,rET_rd hc of]
 | .struct S sz d tags fs kn,h=>by simp only [rVT,rFT_rd hc fs,rKT_rd hc kn]
theorem rFT_rd {c c':Ctx} (hc:c.never=c'.never):∀ (fs:Fs),rFT c fs=rFT c' fs
 | .nil=>by simp only [rFT]
 | .cons h ty r=>by simp only [rFT,rVT_rd hc ty,rFT_rd hc r]
theorem rKT_rd {c c':Ctx} (hc:c.never=c'.never):∀ (kn:Fs) (tags:Option (Nat × Nat)),rKT c tags kn=rKT c' tags kn
 | .nil,tags=>by simp only [rKT]
 | .cons h ty r,tags=>by simp only [rKT,rVT_rd hc ty]
end
end
theorem pInt4_rng {b r:Bytes} {n:Int} (h:pInt 4 b=some (n,r)):-2147483648<=n/\n < 2147483648:=by
 unfold pInt at h
 obtain ⟨m,r1,h1,h2⟩:=rThen_some h
 obtain ⟨rfl,-⟩:=rOk_some h2
 have hm:m < 4294967296:=by
  unfold pFix at h1
  split at h1
  ·simp at h1
  ·rename_i hl
   simp only [Option.some.injEq,Prod.mk.injEq] at h1
   obtain ⟨rfl,-⟩:=h1
   have:∀ (l:Bytes),unfix l < 256 ^ l.length:=by
    intro l
    induction l with
    | nil=>simp [unfix]
    | cons u r ih =>
     have hu:u.toNat < 256:=u.toNat_lt
     simp only [unfix,List.length_cons,Nat.pow_succ]
     have:u.toNat * 256 ^ r.length<=255 * 256 ^ r.length:=Nat.mul_le_mul_right _ (by omega)
     omega
   have h4:=this (b.take 4)
   have hlen:(b.take 4).length=4:=by rw [List.length_take];omega
   rw [hlen] at h4
   exact h4
 simp only [sgn]
 split <;> simp at * <;> omega
theorem pFs_rng {ver:Int} {flex:Bool}:∀ (fs:Fs) (b r:Bytes) (xs:List Tree),rngFsB fs=true->pFs ver flex fs b=some (xs,r)->rngFs fs xs
 | .nil,_,_,_,_,_=>trivial
 | .cons h ty rr,b,r,xs,hb,hp=>by
  cases ty with
  | prim k =>
   cases k <;> simp only [rngFsB,Bool.false_eq_true] at hb
   simp only [Bool.and_eq_true,decide_eq_true_eq] at hb
   simp only [pFs] at hp
   obtain ⟨x,r1,h1,h2⟩:=rThen_some hp
   obtain ⟨ys,r2,h3,h4⟩:=rThen_some h2
   obtain ⟨rfl,-⟩:=rOk_some h4
   refine ⟨?_,pFs_rng rr _ _ _ hb.2 h3⟩
   simp only [List.headD_cons]
   split at h1
   ·simp only [pTy,pPrim] at h1
    obtain ⟨n,r3,h5,h6⟩:=rThen_some h1
    obtain ⟨rfl,-⟩:=rOk_some h6
    exact pInt4_rng h5
   ·obtain ⟨rfl,-⟩:=rOk_some h1
    decide
  | list _ _ _ _=>simp [rngFsB] at hb
  | struct _ _ _ _ _ _=>simp [rngFsB] at hb
theorem pTy_rng {ver:Int} {flex:Bool} {ty:Ty} {b r:Bytes} {x:Tree} (hb:rngB ty=true) (hp:pTy ver flex ty false b=some (x,r)):rngTy ty x:=by
 cases ty with
 | struct S sz d tags fs kn =>
  simp only [rngB] at hb
  simp only [pTy,Bool.false_eq_true,if_false,Bool.false_and] at hp
  obtain ⟨_,r1,h1,h2⟩:=rThen_some hp
  obtain ⟨xs,r2,h3,h4⟩:=rThen_some h2
  obtain ⟨z,r3,h5,h6⟩:=rThen_some h4
  obtain ⟨rfl,-⟩:=rOk_some h6
  have:=pFs_rng fs _ _ _ hb h3
  simp only [rngTy,Tree.l]
  have hl:=pFs_len ver flex fs _ _ _ h3
  clear h1 h2 h3 h4 h5 h6 hp
  have key:∀ (fs:Fs) (xs ys:List Tree),xs.length=Fs.len fs->rngFs fs xs->rngFs fs (xs ++ ys):=by
   intro fs
   induction fs using Fs.rec (motive_1:=fun _=>True) with
   | prim=>trivial
   | list=>trivial
   | struct=>trivial
   | nil=>intros;trivial
   | cons h ty r _ ih =>
    intro xs ys hl hr
    cases xs with
    | nil=>simp [Fs.len] at hl
    | cons x xs =>
     simp only [rngFs,List.headD_cons,List.tail_cons,List.cons_append] at hr ⊢
     exact ⟨hr.1,ih xs ys (by simpa [Fs.len] using hl) hr.2⟩
  exact key fs xs z.1 hl this
 | _=>trivial
theorem dFs_rng:∀ fs:Fs,rngFsB fs=true->rngFs fs (dFs fs)
 | .nil,_=>trivial
 | .cons h ty r,hb=>by
  cases ty with
  | prim k =>
   cases k <;> simp only [rngFsB,Bool.false_eq_true] at hb
   simp only [Bool.and_eq_true,decide_eq_true_eq] at hb
   exact ⟨by simpa [dFs,dT,Tree.n] using hb.1,dFs_rng r hb.2⟩
  | list _ _ _ _=>simp [rngFsB] at hb
  | struct _ _ _ _ _ _=>simp [rngFsB] at hb
theorem rngTy_dT {ty:Ty} (h:Hd) (hb:rngB ty=true):rngTy ty (dT h ty):=by
 cases ty with
 | struct S sz d tags fs kn=>exact dFs_rng fs hb
 | _=>trivial
def nzTags:Nat->Bytes->Prop
 | 0,_=>True
 | n+1,b=>∃ k r s r2 v r3,pUv b=some (k,r)/\1<=k/\pUv r=some (s,r2)/\pSpan (s:Int) r2=some (v,r3)/\nzTags n r3
def zfTags:Nat->Bytes->Prop
 | 0,_=>True
 | n+1,b=>∃ k r s r2 v r3,pUv b=some (k,r)/\pUv r=some (s,r2)/\pSpan (s:Int) r2=some (v,r3)/\nzTags n r3
theorem pTagK_step {st:Option Bytes} {p:Rd Tree} {k0:Tree} {n k:Nat} {s:Int} {x:Bytes} {acc:List (Nat × Bytes)} (h1:∀ b y r,st=some b->pUv b=some (y,r)->k=y) (h2:∀ b (y:Nat) r,after st pUv=some b->pUv b=some (y,r)->s=(y:Int)) (h3:∀ b y r,after (after st pUv) pUv=some b->pSpan s b=some (y,r)->x=y) :
  st.bind (pTagK p (n+1) k0 acc)=(after (after (after st pUv) pUv) (pSpan s)).bind (if k=0 then (match p x with | none=>fun _=>none | some z=>pTagK p n z.1 acc) else pTagK p n k0 (setTag (k,x) acc)):=by
 cases st with
 | none=>rfl
 | some b =>
  simp only [Option.bind_some,pTagK]
  cases e1:pUv b with
  | none=>simp [rThen,after,e1]
  | some z1 =>
   obtain ⟨y1,r1⟩:=z1
   have a1:after (some b) pUv=some r1:=after_ok e1
   rw [rThen_of e1,a1]
   cases e2:pUv r1 with
   | none=>simp [rThen,after,e2]
   | some z2 =>
    obtain ⟨y2,r2⟩:=z2
    have a2:after (some r1) pUv=some r2:=after_ok e2
    rw [rThen_of e2,a2]
    have es:=h2 r1 y2 r2 a1 e2
    subst es
    cases e3:pSpan (y2:Int) r2 with
    | none=>simp [rThen,after,e3]
    | some z3 =>
     obtain ⟨y3,r3⟩:=z3
     rw [rThen_of e3,after_ok e3]
     have ex:=h3 r2 y3 r3 (by rw [a1,a2]) e3
     have ek:=h1 b y1 r1 rfl e1
     subst ex ek
     simp only [Option.bind_some]
     split
     ·cases p x <;> simp [rNo]
     ·rfl
end Go.Proofs.YtdnpafdgglpagaaGreatDoor.K
namespace Go.Proofs.YtdnpafdgglpagaaGreatDoor.K
open Go Go.RowKit Go.Proofs.YtdnpafdgglpagaaGreatDoor.T
attribute [local simp] eTm eCo pNo gTp gTn qv qcall vop iop
set_option linter.unusedSimpArgs false
set_option linter.unusedVariables false
set_option maxHeartbeats 4000000
theorem knChkD (I:RIds) (c:Ctx) (S p f v t:Nat) (hp:p < t) (hv:v+1 < t) (hr:c.rd < t):chk [mv (t+8) p,nilc (t+9) (t+8),fa (t+10) S (t+9) f,mv (t+11) (v+1),cal (t+12) I.rUvar [c.rd],⟨some (t+13),.convert I.tU32 I.tInt (.tmp (t+12)),none⟩,cal (t+14) I.rSpan [c.rd,t+13],cal (t+15) I.tSet [t+10,t+11,t+14]]
  [[],[0],[1],[],[],[4],[5,4],[2,3,6,6]] [(0,true),(1,true),(2,true),(3,true),(4,false),(5,true),(6,false),(7,false)] (Array.replicate [[],[0],[1],[],[],[4],[5,4],[2,3,6,6]].length false)=true:=by
 have e1:∀ k,t+k ≠ p:=fun k=>by omega
 have e2:∀ k,t+k ≠ v+1:=fun k=>by omega
 have e3:∀ k,t+k ≠ c.rd:=fun k=>by omega
 have e4:t ≠ v:=by omega
 have hr:List.range 8=[0,1,2,3,4,5,6,7]:=rfl
 simp [chk,sReady,sFree,sApart,sLooks,mv,nilc,fa,cal,Op.operands,Call.operands,hr,List.filter,e1,fun k=>Ne.symm (e1 k),e2,fun k=>Ne.symm (e2 k),e3,fun k=>Ne.symm (e3 k),e4,Ne.symm e4]
 omega
theorem rdNew_of {P:Program} {TR:Nat} (h:rdNew P TR=true):aggB P TR 2=true/\(∃ it z,P.info? TR=some it/\it.zero=some z/\z.cells=#[.slice none 0 0,.bool false])/\∀ v:Value,v.oneCell'=true->P.built TR [(0,v)]=some #[v,.bool false]:=by
 simp only [rdNew,Bool.and_eq_true] at h
 obtain ⟨h1,h⟩:=h
 split at h <;> try (simp at h;done)
 rename_i it fs hi hu
 simp only [Bool.and_eq_true] at h
 obtain ⟨hz,hp⟩:=h
 split at hz <;> try (simp at hz;done)
 rename_i z hz0
 split at hz <;> try (simp at hz;done)
 rename_i hzl
 have hzc:z.cells=#[.slice none 0 0,.bool false]:=Array.ext' (by simpa using hzl)
 split at hp <;> try (simp at hp;done)
 rename_i hpl
 refine ⟨h1,⟨it,z,hi,hz0,hzc⟩,fun v hv=>?_⟩
 have hvc:=cells_oneCell hv
 simp only [Program.built,hi,hu,hz0,hpl,hzc]
 simp [Instr.fill,hvc]
structure KStep (rb b lo hi:Nat) (m:Option Nat) (w w':World):Prop where
 size:w.heap.size<=w'.heap.size
 block:∀ k,k < w.heap.size->k ≠ rb->k ≠ b->m ≠ some k->w'.heap[k]?=w.heap[k]?
 row:∀ cs T,w.heap[b]?=some (.cells cs T (0,0))->∃ cs',w'.heap[b]?=some (.cells cs' T (0,0))/\cs'.size=cs.size/\∀ j,(j < lo∨hi<=j)->cs'[j]?=cs[j]?
theorem KStep.of_foot {rb b lo hi:Nat} {w w':World} (h:Foot rb b lo hi w w') (m:Option Nat):KStep rb b lo hi m w w':=⟨h.size,fun k h1 h2 h3 _=>h.block k h1 h2 h3,h.row⟩
theorem KStep.trans {rb b lo hi:Nat} {m:Option Nat} {w w1 w2:World} (h:KStep rb b lo hi m w w1) (h':KStep rb b lo hi m w1 w2):KStep rb b lo hi m w w2 :=
 ⟨Nat.le_trans h.size h'.size,fun k k1 k2 k3 k4=>(h'.block k (Nat.lt_of_lt_of_le k1 h.size) k2 k3 k4).trans (h.block k k1 k2 k3 k4),fun cs T hc=>by
  obtain ⟨cs',q1,q2,q3⟩:=h.row cs T hc
  obtain ⟨cs2,r1,r2,r3⟩:=h'.row cs' T q1
  exact ⟨cs2,r1,r2.trans q2,fun j hj=>(r3 j hj).trans (q3 j hj)⟩⟩
theorem KStep.mono {rb b lo hi lo' hi':Nat} {m:Option Nat} {w w':World} (h:KStep rb b lo hi m w w') (h1:lo'<=lo) (h2:hi<=hi'):KStep rb b lo' hi' m w w' :=
 ⟨h.size,h.block,fun cs T hc=>by
  obtain ⟨cs',q1,q2,q3⟩:=h.row cs T hc
  exact ⟨cs',q1,q2,fun j hj=>q3 j (by omega)⟩⟩
theorem Foot.step {rb b lo hi:Nat} {m:Option Nat} {w0 w w':World} (h:Foot rb b lo hi w0 w) (hs:KStep rb b lo hi m w w') (hm:∀ r,m=some r->w0.heap.size<=r):Foot rb b lo hi w0 w' :=
 ⟨Nat.le_trans h.size hs.size,fun k k1 k2 k3=>(hs.block k (Nat.lt_of_lt_of_le k1 h.size) k2 k3 (fun e=>by have:=hm k e;omega)).trans (h.block k k1 k2 k3),fun cs T hc=>by
  obtain ⟨cs',q1,q2,q3⟩:=h.row cs T hc
  obtain ⟨cs2,r1,r2,r3⟩:=hs.row cs' T q1
  exact ⟨cs2,r1,r2.trans q2,fun j hj=>(r3 j hj).trans (q3 j hj)⟩⟩
section
variable {X:RX}
structure KI (X:RX) (ty:Ty) (hoff b o size off lo:Nat) (O:Nat->Prop) (k:Tree) (acc:List (Nat × Bytes)) (m:Option Nat) (st:Option Bytes) (a:Act) (w:World):Prop where
 inv:RInv X a w st
 row:∃ cs E,w.heap[b]?=some (.cells cs E (0,0))/\o+size<=cs.size/\cs[o+off]?=some (.map m)
 map:MapV w lo b X.S acc m
 srt:Sorted acc
 nz:∀ x ∈ acc,1<=x.1
 mem:st ≠ none->FitTy X.ver ty k->HTy X.G w (fun j=>FO O w j/\m ≠ some j) X.ver X.flex ty false b (o+hoff) k/\rngTy ty k
theorem setTag_keys {t:Nat × Bytes} {l:List (Nat × Bytes)} (ht:1<=t.1) (hl:∀ x ∈ l,1<=x.1):∀ x ∈ setTag t l,1<=x.1:=fun x hx=>by
 rcases setTag_mem hx with rfl | h
 ·exact ht
 ·exact hl x h
theorem rKnDef_ok {ty:Ty} {S p f v t hoff b o size off lo key:Nat} {O:Nat->Prop} {k:Tree} {acc:List (Nat × Bytes)} {m:Option Nat} {st:Option Bytes} {a:Act} {w:World} {Q:Exit->Act->World->Prop} (hX:X.ok)
  (hu0:X.I.rUvar ≠ 0) (hs0:X.I.rSpan ≠ 0) (ht0:X.I.tSet ≠ 0) (hU:intB X.P X.I.tU32 .u32=true) (hI:intB X.P X.I.tInt .i64=true) (hS:fieldB X.P S f off=true) (hmix:X.P.follows .mixedOrders=true)
  (hlay:layTy false ty=true) (hof:hoff+szTy false ty<=off) (hoff':off < size) (hb:b ≠ X.rb) (hbS:X.S ≠ some b) (hB:X.B<=b) (hblo:b < lo) (hrlo:X.rb < lo) (hSlo:∀ sb,X.S=some sb->sb < lo) (hlow:lo<=w.heap.size) (hBlo:X.B<=lo) (horb:O X.rb) (hob:O b)
  (hi:KI X ty hoff b o size off lo O k acc m st a w) (hp:getT a p=.pointer (some ⟨b,o,none⟩)) (hkey:getT a (v+1)=.int .u32 (key:Int)) (hk0:1<=key) (hpv:p < v) (hv:X.v0<=v) (hvT:v+1 < X.T0) (ht:X.T0<=t) (htN:t+16<=X.N)
  (hQ:∀ a' w' s x m',KI X ty hoff b o size off lo O k (setTag (key,x) acc) m' (after (after st pUv) (pSpan s)) a' w'->(∀ q,q < t+8->getT a' q=getT a q)->KStep X.rb b (o+hoff) (o+size) m w w' ->
   (∀ b (y:Nat) r,st=some b->pUv b=some (y,r)->s=(y:Int))->(∀ b y r,after st pUv=some b->pSpan s b=some (y,r)->x=y)->Q .normal a' w') :
  (rKnDef X.I X.c S p f v t).wp X.P Q a w:=by
 have hten:=hX.ten
 have hsz:=hi.inv.size
 have hfo:=fieldOff_of hS
 have hk1:=intK_of hU
 have hk2:=intK_of hI
 obtain ⟨cs,E,hcs,hlen,hmc⟩:=hi.row
 have hlt:=hi.inv.at_.lt
 unfold rKnDef
 refine wDr hmix (Below 0 w.drew) [(0,true),(1,true),(2,true),(3,true),(4,false),(5,true),(6,false),(7,false)] (by rfl) (knChkD X.I X.c S p f v t (by omega) (by omega) (by omega)) (by decide) (Below.refl _ _) ?_
 iterate 4 (apply dr_1;(focus rfl);(focus (simp (disch:=(try simp only [sPu]);omega) [hp,hfo,hkey];try rfl)))
 generalize ha1:Act.put (Act.put (Act.put (Act.put a _ _) _ _) _ _) _ _=a1
 have hg1:∀ s,s < t+8->getT a1 s=getT a s:=fun s hs=>by rw [<- ha1];simp (disch:=omega) [gTn]
 have e10:getT a1 (t+10)=.pointer (some ⟨b,o+off,none⟩):=by rw [<- ha1];simp (disch:=(try simp only [sPu]);omega) [gTp,gTn]
 have e11:getT a1 (t+11)=.int .u32 (key:Int):=by rw [<- ha1];simp (disch:=(try simp only [sPu]);omega) [gTp,gTn]
 have hz1:a1.tmps.size=X.N:=by rw [<- ha1];simp only [sPu];exact hsz
 have hd1:a1.defers=[]:=by rw [<- ha1];simp only [dPu];exact hi.inv.defers
 clear ha1
 have hrd1:getT a1 X.c.rd=.pointer (some ⟨X.rb,0,none⟩):=(hg1 _ (by omega)).trans hi.inv.rd
 have hrc:=hX.kr.uvar hu0
 have hi0:=hi.inv.drew
 refine dreg_call (argsV:=#[.pointer (some ⟨X.rb,0,none⟩)]) rfl hrc.1 (hrc.2 w.drew X.S X.rb st (Nat.lt_of_lt_of_le hX.hgb hi0.heap) hi0.at_ hi0.src) (by simp [eTm,hrd1]) ?_
 rintro e w1 ⟨y,rfl,k1,k2,⟨s,hs32,rfl⟩,k4⟩
 refine ⟨_,rfl,⟨k2.os,k2.tape,k2.output,k2.size,fun j hj=>by omega⟩,?_⟩
 have hws:IntKind.i64.wrap (s:Int)=(s:Int):=wrap64 (by omega) (by omega)
 iterate 1 (apply dr_1;(focus rfl);(focus (simp (disch:=(try simp only [sPu]);omega) [hk1,hk2,hws];try rfl)))
 have hi1:∀ sb,X.S=some sb->sb ≠ X.rb/\sb < w1.heap.size:=fun sb h=>⟨(hi.inv.src sb h).1,Nat.lt_of_lt_of_le (hi.inv.src sb h).2 k2.size⟩
 have hsp:=hX.kr.span hs0
 refine dreg_call (argsV:=#[.pointer (some ⟨X.rb,0,none⟩),.int .i64 (s:Int)]) rfl hsp.1 (hsp.2 w1 X.S X.rb _ (s:Int) k1 hi1) (by simp (disch:=(try simp only [sPu]);omega) [eTm,gTp,gTn,hrd1]) ?_
 rintro e w2 ⟨S',base,cap,x,rfl,m1,m2,m3,m4,m5,-⟩
 refine ⟨_,rfl,⟨m2.os.trans k2.os,m2.tape.trans k2.tape,m2.output.trans k2.output,Nat.le_trans k2.size m2.size,fun j hj=>by omega⟩,?_⟩
 have ho2:Only X.rb w w2:=⟨m2.os.trans k2.os,m2.tape.trans k2.tape,m2.output.trans k2.output,Nat.le_trans k2.size m2.size,fun j h1 h2=>(m2.block j (Nat.lt_of_lt_of_le h1 k2.size) h2).trans (k2.block j h1 h2)⟩
 have hrow2:w2.heap[b]?=some (.cells cs E (0,0)):=by rw [ho2.block b (by omega) hb];exact hcs
 have hmv2:MapV w2 lo b X.S acc m:=hi.map.frame (fun j h1 h2=>ho2.block j h2 (by omega)) fun sb h=>ho2.block sb (hi.inv.src sb h).2 (hi.inv.src sb h).1
 have hb2:BytesAt w2 (fun j=>X.S=some j) base x:=by
  rcases m5 with rfl | rfl
  ·exact .inl m3.2
  ·exact bytesAt_src m3 fun sb h=>h
 have hset:=hX.kr.set ht0
 refine dreg_call (argsV:=#[.pointer (some ⟨b,o+off,none⟩),.int .u32 (key:Int),.slice base x.length cap]) rfl hset.1 (hset.2 w2 b (o+off) lo key cap cs E X.S m acc base x (by have:=ho2.size;omega) (fun sb h=>⟨hSlo sb h,fun e=>hbS (by rw [h,e])⟩) hrow2 hmc hmv2 hi.srt hb2) (by simp (disch:=(try simp only [sPu]);omega) [eTm,gTp,gTn,e10,e11]) ?_
 rintro e w3 ⟨rfl,n0,m',n4,n5,n6⟩
 refine ⟨_,rfl,⟨n0.os.trans ho2.os,n0.tape.trans ho2.tape,n0.output.trans ho2.output,Nat.le_trans ho2.size n0.size,fun j hj=>by omega⟩,?_⟩
 refine dreg_nil ?_
 have hmlo:∀ r,m=some r->lo<=r/\r ≠ b:=fun r e=>by
  rcases hi.map with ⟨e2,-⟩ | ⟨r',es,clock,e2,h2,h3,-⟩
  ·rw [e2] at e;cases e
  ·rw [e2] at e;cases e;exact ⟨h2,h3⟩
 have hw3:∀ j,j < w.heap.size->j ≠ X.rb->j ≠ b->m ≠ some j->w3.heap[j]?=w.heap[j]?:=fun j h1 h2 h3 h4=>(n0.block j (Nat.lt_of_lt_of_le h1 ho2.size) h3 h4).trans (ho2.block j h1 h2)
 have hsz3:w.heap.size<=w3.heap.size:=Nat.le_trans ho2.size n0.size
 have hbelow:Below X.B w w3:=⟨n0.os.trans ho2.os,n0.tape.trans ho2.tape,n0.output.trans ho2.output,hsz3,fun j hj=>hw3 j (by omega) (by have:=hX.hB;omega) (by omega) fun e=>by have:=(hmlo j e).1;omega⟩
 refine hQ _ w3 (s:Int) x m' ⟨?_,⟨_,E,n4,by simpa using hlen,?_⟩,n5,setTag_sorted hi.srt,setTag_keys hk0 hi.nz,fun hst hfit=>?_⟩ ?_ ⟨hsz3,hw3,fun cs0 T0 hc0=>?_⟩ (fun b y r h1 h2=>?_) (fun b y r h1 h2=>(m4 b y r h1 h2).1)
 ·refine ⟨by simp only [sPu];exact hz1,by simp only [dPu];exact hd1,?_,?_,?_,fun hn=>?_,?_,fun sb h=>⟨(hi.inv.src sb h).1,Nat.lt_of_lt_of_le (hi.inv.src sb h).2 hsz3⟩,hi.inv.below.trans hbelow,by have:=hi.inv.heap;omega,hi.inv.lo⟩
  ·rw [<- hi.inv.uns,<- hg1 2 (by omega)];simp (disch:=omega) [gTn]
  ·rw [<- hrd1];simp (disch:=omega) [gTn]
  ·rw [<- hi.inv.ver,<- hg1 8 (by omega)];simp (disch:=omega) [gTn]
  ·rw [<- hi.inv.flex hn,<- hg1 9 (by omega)];simp (disch:=omega) [gTn]
  ·exact RdAt.frame m1 (n0.block _ (by have:=ho2.size;omega) (Ne.symm hb) fun e=>by have:=(hmlo _ e).1;omega) fun sb h=>n0.block _ (by have:=(hi.inv.src sb h).2;have:=ho2.size;omega) (fun e=>hbS (by rw [h,e])) fun e=>by have:=(hmlo _ e).1;have:=hSlo sb h;omega
 ·have:=(Array.getElem?_eq_some_iff.1 hmc).1
  simp [this]
 ·have hst0:st ≠ none:=fun e=>by subst e;exact hst rfl
  obtain ⟨h1,h2⟩:=hi.mem hst0 hfit
  refine ⟨hTy_frame (w:=w) (F:=fun j=>FO O w j/\m ≠ some j) (fun j hj=>?_) X.ver X.flex ty false b (o+hoff) k hlay (fun j q1 q2=>?_) h1,h2⟩
  ·obtain ⟨⟨j1,j2⟩,j3⟩:=hj
   have jb:j ≠ b:=fun e=>j2 (e ▸ hob)
   have jr:j ≠ X.rb:=fun e=>j2 (e ▸ horb)
   refine ⟨⟨⟨Nat.lt_of_lt_of_le j1 hsz3,j2⟩,?_⟩,hw3 j j1 jr jb j3⟩
   rcases n6 with rfl | ⟨r,rfl,hr⟩
   ·exact j3
   ·intro e;cases e;have:=ho2.size;omega
  ·rw [cell_of_row _ _ _ _ _ _ n4,cell_of_row _ _ _ _ _ _ hcs,Array.getElem?_setIfInBounds_ne (by omega)]
 ·intro q hq
  rw [<- hg1 q hq]
  simp (disch:=omega) [gTn]
 ·rw [hcs] at hc0
  cases hc0
  refine ⟨_,n4,by simp,fun j hj=>?_⟩
  rw [Array.getElem?_setIfInBounds_ne (by omega)]
 ·have:=k4 b y r h1 h2
  simp only [Value.int.injEq,true_and] at this
  omega
end
section
variable {X:RX}
def RX.sub (X:RX) (S:Option Nat) (rb rd:Nat):RX:={ X with S:=S,rb:=rb,c:=⟨X.c.ver,X.c.flex,X.c.never,rd⟩,v0:=rd+1 }
theorem rKnCase_ok {ty:Ty} {h:Hd} {S p v t bk b o size off lo:Nat} {O:Nat->Prop} {k:Tree} {acc:List (Nat × Bytes)} {m:Option Nat} {st:Option Bytes} {a:Act} {w:World} {Q:Exit->Act->World->Prop} (hX:X.ok) (hV:∀ X':RX,X'.ok->ValOK X' ty)
  (hu0:X.I.rUvar ≠ 0) (hs0:X.I.rSpan ≠ 0) (hU:intB X.P X.I.tU32 .u32=true) (hI:intB X.P X.I.tInt .i64=true) (hmk:rdNew X.P X.I.tRd=true) (hic:ifaceT X.P X.I.tErr=true) (hval:okRVal X.P X.I X.c h ty=true) (hrng:rngB ty=true)
  (hlay:layTy false ty=true) (hdef:DefTy X.P ty) (hSk:fieldB X.P S h.idx h.off=true) (hnul:h.null < 0) (hof:h.off+szTy false ty<=off) (hoff':off < size) (ho:Opn X O b w) (hblo:b < lo) (hrlo:X.rb < lo) (hSlo:∀ sb,X.S=some sb->sb < lo) (hlow:lo<=w.heap.size) (hBlo:X.B<=lo)
  (hi:KI X ty h.off b o size off lo O k acc m st a w) (hfr:FrTy w b false ty (o+h.off)) (hp:getT a p=.pointer (some ⟨b,o,none⟩)) (hpv:p < v) (hv:X.v0<=v) (hvT:v+4+rV h ty<=X.T0) (ht:X.T0<=t) (htN:t+26+rVT X.c h ty<=X.N)
  (hQ:∀ a' w' s x z,pTy X.ver X.flex ty false x=some z->KI X ty h.off b o size off lo O z.1 acc m (after (after st pUv) (pSpan s)) a' w'->(∀ q,(q < v+2∨(X.T0<=q/\q < t+18))->getT a' q=getT a q)->KStep X.rb b (o+h.off) (o+size) m w w' ->
   (∀ b (y:Nat) r,st=some b->pUv b=some (y,r)->s=(y:Int))->(∀ b y r,after st pUv=some b->pSpan s b=some (y,r)->x=y)->Q .normal a' w')
  (hR:∀ a' w' s x,a'.defers=[]->getT a' 6=X.err->Below X.B X.w0 w'->pTy X.ver X.flex ty false x=none->(∀ b (y:Nat) r,st=some b->pUv b=some (y,r)->s=(y:Int))->(∀ b y r,after st pUv=some b->pSpan s b=some (y,r)->x=y)->Q .ret a' w') :
  (seqs (rKnRd X.I X.c v t :: (rValL X.I ⟨X.c.ver,X.c.flex,X.c.never,v+2⟩ S p h (v+3) (t+22) bk ty ++ rKnEnd X.I ⟨X.c.ver,X.c.flex,X.c.never,v+2⟩ (v+3+rV h ty) (t+22+rVT X.c h ty)))).wp X.P Q a w:=by
 have hten:=hX.ten
 have hsz:=hi.inv.size
 obtain ⟨cs,E,hcs,hlen,hmc⟩:=hi.row
 have hlt:=hi.inv.at_.lt
 have hbw:b < w.heap.size:=ho.lt b ho.ob
 have hbS:X.S ≠ some b:=fun e=>ho.src b e ho.ob
 obtain ⟨r1,⟨rit,rz,rzi,rzz,rzc⟩,r3⟩:=rdNew_of hmk
 have hrc:=hX.kr.uvar hu0
 have hsp:=hX.kr.span hs0
 refine wpL_seqs _ _ _ ?_
 simp only [wpL]
 unfold rKnRd
 refine wRg (ops_cal hrc.1 (R:=fun e w'=>∃ y,e=.returned y/\RdAt X.TR w' X.S X.rb (after st pUv)/\Only X.rb w w'/\(∃ n:Nat,n < 4294967296/\y=.int .u32 (n:Int))/\∀ b x r,st=some b->pUv b=some (x,r)->y=.int .u32 (x:Int)) ?_ ?_)
 ·have:=hrc.2 w X.S X.rb st (Nat.lt_of_lt_of_le hX.hgb hi.inv.heap) hi.inv.at_ hi.inv.src
  rw [show (([X.c.rd].map (getT a)).toArray:Array Value)=#[.pointer (some ⟨X.rb,0,none⟩)] by simp [hi.inv.rd]]
  exact this
 rintro e w1 ⟨y,rfl,k1,k2,⟨s,hs32,rfl⟩,k4⟩
 refine ⟨_,rfl,?_⟩
 have hws:IntKind.i64.wrap (s:Int)=(s:Int):=wrap64 (by omega) (by omega)
 refine oNo rfl (opw_convert hU hI (n:=(s:Int)) (by rw [eTm,gTp (by omega)]) ?_)
 rw [hws]
 have hi1:∀ sb,X.S=some sb->sb ≠ X.rb/\sb < w1.heap.size:=fun sb h=>⟨(hi.inv.src sb h).1,Nat.lt_of_lt_of_le (hi.inv.src sb h).2 k2.size⟩
 refine ops_cal hsp.1 (R:=fun e w'=>∃ (S':Option Nat) (base:Option Addr) (cap:Nat) (x:Bytes),e=.returned (.slice base x.length cap)/\RdAt X.TR w' X.S X.rb (after (after st pUv) (pSpan (s:Int)))/\Only X.rb w1 w'/\SrcAt w' S' base x /\
  (∀ bs y r,after st pUv=some bs->pSpan (s:Int) bs=some (y,r)->x=y/\S'=X.S)/\(S'=none∨S'=X.S)/\x.length<=cap) ?_ ?_
 ·have:=hsp.2 w1 X.S X.rb _ (s:Int) k1 hi1
  refine Eq.mp (congrArg (fun z=>Calls X.P X.I.rSpan z w1 _) ?_) this
  simp (disch:=(try simp only [sPu]);omega) [gTp,gTn,hi.inv.rd]
 rintro e w2 ⟨S',base,cap,x,rfl,m1,m2,m3,m4,m5,mcap⟩
 refine ⟨_,rfl,?_⟩
 refine oNo rfl (opw_build (cs:=#[.slice base x.length cap,.bool false]) ?_ (oNo rfl (opw_alloc rzi rzz ?_)))
 ·have:∀ a3:Act,getT a3 (t+20)=.slice base x.length cap->(#[(0,Operand.tmp (t+20))].map fun x:Nat × Operand=>(x.1,Act.eval a3 x.2)).toList=[(0,.slice base x.length cap)]:=fun a3 h3=>by
   simp only [List.map_toArray,List.map_cons,List.map_nil,eTm,h3]
  rw [this _ (by rw [gTp (by simp only [sPu];omega)])]
  exact r3 _ rfl
 have hnew:=heap_alloc_new w2 (.cells rz.cells X.I.tRd)
 refine oNo rfl (opw_store_agg (cs:=[.slice base x.length cap,.bool false]) (cur:=rz.cells) (b:=w2.heap.size) (E:=X.I.tRd) r1 (by rw [eTm,gTp (by simp only [sPu];omega)]) (by rw [eTm,gTn (by omega),gTp (by simp only [sPu];omega)]) hnew (by rw [rzc];rfl) (by intro v hv;simp at hv;rcases hv with rfl | rfl <;> rfl) (oNi ?_))
 rw [pNo]
 simp only [Exit.then]
 obtain ⟨rb,hrb⟩:∃ rb,rb=w2.heap.size:=⟨_,rfl⟩
 rw [<- hrb] at hnew ⊢
 generalize hw3:(w2.alloc (.cells rz.cells X.I.tRd)).setRow rb [Value.slice base x.length cap,.bool false].toArray=w3
 have hrow3:w3.heap[rb]?=some (.cells #[.slice base x.length cap,.bool false] X.I.tRd (0,0)):=by rw [<- hw3];exact setRow_heap _ _ _ _ _ _ hnew
 have hoth3:∀ j,j < w2.heap.size->w3.heap[j]?=w2.heap[j]?:=fun j hj=>by
  rw [<- hw3,setRow_other _ _ _ _ (by omega)]
  exact Below.heap_alloc _ _ _ hj
 have hsz3:w3.heap.size=w2.heap.size+1:=by rw [<- hw3];simp
 have hb3:Below w2.heap.size w2 w3:=⟨by rw [<- hw3];rfl,by rw [<- hw3];rfl,by rw [<- hw3];rfl,by omega,hoth3⟩
 have ho2:Only X.rb w w2:=⟨m2.os.trans k2.os,m2.tape.trans k2.tape,m2.output.trans k2.output,Nat.le_trans k2.size m2.size,fun j h1 h2=>(m2.block j (Nat.lt_of_lt_of_le h1 k2.size) h2).trans (k2.block j h1 h2)⟩
 have hs2:=ho2.size
 have hhs3:Only X.rb w w3:=⟨hb3.os.trans ho2.os,hb3.tape.trans ho2.tape,hb3.output.trans ho2.output,by omega,fun j h1 h2=>(hoth3 j (by omega)).trans (ho2.block j h1 h2)⟩
 generalize ha3:Act.put (Act.put (Act.put (Act.put (Act.put a _ _) _ _) _ _) _ _) (some (v+2)) _=a3
 have hz3:a3.tmps.size=X.N:=by rw [<- ha3];simp only [sPu];exact hsz
 have hd3:a3.defers=[]:=by rw [<- ha3];simp only [dPu];exact hi.inv.defers
 have hg3:∀ q,q ≠ v+2->q < t+18->getT a3 q=getT a q:=fun q h1 h2=>by rw [<- ha3];simp (disch:=omega) [gTn]
 have e32:getT a3 (v+2)=.pointer (some ⟨rb,0,none⟩):=by rw [<- ha3,gTp (by simp only [sPu];omega)]
 clear ha3
 have hS2:∀ sb,S'=some sb->X.S=some sb:=fun sb h=>by
  rcases m5 with rfl | rfl
  ·cases h
  ·exact h
 let X':RX:=X.sub S' rb (v+2)
 have hX':X'.ok:=⟨hX.kr,hX.hgb,hX.cver,⟨hten.1,by show 10<=v+2+1;omega,by show v+2+1<=X.T0;omega,by show v+2 < v+2+1;omega⟩,hX.never,by show X.B<=rb;have:=hi.inv.heap;omega,hX.hver,hX.G,hX.gl,hX.tr,hX.er,hX.mix⟩
 have hi3:RInv X' a3 w3 (some x):=by
  refine ⟨hz3,hd3,(hg3 2 (by omega) (by omega)).trans hi.inv.uns,e32,(hg3 8 (by omega) (by omega)).trans hi.inv.ver,fun hn=>(hg3 9 (by omega) (by omega)).trans (hi.inv.flex hn),?_,fun sb hsb=>?_,hi.inv.below.trans (hhs3.below hX.hB hi.inv.heap),by show X.B<=w3.heap.size;have:=hi.inv.heap;omega,by show 10<=v+2+1;omega,by show v+2 < v+2+1;omega⟩
  ·refine ⟨base,cap,by show w3.heap[rb]?=some (.cells _ X.TR (0,0));rw [hX.tr];exact hrow3,mcap,?_⟩
   show SrcAt w3 S' base x
   cases S' with
   | none=>exact m3
   | some sb =>
    obtain ⟨q,q1,q2⟩:=m3
    have hsb:=(hi.inv.src sb (hS2 sb rfl)).2
    exact ⟨q,q1,fun j u hu=>by rw [World.cell?_of_block (a:=⟨sb,q+j,none⟩) (hoth3 sb (by omega))];exact q2 j u hu⟩
  ·have:=(hi.inv.src sb (hS2 sb hsb)).2
   exact ⟨by show sb ≠ rb;omega,by omega⟩
 have hOlt:∀ j,O j->j < w.heap.size:=ho.lt
 have hmr:∀ r,m=some r->lo<=r/\r ≠ b/\r < w.heap.size:=fun r e=>by
  rcases hi.map with ⟨e2,-⟩ | ⟨r',es,clock,e2,h2,h3,h4,-⟩
  ·rw [e2] at e;cases e
  ·rw [e2] at e;cases e;exact ⟨h2,h3,(Array.getElem?_eq_some_iff.1 h4).1⟩
 have ho3:Opn X' (fun j=>O j∨j=rb∨m=some j) b w3:=by
  refine ⟨.inr (.inl rfl),.inl ho.ob,fun j hj=>?_,fun sb hsb hj=>?_,by show b ≠ rb;omega,ho.hB⟩
  ·rcases hj with hj | rfl | hj
   ·have:=hOlt j hj;omega
   ·omega
   ·have:=(hmr j hj).2.2;omega
  ·have hsb':=hS2 sb hsb
   rcases hj with hj | rfl | hj
   ·exact ho.src sb hsb' hj
   ·have:=(hi.inv.src _ hsb').2;omega
   ·have:=(hmr sb hj).1;have:=hSlo sb hsb';omega
 have hrow3b:w3.heap[b]?=some (.cells cs E (0,0)):=by rw [hhs3.block b hbw ho.ne];exact hcs
 have hfr3:FrTy w3 b (nuOf h) ty (o+h.off):=by
  have hn0:nuOf h=false:=by simp [nuOf,hnul]
  rw [hn0]
  exact frTy_frame false ty _ hlay (fun j _ _=>World.cell?_of_block (a:=⟨b,j,none⟩) (hhs3.block b hbw ho.ne)) hfr
 have hn0:nuOf h=false:=by simp [nuOf,hnul]
 refine wpL_append _ _ _ ?_
 have hp3:getT a3 p=.pointer (some ⟨b,o,none⟩):=(hg3 p (by omega) (by omega)).trans hp
 have hvt:rVT X'.c h ty=rVT X.c h ty:=rVT_rd (c:=X'.c) (c':=X.c) rfl ty h
 have eqs1:∀ b (y:Nat) r,st=some b->pUv b=some (y,r)->(s:Int)=(y:Int):=fun b y r h1 h2=>by
  have:=k4 b y r h1 h2
  simpa using this
 have eqs2:∀ b y r,after st pUv=some b->pSpan (s:Int) b=some (y,r)->x=y:=fun b y r h1 h2=>(m4 b y r h1 h2).1
 have hVX:=hV X' hX' S p h (v+3) (t+22) bk b o (fun j=>O j∨j=rb∨m=some j) a3 w3 (some x) (Exit.then (wpL X.P Q (rKnEnd X.I ⟨X.c.ver,X.c.flex,X.c.never,v+2⟩ (v+3+rV h ty) (t+22+rVT X.c h ty))) Q)
  (by rw [show okRVal X'.P X'.I X'.c h ty=okRVal X.P X.I X.c h ty from okRVal_rd (c:=X'.c) (c':=X.c) rfl ty h];exact hval) (by rw [hn0];exact hlay) hdef hSk (.inl hnul) hi3 hp3 ho3 ⟨cs,E,hrow3b,by rw [hn0];omega⟩ hfr3 (by omega) (by show v+2+1<=v+3;omega) (by show v+3+rV h ty<=X.T0;omega) (by show X.T0<=t+22;omega) (by rw [hvt];show t+22+rVT X.c h ty<=X.N;omega)
 rw [hn0] at hVX
 refine hVX ?_ ?_
 ·intro a4 w4 hi4 hs4 hf4 hv4
  have hlt4:=hf4.size
  simp only [Exit.then]
  unfold rKnEnd
  simp only [wpL]
  have hcm:=hX.kr.compl w4 S' rb (after (some x) (pTy X.ver X.flex ty false)) (hX.gl w4 hi4.below) hi4.at_
  have hz4:a4.tmps.size=X.N:=hi4.size
  refine wRg (ops_cal hX.kr.complF (R:=fun e w'=>e=.returned (if (after (some x) (pTy X.ver X.flex ty false)).isSome then .nilIface else X.err)/\w'=w4) ?_ ?_)
  ·have hr4:getT a4 (v+2)=.pointer (some ⟨rb,0,none⟩):=hi4.rd
   rw [show (([v+2].map (getT a4)).toArray:Array Value)=#[.pointer (some ⟨rb,0,none⟩)] by simp [hr4]]
   exact hcm
  rintro e w5 ⟨rfl,hw5⟩
  obtain rfl:w4=w5:=hw5.symm
  refine ⟨_,rfl,ops_asg (oNi ?_)⟩
  simp only [Exit.then]
  generalize hev:(if (after (some x) (pTy X.ver X.flex ty false)).isSome=true then Value.nilIface else X.err)=ev
  have hev2:ev=.nilIface∨∃ t y,ev=.iface t y:=by
   rw [<- hev]
   split
   ·exact .inl rfl
   ·exact .inr hX.er
  refine wSq (wRg (ops_mv (oNo rfl (opw_isErr (v:=ev) hic ?_ hev2 (oNi ?_)))))
  ·rw [eTm,gTp (by simp only [sPu];omega),gTp (by simp only [sPu];omega),gTp (by omega)]
  simp only [Exit.then]
  generalize ha5:Act.put (Act.put (Act.put (Act.put a4 _ _) _ _) _ _) _ (Value.bool (isErr ev))=a5
  have hz5:a5.tmps.size=X.N:=by rw [<- ha5];simp only [sPu];exact hz4
  have hd5:a5.defers=[]:=by rw [<- ha5];simp only [dPu];exact hi4.defers
  have hg5:∀ q,q ≠ v+3+rV h ty->q < t+22->getT a5 q=getT a4 q:=fun q h1 h2=>by rw [<- ha5];simp (disch:=omega) [gTn]
  have e5c:getT a5 (t+22+rVT X.c h ty+2)=.bool (isErr ev):=by rw [<- ha5,gTp (by simp only [sPu];omega)]
  have e5x:getT a5 (v+3+rV h ty)=ev:=by
   rw [<- ha5,gTn (by omega),gTn (by omega),gTp (by simp only [sPu];omega),gTp (by omega)]
  clear ha5
  refine wCd (t:=isErr ev) (by rw [eTm];exact e5c) ?_
  cases hpx:pTy X.ver X.flex ty false x with
  | none =>
   have hat:after (some x) (pTy X.ver X.flex ty false)=none:=after_no hpx
   rw [hat] at hev
   simp only [Option.isSome_none,Bool.false_eq_true,if_false] at hev
   obtain ⟨t1,y1,he1⟩:=hX.er
   have hie:isErr ev=true:=by rw [<- hev,he1];rfl
   rw [hie,if_pos rfl]
   refine wSq (wRg (ops_mv (ops_asg (oNi ?_))))
   simp only [Exit.then]
   refine wRt ?_
   simp only [Exit.then]
   refine hR _ w4 (s:Int) x (by simp only [dPu];exact hd5) ?_ hi4.below hpx eqs1 eqs2
   rw [gTp (by simp only [sPu];omega),gTp (by omega),e5x]
   exact hev.symm
  | some z =>
   have hat:after (some x) (pTy X.ver X.flex ty false)=some z.2:=after_ok hpx
   rw [hat] at hev
   simp only [Option.isSome_some,if_true] at hev
   subst hev
   rw [show isErr Value.nilIface=false from rfl,if_neg (by simp)]
   refine wSk ?_
   simp only [Exit.then]
   have hs4':∀ q,(q < v+3∨(X.T0<=q/\q < t+22))->getT a4 q=getT a3 q:=fun q hq=>hs4 q hq
   have hall:∀ q,q ≠ v+2->(q < v+3∨(X.T0<=q/\q < t+18))->getT a5 q=getT a q:=fun q h1 h2=>by
    rw [hg5 q (by omega) (by omega),hs4' q (by omega)]
    exact hg3 q h1 (by omega)
   have hblk:∀ j,j < w3.heap.size->j ≠ rb->j ≠ b->w4.heap[j]?=w3.heap[j]?:=hf4.block
   have hst:KStep X.rb b (o+h.off) (o+size) m w w4:=by
    refine ⟨by omega,fun j h1 h2 h3 _=>(hblk j (by omega) (by omega) h3).trans (hhs3.block j h1 h2),fun cs0 T0 hc0=>?_⟩
    obtain ⟨cs',q1,q2,q3⟩:=hf4.row cs0 T0 (by rw [hhs3.block b hbw ho.ne];exact hc0)
    exact ⟨cs',q1,q2,fun j hj=>q3 j (by omega)⟩
   obtain ⟨cs4,q1,q2,q3⟩:=hf4.row cs E hrow3b
   refine hQ a5 w4 (s:Int) x z hpx ⟨?_,⟨cs4,E,q1,by omega,?_⟩,?_,hi.srt,hi.nz,fun _ hfit=>?_⟩ (fun q hq=>hall q (by omega) (by omega)) hst eqs1 eqs2
   ·refine ⟨hz5,hd5,(hall 2 (by omega) (by omega)).trans hi.inv.uns,(hall _ (by omega) (by omega)).trans hi.inv.rd,(hall 8 (by omega) (by omega)).trans hi.inv.ver,fun hn=>(hall 9 (by omega) (by omega)).trans (hi.inv.flex hn),?_,fun sb hsb=>⟨(hi.inv.src sb hsb).1,by have:=(hi.inv.src sb hsb).2;omega⟩,hi4.below,hi4.heap,hi.inv.lo⟩
    refine RdAt.frame m1 ((hblk _ (by omega) (by omega) (Ne.symm ho.ne)).trans (hoth3 _ (by omega))) fun sb hsb=>?_
    have:=(hi.inv.src sb hsb).2
    exact (hblk sb (by omega) (by omega) (fun e=>hbS (by rw [hsb,e]))).trans (hoth3 sb (by omega))
   ·rw [q3 _ (.inr (by omega))]
    exact hmc
   ·refine hi.map.frame (fun j h1 h2=>(hblk j (by omega) (by omega) (by omega)).trans (hhs3.block j h2 (by omega))) fun sb hsb=>?_
    have:=(hi.inv.src sb hsb).2
    exact (hblk sb (by omega) (by omega) (fun e=>hbS (by rw [hsb,e]))).trans (hhs3.block sb this (hi.inv.src sb hsb).1)
   ·have h1:=hv4 x z.1 z.2 rfl hpx hfit
    refine ⟨hTy_frame (w:=w4) (F:=FO (fun j=>O j∨j=rb∨m=some j) w4) (fun j hj=>⟨⟨⟨hj.1,fun e=>hj.2 (.inl e)⟩,fun e=>hj.2 (.inr (.inr e))⟩,rfl⟩) X.ver X.flex ty false b (o+h.off) z.1 hlay (fun _ _ _=>rfl) h1,pTy_rng hrng hpx⟩
 ·intro a' w' h1 h2 h3 h4
  have hpx:pTy X.ver X.flex ty false x=none:=by
   cases hpx:pTy X.ver X.flex ty false x with
   | none=>rfl
   | some z=>rw [show after (some x) (pTy X'.ver X'.flex ty false)=some z.2 from after_ok hpx] at h4;cases h4
  exact hR a' w' (s:Int) x h1 h2 h3 hpx eqs1 eqs2
end
def DfKn (w:World) (b o:Nat) (tags:Option (Nat × Nat)):Fs->Prop
 | .nil=>True
 | .cons h ty _=>(∃ f off,tags=some (f,off)/\w.cell? ⟨b,o+off,none⟩=some (.map none))/\FrTy w b false ty (o+h.off) /\
   (match ty with | .struct _ _ _ _ _ _=>w.cell? ⟨b,o+h.off,none⟩=some (.int .i32 (-1))/\w.cell? ⟨b,o+h.off+1,none⟩=some (.int .i32 (-1))/\w.cell? ⟨b,o+h.off+2,none⟩=some (.map none) | _=>True)
theorem frFs_prims {w:World} {b:Nat}:∀ (fs:Fs) (o:Nat),primsOnly fs=true->FrFs w b fs o
 | .nil,_,_=>by simp [FrFs]
 | .cons h (.prim k) r,o,hp=>by
  simp only [primsOnly] at hp
  simp only [FrFs,FrTy,true_and]
  exact frFs_prims r o hp
 | .cons h (.list _ _ _ _) r,o,hp=>by simp [primsOnly] at hp
 | .cons h (.struct _ _ _ _ _ _) r,o,hp=>by simp [primsOnly] at hp
theorem frTy_alw {h:Hd} {ty:Ty} {r:Fs} (ha:knAlw (.cons h ty r)=true):∀ (w:World) (b o:Nat),FrTy w b false ty o:=by
 intro w b o
 unfold knAlw at ha
 split at ha
 ·rename_i he;cases he
 ·rename_i he
  cases he
  simp only [FrTy,Bool.false_eq_true,if_false,FrKn,and_true]
  exact frFs_prims _ _ ha
 ·cases ha
section
variable {X:RX}
theorem dT_mem {w:World} {F:Nat->Prop} {h:Hd} {ty:Ty} {b o:Nat} (hG:∀ u,X.G u) (hver:0<=X.ver) (hd:dfOK X.P ty=true) (hf:FrTy w b false ty o)
  (hm:match ty with | .struct _ _ _ _ _ _=>w.cell? ⟨b,o,none⟩=some (.int .i32 (-1))/\w.cell? ⟨b,o+1,none⟩=some (.int .i32 (-1))/\w.cell? ⟨b,o+2,none⟩=some (.map none) | _=>True):HTy X.G w F X.ver X.flex ty false b o (dT h ty):=by
 cases ty with
 | prim k=>simp [dfOK] at hd
 | list T E sz of =>
  simp only [FrTy] at hf
  simp only [HTy,dT,Tree.l,Bool.false_and,Bool.false_eq_true,if_false]
  exact ⟨none,0,hf,by simp [most],by simp,.inl (by simp)⟩
 | struct S sz d tags fs kn =>
  simp only [dfOK,Bool.and_eq_true] at hd
  obtain ⟨h1,h2⟩:=hd
  obtain ⟨g1,g2,rfl,-,-,-,-,f1,f2,⟨d1,d2,d3,d4⟩,e1,e2,e3,e4⟩:=flat2_of h1
  split at h2
  ·rename_i f'
   simp only [HTy,Bool.false_eq_true,if_false,HFs,HKn,dT,dFs,Tree.l,Tree.u,f1,f2,HPrim,PVal,List.headD_cons,List.tail_cons,and_true]
   obtain ⟨m1,m2,m3⟩:=hm
   have n1:decide (0<=g1.null)=false:=by simp;omega
   have n2:decide (0<=g2.null)=false:=by simp;omega
   refine ⟨⟨fun _=>⟨_,m1,?_⟩,fun _=>⟨_,m2,?_⟩⟩,fun _=>⟨hG _,rfl,by simp,fun x hx=>(by cases hx),.inl ⟨m3,rfl⟩⟩⟩
   ·simp [Tree.n,d4]
   ·simp [Tree.n,e4]
  ·cases h2
def kMu (v:Nat) (a:Act) (_:World):Nat:=match getT a v with
 | .int _ n=>n.toNat
 | _=>0
theorem rKn_ok {ty:Ty} {h:Hd} {r:Fs} (hX:X.ok) (hV:∀ X':RX,X'.ok->ValOK X' ty) {S p v t bk b o size:Nat} {tags:Option (Nat × Nat)} {O:Nat->Prop} {a:Act} {w:World} {st:Option Bytes} {Q:Exit->Act->World->Prop} {rest:List SC} (hmix:X.P.follows .mixedOrders=true)
  (hokt:okRTags X.P X.I X.c S tags=true) (hok:okRKn X.P X.I X.c S tags (.cons h ty r)=true) (hlay:layKn tags (.cons h ty r)=true) (hsz:∀ f off,tags=some (f,off)->off < size) (hdef:DefTy X.P ty) (hi:RInv X a w st) (hp:getT a p=.pointer (some ⟨b,o,none⟩)) (ho:Opn X O b w) (hrow:RowAt w b o size)
  (hfr:DfKn w b o tags (.cons h ty r)) (hgood:X.flex=true->(∀ (w:World) (b o:Nat),FrTy w b false ty o)∨∃ rr n r1,st=some rr/\pUv rr=some (n,r1)/\zfTags n r1)
  (hpv:p < v) (hv:X.v0<=v) (hvT:v+rVk (.cons h ty r)<=X.T0) (ht:X.T0<=t) (htN:t+rKT X.c tags (.cons h ty r)<=X.N)
  (hQ:∀ a' w',RInv X a' w' (after st (pKn X.ver X.flex (.cons h ty r)))->RSame X a a' v t->Foot X.rb b (o+h.off) (o+size) w w' ->
   (∀ rr ks u r',st=some rr->pKn X.ver X.flex (.cons h ty r) rr=some ((ks,u),r')->FitTags u->FitKn X.ver (.cons h ty r) ks->TagsAt X.G w' (FO O w') X.flex b o tags u/\HKn X.G w' (FO O w') X.ver X.flex (.cons h ty r) b o ks u)->wpL X.P Q rest a' w')
  (hR:RetOK X Q (after st (pKn X.ver X.flex (.cons h ty r))=none)) :
  wpL X.P Q (rTagsK X.I X.c S p tags v t bk (.cons h ty r) ++ rest) a w:=by
 have hten:=hX.ten
 simp only [okRKn,Bool.and_eq_true,decide_eq_true_eq,bne_iff_ne,ne_eq] at hok
 obtain ⟨⟨⟨⟨⟨⟨⟨⟨⟨⟨⟨⟨q1,q2⟩,q3⟩,q4⟩,q5⟩,q6⟩,q7⟩,q8⟩,q9⟩,q10⟩,q11⟩,q12⟩,q13⟩:=hok
 simp only [layKn,Bool.and_eq_true] at hlay
 obtain ⟨hl1,hl2⟩:=hlay
 simp only [rVk] at hvT
 simp only [rKT] at htN
 obtain ⟨⟨f,off,rfl,hcm⟩,hfr1,hfr2⟩:=hfr
 have hoff:=hsz f off rfl
 simp only [okRTags,Bool.and_eq_true,Bool.not_eq_true',bne_iff_ne,ne_eq] at hokt
 obtain ⟨⟨⟨hn,hS⟩,hagg⟩,hfn⟩:=hokt
 simp only [decide_eq_true_eq,Bool.and_eq_true] at hl2
 have hbS:X.S ≠ some b:=fun e=>ho.src b e ho.ob
 have hbw:b < w.heap.size:=ho.lt b ho.ob
 have hrw:X.rb < w.heap.size:=ho.lt _ ho.orb
 simp only [rTagsK,tagF,List.cons_append,List.nil_append,wpL]
 unfold rKnSC
 refine mvCond_ok hi (by omega) (by omega) (hi.flex hn) fun a1 hi1 hs1=>?_
 by_cases hf:X.flex=true
 ·rw [if_pos hf]
  have hpk:pKn X.ver X.flex (.cons h ty r)=rThen pUv fun n=>pTagK (pTy X.ver X.flex ty false) n (dT h ty) []:=by simp only [pKn,hf,if_true]
  rw [hpk] at hQ hR
  have hrc:=hX.kr.uvar q4
  refine wSq (rGet_ok hX hrc hi1 (v:=v) (t:=t+1) (by omega) (by omega) (by omega) (by omega) fun a2 w2 y hi2 hy2 hs2 honly hty hokv=>?_)
  simp only [Exit.then]
  obtain ⟨n0,hn0,rfl⟩:=hty
  have hw2:=honly.size
  have hcell2:∀ j,w2.cell? ⟨b,j,none⟩=w.cell? ⟨b,j,none⟩:=fun j=>World.cell?_of_block (a:=⟨b,j,none⟩) (honly.block b hbw ho.ne)
  have hmu:∀ a' w',kMu v a' w'=kMu v a' w:=fun _ _=>rfl
  obtain ⟨cs,E,hcs,hlen⟩:=hrow
  have hcs2:w2.heap[b]?=some (.cells cs E (0,0)):=by rw [honly.block b hbw ho.ne];exact hcs
  refine wBk (wLp (fun a' w'=>∃ (n:Nat) (acc:List (Nat × Bytes)) (m:Option Nat) (k:Tree) (st':Option Bytes),getT a' v=.int .u32 (n:Int)/\n < 4294967296/\KI X ty h.off b o size off w.heap.size O k acc m st' a' w'/\RSame X a a' v t/\Foot X.rb b (o+h.off) (o+size) w w' /\
    st.bind (rThen pUv fun n=>pTagK (pTy X.ver X.flex ty false) n (dT h ty) [])=st'.bind (pTagK (pTy X.ver X.flex ty false) n k acc) /\
    ((∀ (w:World) (b o:Nat),FrTy w b false ty o)∨(∃ rr,st'=some rr/\FrTy w' b false ty (o+h.off)/\zfTags n rr)∨∃ rr,st'=some rr/\nzTags n rr)) (kMu v) ?_ ?_)
  ·refine ⟨n0,[],none,dT h ty,after st pUv,hy2,hn0,⟨hi2,⟨cs,E,hcs2,hlen,?_⟩,.inl ⟨rfl,rfl⟩,List.Pairwise.nil,fun x hx=>(by cases hx),fun _ _=>⟨?_,rngTy_dT h q11⟩⟩,fun s hs=>?_,Foot.of_only honly ho.ne,?_,?_⟩
   ·rw [<- cell_of_row _ _ _ _ _ _ hcs];exact hcm
   ·refine dT_mem hX.G hX.hver q12 (frTy_frame false ty _ hl1 (fun j _ _=>hcell2 j) hfr1) ?_
    cases ty with
    | struct _ _ _ _ _ _=>exact ⟨(hcell2 _).trans hfr2.1,(hcell2 _).trans hfr2.2.1,(hcell2 _).trans hfr2.2.2⟩
    | _=>trivial
   ·rw [hs2 s (by omega) (by omega),hs1 s (by omega)]
   ·cases st with
    | none=>rfl
    | some bb =>
     cases hpu:pUv bb with
     | none=>simp [rThen,after,hpu]
     | some z =>
      have:=hokv bb z.1 z.2 rfl hpu
      simp only [Value.int.injEq,true_and] at this
      obtain rfl:n0=z.1:=by omega
      simp [rThen,after,hpu]
   ·rcases hgood hf with hg | ⟨rr,n,r1,rfl,hpu,hz⟩
    ·exact .inl hg
    ·have:=hokv rr n r1 rfl hpu
     simp only [Value.int.injEq,true_and] at this
     obtain rfl:n0=n:=by omega
     exact .inr (.inl ⟨r1,after_ok hpu,frTy_frame false ty _ hl1 (fun j _ _=>hcell2 j) hfr1,hz⟩)
  rintro a3 w3 ⟨n,acc,m,k,st',e3,hn32,hki,hsm,hft,heq,hgd⟩
  have hz3:=hki.inv.size
  have hw3:=hft.size
  have hmu3:kMu v a3 w3=n:=by simp [kMu,e3]
  refine wSq (wSq (wRg ?_))
  repeat (apply ops_1;(focus (simp (disch:=(try simp only [sPu]);omega) [e3];try rfl)))
  refine oNi ?_
  simp only [Exit.then]
  generalize ha4:Act.put (Act.put a3 _ _) _ _=a4
  have hg4:∀ s,s < t+2->getT a4 s=getT a3 s:=fun s hs=>by rw [<- ha4];simp (disch:=omega) [gTn]
  have hi4:RInv X a4 w3 st':=hki.inv.act (by rw [<- ha4];simp only [sPu]) (by rw [<- ha4];simp only [dPu]) fun s hs=>hg4 s (by omega)
  have e43:getT a4 (t+3)=.bool (decide ((n:Int) > 0)):=by rw [<- ha4,gTp (by simp only [sPu];omega)];try simp
  clear ha4
  refine wCd (t:=decide ((n:Int) > 0)) (by rw [eTm];exact e43) ?_
  have hki4:KI X ty h.off b o size off w.heap.size O k acc m st' a4 w3:=⟨hi4,hki.row,hki.map,hki.srt,hki.nz,hki.mem⟩
  by_cases hn00:n=0
  ·subst hn00
   rw [if_neg (by simp)]
   refine wXt ?_
   simp only [Exit.then,Exit.inBlock,if_true]
   have hst:after st (rThen pUv fun n=>pTagK (pTy X.ver X.flex ty false) n (dT h ty) [])=st':=by
    rw [after_bind,heq]
    cases st' <;> simp [pTagK,rOk]
   refine hQ a4 w3 (by rw [hst];exact hi4) (fun s hs=>(hg4 s (by omega)).trans (hsm s hs)) hft fun rr ks u r' hs hpk2 hfu hfk=>?_
   rw [hs] at heq
   simp only [Option.bind_some,hpk2] at heq
   cases st' with
   | none=>cases heq
   | some r'' =>
    simp only [Option.bind_some,pTagK,rOk,Option.some.injEq,Prod.mk.injEq] at heq
    obtain ⟨⟨rfl,rfl⟩,rfl⟩:=heq
    simp only [FitKn,List.headD_cons] at hfk
    obtain ⟨m1,m2⟩:=hki.mem (by simp) hfk
    obtain ⟨cs3,E3,c1,c2,c3⟩:=hki.row
    refine ⟨?_,?_⟩
    ·unfold TagsAt
     intro _
     refine ⟨hX.G _,hfu.1,hfu.2.1,hfu.2.2,?_⟩
     have hcell:w3.cell? ⟨b,o+off,none⟩=some (.map m):=by rw [cell_of_row _ _ _ _ _ _ c1];exact c3
     rw [hcell]
     rcases hki.map with ⟨rfl,rfl⟩ | ⟨r1,es,clock,rfl,g1,g2,g3,gne,g4,g5,g6⟩
     ·exact .inl ⟨rfl,rfl⟩
     ·refine .inr ⟨r1,es,clock,rfl,⟨(Array.getElem?_eq_some_iff.1 g3).1,fun hO=>by have:=ho.lt _ hO;omega⟩,g3,gne,g4,g5,fun e he x hx hk=>?_⟩
      obtain ⟨base,cap,y1,y2⟩:=g6 e he x hx hk
      refine ⟨base,cap,y1,bytesAt_F y2 fun j hj=>⟨?_,fun hO=>ho.src j hj hO⟩⟩
      have:=(hki.inv.src j hj).2
      exact this
    ·simp only [HKn,List.headD_cons]
     intro _
     exact ⟨hTy_frame (w:=w3) (fun j hj=>⟨hj.1,rfl⟩) X.ver X.flex ty false b (o+h.off) k hl1 (fun _ _ _=>rfl) m1,m2,hki.nz⟩
  ·rw [if_pos (by simp;omega)]
   refine wSk ?_
   simp only [Exit.then]
   obtain ⟨n',rfl⟩:∃ n',n=n'+1:=⟨n - 1,by omega⟩
   have fin:∀ a5 w5 s (x:Bytes) st'' acc' m' k',KI X ty h.off b o size off w.heap.size O k' acc' m' st'' a5 w5->(∀ q,(q < v+1∨(X.T0<=q/\q < t+4))->getT a5 q=getT a4 q)->KStep X.rb b (o+h.off) (o+size) m w3 w5 ->
     st''=after (after (after st' pUv) pUv) (pSpan s)->st'.bind (pTagK (pTy X.ver X.flex ty false) (n'+1) k acc)=st''.bind (pTagK (pTy X.ver X.flex ty false) n' k' acc') ->
     ((∀ (w:World) (b o:Nat),FrTy w b false ty o)∨∃ rr,st''=some rr/\nzTags n' rr) ->
     (SC.reg [mv (t+4) v,bin .sub (t+5) X.I.tU32 (t+4) (.const (.int .u32 1)),asg v (t+5)]).wp X.P (Exit.then (fun a' w'=>(∃ (n:Nat) (acc:List (Nat × Bytes)) (m:Option Nat) (k:Tree) (st':Option Bytes),getT a' v=.int .u32 (n:Int)/\n < 4294967296/\KI X ty h.off b o size off w.heap.size O k acc m st' a' w'/\RSame X a a' v t/\Foot X.rb b (o+h.off) (o+size) w w' /\
    st.bind (rThen pUv fun n=>pTagK (pTy X.ver X.flex ty false) n (dT h ty) [])=st'.bind (pTagK (pTy X.ver X.flex ty false) n k acc) /\
    ((∀ (w:World) (b o:Nat),FrTy w b false ty o)∨(∃ rr,st'=some rr/\FrTy w' b false ty (o+h.off)/\zfTags n rr)∨∃ rr,st'=some rr/\nzTags n rr))/\kMu v a' w' < kMu v a3 w3) (Exit.inBlock bk (Exit.then (wpL X.P Q rest) Q))) a5 w5:=by
    intro a5 w5 s x st'' acc' m' k' hk5 hs5 hst5 hst'' heq5 hgd5
    have hz5:=hk5.inv.size
    have e5:getT a5 v=.int .u32 ((n'+1:Nat):Int):=by rw [hs5 v (by omega),hg4 v (by omega)];exact e3
    have hwn:IntKind.u32.wrap (n':Int)=(n':Int):=IntWalk.u32_in _ (by omega)
    refine wRg ?_
    repeat (apply ops_1;(focus (simp (disch:=(try simp only [sPu]);omega) [e5,hwn];try rfl)))
    refine oNi ?_
    simp only [Exit.then]
    generalize ha6:Act.put (Act.put (Act.put a5 _ _) _ _) _ _=a6
    have hg6:∀ q,q ≠ v->q < t+4->getT a6 q=getT a5 q:=fun q h1 h2=>by rw [<- ha6];simp (disch:=omega) [gTn]
    have e6:getT a6 v=.int .u32 (n':Int):=by rw [<- ha6,gTp (by simp only [sPu];omega)];try simp
    have hi6:RInv X a6 w5 st'':=hk5.inv.act (by rw [<- ha6];simp only [sPu]) (by rw [<- ha6];simp only [dPu]) fun q hq=>hg6 q (by omega) (by omega)
    clear ha6
    refine ⟨⟨n',acc',m',k',st'',e6,by omega,⟨hi6,hk5.row,hk5.map,hk5.srt,hk5.nz,hk5.mem⟩,fun q hq=>?_,?_,heq.trans heq5,?_⟩,?_⟩
    ·rw [hg6 q (by omega) (by omega),hs5 q (by omega),hg4 q (by omega)]
     exact hsm q hq
    ·refine hft.step hst5 fun r1 e=>?_
     rcases hki.map with ⟨e2,-⟩ | ⟨r',es,clock,e2,h2,h3,-⟩
     ·rw [e2] at e;cases e
     ·rw [e2] at e;cases e;exact h2
    ·rcases hgd5 with hg | hg
     ·exact .inl hg
     ·exact .inr (.inr hg)
    ·rw [hmu3]
     simp [kMu,e6]
   refine wSq (wBk (wSq (rGet_ok hX hrc hi4 (v:=v+1) (t:=t+6) (by omega) (by omega) (by omega) (by omega) fun a5 w5 y hi5 hy5 hs5 honly5 hty5 hok5=>?_)))
   simp only [Exit.then]
   obtain ⟨key,hkey,rfl⟩:=hty5
   have hz5:=hi5.size
   have hw5:=honly5.size
   have hki5:KI X ty h.off b o size off w.heap.size O k acc m (after st' pUv) a5 w5:=by
    obtain ⟨cs3,E3,c1,c2,c3⟩:=hki.row
    refine ⟨hi5,⟨cs3,E3,by rw [honly5.block b (by omega) ho.ne];exact c1,c2,c3⟩,hki.map.frame (fun j h1 h2=>honly5.block j h2 (by omega)) fun sb h=>honly5.block sb (hki.inv.src sb h).2 (hki.inv.src sb h).1,hki.srt,hki.nz,fun h1 h2=>?_⟩
    have hst':st' ≠ none:=fun e=>h1 (by rw [e];rfl)
    obtain ⟨m1,m2⟩:=hki.mem hst' h2
    refine ⟨hTy_frame (w:=w3) (fun j hj=>⟨⟨⟨by have:=hj.1.1;omega,hj.1.2⟩,hj.2⟩,honly5.block j hj.1.1 fun e=>hj.1.2 (e ▸ ho.orb)⟩) X.ver X.flex ty false b (o+h.off) k hl1 (fun j _ _=>World.cell?_of_block (a:=⟨b,j,none⟩) (honly5.block b (by omega) ho.ne)) m1,m2⟩
   refine wSq (wRg (ops_mv (oNi ?_)))
   simp only [Exit.then]
   refine wBk (wSq (wRg ?_))
   repeat (apply ops_1;(focus (simp (disch:=(try simp only [sPu]);omega) [hy5];try rfl)))
   refine oNi ?_
   simp only [Exit.then]
   generalize ha6:Act.put (Act.put (Act.put a5 _ _) _ _) _ _=a6
   have hg6:∀ q,q < t+7->getT a6 q=getT a5 q:=fun q h1=>by rw [<- ha6];simp (disch:=omega) [gTn]
   have e6:getT a6 (t+16)=.bool (decide (key=0)):=by
    rw [<- ha6,gTp (by simp only [sPu];omega)]
    by_cases hk:key=0 <;> simp [hk]
   have hi6:RInv X a6 w5 (after st' pUv):=hi5.act (by rw [<- ha6];simp only [sPu]) (by rw [<- ha6];simp only [dPu]) fun q hq=>hg6 q (by omega)
   clear ha6
   have hki6:KI X ty h.off b o size off w.heap.size O k acc m (after st' pUv) a6 w5:=⟨hi6,hki5.row,hki5.map,hki5.srt,hki5.nz,hki5.mem⟩
   have hp6:getT a6 p=.pointer (some ⟨b,o,none⟩):=by
    rw [hg6 p (by omega),hs5 p (by omega) (by omega),hg4 p (by omega),hsm p (.inl hpv)]
    exact hp
   have hst35:KStep X.rb b (o+h.off) (o+size) m w3 w5:=KStep.of_foot (Foot.of_only honly5 ho.ne) m
   have hkeyq:∀ b y r,st'=some b->pUv b=some (y,r)->key=y:=fun b y r h1 h2=>by
    have:=hok5 b y r h1 h2
    simp only [Value.int.injEq,true_and] at this
    omega
   have hslots:∀ q,(q < v+1∨(X.T0<=q/\q < t+4))->getT a6 q=getT a4 q:=fun q hq=>by
    rw [hg6 q (by omega),hs5 q (by omega) (by omega)]
   refine wCd (t:=decide (key=0)) (by rw [eTm];exact e6) ?_
   have hgn:∀ (s:Int) (x:Bytes),(∀ b (y:Nat) r,after st' pUv=some b->pUv b=some (y,r)->s=(y:Int))->((∀ (w:World) (b o:Nat),FrTy w b false ty o)∨∃ rr,after (after (after st' pUv) pUv) (pSpan s)=some rr/\nzTags n' rr):=fun s x h2=>by
    have step:∀ rr k1 r1 s1 r2 v1 r3,st'=some rr->pUv rr=some (k1,r1)->pUv r1=some (s1,r2)->pSpan ((s1:Nat):Int) r2=some (v1,r3)->nzTags n' r3->∃ rr,after (after (after st' pUv) pUv) (pSpan s)=some rr/\nzTags n' rr:=by
     intro rr k1 r1 s1 r2 v1 r3 z0 z1 z2 z3 z4
     subst z0
     have w1:after (some rr) pUv=some r1:=after_ok z1
     have es:=h2 r1 s1 r2 w1 z2
     subst es
     rw [w1,after_ok z2,after_ok z3]
     exact ⟨r3,rfl,z4⟩
    rcases hgd with hg | ⟨rr,z0,-,hz⟩ | ⟨rr,z0,hz⟩
    ·exact .inl hg
    ·obtain ⟨k1,r1,s1,r2,v1,r3,z1,z2,z3,z4⟩:=hz
     exact .inr (step rr k1 r1 s1 r2 v1 r3 z0 z1 z2 z3 z4)
    ·obtain ⟨k1,r1,s1,r2,v1,r3,z1,-,z2,z3,z4⟩:=hz
     exact .inr (step rr k1 r1 s1 r2 v1 r3 z0 z1 z2 z3 z4)
   by_cases hk0:key=0
   ·rw [if_pos (by simpa using hk0)]
    subst hk0
    have hfr5:FrTy w5 b false ty (o+h.off):=by
     rcases hgd with hg | ⟨rr,z0,hfr3,-⟩ | ⟨rr,z0,hz⟩
     ·exact hg _ _ _
     ·exact frTy_frame false ty _ hl1 (fun j _ _=>World.cell?_of_block (a:=⟨b,j,none⟩) (honly5.block b (by omega) ho.ne)) hfr3
     ·obtain ⟨k1,r1,s1,r2,v1,r3,z1,z5,-⟩:=hz
      have:=hkeyq rr k1 r1 z0 z1
      omega
    refine rKnCase_ok (lo:=w.heap.size) hX hV q4 q5 q7 q8 q9 q10 q13 q11 hl1 hdef q2 q3 hl2.1 hoff (ho.mono (by omega)) hbw hrw (fun sb h=>(hi.src sb h).2) (by omega) hi.heap hki6 hfr5 hp6 hpv hv (by omega) ht (by omega) ?_ ?_
    ·intro a7 w7 s x z hpx hk7 hs7 hst7 eq1 eq2
     simp only [Exit.then,Exit.inBlock]
     refine fin a7 w7 s x _ acc m z.1 hk7 (fun q hq=>(hs7 q (by omega)).trans (hslots q hq)) (hst35.trans hst7) rfl ?_ (hgn s x eq1)
     rw [pTagK_step hkeyq eq1 eq2,if_pos rfl,hpx]
    ·intro a7 w7 s x z1 z2 z3 hpx eq1 eq2
     simp only [Exit.then,Exit.inBlock]
     refine hR a7 w7 z1 z2 z3 ?_
     rw [after_bind,heq,pTagK_step hkeyq eq1 eq2,if_pos rfl,hpx]
     cases after (after (after st' pUv) pUv) (pSpan s) <;> rfl
   ·rw [if_neg (by simpa using hk0)]
    refine rKnDef_ok (lo:=w.heap.size) hX q4 q5 q6 q7 q8 hS hmix hl1 hl2.1 hoff ho.ne hbS ho.hB hbw hrw (fun sb h=>(hi.src sb h).2) (by omega) hi.heap ho.orb ho.ob hki6 hp6 (by rw [hg6 _ (by omega)];exact hy5) (by omega) hpv hv (by omega) ht (by omega) ?_
    intro a7 w7 s x m' hk7 hs7 hst7 eq1 eq2
    simp only [Exit.then,Exit.inBlock]
    refine fin a7 w7 s x _ (setTag (key,x) acc) m' k hk7 (fun q hq=>(hs7 q (by omega)).trans (hslots q hq)) (hst35.trans hst7) rfl ?_ (hgn s x eq1)
    rw [pTagK_step hkeyq eq1 eq2,if_neg hk0]
 ·have hf':X.flex=false:=by simpa using hf
  rw [if_neg hf]
  have hpk:pKn X.ver X.flex (.cons h ty r)=rOk ([dT h ty],[]):=by simp only [pKn,hf',Bool.false_eq_true,if_false]
  refine wSk ?_
  simp only [Exit.then]
  refine hQ a1 w (by rw [hpk,after_rOk];exact hi1) (fun s hs=>hs1 s (by omega)) (Foot.refl _ _ _ _ _) fun rr ks u r' _ hpk2 _ _=>?_
  refine ⟨?_,?_⟩
  ·unfold TagsAt
   intro h
   exact absurd h hf
  ·simp only [HKn]
   intro h
   exact absurd h hf
end
end Go.Proofs.YtdnpafdgglpagaaGreatDoor.K
