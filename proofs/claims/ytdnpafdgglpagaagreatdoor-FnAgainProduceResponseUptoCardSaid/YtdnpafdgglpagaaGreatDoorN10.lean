/- Generic texts: R8 R9 R10 R11 R20 S18. No condition. -/
import Derived.Test.YtdnpafdgglpagaaGreatDoorN9
namespace Go.Proofs.YtdnpafdgglpagaaGreatDoor.K
open Go Go.RowKit Go.Proofs.YtdnpafdgglpagaaGreatDoor.T
set_option linter.unusedVariables false
set_option linter.unusedSimpArgs false
def pBody (ver:Int) (flex:Bool) (fs kn:Fs):Rd Tree:=rThen (pFs ver flex fs) fun xs=>rThen (pKn ver flex kn) fun z=>rOk (.mk 0 [] false (xs ++ z.1) z.2)
theorem pTy_struct (ver:Int) (flex:Bool) (S size d:Nat) (tags:Option (Nat × Nat)) (fs kn:Fs):pTy ver flex (.struct S size d tags fs kn) false=pBody ver flex fs kn:=by
 funext b
 simp [pTy,pBody,rThen,rOk]
theorem hFs_app {G:List (Nat × Bytes)->Prop} {w:World} {F:Nat->Prop} {ver:Int} {flex:Bool}:∀ (fs:Fs) (b o:Nat) (xs ys:List Tree),xs.length=Fs.len fs->(HFs G w F ver flex fs b o (xs ++ ys) ↔ HFs G w F ver flex fs b o xs)
 | .nil,_,_,_,_,_=>by simp [HFs]
 | .cons h ty r,b,o,[],ys,hl=>by simp [Fs.len] at hl
 | .cons h ty r,b,o,x :: xs,ys,hl=>by
  simp only [HFs,List.cons_append,List.headD_cons,List.tail_cons,hFs_app r b o xs ys (by simpa [Fs.len] using hl)]
theorem fitFs_app {ver:Int}:∀ (fs:Fs) (xs ys:List Tree),xs.length=Fs.len fs->(FitFs ver fs (xs ++ ys) ↔ FitFs ver fs xs)
 | .nil,_,_,_=>by simp [FitFs]
 | .cons h ty r,[],ys,hl=>by simp [Fs.len] at hl
 | .cons h ty r,x :: xs,ys,hl=>by
  simp only [FitFs,List.cons_append,List.headD_cons,List.tail_cons,fitFs_app r xs ys (by simpa [Fs.len] using hl)]
theorem drop_app {fs:Fs} {xs ys:List Tree} (h:xs.length=Fs.len fs):(xs ++ ys).drop (Fs.len fs)=ys:=by rw [<- h];simp
theorem endF_le {size:Nat} {tags:Option (Nat × Nat)} {kn:Fs} (hsz:∀ f off,tags=some (f,off)->off < size) (hl:layKn tags kn=true):endF size tags kn<=size:=by
 cases kn with
 | nil =>
  cases tags with
  | none=>exact Nat.le_refl _
  | some x=>have:=hsz x.1 x.2 rfl;simp only [endF];omega
 | cons h2 ty r =>
  cases tags with
  | none=>simp [layKn] at hl
  | some x =>
   have:=hsz x.1 x.2 rfl
   simp only [layKn,Bool.and_eq_true,decide_eq_true_eq] at hl
   simp only [endF];omega
theorem dfKn_frame {w w':World} {b o size:Nat} {tags:Option (Nat × Nat)} {kn:Fs} (hsz:∀ f off,tags=some (f,off)->off < size) (hl:layKn tags kn=true) (hc:∀ j,o+endF size tags kn<=j->j < o+size->w'.cell? ⟨b,j,none⟩=w.cell? ⟨b,j,none⟩) (h:DfKn w b o tags kn):DfKn w' b o tags kn:=by
 cases kn with
 | nil=>trivial
 | cons h2 ty r =>
  obtain ⟨⟨f,off,rfl,h1⟩,h3,h4⟩:=h
  have:=hsz f off rfl
  simp only [layKn,Bool.and_eq_true,decide_eq_true_eq] at hl
  simp only [endF] at hc
  refine ⟨⟨f,off,rfl,by rw [hc _ (by omega) (by omega)];exact h1⟩,frTy_frame false ty _ hl.1 (fun j q1 q2=>hc j (by omega) (by omega)) h3,?_⟩
  cases ty with
  | struct a sz d tg fs kn =>
   simp only [szTy,Bool.false_eq_true,if_false,knSz,decide_eq_true_eq] at hl
   obtain ⟨g1,g2,g3⟩:=h4
   exact ⟨by rw [hc _ (by omega) (by omega)];exact g1,by rw [hc _ (by omega) (by omega)];exact g2,by rw [hc _ (by omega) (by omega)];exact g3⟩
  | _=>trivial
theorem cellsN {q n:Nat} {cs:Array Value} {xs:List Value} (hl:xs.length=n) (hq:q+n<=cs.size) :
  ((cs.toList.take q ++ xs ++ cs.toList.drop (q+xs.length)).toArray).size=cs.size/\(∀ j,(j < q∨q+n<=j)->((cs.toList.take q ++ xs ++ cs.toList.drop (q+xs.length)).toArray)[j]?=cs[j]?) /\
   ∀ j u,xs[j]?=some u->((cs.toList.take q ++ xs ++ cs.toList.drop (q+xs.length)).toArray)[q+j]?=some u:=by
 refine ⟨?_,?_,?_⟩
 ·simp only [List.size_toArray,List.length_append,List.length_take,List.length_drop,Array.length_toList,hl]
  omega
 ·intro j hj
  rw [List.getElem?_toArray,hl]
  rcases hj with hj | hj
  ·rw [List.append_assoc,List.getElem?_append_left (by simp;omega),List.getElem?_take,if_pos hj,Array.getElem?_toList]
  ·rw [List.getElem?_append_right (by simp [hl];omega),List.getElem?_drop]
   simp only [List.length_append,List.length_take,Array.length_toList,hl]
   rw [show q+n+(j - (min q cs.size+n))=j by omega,Array.getElem?_toList]
 ·intro j u hu
  have hj:j < xs.length:=(List.getElem?_eq_some_iff.1 hu).1
  rw [List.getElem?_toArray,List.append_assoc,List.getElem?_append_right (by simp;omega),List.getElem?_append_left (by simp;omega)]
  simp only [List.length_take,Array.length_toList]
  rw [show q+j - min q cs.size=j by omega]
  exact hu
section
variable {X:RX}
theorem rTags_ok {S p t b o size:Nat} {tags:Option (Nat × Nat)} {O:Nat->Prop} {a:Act} {w:World} {st:Option Bytes} {Q:Exit->Act->World->Prop} {rest:List SC} (hX:X.ok)
  (hok:okRTags X.P X.I X.c S tags=true) (hi:RInv X a w st) (hp:getT a p=.pointer (some ⟨b,o,none⟩)) (ho:Opn X O b w) (hrow:RowAt w b o size) (hsz:∀ f off,tags=some (f,off)->off < size) (hpT:p < X.T0) (ht:X.T0<=t) (htN:t+rTagsT tags<=X.N)
  (hQ:∀ a' w',RInv X a' w' (after st (pTags X.flex))->(∀ s,s < t->getT a' s=getT a s)->Foot X.rb b (match tags with | none=>o+size | some (_,off)=>o+off) (o+size) w w' ->
   (∀ r u r',st=some r->pTags X.flex r=some (u,r')->FitTags u->TagsAt X.G w' (FO O w') X.flex b o tags u)->wpL X.P Q rest a' w') :
  wpL X.P Q (rTagsL X.I X.c S p tags t ++ rest) a w:=by
 have hten:=hX.ten
 cases tags with
 | none =>
  simp only [rTagsL,List.nil_append]
  have hn:X.c.never=true:=by simpa [okRTags] using hok
  have hfl:=hX.never hn
  have e:pTags X.flex=rOk []:=by rw [hfl];rfl
  refine hQ a w (by rw [e,after_rOk];exact hi) (fun _ _=>rfl) (Foot.refl _ _ _ _ _) fun r u r' _ hu _=>?_
  rw [e] at hu
  obtain ⟨rfl,rfl⟩:=rOk_some hu
  rfl
 | some z =>
  obtain ⟨f,off⟩:=z
  have hoff:=hsz f off rfl
  simp only [okRTags,Bool.and_eq_true,Bool.not_eq_true',bne_iff_ne,ne_eq] at hok
  obtain ⟨⟨⟨hn,hS⟩,hagg⟩,hfn⟩:=hok
  have htN':t+5<=X.N:=by simpa [rTagsT] using htN
  simp only [rTagsL,List.cons_append,List.nil_append,wpL]
  refine mvCond_ok hi (by omega) (by omega) (hi.flex hn) fun a1 hi1 hs1=>?_
  cases hfl:X.flex with
  | false =>
   rw [if_neg (by simp)]
   have e:pTags X.flex=rOk []:=by rw [hfl];rfl
   refine wSk ?_
   simp only [Exit.then]
   refine hQ a1 w (by rw [e,after_rOk];exact hi1) (fun s hs=>hs1 s (by omega)) (Foot.refl _ _ _ _ _) fun r u r' _ hu _=>?_
   unfold TagsAt
   intro h
   rw [hfl] at h
   cases h
  | true =>
   rw [if_pos rfl]
   have hsz1:=hi1.size
   have hrc:=hX.kr.tags hfn
   have hp1:getT a1 p=.pointer (some ⟨b,o,none⟩):=(hs1 p (by omega)).trans hp
   have hbw:b < w.heap.size:=ho.lt b ho.ob
   have hbS:X.S ≠ some b:=fun e=>ho.src b e ho.ob
   obtain ⟨cs,E,hcs,hlen⟩:=hrow
   refine wRg (ops_mv (ops_cal hrc.1 (R:=fun e w'=>∃ y,e=.returned y/\RdAt X.TR w' X.S X.rb (after st (pTags true))/\Only X.rb w w'/\(∃ m,y=.agg #[m]/\m.oneCell'=true)/\∀ b x r,st=some b->pTags true b=some (x,r)->∃ m,y=.agg #[m]/\TagsV w' (NewF X.S w w') x m) ?_ ?_))
   ·have:=hrc.2 w X.S X.rb st (Nat.lt_of_lt_of_le hX.hgb hi.heap) hi.at_ hi.src
    rw [show (([X.c.rd].map (getT (a1.put (some (t+1)) (getT a1 p)))).toArray:Array Value)=#[.pointer (some ⟨X.rb,0,none⟩)] by simp only [List.map_cons,List.map_nil];rw [gTn (by omega),hi1.rd]]
    exact this
   rintro e w1 ⟨y,rfl,hrd,honly,⟨m,rfl,hm⟩,hokv⟩
   refine ⟨_,rfl,?_⟩
   have hi2:RInv X a1 w1 (after st (pTags true)):=hi1.only hX honly hrd
   have hrow1:w1.heap[b]?=some (.cells cs E (0,0)):=by rw [honly.block b hbw ho.ne];exact hcs
   obtain ⟨k1,k2,k3⟩:=cellsN (cs:=cs) (xs:=[m]) (q:=o+off) (n:=1) rfl (by omega)
   refine ops_nilc (ad:=⟨b,o,none⟩) ?_ (ops_fa hS (b:=b) (o:=o) ?_ (oNo rfl (opw_store_aggAt (b:=b) (o:=o+off) (E:=E) (cur:=cs) (cs:=[m]) hagg ?_ ?_ hrow1 (by simp;omega) (by intro v hv;simp at hv;subst hv;exact hm) (oNi ?_))))
   ·rw [gTn (by omega),gTp (by omega)]
    exact hp1
   ·rw [gTp (by simp only [sPu];omega)]
   ·rw [eTm,gTp (by simp only [sPu];omega)]
   ·rw [eTm,gTn (by omega),gTn (by omega),gTp (by simp only [sPu];omega)]
   rw [pNo]
   simp only [Exit.then]
   refine hQ _ _ ?_ ?_ ?_ ?_
   ·rw [hfl]
    refine ((hi2.setRow ho.ne hbS ho.hB _).act (a:=a1) ?_ ?_ fun s hs=>?_)
    ·simp only [sPu]
    ·simp only [dPu]
    ·rw [gTn (by omega),gTn (by omega),gTn (by omega),gTn (by omega)]
   ·intro s hs
    rw [gTn (by omega),gTn (by omega),gTn (by omega),gTn (by omega)]
    exact hs1 s (by omega)
   ·refine (Foot.of_only honly ho.ne).trans ((foot_setRow hrow1 k1 k2).mono (Nat.le_refl _) (by omega))
   ·intro r u r' hst hu hfit
    unfold TagsAt
    intro _
    rw [hfl] at hu
    obtain ⟨m',h1,h2⟩:=hokv r u r' hst hu
    simp only [Value.agg.injEq,Array.mk.injEq,List.cons.injEq,and_true] at h1
    subst h1
    have hFr:∀ k,NewF X.S w w1 k->FO O (w1.setRow b (cs.toList.take (o+off) ++ [m] ++ cs.toList.drop (o+off+[m].length)).toArray) k/\(w1.setRow b (cs.toList.take (o+off) ++ [m] ++ cs.toList.drop (o+off+[m].length)).toArray).heap[k]?=w1.heap[k]?:=fun k hk=>by
     have:=newF_fo ho honly.size (fun sb hsb=>(hi.src sb hsb).2) k hk
     exact ⟨⟨by simpa using this.1,this.2⟩,setRow_other _ _ _ _ fun e=>this.2 (e ▸ ho.ob)⟩
    have h3:=tagsV_frame hFr h2
    refine ⟨hX.G u,hfit.1,hfit.2.1,hfit.2.2,?_⟩
    have hc:(w1.setRow b (cs.toList.take (o+off) ++ [m] ++ cs.toList.drop (o+off+[m].length)).toArray).cell? ⟨b,o+off,none⟩=some m:=by
     rw [cell_setRow_same _ _ _ _ _ _ _ hrow1]
     exact k3 0 m rfl
    rw [hc]
    rcases h3 with ⟨rfl,rfl⟩ | ⟨r1,es,clock,rfl,q2,q3,q4⟩
    ·exact .inl ⟨rfl,rfl⟩
    ·exact .inr ⟨r1,es,clock,rfl,q2,q3,q4⟩
def KV:Fs->Prop
 | .nil=>True
 | .cons _ ty _=>∀ X':RX,X'.ok->ValOK X' ty
def KGood (flex:Bool) (st:Option Bytes):Fs->Prop
 | .nil=>True
 | .cons _ ty _=>flex=true->(∀ (w:World) (b o:Nat),FrTy w b false ty o)∨∃ rr n r1,st=some rr/\pUv rr=some (n,r1)/\zfTags n r1
theorem knTags_ok {kn:Fs} (hX:X.ok) (hV:KV kn) {S p v t bk b o size:Nat} {tags:Option (Nat × Nat)} {O:Nat->Prop} {a:Act} {w:World} {st:Option Bytes} {Q:Exit->Act->World->Prop} {rest:List SC}
  (hokt:okRTags X.P X.I X.c S tags=true) (hok:okRKn X.P X.I X.c S tags kn=true) (hlay:layKn tags kn=true) (hsz:∀ f off,tags=some (f,off)->off < size) (hdef:DefKn X.P kn) (hi:RInv X a w st) (hp:getT a p=.pointer (some ⟨b,o,none⟩)) (ho:Opn X O b w) (hrow:RowAt w b o size)
  (hfr:DfKn w b o tags kn) (hgood:KGood X.flex st kn) (hpv:p < v) (hv:X.v0<=v) (hvT:v+rVk kn<=X.T0) (ht:X.T0<=t) (htN:t+rKT X.c tags kn<=X.N)
  (hQ:∀ a' w',RInv X a' w' (after st (pKn X.ver X.flex kn))->RSame X a a' v t->Foot X.rb b (o+endF size tags kn) (o+size) w w' ->
   (∀ rr ks u r',st=some rr->pKn X.ver X.flex kn rr=some ((ks,u),r')->FitTags u->FitKn X.ver kn ks->TagsAt X.G w' (FO O w') X.flex b o tags u/\HKn X.G w' (FO O w') X.ver X.flex kn b o ks u)->wpL X.P Q rest a' w')
  (hR:RetOK X Q (after st (pKn X.ver X.flex kn)=none)) :
  wpL X.P Q (rTagsK X.I X.c S p tags v t bk kn ++ rest) a w:=by
 cases kn with
 | cons h ty r=>exact rKn_ok hX hV hX.mix hokt hok hlay hsz hdef hi hp ho hrow hfr hgood hpv hv hvT ht htN hQ hR
 | nil =>
  simp only [rTagsK]
  simp only [rVk] at hvT
  simp only [rKT] at htN
  have he:∀ st:Option Bytes,after st (pKn X.ver X.flex .nil)=after st (pTags X.flex):=fun st=>by
   cases st with
   | none=>rfl
   | some bb=>simp only [pKn,after,Option.bind_some,rThen];cases pTags X.flex bb <;> rfl
  refine rTags_ok hX hokt hi hp ho hrow hsz (by omega) ht htN fun a' w' h1 h2 h3 h4=>?_
  refine hQ a' w' (by rw [he];exact h1) (fun s hs=>h2 s (by have:=hX.ten;omega)) (h3.mono (by cases tags <;> simp [endF]) (Nat.le_refl _)) fun rr ks u r' hst hpk hfu _=>?_
  simp only [pKn] at hpk
  obtain ⟨u',r1,q1,q2⟩:=rThen_some hpk
  obtain ⟨q3,rfl⟩:=rOk_some q2
  simp only [Prod.mk.injEq] at q3
  obtain ⟨rfl,rfl⟩:=q3
  exact ⟨h4 rr u' _ hst q1 hfu,by simp [HKn]⟩
theorem after_body (ver:Int) (flex:Bool) (fs kn:Fs) (st:Option Bytes):after st (pBody ver flex fs kn)=after (after st (pFs ver flex fs)) (pKn ver flex kn):=by
 unfold pBody
 cases st with
 | none=>rfl
 | some bb =>
  cases hp1:pFs ver flex fs bb with
  | none=>simp [after,rThen,hp1]
  | some z =>
   rw [after_then _ _ _ rfl hp1,after_ok hp1]
   cases hp2:pKn ver flex kn z.2 with
   | none=>simp [after,rThen,hp2]
   | some y=>rw [after_then _ _ _ rfl hp2,after_ok hp2];exact after_rOk _ _
theorem body_ok {fs kn:Fs} {S size d p v t bk b o:Nat} {tags:Option (Nat × Nat)} {O:Nat->Prop} {a:Act} {w:World} {st:Option Bytes} {Q:Exit->Act->World->Prop} {rest:List SC} (hX:X.ok) (hF:FsOK X fs) (hV:KV kn)
  (hok:okRFs X.P X.I X.c S fs=true) (hokt:okRTags X.P X.I X.c S tags=true) (hokk:okRKn X.P X.I X.c S tags kn=true) (halw:knAlw kn=true) (hlay:layTy false (.struct S size d tags fs kn)=true) (hdef:DefFs X.P fs) (hdefk:DefKn X.P kn) (hi:RInv X a w st) (hp:getT a p=.pointer (some ⟨b,o,none⟩)) (ho:Opn X O b w) (hrow:RowAt w b o size) (hfr:FrFs w b fs o) (hfrk:DfKn w b o tags kn)
  (hpv:p < v) (hv:X.v0<=v) (hvT:v+rVs fs+rVk kn<=X.T0) (ht:X.T0<=t) (htN:t+rFT X.c fs+rKT X.c tags kn<=X.N)
  (hQ:∀ a' w',RInv X a' w' (after st (pBody X.ver X.flex fs kn))->RSame X a a' v t->Foot X.rb b o (o+size) w w' ->
   (∀ r x r',st=some r->pBody X.ver X.flex fs kn r=some (x,r')->FitTy X.ver (.struct S size d tags fs kn) x->HFs X.G w' (FO O w') X.ver X.flex fs b o x.l/\TagsAt X.G w' (FO O w') X.flex b o tags x.u/\HKn X.G w' (FO O w') X.ver X.flex kn b o (x.l.drop (Fs.len fs)) x.u)->wpL X.P Q rest a' w')
  (hR:RetOK X Q (after st (pBody X.ver X.flex fs kn)=none)) :
  wpL X.P Q (rFs X.I X.c S p v t bk fs ++ (rTagsK X.I X.c S p tags (v+rVs fs) (t+rFT X.c fs) (bk+rBs fs) kn ++ rest)) a w:=by
 simp only [layTy,Bool.and_eq_true] at hlay
 obtain ⟨⟨hlf,hlt⟩,hlk⟩:=hlay
 have hszt:∀ f off,tags=some (f,off)->off < size:=fun f off e=>by
  subst e
  simpa using hlt
 have hend:=endF_le hszt hlk
 refine hF S p v t bk b o 0 (endF size tags kn) O a w st Q _ hok hlf hdef hi hp ho (hrow.mono (by omega)) hfr hpv hv (by omega) ht (by omega) ?_ ?_
 ·intro a1 w1 hi1 hs1 hf1 hv1
  have hg:KGood X.flex (after st (pFs X.ver X.flex fs)) kn:=by
   cases kn with
   | nil=>trivial
   | cons h ty r=>exact fun _=>.inl (frTy_alw halw)
  refine knTags_ok hX hV hokt hokk hlk hszt hdefk hi1 ((hs1 p (.inl hpv)).trans hp) (ho.mono hf1.size) (hf1.rowAt hrow) (dfKn_frame hszt hlk (fun j h1 h2=>hf1.cell hrow (.inr h1)) hfrk) hg (by omega) (by omega) (by omega) (by omega) (by omega) ?_ ?_
  ·intro a2 w2 hi2 hs2 hf2 hv2
   refine hQ a2 w2 (by rw [after_body];exact hi2) (fun s hs=>(hs2 s (by omega)).trans (hs1 s hs)) ((hf1.mono (by omega) (by omega)).trans (hf2.mono (by omega) (Nat.le_refl _))) ?_
   intro r x r' hst hpx hfit
   unfold pBody at hpx
   obtain ⟨xs,r1,q1,q2⟩:=rThen_some hpx
   obtain ⟨z,r2,q3,q4⟩:=rThen_some q2
   obtain ⟨rfl,rfl⟩:=rOk_some q4
   have hl:=pFs_len X.ver X.flex fs _ _ _ q1
   simp only [FitTy,Tree.l,Tree.u] at hfit
   have hfit':FitFs X.ver fs (xs ++ z.1)/\FitTags z.2/\FitKn X.ver kn ((xs ++ z.1).drop (Fs.len fs))/\NoZ kn z.2:=by
    rcases hfit with h | h
    ·simp [tNull] at h
    ·exact h
   rw [drop_app hl,fitFs_app fs xs z.1 hl] at hfit'
   have hst2:after st (pFs X.ver X.flex fs)=some r1:=by rw [hst];exact after_ok q1
   have h2:=hv2 r1 z.1 z.2 _ hst2 q3 hfit'.2.1 hfit'.2.2.1
   simp only [Tree.l,Tree.u]
   rw [drop_app hl,hFs_app fs b o xs z.1 hl]
   refine ⟨?_,h2⟩
   exact hFs_frame (hf2.fo (ho.mono hf1.size)) X.ver X.flex fs 0 _ b o xs hlf (fun j h1 h2=>hf2.cell (hf1.rowAt hrow) (.inl (by omega))) (hv1 r xs r1 hst q1 hfit'.1)
  ·intro a' w' h1 h2 h3 h4
   exact hR a' w' h1 h2 h3 (by rw [after_body];exact h4)
 ·intro a' w' h1 h2 h3 h4
  refine hR a' w' h1 h2 h3 ?_
  rw [after_body,h4]
  rfl
theorem defBody_ok {fs kn:Fs} {S size d v t bk b o:Nat} {tags:Option (Nat × Nat)} {O:Nat->Prop} {a:Act} {w:World} {st:Option Bytes} {Q:Exit->Act->World->Prop} (hX:X.ok) (hF:FsOK X fs) (hV:KV kn)
  (hok:okRFs X.P X.I X.c S fs=true) (hokt:okRTags X.P X.I X.c S tags=true) (hokk:okRKn X.P X.I X.c S tags kn=true) (halw:knAlw kn=true) (hlay:layTy false (.struct S size d tags fs kn)=true) (hdef:DefTy X.P (.struct S size d tags fs kn)) (hi:RInv X a w st) (hp:getT a v=.pointer (some ⟨b,o,none⟩)) (ho:Opn X O b w) (hrow:RowAt w b o size) (hfr:FrFs w b fs o/\FrKn w b tags kn o)
  (hv:X.v0<=v) (hvT:v+2+rVs fs+rVk kn<=X.T0) (ht:X.T0<=t) (htN:t+3+rFT X.c fs+rKT X.c tags kn<=X.N)
  (hQ:∀ a' w',RInv X a' w' (after st (pBody X.ver X.flex fs kn))->RSame X a a' (v+1) t->Foot X.rb b o (o+size) w w' ->
   (∀ r x r',st=some r->pBody X.ver X.flex fs kn r=some (x,r')->FitTy X.ver (.struct S size d tags fs kn) x->HFs X.G w' (FO O w') X.ver X.flex fs b o x.l/\TagsAt X.G w' (FO O w') X.flex b o tags x.u/\HKn X.G w' (FO O w') X.ver X.flex kn b o (x.l.drop (Fs.len fs)) x.u)->Q .normal a' w')
  (hR:RetOK X Q (after st (pBody X.ver X.flex fs kn)=none)) :
  wpL X.P Q ([.reg [mv t v,cal (t+1) d [t]],.reg [mv (t+2) v,asg (v+1) (t+2)]] ++ (rFs X.I X.c S (v+1) (v+2) (t+3) bk fs ++ rTagsK X.I X.c S (v+1) tags (v+2+rVs fs) (t+3+rFT X.c fs) (bk+rBs fs) kn)) a w:=by
 have hsz:=hi.size
 have hten:=hX.ten
 obtain ⟨⟨out,hD,⟨hout,houtk,hks⟩,hall⟩,hdfs,hdfk⟩:=(by simpa only [DefTy] using hdef:(∃ out,DefAt X.P d size out/\(outFs out fs 0=true/\outKn out tags kn 0=true/\knSet out size kn)/\(out.all fun x=>decide (x.1 < size))=true)/\DefFs X.P fs/\DefKn X.P kn)
 obtain ⟨cs,E,hcs,hlen⟩:=hrow
 have hbS:X.S ≠ some b:=fun e=>ho.src b e ho.ob
 simp only [List.cons_append,List.nil_append,wpL]
 refine wRg (ops_mv (ops_cal hD.1 (R:=fun e w'=>e=.returned (.tuple #[])/\w'=w.setRow b (dSetAll o out cs)) ?_ ?_))
 ·have:=hD.2 w b o cs E hcs hlen
  rw [show (([t].map (getT (a.put (some t) (getT a v)))).toArray:Array Value)=#[.pointer (some ⟨b,o,none⟩)] by simp only [List.map_cons,List.map_nil];rw [gTp (by omega),hp]]
  exact this
 rintro e w1 ⟨rfl,hw1⟩
 refine ⟨_,rfl,oNi ?_⟩
 simp only [Exit.then]
 refine wRg (ops_mv (ops_asg (oNi ?_)))
 generalize ha1:((((a.put (some t) (getT a v)).put (some (t+1)) (.tuple #[])).put (some (t+2)) (getT ((a.put (some t) (getT a v)).put (some (t+1)) (.tuple #[])) v)).put (some (v+1)) (getT (((a.put (some t) (getT a v)).put (some (t+1)) (.tuple #[])).put (some (t+2)) (getT ((a.put (some t) (getT a v)).put (some (t+1)) (.tuple #[])) v)) (t+2)))=a1
 have hs1:a1.tmps.size=X.N:=by rw [<- ha1];simp only [sPu];exact hsz
 have hg1:∀ s,s ≠ v+1->s < t->getT a1 s=getT a s:=fun s h1 h2=>by rw [<- ha1,gTn h1,gTn (by omega),gTn (by omega),gTn (by omega)]
 have hp1:getT a1 (v+1)=.pointer (some ⟨b,o,none⟩):=by
  rw [<- ha1,gTp (by simp only [sPu];omega),gTp (by simp only [sPu];omega),gTn (by omega),gTn (by omega)]
  exact hp
 have hds:(dSetAll o out cs).size=cs.size:=dSetAll_size _ _ _
 have hother:∀ j,(∀ x ∈ out,x.1 ≠ j)->(dSetAll o out cs)[o+j]?=cs[o+j]?:=fun j hj=>dSetAll_other out cs fun x hx=>by have:=hj x hx;omega
 have hall':∀ x ∈ out,x.1 < size:=fun x hx=>by simpa using (List.all_eq_true.1 hall) x hx
 have hf1:Foot X.rb b o (o+size) w w1:=by
  rw [hw1]
  refine foot_setRow hcs hds fun j hj=>dSetAll_other out cs fun x hx=>?_
  have:=hall' x hx
  omega
 have hi1:RInv X a1 w1 st:=by
  rw [hw1]
  refine ((hi.setRow ho.ne hbS ho.hB _).act (a:=a) (by rw [hs1,hsz]) (by rw [<- ha1];simp [dPu]) fun s hs=>hg1 s (by omega) (by omega))
 have hfr1:FrFs w1 b fs o:=by
  have:=outFs_ok (w:=w) (w':=w1) (b:=b) (q:=o) (out:=out) (fun j hj=>by
   rw [hw1,cell_setRow_same _ _ _ _ _ _ _ hcs,cell_of_row _ _ _ _ _ _ hcs]
   exact hother j hj) fs 0 hout (by simpa using hfr.1)
  simpa using this
 have hfrk1:DfKn w1 b o tags kn:=by
  have:=outKn_ok (w:=w) (w':=w1) (b:=b) (q:=o) (out:=out) (fun j hj=>by
   rw [hw1,cell_setRow_same _ _ _ _ _ _ _ hcs,cell_of_row _ _ _ _ _ _ hcs]
   exact hother j hj) tags kn 0 houtk (by simpa using hfr.2)
  rw [Nat.add_zero] at this
  cases kn with
  | nil=>trivial
  | cons h2 ty r =>
   simp only [FrKn] at this
   obtain ⟨g1,g2,g3⟩:=this
   refine ⟨g1,g2,?_⟩
   cases ty with
   | struct a sz d tg fs kn =>
    obtain ⟨z1,z2⟩:=hks cs o hlen
    exact ⟨by rw [hw1,cell_setRow_same _ _ _ _ _ _ _ hcs];exact z1,by rw [hw1,cell_setRow_same _ _ _ _ _ _ _ hcs];exact z2,g3⟩
   | _=>trivial
 have hb:=body_ok (rest:=[]) (p:=v+1) (v:=v+2) (t:=t+3) (bk:=bk) (O:=O) (Q:=Q) hX hF hV hok hokt hokk halw hlay hdfs hdfk hi1 hp1 (ho.mono hf1.size) (hf1.rowAt ⟨cs,E,hcs,hlen⟩) hfr1 hfrk1 (by omega) (by omega) (by omega) (by omega) htN ?_ hR
 ·simpa only [List.append_nil,Exit.then] using hb
 ·intro a' w' h1 h2 h3 h4
  simp only [wpL]
  refine hQ a' w' h1 (fun s hs=>(h2 s (by omega)).trans (hg1 s (by omega) (by omega))) (hf1.trans h3) h4
theorem elemOK_struct (hX:X.ok) {S size d:Nat} {tags:Option (Nat × Nat)} {fs kn:Fs} (hF:FsOK X fs) (hV:KV kn):ElemOK X (.struct S size d tags fs kn):=by
 intro T E sz sa si v t bk bl l cap idx O a w st Q hok hsl hlay hdef hi ha_ hidx hlt ho hrow hfr hsav hsiv hv hvT ht htN hQ hR
 have hten:=hX.ten
 have hsz:=hi.size
 simp only [okRElem,Bool.and_eq_true,beq_iff_eq] at hok
 obtain ⟨⟨⟨⟨⟨rfl,hz⟩,hokt⟩,hokf⟩,hokk⟩,halw⟩:=hok
 simp only [rVE] at hvT
 simp only [rET] at htN
 simp only [FrTy,Bool.false_eq_true,if_false] at hfr
 simp only [rElem,List.cons_append,List.nil_append,wpL]
 refine wRg (ops_mv (ops_mv (oNo rfl (opw_index (E:=E) (n:=size) (b:=bl) (o:=0) (len:=l) (cap:=cap) (j:=idx) (k:=.i32) hsl ?_ ?_ hlt (ops_asg (oNi ?_))))))
 ·rw [eTm,gTn (by omega),gTp (by omega)]
  exact ha_
 ·rw [eTm,gTp (by rw [sPu];omega),gTn (by omega)]
  exact hidx
 generalize ha1:((((a.put (some t) (getT a sa)).put (some (t+1)) (getT (a.put (some t) (getT a sa)) si)).put (some (t+2)) (Value.pointer (some ⟨bl,0+idx * size,none⟩))).put (some v) (getT (((a.put (some t) (getT a sa)).put (some (t+1)) (getT (a.put (some t) (getT a sa)) si)).put (some (t+2)) (Value.pointer (some ⟨bl,0+idx * size,none⟩))) (t+2)))=a1
 have hs1:a1.tmps.size=X.N:=by rw [<- ha1];simp only [sPu];exact hsz
 have hg1:∀ s,s ≠ v->(s < t∨t+3<=s)->getT a1 s=getT a s:=fun s h1 h2=>by rw [<- ha1,gTn h1,gTn (by omega),gTn (by omega),gTn (by omega)]
 have hp1:getT a1 v=.pointer (some ⟨bl,idx * size,none⟩):=by
  rw [<- ha1,gTp (by simp only [sPu];omega),gTp (by simp only [sPu];omega),Nat.zero_add]
 have hi1:RInv X a1 w st:=hi.act (by rw [hs1,hsz]) (by rw [<- ha1];simp [dPu]) fun s hs=>hg1 s (by omega) (by omega)
 simp only [Exit.then]
 have hb:=defBody_ok (v:=v) (t:=t+3) (bk:=bk) (Q:=Q) hX hF hV hokf hokt hokk halw hlay hdef hi1 hp1 ho hrow hfr hv (by omega) (by omega) (by omega) ?_ ?_
 ·simpa only [List.cons_append,List.nil_append,wpL,Exit.then,Nat.add_assoc,Nat.reduceAdd] using hb
 ·intro a' w' h1 h2 h3 h4
  refine hQ a' w' (by rw [pTy_struct];exact h1) (fun s hs=>(h2 s (by omega)).trans (hg1 s (by omega) (by omega))) h3 ?_
  intro r x r' hst hpx hfit
  rw [pTy_struct] at hpx
  simp only [HTy,Bool.false_eq_true,if_false]
  exact h4 r x r' hst hpx hfit
 ·intro a' w' h1 h2 h3 h4
  exact hR a' w' h1 h2 h3 (by rw [pTy_struct];exact h4)
end
set_option maxHeartbeats 200000
theorem pI8_after (st:Option Bytes):after st (pPrim false false .i8)=after st (pInt 1):=by
 cases st with
 | none=>rfl
 | some b =>
  simp only [after,pPrim,PK.width]
  cases h:pInt 1 b with
  | none=>simp [rThen,h]
  | some z=>simp [rThen,h,rOk]
theorem pI8_val {b r:Bytes} {n:Int} (h:pInt 1 b=some (n,r)):pPrim false false .i8 b=some (tN n,r):=by
 simp [pPrim,PK.width,rThen,h,rOk]
section
variable {X:RX}
theorem fo_sub {O O':Nat->Prop} {w:World} (h:∀ k,O k->O' k):∀ k,FO O' w k->FO O w k/\w.heap[k]?=w.heap[k]?:=fun k ⟨h1,h2⟩=>⟨⟨h1,fun hk=>h2 (h k hk)⟩,rfl⟩
theorem str_frame {G:List (Nat × Bytes)->Prop} {F F':Nat->Prop} {w w':World} {ver:Int} {flex:Bool} {S size d b o:Nat} {tags:Option (Nat × Nat)} {fs kn:Fs} {x:Tree} (hlay:layTy false (.struct S size d tags fs kn)=true) (hF:∀ k,F k->F' k/\w'.heap[k]?=w.heap[k]?)
  (hc:∀ j,o<=j->j < o+size->w'.cell? ⟨b,j,none⟩=w.cell? ⟨b,j,none⟩) (h:HFs G w F ver flex fs b o x.l/\TagsAt G w F flex b o tags x.u/\HKn G w F ver flex kn b o (x.l.drop (Fs.len fs)) x.u):HFs G w' F' ver flex fs b o x.l/\TagsAt G w' F' flex b o tags x.u/\HKn G w' F' ver flex kn b o (x.l.drop (Fs.len fs)) x.u:=by
 have:=hTy_frame (G:=G) hF ver flex (.struct S size d tags fs kn) false b o x hlay (by simpa [szTy] using hc)
 simp only [HTy,Bool.false_eq_true,if_false] at this
 exact this h
theorem valOK_struct (hX:X.ok) {S' size d:Nat} {tags:Option (Nat × Nat)} {fs kn:Fs} (hF:FsOK X fs) (hV:KV kn):ValOK X (.struct S' size d tags fs kn):=by
 intro S p h v t bk b o O a w st Q hok hlay hdef hS hnull hi hp ho hrow hfr hpv hv hvT ht htN hQ hR
 have hten:=hX.ten
 have hsz:=hi.size
 simp only [okRVal,Bool.and_eq_true,Bool.or_eq_true,Bool.not_eq_true',bne_iff_ne,ne_eq] at hok
 obtain ⟨⟨⟨⟨⟨hen,hnu⟩,hokt⟩,hokf⟩,hokk⟩,halw⟩:=hok
 have hlay':layTy false (.struct S' size d tags fs kn)=true:=by simpa only [layTy] using hlay
 simp only [rV] at hvT
 simp only [rVT] at htN
 simp only [szTy] at hrow hQ
 simp only [FrTy] at hfr
 have hbw:b < w.heap.size:=ho.lt b ho.ob
 have hbS:X.S ≠ some b:=fun e=>ho.src b e ho.ob
 unfold rValL
 by_cases hn:0<=h.null
 ·
  have hnb:nuOf h=true:=by simp [nuOf,hn]
  rw [if_pos hn] at hvT htN ⊢
  rw [hnb] at hrow hfr hQ hR
  simp only [if_true] at hrow hfr hQ
  rcases hnu with hnu | ⟨⟨⟨hT,hfn⟩,hro⟩,hz⟩
  ·rw [hnb] at hnu;cases hnu
  obtain ⟨i,z,hii,hiz,hzc,hzs,h0,hby,hfrz⟩:=zOK_of hz
  have hpt:pTy X.ver X.flex (.struct S' size d tags fs kn) true=rThen (pInt 1) fun p=>if p=-1 then rOk tNull else pBody X.ver X.flex fs kn:=by
   simp only [pTy,if_true,Bool.true_and,decide_eq_true_eq]
   rfl
  obtain ⟨cs,E,hcs,hlen⟩:=hrow
  have hrc:=hX.kr.num .i8 rfl hfn
  refine wpL_one (wSq (rGet_ok hX hrc hi hv (by omega) (by omega) (by omega) fun a1 w1 y hi1 hy1 hs1 honly hty hokv=>?_))
  simp only [Exit.then]
  rw [pI8_after] at hi1
  obtain ⟨m,rfl⟩:=hty
  have hsz1:=hi1.size
  have hrow1:w1.heap[b]?=some (.cells cs E (0,0)):=by rw [honly.block b hbw ho.ne];exact hcs
  have hg1:∀ s,(s < v∨(X.T0<=s/\s < t))->getT a1 s=getT a s:=fun s hs=>hs1 s (by omega) (by omega)
  have hm:∀ r n r',st=some r->pInt 1 r=some (n,r')->m=n:=by
   intro r n r' hst hp1
   have:=hokv r (tN n) r' hst (pI8_val hp1) (by simp [tN,Tree.s])
   simpa [PVal,tN,Tree.n] using this
  have skip:∀ (a2:Act),RInv X a2 w1 (after st (pInt 1))->(∀ s,(s < v∨(X.T0<=s/\s < t))->getT a2 s=getT a s)->(m=-1∨after st (pInt 1)=none)->Q .normal a2 w1:=by
   intro a2 hi2 hs2 hm1
   have e:after st (pTy X.ver X.flex (.struct S' size d tags fs kn) true)=after st (pInt 1):=by
    rw [hpt]
    cases st with
    | none=>rfl
    | some bb =>
     cases hp1:pInt 1 bb with
     | none=>simp [after,rThen,hp1]
     | some zz =>
      rw [after_then _ _ _ rfl hp1,after_ok hp1]
      rcases hm1 with hm1 | hm1
      ·rw [if_pos ((hm bb zz.1 zz.2 rfl hp1).symm.trans hm1)]
       exact after_rOk _ _
      ·rw [after_ok hp1] at hm1
       cases hm1
   refine hQ a2 w1 (by rw [e];exact hi2) hs2 (Foot.of_only honly ho.ne) fun r x r' hst hpx hfit=>?_
   rw [hpt] at hpx
   obtain ⟨n,r1,q1,q2⟩:=rThen_some hpx
   have hmn:=hm r n r1 hst q1
   have hm2:n=-1:=by
    rcases hm1 with hm1 | hm1
    ·omega
    ·rw [hst,after_ok q1] at hm1
     cases hm1
   rw [if_pos hm2] at q2
   obtain ⟨rfl,rfl⟩:=rOk_some q2
   simp only [HTy,if_true,tNull,Tree.null]
   rw [honly.cell (show (⟨b,o+h.off,none⟩:Addr).block < w.heap.size from hbw) ho.ne]
   exact hfr
  refine wSq (wRg (ops_mv (oNo rfl (opw_cmp (op:=.neq) (k:=.i8) (m:=m) (n:=-1) (r:=(m != -1)) ?_ rfl (by simp) (ops_mv ?_)))))
  ·rw [eTm,gTp (by omega)]
   exact hy1
  generalize ha2:(((a1.put (some (t+1)) (getT a1 v)).put (some (t+2)) (.bool (m != -1))).put (some (t+3)) (getT ((a1.put (some (t+1)) (getT a1 v)).put (some (t+2)) (.bool (m != -1))) (t+2)))=a2
  have s2:a2.tmps.size=X.N:=by rw [<- ha2];simp only [sPu];exact hsz1
  have d2:a2.defers=a1.defers:=by rw [<- ha2];simp [dPu]
  have g2:∀ s,s<=t->getT a2 s=getT a1 s:=fun s hs=>by rw [<- ha2,gTn (by omega),gTn (by omega),gTn (by omega)]
  have v22:getT a2 (t+2)=.bool (m != -1):=by rw [<- ha2,gTn (by omega),gTp (by rw [sPu];omega)]
  have v23:getT a2 (t+3)=.bool (m != -1):=by rw [<- ha2,gTp (by simp only [sPu];omega),gTp (by rw [sPu];omega)]
  by_cases hm1:m=-1
  ·have hb:(m != -1)=false:=by simp [hm1]
   unfold opsw
   refine ⟨t+3,false,rfl,by omega,.inl (by rw [v23,hb]),?_⟩
   rw [if_neg (by simp)]
   refine oNo rfl (opw_pick (b:=false) ?_ (oNi ?_))
   ·rw [eTm,gTn (by omega),v23,hb]
   rw [if_neg (by simp),eCo]
   refine wCd (t:=false) (by rw [eTm,gTp (by rw [sPu];omega)]) ?_
   rw [if_neg (by simp)]
   refine wSk (skip _ (hi1.act (by simp only [sPu];rw [s2,hsz1]) (by simp only [dPu];exact d2) fun s hs=>?_) (fun s hs=>?_) (.inl hm1))
   ·rw [gTn (by omega),gTn (by omega)]
    exact g2 s (by omega)
   ·rw [gTn (by omega),gTn (by omega),g2 s (by omega)]
    exact hg1 s hs
  ·have hb:(m != -1)=true:=by simp [hm1]
   unfold opsw
   refine ⟨t+3,true,rfl,by omega,.inl (by rw [v23,hb]),?_⟩
   rw [if_pos rfl]
   obtain ⟨fn,f1,f2,f3⟩:=hX.kr.okF hro
   refine opw_call (R:=fun e w'=>e=.returned (.bool (after st (pInt 1)).isSome)/\w'=w1) f1 f2 f3 ?_ ?_
   ·have:=hX.kr.ok hro w1 X.S X.rb _ hi1.at_
    rw [show ((#[Operand.tmp X.c.rd].map a2.eval):Array Value)=#[.pointer (some ⟨X.rb,0,none⟩)] by simp [eTm,g2 X.c.rd (by omega),hi1.rd]]
    exact this
   rintro e w2 ⟨rfl,rfl⟩
   refine ⟨_,rfl,?_⟩
   refine oNo rfl (opw_pick (b:=true) ?_ (oNi ?_))
   ·rw [eTm,gTn (by omega),v23,hb]
   rw [if_pos rfl]
   generalize ha3:((a2.put (some (t+4)) (.bool (after st (pInt 1)).isSome)).put (some (t+5)) ((a2.put (some (t+4)) (.bool (after st (pInt 1)).isSome)).eval (.tmp (t+4))))=a3
   have s3:a3.tmps.size=X.N:=by rw [<- ha3];simp only [sPu];exact s2
   have d3:a3.defers=a1.defers:=by rw [<- ha3];simp only [dPu];exact d2
   have g3:∀ s,s<=t->getT a3 s=getT a1 s:=fun s hs=>by rw [<- ha3,gTn (by omega),gTn (by omega)];exact g2 s hs
   have v3:getT a3 (t+5)=.bool (after st (pInt 1)).isSome:=by rw [<- ha3,gTp (by rw [sPu];omega),eTm,gTp (by omega)]
   have hi3:RInv X a3 w2 (after st (pInt 1)):=hi1.act (by rw [s3,hsz1]) d3 fun s hs=>g3 s (by omega)
   refine wCd (t:=(after st (pInt 1)).isSome) (by rw [eTm,v3]) ?_
   cases hst1:after st (pInt 1) with
   | none =>
    rw [hst1] at skip hi3
    simp only [Option.isSome_none,Bool.false_eq_true,if_false]
    exact wSk (skip a3 hi3 (fun s hs=>(g3 s (by omega)).trans (hg1 s hs)) (.inr rfl))
   | some r1 =>
    simp only [Option.isSome_some,if_true]
    obtain ⟨r0,rfl⟩:∃ r0,st=some r0:=by
     cases st with
     | none=>simp [after] at hst1
     | some r0=>exact ⟨r0,rfl⟩
    obtain ⟨n,hp1⟩:∃ n,pInt 1 r0=some (n,r1):=by
     cases hp1:pInt 1 r0 with
     | none=>rw [after_no hp1] at hst1;cases hst1
     | some zz =>
      rw [after_ok hp1] at hst1
      cases hst1
      exact ⟨zz.1,rfl⟩
    have hmn:=hm r0 n r1 rfl hp1
    have hn1:¬ n=-1:=by omega
    have e:after (some r0) (pTy X.ver X.flex (.struct S' size d tags fs kn) true)=after (some r1) (pBody X.ver X.flex fs kn):=by
     rw [hpt,after_then _ _ _ rfl hp1,if_neg hn1]
    rw [hst1] at hi3
    refine wpL_seqs _ _ _ ?_
    simp only [List.cons_append,List.nil_append,wpL]
    have hp3:getT a3 p=.pointer (some ⟨b,o,none⟩):=((g3 p (by omega)).trans (hg1 p (.inl hpv))).trans hp
    have hnew:=heap_alloc_new w2 (.cells z.cells S')
    have hb2:b < w2.heap.size:=Nat.lt_of_lt_of_le hbw honly.size
    have hrowA:(w2.alloc (.cells z.cells S')).heap[b]?=some (.cells cs E (0,0)):=by rw [Below.heap_alloc _ _ _ hb2];exact hrow1
    refine wRg (ops_mv (oNo rfl (opw_alloc hii hiz (ops_nilc (ad:=⟨b,o,none⟩) ?_ (ops_fa hS (b:=b) (o:=o) ?_ (oNo rfl (opw_store_one (ad:=⟨b,o+h.off,none⟩) (v:=.pointer (some ⟨w2.heap.size,0,none⟩)) (v0:=cs[o+h.off]'(by omega)) hT ?_ ?_ rfl ?_ ?_ (oNi ?_))))))))
    ·rw [gTn (by omega),gTp (by omega)]
     exact hp3
    ·rw [gTp (by simp only [sPu];omega)]
    ·rw [eTm,gTp (by simp only [sPu];omega)]
    ·rw [eTm,gTn (by omega),gTn (by omega),gTp (by simp only [sPu];omega)]
    ·rw [cell_of_row _ _ _ _ _ _ hrowA]
     exact Array.getElem?_eq_getElem _
    ·simp [World.frozen?,hrowA]
    rw [pNo,setCell_eq_setRow _ _ _ _ _ _ _ hrowA]
    generalize ha4:((((a3.put (some (t+6)) (getT a3 p)).put (some (t+7)) (.pointer (some ⟨w2.heap.size,0,none⟩))).put (some (t+8)) (.pointer (some ⟨b,o,none⟩))).put (some (t+9)) (.pointer (some ⟨b,o+h.off,none⟩)))=a4
    have s4:a4.tmps.size=X.N:=by rw [<- ha4];simp only [sPu];exact s3
    have d4:a4.defers=a1.defers:=by rw [<- ha4];simp only [dPu];exact d3
    have g4:∀ s,s<=t->getT a4 s=getT a1 s:=fun s hs=>by rw [<- ha4,gTn (by omega),gTn (by omega),gTn (by omega),gTn (by omega)];exact g3 s hs
    generalize hw3:(w2.alloc (.cells z.cells S')).setRow b (cs.setIfInBounds (o+h.off) (.pointer (some ⟨w2.heap.size,0,none⟩)))=w3
    have hne:b ≠ w2.heap.size:=by omega
    have hi4:RInv X a4 w3 (some r1):=by
     rw [<- hw3]
     refine ((hi3.alloc _).setRow ho.ne hbS ho.hB _).act (a:=a3) (by rw [s4,s3]) (by rw [d4,d3]) fun s hs=>?_
     rw [g4 s (by omega),g3 s (by omega)]
    have hcell3:w3.cell? ⟨b,o+h.off,none⟩=some (.pointer (some ⟨w2.heap.size,0,none⟩)):=by
     rw [<- hw3,cell_setRow_same _ _ _ _ _ _ _ hrowA]
     simp [Array.getElem?_setIfInBounds]
     omega
    have hbn3:w3.heap[w2.heap.size]?=some (.cells z.cells S' (0,0)):=by
     rw [<- hw3,setRow_other _ _ _ _ (Ne.symm hne)]
     exact hnew
    have hsz3:w3.heap.size=w2.heap.size+1:=by rw [<- hw3];simp
    have hf3:Foot X.rb b (o+h.off) (o+h.off+1) w w3:=by
     rw [<- hw3]
     refine ((Foot.of_only honly ho.ne).trans (foot_alloc _)).trans (foot_setRow hrowA (by simp) fun j hj=>?_)
     rw [Array.getElem?_setIfInBounds_ne (by omega)]
    simp only [Exit.then]
    have hp4:getT a4 p=.pointer (some ⟨b,o,none⟩):=((g4 p (by omega)).trans (hg1 p (.inl hpv))).trans hp
    refine wRg (ops_mv (ops_nilc (ad:=⟨b,o,none⟩) ?_ (ops_fa hS (b:=b) (o:=o) ?_ (ops_ld hT (ad:=⟨b,o+h.off,none⟩) ?_ hcell3 (ops_asg (oNi ?_))))))
    ·rw [gTp (by omega)]
     exact hp4
    ·rw [gTp (by rw [sPu];omega)]
    ·rw [gTp (by simp only [sPu];omega)]
    generalize ha5:(((((a4.put (some (t+10)) (getT a4 p)).put (some (t+11)) (.pointer (some ⟨b,o,none⟩))).put (some (t+12)) (.pointer (some ⟨b,o+h.off,none⟩))).put (some (t+13)) (.pointer (some ⟨w2.heap.size,0,none⟩))).put (some (v+1)) (getT ((((a4.put (some (t+10)) (getT a4 p)).put (some (t+11)) (.pointer (some ⟨b,o,none⟩))).put (some (t+12)) (.pointer (some ⟨b,o+h.off,none⟩))).put (some (t+13)) (.pointer (some ⟨w2.heap.size,0,none⟩))) (t+13)))=a5
    have s5:a5.tmps.size=X.N:=by rw [<- ha5];simp only [sPu];exact s4
    have d5:a5.defers=a1.defers:=by rw [<- ha5];simp only [dPu];exact d4
    have g5:∀ s,s ≠ v+1->s<=t->getT a5 s=getT a1 s:=fun s h1 hs=>by rw [<- ha5,gTn h1,gTn (by omega),gTn (by omega),gTn (by omega),gTn (by omega)];exact g4 s hs
    have v5:getT a5 (v+1)=.pointer (some ⟨w2.heap.size,0,none⟩):=by rw [<- ha5,gTp (by simp only [sPu];omega),gTp (by simp only [sPu];omega)]
    have hi5:RInv X a5 w3 (some r1):=hi4.act (by rw [s5,s4]) (by rw [d5,d4]) fun s hs=>by rw [g5 s (by omega) (by omega),g4 s (by omega)]
    have hOl:∀ k,O k->k < w2.heap.size:=fun k hk=>Nat.lt_of_lt_of_le (ho.lt k hk) honly.size
    have ho5:Opn X (fun k=>O k∨k=w2.heap.size) w2.heap.size w3:=by
     refine ⟨.inl ho.orb,.inr rfl,fun k hk=>?_,fun sb hsb hk=>?_,?_,?_⟩
     ·rw [hsz3]
      rcases hk with hk | hk
      ·have:=hOl k hk
       omega
      ·omega
     ·rcases hk with hk | hk
      ·exact ho.src sb hsb hk
      ·have:=(hi1.src sb hsb).2
       omega
     ·have:=hi1.at_.lt
      omega
     ·exact hi1.heap
    have hgz:∀ j v,z.cells[j]?=some v->w3.cell? ⟨w2.heap.size,0+j,none⟩=some v:=fun j v hv=>by
     rw [Nat.zero_add,cell_of_row _ _ _ _ _ _ hbn3]
     exact hv
    have hfr5:FrFs w3 w2.heap.size fs 0/\FrKn w3 w2.heap.size tags kn 0:=by
     simp only [Bool.and_eq_true] at hfrz
     have h1:=frFsB_ok (w:=w3) (b:=w2.heap.size) (q:=0) (get:=fun j=>z.cells[j]?) hgz fs 0 hfrz.1
     have h2:=frKnB_ok (w:=w3) (b:=w2.heap.size) (q:=0) (get:=fun j=>z.cells[j]?) hgz tags kn 0 hfrz.2
     exact ⟨by simpa using h1,by simpa using h2⟩
    simp only [Exit.then]
    have hb:=defBody_ok (v:=v+1) (t:=t+14) (bk:=bk) (b:=w2.heap.size) (o:=0) (O:=fun k=>O k∨k=w2.heap.size) (Q:=Q) hX hF hV hokf hokt hokk halw hlay' hdef hi5 v5 ho5 ⟨z.cells,S',hbn3,by omega⟩ hfr5 (by omega) (by omega) (by omega) (by omega) ?_ ?_
    ·simpa only [List.cons_append,List.nil_append,wpL,Exit.then,Nat.add_assoc,Nat.reduceAdd] using hb
    ·intro a' w' h1 h2 h3 h4
     have hf':Foot X.rb b (o+h.off) (o+h.off+1) w w':=hf3.other h3 (Nat.le_trans (Nat.le_refl _) honly.size) hbw ho.ne
     refine hQ a' w' (by rw [e];exact h1) (fun s hs=>?_) hf' ?_
     ·rw [h2 s (by omega),g5 s (by omega) (by omega)]
      exact hg1 s hs
     ·intro r x r' hst hpx hfit
      cases hst
      rw [hpt] at hpx
      obtain ⟨n',r1',q1,q2⟩:=rThen_some hpx
      rw [hp1] at q1
      cases q1
      rw [if_neg hn1] at q2
      have hx:=h4 r1 x r' rfl q2 hfit
      have hxn:x.null=false:=by
       unfold pBody at q2
       obtain ⟨xs,r2,k1,k2⟩:=rThen_some q2
       obtain ⟨u,r3,k3,k4⟩:=rThen_some k2
       obtain ⟨rfl,rfl⟩:=rOk_some k4
       rfl
      have hbnw:w2.heap.size < w'.heap.size:=by have:=h3.size;omega
      simp only [HTy,if_true,hxn,Bool.false_eq_true,if_false]
      refine ⟨w2.heap.size,0,?_,⟨hbnw,fun hk=>by have:=hOl _ hk;omega⟩,?_⟩
      ·rw [show w'.cell? ⟨b,o+h.off,none⟩=w3.cell? ⟨b,o+h.off,none⟩ from World.cell?_of_block (h3.block b (by omega) ho.ne hne)]
       exact hcell3
      ·exact str_frame hlay' (fo_sub (fun k hk=>.inl hk)) (fun _ _ _=>rfl) hx
    ·intro a' w' h1 h2 h3 h4
     exact hR a' w' h1 h2 h3 (by rw [e];exact h4)
 ·
  have hnb:nuOf h=false:=by simp [nuOf,hn]
  rw [if_neg hn] at hvT htN ⊢
  rw [hnb] at hrow hfr hQ hR
  simp only [Bool.false_eq_true,if_false] at hrow hfr hQ
  simp only [List.cons_append,List.nil_append,wpL]
  refine wRg (ops_mv (ops_nilc (ad:=⟨b,o,none⟩) ?_ (ops_fa hS (b:=b) (o:=o) ?_ (ops_asg (oNi ?_)))))
  ·rw [gTp (by omega)]
   exact hp
  ·rw [gTp (by rw [sPu];omega)]
  generalize ha1:((((a.put (some t) (getT a p)).put (some (t+1)) (.pointer (some ⟨b,o,none⟩))).put (some (t+2)) (.pointer (some ⟨b,o+h.off,none⟩))).put (some v) (getT (((a.put (some t) (getT a p)).put (some (t+1)) (.pointer (some ⟨b,o,none⟩))).put (some (t+2)) (.pointer (some ⟨b,o+h.off,none⟩))) (t+2)))=a1
  have s1:a1.tmps.size=X.N:=by rw [<- ha1];simp only [sPu];exact hsz
  have g1:∀ s,s ≠ v->s < t->getT a1 s=getT a s:=fun s h1 h2=>by rw [<- ha1,gTn h1,gTn (by omega),gTn (by omega),gTn (by omega)]
  have v1:getT a1 v=.pointer (some ⟨b,o+h.off,none⟩):=by rw [<- ha1,gTp (by simp only [sPu];omega),gTp (by simp only [sPu];omega)]
  have hi1:RInv X a1 w st:=hi.act (by rw [s1,hsz]) (by rw [<- ha1];simp [dPu]) fun s hs=>g1 s (by omega) (by omega)
  simp only [Exit.then]
  have hb:=defBody_ok (v:=v) (t:=t+3) (bk:=bk) (b:=b) (o:=o+h.off) (O:=O) (Q:=Q) hX hF hV hokf hokt hokk halw hlay' hdef hi1 v1 ho hrow hfr hv (by omega) (by omega) (by omega) ?_ ?_
  ·simpa only [List.cons_append,List.nil_append,wpL,Exit.then,Nat.add_assoc,Nat.reduceAdd] using hb
  ·intro a' w' h1 h2 h3 h4
   refine hQ a' w' (by rw [pTy_struct];exact h1) (fun s hs=>(h2 s (by omega)).trans (g1 s (by omega) (by omega))) h3 ?_
   intro r x r' hst hpx hfit
   rw [pTy_struct] at hpx
   simp only [HTy,Bool.false_eq_true,if_false]
   exact h4 r x r' hst hpx hfit
  ·intro a' w' h1 h2 h3 h4
   exact hR a' w' h1 h2 h3 (by rw [pTy_struct];exact h4)
end
theorem pMany_succ {α:Type} (p:Rd α):∀ (k:Nat) (b:Bytes),pMany p (k+1) b=(pMany p k b).bind fun z=>(p z.2).map fun y=>(z.1 ++ [y.1],y.2)
 | 0,b=>by
  simp only [pMany,rThen,rOk,Option.bind_some,List.nil_append]
  cases p b <;> rfl
 | k+1,b=>by
  rw [pMany]
  simp only [rThen]
  cases hp:p b with
  | none=>simp [pMany,rThen,hp]
  | some z =>
   have ih:=pMany_succ p k z.2
   simp only [Option.bind_some]
   rw [ih]
   rw [show pMany p (k+1) b=(pMany p k z.2).bind fun y=>some (z.1 :: y.1,y.2) by simp only [pMany,rThen,hp,Option.bind_some,rOk]]
   cases pMany p k z.2 with
   | none=>rfl
   | some y =>
    simp only [Option.bind_some,rOk]
    cases p y.2 <;> rfl
theorem pMany_length {α:Type} (p:Rd α):∀ (k:Nat) (b r:Bytes) (xs:List α),pMany p k b=some (xs,r)->xs.length=k
 | 0,b,r,xs,h=>by
  obtain ⟨rfl,_⟩:=rOk_some h
  rfl
 | k+1,b,r,xs,h=>by
  obtain ⟨x,r1,h1,h⟩:=rThen_some h
  obtain ⟨ys,r2,h2,h⟩:=rThen_some h
  obtain ⟨rfl,_⟩:=rOk_some h
  simp [pMany_length p k r1 r2 ys h2]
theorem after_many_succ {α:Type} (p:Rd α) (k:Nat) (st:Option Bytes):after st (pMany p (k+1))=after (after st (pMany p k)) p:=by
 cases st with
 | none=>rfl
 | some b =>
  simp only [after,Option.bind_some]
  rw [pMany_succ]
  cases pMany p k b with
  | none=>rfl
  | some z =>
   simp only [Option.bind_some,Option.map_some]
   cases p z.2 <;> rfl
theorem many_bad {α:Type} (p:Rd α) (k:Nat) (st:Option Bytes) (h:after st (pMany p k)=none):∀ m,k<=m->after st (pMany p m)=none:=by
 intro m hm
 induction m with
 | zero=>rw [show k=0 by omega] at h;exact h
 | succ m ih =>
  by_cases e:k=m+1
  ·rw [<- e];exact h
  ·rw [after_many_succ,ih (by omega)]
   rfl
theorem pLen_lt {flex:Bool} {b r:Bytes} {n:Int} (h:pLen flex b=some (n,r)):n < 2147483648:=by
 unfold pLen at h
 obtain ⟨x,r1,h1,h2⟩:=rThen_some h
 split at h2
 ·simp at h2
 ·simp only [Option.some.injEq,Prod.mk.injEq] at h2
  obtain ⟨rfl,rfl⟩:=h2
  cases flex with
  | true =>
   rw [if_pos rfl] at h1
   obtain ⟨m,r2,q1,q2⟩:=rThen_some h1
   obtain ⟨rfl,_⟩:=rOk_some q2
   have:=(pUv_facts q1).1
   split
   ·decide
   ·split <;> omega
  | false =>
   rw [if_neg (by simp)] at h1
   unfold pInt at h1
   obtain ⟨m,r2,q1,q2⟩:=rThen_some h1
   obtain ⟨rfl,_⟩:=rOk_some q2
   have hlt:∀ (l:Bytes),unfix l < 256 ^ l.length:=by
    intro l
    induction l with
    | nil=>simp [unfix]
    | cons u l ih =>
     simp only [unfix,List.length_cons,Nat.pow_succ]
     have hu:u.toNat<=255:=by have:=u.toNat_lt;omega
     have:u.toNat * 256 ^ l.length<=255 * 256 ^ l.length:=Nat.mul_le_mul_right _ hu
     omega
   obtain ⟨e1,e2,e3⟩:=pFix_facts q1
   have h4:m < 256 ^ 4:=by
    have:=hlt (b.take 4)
    rw [show (b.take 4).length=4 by simp;omega] at this
    rw [e2]
    exact this
   simp only [sgn]
   split <;> simp at * <;> omega
theorem zeroCells_get {z:Array Value} {n j r:Nat} (hj:j < n) (hr:r < z.size) (rest:Array Value):(Builtin.zeroCells z n ++ rest)[j * z.size+r]?=z[r]?:=by
 have hlt:j * z.size+r < n * z.size:=by
  have:(j+1) * z.size<=n * z.size:=Nat.mul_le_mul_right _ hj
  rw [Nat.add_mul] at this
  omega
 rw [Array.getElem?_append_left (by simp [Builtin.zeroCells];exact hlt)]
 unfold Builtin.zeroCells
 rw [Array.getElem?_map,Array.getElem?_range,if_pos hlt]
 simp only [Option.map_some]
 rw [show (j * z.size+r) % z.size=r by rw [Nat.mul_comm,Nat.mul_add_mod];exact Nat.mod_eq_of_lt hr]
 rw [getElem!_pos z r hr,Array.getElem?_eq_getElem hr]
section
variable {X:RX}
theorem elem_fresh {T E size:Nat} {of:Ty} (hok:okRElem X.P X.I X.c T E size of=true):∃ i z,X.P.info? E=some i/\i.zero=some z/\z.cells.size=size/\i.size=size/\0 < size/\i.bytes<=131072/\szTy false of<=size /\
  ∀ (w:World) (b q:Nat),(∀ r v,z.cells[r]?=some v->w.cell? ⟨b,q+r,none⟩=some v)->FrTy w b false of q:=by
 cases of with
 | prim k =>
  simp only [okRElem] at hok
  split at hok
  ·rename_i hk
   simp only [Bool.and_eq_true,beq_iff_eq] at hok
   obtain ⟨i,z,h1,h2,h3,h4,h5,h6,_⟩:=zOK_of hok.2
   exact ⟨i,z,h1,h2,h3,h4,h5,h6,by simp [szTy,hk,hok.1.1.1],fun w b q _=>by simp [FrTy]⟩
  ·rename_i hk
   simp only [Bool.and_eq_true,beq_iff_eq] at hok
   obtain ⟨i,z,h1,h2,h3,h4,h5,h6,_⟩:=zOK_of hok.2
   exact ⟨i,z,h1,h2,h3,h4,h5,h6,by simp [szTy,hk,hok.1.1.1],fun w b q _=>by simp [FrTy]⟩
 | list a b c of=>simp [okRElem] at hok
 | struct S sz d tags fs kn =>
  simp only [okRElem,Bool.and_eq_true,beq_iff_eq] at hok
  obtain ⟨⟨⟨⟨⟨rfl,hz⟩,_⟩,_⟩,_⟩,_⟩:=hok
  obtain ⟨i,z,h1,h2,h3,h4,h5,h6,h7⟩:=zOK_of hz
  refine ⟨i,z,h1,h2,h3,h4,h5,h6,by simp [szTy],fun w b q hc=>?_⟩
  simp only [FrTy,Bool.false_eq_true,if_false]
  simp only [Bool.and_eq_true] at h7
  have g1:=frFsB_ok (w:=w) (b:=b) (q:=q) (get:=fun j=>z.cells[j]?) hc fs 0 h7.1
  have g2:=frKnB_ok (w:=w) (b:=b) (q:=q) (get:=fun j=>z.cells[j]?) hc tags kn 0 h7.2
  exact ⟨by simpa using g1,by simpa using g2⟩
theorem rLen_ok {l t:Nat} {a:Act} {w:World} {st:Option Bytes} {Q:Exit->Act->World->Prop} (hX:X.ok) (hok:(X.c.never=true∨X.I.rCArr ≠ 0)/\X.I.rArr ≠ 0) (hi:RInv X a w st) (hl:X.v0<=l) (hlT:l < X.T0) (ht:X.T0<=t) (htN:t+rLenT X.c<=X.N)
  (hQ:∀ a' w' n,RInv X a' w' (after st (pLen X.flex))->getT a' l=.int .i32 n->(∀ s,s ≠ l->s < t->getT a' s=getT a s)->Only X.rb w w'->(∀ b x r,st=some b->pLen X.flex b=some (x,r)->n=x)->Q .normal a' w') :
  (rLen X.I X.c l t).wp X.P Q a w:=by
 have hten:=hX.ten
 have kr:=hX.kr
 unfold rLen
 unfold rLenT at htN
 have fin:∀ (fl:Bool) (f t':Nat) (a1:Act),X.flex=fl->RC X.P X.TR X.gb f (pLen fl) (fun v=>∃ n,v=.int .i32 n) (fun _ _ n v=>v=.int .i32 n)->RInv X a1 w st->(∀ s,s ≠ l->s < t->getT a1 s=getT a s)->t<=t'->t' < X.N->(rGet X.c f l t').wp X.P Q a1 w:=by
  intro fl f t' a1 hfl hrc hi1 hs1 h1 h2
  subst hfl
  refine rGet_ok hX hrc hi1 hl (by omega) (by omega) h2 fun a' w' y q1 q2 q3 q4 q5 q6=>?_
  obtain ⟨n,rfl⟩:=q5
  refine hQ a' w' n q1 q2 (fun s k1 k2=>(q3 s k1 (by omega)).trans (hs1 s k1 k2)) q4 fun b x r k1 k2=>?_
  have:=q6 b x r k1 k2
  simpa using this
 cases hn:X.c.never with
 | true =>
  rw [hn] at htN
  simp only [if_true] at htN ⊢
  exact fin false _ t a (hX.never hn) (kr.arr hok.2) hi (fun _ _ _=>rfl) (Nat.le_refl _) (by omega)
 | false =>
  rw [hn] at htN hok
  simp only [Bool.false_eq_true,if_false,false_or] at htN hok ⊢
  refine mvCond_ok hi (by omega) (by omega) (hi.flex hn) fun a1 hi1 hs1=>?_
  cases hfl:X.flex with
  | true =>
   rw [if_pos rfl]
   exact fin true _ (t+1) a1 hfl (kr.carr hok.1) hi1 (fun s h1 h2=>hs1 s (by omega)) (by omega) (by omega)
  | false =>
   rw [if_neg (by simp)]
   exact fin false _ (t+2) a1 hfl (kr.arr hok.2) hi1 (fun s h1 h2=>hs1 s (by omega)) (by omega) (by omega)
theorem rNil_ok {h:Hd} {T E size sa l t:Nat} {n:Int} {a:Act} {w:World} {st:Option Bytes} {Q:Exit->Act->World->Prop} {rest:List SC} (hX:X.ok) (hsl:sliceB X.P T E size=true) (hz:∃ i z,X.P.info? E=some i/\i.zero=some z) (hnull:h.null < 0∨h.null<=X.ver)
  (hi:RInv X a w st) (hsa:X.v0<=sa) (hsaT:sa < X.T0) (hlT:l < X.T0) (hne:sa ≠ l) (ht:X.T0<=t) (htN:t+rNilT h<=X.N) (ha_:getT a sa=.slice none 0 0) (hl:getT a l=.int .i32 n)
  (hQ:∀ a' w' base,RInv X a' w' st->getT a' sa=.slice base 0 0->(∀ s,s ≠ sa->s < t->getT a' s=getT a s)->(w'=w∨w'=w.alloc (.cells #[] E))->((base=none/\(nuOf h=true->n ≠ 0))∨(w.heap.size < w'.heap.size/\base=some ⟨w.heap.size,0,none⟩/\nuOf h=true/\n=0))->wpL X.P Q rest a' w') :
  wpL X.P Q (rNilL X.I X.c h T sa l t ++ rest) a w:=by
 have hten:=hX.ten
 have hcv:=hX.cver
 have hsz:=hi.size
 unfold rNilL
 unfold rNilT at htN
 by_cases hn:0<=h.null
 ·rw [if_pos hn] at htN ⊢
  have hnb:nuOf h=true:=by simp [nuOf,hn]
  have hv:h.null<=X.ver:=by omega
  simp only [List.cons_append,List.nil_append,wpL]
  refine wSq (wRg (ops_mv (oNo rfl (opw_cmp (op:=.lss) (k:=.i16) (m:=X.ver) (n:=h.null) (r:=decide (X.ver < h.null)) ?_ rfl (by simp) (ops_mv ?_)))))
  ·rw [eTm,gTp (by omega),hcv]
   exact hi.ver
  have hd:decide (X.ver < h.null)=false:=by simp;omega
  rw [hd]
  generalize ha1:(((a.put (some t) (getT a X.c.ver)).put (some (t+1)) (.bool false)).put (some (t+2)) (getT ((a.put (some t) (getT a X.c.ver)).put (some (t+1)) (.bool false)) (t+1)))=a1
  have s1:a1.tmps.size=X.N:=by rw [<- ha1];simp only [sPu];exact hsz
  have d1:a1.defers=a.defers:=by rw [<- ha1];simp [dPu]
  have g1:∀ s,s < t->getT a1 s=getT a s:=fun s hs=>by rw [<- ha1,gTn (by omega),gTn (by omega),gTn (by omega)]
  have v1:getT a1 (t+2)=.bool false:=by rw [<- ha1,gTp (by simp only [sPu];omega),gTp (by rw [sPu];omega)]
  unfold opsw
  refine ⟨t+2,false,rfl,by omega,.inl v1,?_⟩
  rw [if_pos rfl]
  refine opw_move ?_
  unfold opsw
  refine ⟨t+2,false,rfl,by rw [sPu];omega,.inl (by rw [gTn (by omega),v1]),?_⟩
  rw [if_pos rfl]
  refine opw_cmp (op:=.eql) (k:=.i32) (m:=n) (n:=0) (r:=(n == 0)) ?_ rfl (by simp) ?_
  ·rw [eTm,gTp (by omega),eTm,g1 l (by omega)]
   exact hl
  refine oNo rfl (opw_pick (b:=false) ?_ (oNi ?_))
  ·rw [eTm,gTn (by omega),gTn (by omega),v1]
  rw [if_neg (by simp)]
  generalize ha2:(((a1.put (some (t+3)) (a1.eval (.tmp l))).put (some (t+4)) (.bool (n == 0))).put (some (t+5)) (((a1.put (some (t+3)) (a1.eval (.tmp l))).put (some (t+4)) (.bool (n == 0))).eval (.tmp (t+4))))=a2
  have s2:a2.tmps.size=X.N:=by rw [<- ha2];simp only [sPu];exact s1
  have d2:a2.defers=a.defers:=by rw [<- ha2];simp only [dPu];exact d1
  have g2:∀ s,s < t->getT a2 s=getT a s:=fun s hs=>by rw [<- ha2,gTn (by omega),gTn (by omega),gTn (by omega)];exact g1 s hs
  have v2:getT a2 (t+5)=.bool (n == 0):=by rw [<- ha2,gTp (by simp only [sPu];omega),eTm,gTp (by rw [sPu];omega)]
  have hi2:RInv X a2 w st:=hi.act (by rw [s2,hsz]) d2 fun s hs=>g2 s (by omega)
  refine wCd (t:=(n == 0)) (by rw [eTm,v2]) ?_
  by_cases h0:n=0
  ·rw [if_pos (by simpa using h0)]
   refine wRg (oNo rfl (opw_slice00 hsl hz (ops_asg (oNi ?_))))
   simp only [Exit.then]
   refine hQ _ _ (some ⟨w.heap.size,0,none⟩) ((hi2.alloc _).act (by simp [sPu]) (by simp [dPu]) fun s hs=>?_) ?_ (fun s h1 h2=>?_) (.inr rfl) (.inr ⟨by simp,rfl,hnb,h0⟩)
   ·rw [gTn (by omega),gTn (by omega)]
   ·rw [gTp (by rw [sPu];omega),gTp (by omega)]
   ·rw [gTn h1,gTn (by omega)]
    exact g2 s h2
  ·rw [if_neg (by simpa using h0)]
   refine wSk ?_
   simp only [Exit.then]
   exact hQ a2 w none hi2 ((g2 sa (by omega)).trans ha_) (fun s _ h2=>g2 s h2) (.inl rfl) (.inl ⟨rfl,fun _=>h0⟩)
 ·rw [if_neg hn,List.nil_append]
  have hnb:nuOf h=false:=by simp [nuOf,hn]
  exact hQ a w none hi ha_ (fun _ _ _=>rfl) (.inl rfl) (.inl ⟨rfl,fun e=>by rw [hnb] at e;cases e⟩)
theorem rOkC_ok {t:Nat} {a:Act} {w:World} {st:Option Bytes} {Q:Exit->Act->World->Prop} (hX:X.ok) (hro:X.I.rOk ≠ 0) (hi:RInv X a w st) (ht:X.T0<=t) (htN:t+3<=X.N)
  (hQ:∀ a' r,st=some r->RInv X a' w st->(∀ s,s < t->getT a' s=getT a s)->Q .normal a' w) (hR:RetOK X Q (st=none)):(rOkC X.I X.c t).wp X.P Q a w:=by
 have hten:=hX.ten
 have hsz:=hi.size
 unfold rOkC
 refine wSq (wRg (ops_cal (hX.kr.okF hro) (R:=fun e w'=>e=.returned (.bool st.isSome)/\w'=w) ?_ ?_))
 ·have:=hX.kr.ok hro w X.S X.rb _ hi.at_
  rw [show (([X.c.rd].map (getT a)).toArray:Array Value)=#[.pointer (some ⟨X.rb,0,none⟩)] by simp [hi.rd]]
  exact this
 rintro e w' ⟨rfl,rfl⟩
 refine ⟨_,rfl,oNo rfl (opw_not (b:=st.isSome) (by rw [eTm,gTp (by omega)]) (oNi ?_))⟩
 generalize ha1:((a.put (some t) (.bool st.isSome)).put (some (t+1)) (.bool (!st.isSome)))=a1
 have s1:a1.tmps.size=X.N:=by rw [<- ha1];simp only [sPu];exact hsz
 have g1:∀ s,s < t->getT a1 s=getT a s:=fun s hs=>by rw [<- ha1,gTn (by omega),gTn (by omega)]
 have v1:getT a1 (t+1)=.bool (!st.isSome):=by rw [<- ha1,gTp (by rw [sPu];omega)]
 have hi1:RInv X a1 w' st:=hi.act (by rw [s1,hsz]) (by rw [<- ha1];simp [dPu]) fun s hs=>g1 s (by omega)
 refine wCd (t:=!st.isSome) (by rw [eTm,v1]) ?_
 cases hst:st with
 | some r =>
  subst hst
  simp only [Option.isSome_some,Bool.not_true,Bool.false_eq_true,if_false]
  exact wSk (hQ a1 r rfl hi1 g1)
 | none =>
  subst hst
  simp only [Option.isSome_none,Bool.not_false,if_true]
  refine wSq (wRg (ops_cal hX.kr.complF (R:=fun e w2=>e=.returned X.err/\w2=w') ?_ ?_))
  ·have:=hX.kr.compl w' X.S X.rb none (hX.gl w' hi.below) hi1.at_
   rw [show (([X.c.rd].map (getT a1)).toArray:Array Value)=#[.pointer (some ⟨X.rb,0,none⟩)] by simp [hi1.rd]]
   simpa using this
  rintro e w2 ⟨rfl,rfl⟩
  refine ⟨_,rfl,ops_asg (oNi ?_)⟩
  simp only [Exit.then]
  refine wRt (hR _ _ (by simp only [dPu];exact hi1.defers) ?_ hi.below rfl)
  rw [gTp (by rw [sPu];omega),gTp (by omega)]
theorem rLoop_ok {l i t et b:Nat} {body:List SC} {n:Int} {a:Act} {w:World} {Q:Exit->Act->World->Prop} {R:Act->World->Prop} (Inv InvB:Nat->Act->World->Prop)
  (hinv:∀ k a w,Inv k a w->a.tmps.size=X.N/\getT a i=.int .i32 (k:Int)/\getT a l=.int .i32 n)
  (htmp:∀ k a a' w,Inv k a w->a'.tmps.size=a.tmps.size->a'.defers=a.defers->(∀ s,(s < t∨t+5<=s)->getT a' s=getT a s)->Inv k a' w)
  (hstep:∀ k a w Q',Inv k a w->(k:Int) < n->(∀ a' w',InvB k a' w'->Q' .normal a' w')->(∀ a' w',R a' w'->Q' .ret a' w')->wpL X.P Q' body a w)
  (hB:∀ k a w,InvB k a w->a.tmps.size=X.N/\getT a i=.int .i32 (k:Int))
  (hnext:∀ k a a' w,InvB k a w->a'.tmps.size=a.tmps.size->a'.defers=a.defers->getT a' i=.int .i32 ((k+1:Nat):Int)->(∀ s,s ≠ i->(s < t∨t+5<=s)->getT a' s=getT a s)->Inv (k+1) a' w)
  (hn:n < 2147483648) (hit:i < t) (hlt:l < t) (htN:t+5<=X.N) (hsz:a.tmps.size=X.N)
  (h0:∀ a',a'.tmps.size=a.tmps.size->a'.defers=a.defers->getT a' i=.int .i32 0->(∀ s,s ≠ i->getT a' s=getT a s)->Inv 0 a' w)
  (hend:∀ k a w,Inv k a w->¬ (k:Int) < n->Q .normal a w) (hret:∀ a w,R a w->Q .ret a w) :
  (rLoop X.I l i t et b body).wp X.P Q a w:=by
 unfold rLoop
 refine wSq (wRg (oNo rfl (opw_assign (oNi ?_))))
 rw [eCo]
 simp only [Exit.then]
 refine wBk (wLp (fun a w=>∃ k,Inv k a w) (fun a w=>(n - intOf (getT a i)).toNat) ⟨0,h0 _ (by simp [sPu]) (by simp [dPu]) (by rw [gTp (by omega)]) fun s hs=>by rw [gTn hs]⟩ ?_)
 rintro a w ⟨k,hk⟩
 obtain ⟨hsz,hki,hkl⟩:=hinv k a w hk
 refine wSq (wSq (wRg (ops_mv (ops_mv (oNo rfl (opw_cmp (op:=.lss) (k:=.i32) (m:=(k:Int)) (n:=n) (r:=decide ((k:Int) < n)) ?_ ?_ (by simp) (oNi ?_)))))))
 ·rw [eTm,gTn (by omega),gTp (by omega)]
  exact hki
 ·rw [eTm,gTp (by rw [sPu];omega),gTn (by omega)]
  exact hkl
 generalize ha1:(((a.put (some t) (getT a i)).put (some (t+1)) (getT (a.put (some t) (getT a i)) l)).put (some (t+2)) (.bool (decide ((k:Int) < n))))=a1
 have s1:a1.tmps.size=a.tmps.size:=by rw [<- ha1];simp only [sPu]
 have hk1:Inv k a1 w:=htmp k a a1 w hk s1 (by rw [<- ha1];simp [dPu]) fun s hs=>by rw [<- ha1,gTn (by omega),gTn (by omega),gTn (by omega)]
 have v1:getT a1 (t+2)=.bool (decide ((k:Int) < n)):=by rw [<- ha1,gTp (by simp only [sPu];omega)]
 have m1:getT a1 i=getT a i:=by rw [<- ha1,gTn (by omega),gTn (by omega),gTn (by omega)]
 simp only [Exit.then]
 refine wCd (t:=decide ((k:Int) < n)) (by rw [eTm,v1]) ?_
 by_cases hkn:(k:Int) < n
 ·rw [if_pos (by simpa using hkn)]
  refine wSk ?_
  simp only [Exit.then]
  refine wSq (wBk (wpL_seqs _ _ _ (hstep k a1 w _ hk1 hkn ?_ ?_)))
  ·intro a2 w2 h2
   obtain ⟨z1,z2⟩:=hB k a2 w2 h2
   simp only [Exit.inBlock,Exit.then]
   refine wRg (ops_mv (oNo rfl (opw_arith (op:=.add) (k:=.i32) (m:=(k:Int)) (n:=1) (r:=((k+1:Nat):Int)) ?_ rfl ?_ (ops_asg (oNi ?_)))))
   ·rw [eTm,gTp (by omega)]
    exact z2
   ·left
    refine ⟨rfl,?_⟩
    have:((k:Int)+1) < 2147483648:=by omega
    simp only [IntKind.wrap,IntKind.bits,IntKind.signed]
    simp
    omega
   generalize ha3:(((a2.put (some (t+3)) (getT a2 i)).put (some (t+4)) (.int .i32 ((k+1:Nat):Int))).put (some i) (getT ((a2.put (some (t+3)) (getT a2 i)).put (some (t+4)) (.int .i32 ((k+1:Nat):Int))) (t+4)))=a3
   have v3:getT a3 i=.int .i32 ((k+1:Nat):Int):=by rw [<- ha3,gTp (by simp only [sPu];omega),gTp (by rw [sPu];omega)]
   refine ⟨⟨k+1,hnext k a2 a3 w2 h2 (by rw [<- ha3];simp only [sPu]) (by rw [<- ha3];simp only [dPu]) v3 fun s h1 h2=>by rw [<- ha3,gTn h1,gTn (by omega),gTn (by omega)]⟩,?_⟩
   rw [v3,hki]
   simp only [intOf]
   omega
  ·intro a2 w2 h2
   simp only [Exit.inBlock,Exit.then]
   exact hret a2 w2 h2
 ·rw [if_neg (by simpa using hkn)]
  refine wXt ?_
  simp only [Exit.inBlock,Exit.then,if_true]
  exact hend k a1 w hk1 hkn
end
section
variable {X:RX}
theorem idx_le {j k size q:Nat} (hjk:j < k) (hq:q<=size):j * size+q<=k * size:=by
 have:(j+1) * size<=k * size:=Nat.mul_le_mul_right _ hjk
 rw [Nat.add_mul] at this
 omega
theorem rRounds_ok {of:Ty} {T E size sa l i t b bl m cap:Nat} {r1:Bytes} {O:Nat->Prop} {a:Act} {w:World} {Q:Exit->Act->World->Prop} (hX:X.ok) (hE:ElemOK X of)
  (hok:okRElem X.P X.I X.c T E size of=true) (hsl:sliceB X.P T E size=true) (hlay:layTy false of=true) (hszl:szTy false of<=size) (hdef:DefTy X.P of)
  (hi:RInv X a w (some r1)) (hsa:getT a sa=.slice (some ⟨bl,0,none⟩) m cap) (hl:getT a l=.int .i32 (m:Int)) (hm:m < 2147483648) (ho:Opn X O bl w) (hrow:RowAt w bl 0 (m * size)) (hfr:∀ j,j < m->FrTy w bl false of (j * size))
  (hsai:sa < i) (hli:l < i) (hii:X.v0<=i) (hT:i+1+rVE of<=X.T0) (ht:X.T0<=t) (htN:t+5+rET X.c of<=X.N)
  (hQ:∀ a' w',RInv X a' w' (after (some r1) (pMany (pTy X.ver X.flex of false) m))->RSame X a a' i t->Foot X.rb bl 0 (m * size) w w' ->
   (∀ xs r',pMany (pTy X.ver X.flex of false) m r1=some (xs,r')->(∀ x ∈ xs,FitTy X.ver of x)->∀ j x,xs[j]?=some x->HTy X.G w' (FO O w') X.ver X.flex of false bl (j * size) x)->Q .normal a' w')
  (hR:RetOK X Q (after (some r1) (pMany (pTy X.ver X.flex of false) m)=none)) :
  (rLoop X.I l i t (rET X.c of) b (rElem X.I X.c T E sa i (i+1) (t+5) (b+2) of)).wp X.P Q a w:=by
 have hten:=hX.ten
 let p:=pTy X.ver X.flex of false
 let Inv:Nat->Act->World->Prop:=fun k a' w'=>k<=m/\RInv X a' w' (after (some r1) (pMany p k))/\getT a' i=.int .i32 (k:Int)/\(∀ s,(s < i∨(X.T0<=s/\s < t))->getT a' s=getT a s)/\Foot X.rb bl 0 (m * size) w w' /\
  (∀ j,k<=j->j < m->FrTy w' bl false of (j * size)) /\
  (∀ xs r',pMany p k r1=some (xs,r')->(∀ x ∈ xs,FitTy X.ver of x)->∀ j x,xs[j]?=some x->HTy X.G w' (FO O w') X.ver X.flex of false bl (j * size) x)
 let InvB:Nat->Act->World->Prop:=fun k a' w'=>k < m/\RInv X a' w' (after (some r1) (pMany p (k+1)))/\getT a' i=.int .i32 (k:Int)/\(∀ s,(s < i∨(X.T0<=s/\s < t))->getT a' s=getT a s)/\Foot X.rb bl 0 (m * size) w w' /\
  (∀ j,k+1<=j->j < m->FrTy w' bl false of (j * size)) /\
  (∀ xs r',pMany p (k+1) r1=some (xs,r')->(∀ x ∈ xs,FitTy X.ver of x)->∀ j x,xs[j]?=some x->HTy X.G w' (FO O w') X.ver X.flex of false bl (j * size) x)
 refine rLoop_ok (R:=fun a' w'=>a'.defers=[]/\getT a' 6=X.err/\Below X.B X.w0 w'/\after (some r1) (pMany p m)=none) (n:=(m:Int)) Inv InvB ?_ ?_ ?_ ?_ ?_ (by omega) (by omega) (by omega) (by omega) hi.size ?_ ?_ ?_
 ·rintro k a' w' ⟨h1,h2,h3,h4,_⟩
  exact ⟨h2.size,h3,(h4 l (.inl hli)).trans hl⟩
 ·rintro k a' a2 w' ⟨h1,h2,h3,h4,h5⟩ hs hd hg
  exact ⟨h1,h2.act hs hd fun s hs=>hg s (by omega),(hg i (by omega)).trans h3,fun s hs=>(hg s (by omega)).trans (h4 s hs),h5⟩
 ·rintro k a' w' Q' ⟨h1,h2,h3,h4,h5,h6,h7⟩ hkn hN hRR
  have hkm:k < m:=by omega
  have ho':=ho.mono h5.size
  have hrow':=h5.rowAt hrow
  have hks:=idx_le (size:=size) (q:=size) hkm (Nat.le_refl _)
  refine hE T E size sa i (i+1) (t+5) (b+2) bl m cap k O a' w' _ Q' hok hsl hlay hdef h2 ((h4 sa (.inl hsai)).trans hsa) h3 hkm ho' (hrow'.mono (by omega)) (h6 k (Nat.le_refl _) hkm) (by omega) (by omega) (by omega) (by omega) (by omega) (by omega) ?_ ?_
  ·intro a2 w2 q1 q2 q3 q4
   have e:after (some r1) (pMany p (k+1))=after (after (some r1) (pMany p k)) p:=after_many_succ p k (some r1)
   have hf2:Foot X.rb bl 0 (m * size) w' w2:=q3.mono (Nat.zero_le _) hks
   refine hN a2 w2 ⟨hkm,by rw [e];exact q1,(q2 i (by omega)).trans h3,fun s hs=>(q2 s (by omega)).trans (h4 s hs),h5.trans hf2,?_,?_⟩
   ·intro j hj1 hj2
    refine frTy_frame false of (j * size) hlay (fun u hu1 hu2=>q3.cell hrow' ?_) (h6 j (by omega) hj2)
    have:=idx_le (size:=size) (q:=size) (show k < j by omega) (Nat.le_refl _)
    right
    omega
   ·intro xs r' hxs hfit j x hj
    rw [show pMany p (k+1) r1=(pMany p k r1).bind fun z=>(p z.2).map fun y=>(z.1 ++ [y.1],y.2) from pMany_succ p k r1] at hxs
    obtain ⟨z,hz,hxs⟩:=Option.bind_eq_some_iff.1 hxs
    obtain ⟨y,hy,hxs⟩:=Option.map_eq_some_iff.1 hxs
    simp only [Prod.mk.injEq] at hxs
    obtain ⟨rfl,rfl⟩:=hxs
    have hlen:=pMany_length p k r1 z.2 z.1 hz
    have hst:after (some r1) (pMany p k)=some z.2:=after_ok (x:=z.1) hz
    by_cases hjk:j < k
    ·have hj':z.1[j]?=some x:=by rw [List.getElem?_append_left (by omega)] at hj;exact hj
     have:=h7 z.1 z.2 hz (fun x hx=>hfit x (by simp [hx])) j x hj'
     refine hTy_frame (q3.fo ho') X.ver X.flex of false bl (j * size) x hlay (fun u hu1 hu2=>q3.cell hrow' ?_) this
     have:=idx_le (size:=size) (q:=szTy false of) hjk hszl
     left
     omega
    ·have hjk':j=k:=by
      have:=(List.getElem?_eq_some_iff.1 hj).1
      simp at this
      omega
     subst hjk'
     have hx:x=y.1:=by
      rw [List.getElem?_append_right (by omega)] at hj
      simp [hlen] at hj
      exact hj.symm
     subst hx
     exact q4 z.2 y.1 y.2 hst hy (hfit _ (by simp))
  ·intro a2 w2 q1 q2 q3 q4
   refine hRR a2 w2 ⟨q1,q2,q3,?_⟩
   refine many_bad p (k+1) (some r1) ?_ m hkm
   rw [after_many_succ]
   exact q4
 ·rintro k a' w' ⟨h1,h2,h3,_⟩
  exact ⟨h2.size,h3⟩
 ·rintro k a' a2 w' ⟨h1,h2,h3,h4,h5,h6,h7⟩ hs hd hgi hg
  exact ⟨h1,h2.act hs hd fun s hs=>hg s (by omega) (by omega),hgi,fun s hs=>(hg s (by omega) (by omega)).trans (h4 s hs),h5,h6,h7⟩
 ·intro a' hs hd hgi hg
  refine ⟨Nat.zero_le _,?_,hgi,fun s hs=>hg s (by omega),Foot.refl _ _ _ _ _,fun j _ hj=>hfr j hj,?_⟩
  ·have e:after (some r1) (pMany p 0)=some r1:=after_rOk _ _
   rw [e]
   exact hi.act hs hd fun s hs=>hg s (by omega)
  ·intro xs r' hxs _ j x hj
   obtain ⟨rfl,_⟩:=rOk_some hxs
   simp at hj
 ·rintro k a' w' ⟨h1,h2,h3,h4,h5,h6,h7⟩ hkn
  have hkm:k=m:=by omega
  subst hkm
  exact hQ a' w' h2 (fun s hs=>h4 s hs) h5 h7
 ·rintro a' w' ⟨h1,h2,h3,h4⟩
  exact hR a' w' h1 h2 h3 h4
theorem rNone_ok {of:Ty} {T E sa l i t et b:Nat} {body:List SC} {n:Int} {st:Option Bytes} {a:Act} {w:World} {Q:Exit->Act->World->Prop} (hi:RInv X a w st) (hl:getT a l=.int .i32 n) (hn:n<=0)
  (hii:X.v0<=i) (hli:l ≠ i) (hlt:l < t) (hit:i < t) (ht:X.v0<=t) (htN:t+5<=X.N)
  (hQ:∀ a',RInv X a' w st->(∀ s,s ≠ i->(s < t∨t+5<=s)->getT a' s=getT a s)->Q .normal a' w):(rLoop X.I l i t et b body).wp X.P Q a w:=by
 refine rLoop_ok (R:=fun _ _=>False) (n:=n) (fun k a' w'=>k=0/\w'=w/\RInv X a' w' st/\getT a' i=.int .i32 0/\(∀ s,s ≠ i->(s < t∨t+5<=s)->getT a' s=getT a s)) (fun _ _ _=>False) ?_ ?_ ?_ ?_ ?_ (by omega) hit hlt htN hi.size ?_ ?_ ?_
 ·rintro k a' w' ⟨rfl,rfl,h2,h3,h4⟩
  exact ⟨h2.size,h3,(h4 l hli (.inl hlt)).trans hl⟩
 ·rintro k a' a2 w' ⟨rfl,rfl,h2,h3,h4⟩ hs hd hg
  exact ⟨rfl,rfl,h2.act hs hd fun s hs=>hg s (by omega),(hg i (.inl hit)).trans h3,fun s h1 h2=>(hg s h2).trans (h4 s h1 h2)⟩
 ·rintro k a' w' Q' ⟨rfl,rfl,h2,h3,h4⟩ hkn
  omega
 ·intro _ _ _ h
  exact h.elim
 ·intro _ _ _ _ h
  exact h.elim
 ·intro a' hs hd hgi hg
  exact ⟨rfl,rfl,hi.act hs hd fun s hs=>hg s (by omega),hgi,fun s h1 _=>hg s h1⟩
 ·rintro k a' w' ⟨rfl,rfl,h2,h3,h4⟩ _
  exact hQ a' h2 h4
 ·intro _ _ h
  exact h.elim
theorem valOK_list (hX:X.ok) {T E size:Nat} {of:Ty} (hE:ElemOK X of):ValOK X (.list T E size of):=by
 intro S p h v t bk b o O a w st Q hok hlay hdef hS hnull hi hp ho hrow hfr hpv hv hvT ht htN hQ hR
 have hten:=hX.ten
 have hsz:=hi.size
 simp only [okRVal,Bool.and_eq_true,Bool.or_eq_true,Bool.not_eq_true',bne_iff_ne,ne_eq,beq_iff_eq] at hok
 obtain ⟨⟨⟨⟨⟨⟨⟨hen,hT⟩,hsl⟩,hca⟩,har⟩,hro⟩,hi32⟩,hel⟩:=hok
 obtain ⟨iz,z,hii,hiz,hzc,hzs,h0,hby,hszl,hfresh⟩:=elem_fresh hel
 simp only [layTy,Bool.and_eq_true,decide_eq_true_eq] at hlay
 simp only [rV] at hvT
 simp only [rVT] at htN
 simp only [szTy] at hrow hQ
 simp only [FrTy] at hfr
 simp only [DefTy] at hdef
 have hbw:b < w.heap.size:=ho.lt b ho.ob
 have hbS:X.S ≠ some b:=fun e=>ho.src b e ho.ob
 have hnat:∀ r,pTy X.ver X.flex (.list T E size of) (nuOf h) r=rThen (pLen X.flex) (fun n=>if (nuOf h && decide (n < 0))=true then rOk tNull else rThen (pMany (pTy X.ver X.flex of false) n.toNat) fun xs=>rOk (tL xs)) r:=by
  intro r
  simp only [pTy]
 have hpt:pTy X.ver X.flex (.list T E size of) (nuOf h)=rThen (pLen X.flex) (fun n=>if (nuOf h && decide (n < 0))=true then rOk tNull else rThen (pMany (pTy X.ver X.flex of false) n.toNat) fun xs=>rOk (tL xs)):=funext hnat
 obtain ⟨cs,E',hcs,hlen⟩:=hrow
 unfold rValL
 simp only [List.cons_append,List.nil_append,List.append_assoc,wpL]
 rw [show t+21+rLenT X.c+rNilT h+rET X.c of=t+20+rLenT X.c+rNilT h+rET X.c of+1 by omega,show t+20+rLenT X.c+rNilT h=t+15+rLenT X.c+rNilT h+5 by omega]
 refine wRg (ops_mv (ops_nilc (ad:=⟨b,o,none⟩) ?_ (ops_fa hS (b:=b) (o:=o) ?_ (ops_ld hT (ad:=⟨b,o+h.off,none⟩) ?_ hfr (ops_asg (oNi ?_))))))
 ·rw [gTp (by omega)]
  exact hp
 ·rw [gTp (by rw [sPu];omega)]
 ·rw [gTp (by simp only [sPu];omega)]
 generalize ha1:(((((a.put (some t) (getT a p)).put (some (t+1)) (.pointer (some ⟨b,o,none⟩))).put (some (t+2)) (.pointer (some ⟨b,o+h.off,none⟩))).put (some (t+3)) (.slice none 0 0)).put (some v) (getT ((((a.put (some t) (getT a p)).put (some (t+1)) (.pointer (some ⟨b,o,none⟩))).put (some (t+2)) (.pointer (some ⟨b,o+h.off,none⟩))).put (some (t+3)) (.slice none 0 0)) (t+3)))=a1
 have s1:a1.tmps.size=X.N:=by rw [<- ha1];simp only [sPu];exact hsz
 have g1:∀ s,s ≠ v->s < t->getT a1 s=getT a s:=fun s h1 h2=>by rw [<- ha1,gTn h1,gTn (by omega),gTn (by omega),gTn (by omega),gTn (by omega)]
 have v1:getT a1 v=.slice none 0 0:=by rw [<- ha1,gTp (by simp only [sPu];omega),gTp (by simp only [sPu];omega)]
 have hi1:RInv X a1 w st:=hi.act (by rw [s1,hsz]) (by rw [<- ha1];simp [dPu]) fun s hs=>g1 s (by omega) (by omega)
 simp only [Exit.then]
 refine wRg (ops_mv (ops_asg (oNi ?_)))
 generalize ha2:((a1.put (some (t+4)) (getT a1 v)).put (some (v+1)) (getT (a1.put (some (t+4)) (getT a1 v)) (t+4)))=a2
 have s2:a2.tmps.size=X.N:=by rw [<- ha2];simp only [sPu];exact s1
 have g2:∀ s,s ≠ v->s ≠ v+1->s < t->getT a2 s=getT a s:=fun s h1 h2 h3=>by rw [<- ha2,gTn h2,gTn (by omega)];exact g1 s h1 h3
 have v2:getT a2 (v+1)=.slice none 0 0:=by rw [<- ha2,gTp (by simp only [sPu];omega),gTp (by omega)];exact v1
 have hi2:RInv X a2 w st:=hi.act (by rw [s2,hsz]) (by rw [<- ha2,<- ha1];simp [dPu]) fun s hs=>g2 s (by omega) (by omega) (by omega)
 simp only [Exit.then]
 refine cset_ok hi2 (by omega) (by omega) fun a3 hi3 v3 g3'=>?_
 have g3:∀ s,s ≠ v->s ≠ v+1->s ≠ v+2->s < t->getT a3 s=getT a s:=fun s h1 h2 h3 h4=>(g3' s h3).trans (g2 s h1 h2 h4)
 simp only [Exit.then]
 refine rLen_ok hX ⟨hca,har⟩ hi3 (by omega) (by omega) (by omega) (by omega) fun a4 w4 n hi4 v4 g4' honly hnv=>?_
 have g4:∀ s,s ≠ v->s ≠ v+1->s ≠ v+2->s < t->getT a4 s=getT a s:=fun s h1 h2 h3 h4=>(g4' s h3 (by omega)).trans (g3 s h1 h2 h3 h4)
 have w4s:getT a4 (v+1)=.slice none 0 0:=by rw [g4' (v+1) (by omega) (by omega),g3' (v+1) (by omega)];exact v2
 simp only [Exit.then]
 refine rNil_ok (sa:=v+1) (l:=v+2) hX hsl ⟨iz,z,hii,hiz⟩ hnull hi4 (by omega) (by omega) (by omega) (by omega) (by omega) (by omega) w4s v4 fun a5 w5 base hi5 v5 g5' hw5 hbase=>?_
 have g5:∀ s,s ≠ v->s ≠ v+1->s ≠ v+2->s < t->getT a5 s=getT a s:=fun s h1 h2 h3 h4=>(g5' s h2 (by omega)).trans (g4 s h1 h2 h3 h4)
 have l5:getT a5 (v+2)=.int .i32 n:=(g5' (v+2) (by omega) (by omega)).trans v4
 have hs45:w4.heap.size<=w5.heap.size:=by rcases hw5 with rfl | rfl <;> simp
 have hf5:∀ {lo hi:Nat},Foot X.rb b lo hi w w5:=by
  intro lo hi
  rcases hw5 with rfl | rfl
  ·exact Foot.of_only honly ho.ne
  ·exact (Foot.of_only honly ho.ne).trans (foot_alloc _)
 have hrow5:w5.heap[b]?=some (.cells cs E' (0,0)):=by
  have h4:w4.heap[b]?=some (.cells cs E' (0,0)):=by rw [honly.block b hbw ho.ne];exact hcs
  rcases hw5 with rfl | rfl
  ·exact h4
  ·rw [Below.heap_alloc _ _ _ (Nat.lt_of_lt_of_le hbw honly.size)]
   exact h4
 simp only [wpL]
 have hbad:after st (pLen X.flex)=none->after st (pTy X.ver X.flex (.list T E size of) (nuOf h))=none:=fun e=>by rw [hpt];exact after_then_none e
 refine rOkC_ok hX hro hi5 (by omega) (by omega) (fun a6 r1 hst1 hi6 g6'=>?_) fun a' w' h1 h2 h3 h4=>hR a' w' h1 h2 h3 (hbad h4)
 obtain ⟨r0,rfl⟩:∃ r0,st=some r0:=by
  cases st with
  | none=>simp [after] at hst1
  | some r0=>exact ⟨r0,rfl⟩
 obtain ⟨n',hp1⟩:∃ n',pLen X.flex r0=some (n',r1):=by
  cases hp1:pLen X.flex r0 with
  | none=>rw [after_no hp1] at hst1;cases hst1
  | some zz =>
   rw [after_ok hp1] at hst1
   cases hst1
   exact ⟨zz.1,rfl⟩
 obtain rfl:n=n':=hnv r0 n' r1 rfl hp1
 have hn31:=pLen_lt hp1
 rw [hst1] at hi6
 have g6:∀ s,s ≠ v->s ≠ v+1->s ≠ v+2->s < t->getT a6 s=getT a s:=fun s h1 h2 h3 h4=>(g6' s (by omega)).trans (g5 s h1 h2 h3 h4)
 have v6:getT a6 (v+1)=.slice base 0 0:=(g6' (v+1) (by omega)).trans v5
 have l6:getT a6 (v+2)=.int .i32 n:=(g6' (v+2) (by omega)).trans l5
 have hsz6:=hi6.size
 simp only [Exit.then]
 unfold rCut
 refine wRg (ops_mv (ops_1 (v:=.slice base 0 0) ?_ (ops_asg (oNi ?_))))
 ·simp only [qv,eTm,eCo]
  rw [gTp (by omega),v6,sliceN_of hsl]
  simp
 generalize hu7:t+8+rLenT X.c+rNilT h=u7
 generalize ha7:(((a6.put (some u7) (getT a6 (v+1))).put (some (u7+1)) (.slice base 0 0)).put (some (v+1)) (getT ((a6.put (some u7) (getT a6 (v+1))).put (some (u7+1)) (.slice base 0 0)) (u7+1)))=a7
 have s7:a7.tmps.size=X.N:=by rw [<- ha7];simp only [sPu];exact hsz6
 have g7:∀ s,s ≠ v->s ≠ v+1->s ≠ v+2->s < t->getT a7 s=getT a s:=fun s h1 h2 h3 h4=>by rw [<- ha7,gTn h2,gTn (by omega),gTn (by omega)];exact g6 s h1 h2 h3 h4
 have v7:getT a7 (v+1)=.slice base 0 0:=by rw [<- ha7,gTp (by simp only [sPu];omega),gTp (by rw [sPu];omega)]
 have l7:getT a7 (v+2)=.int .i32 n:=by rw [<- ha7,gTn (by omega),gTn (by omega),gTn (by omega)];exact l6
 have hi7:RInv X a7 w5 (some r1):=hi6.act (by rw [s7,hsz6]) (by rw [<- ha7];simp [dPu]) fun s hs=>by rw [<- ha7,gTn (by omega),gTn (by omega),gTn (by omega)]
 simp only [Exit.then]
 generalize huE:t+15+rLenT X.c+rNilT h+5+rET X.c of=uE
 have last:∀ (a9:Act) (w9:World) (stE:Option Bytes) (base9:Option Addr) (len9 cap9:Nat),RInv X a9 w9 stE->getT a9 (v+1)=.slice base9 len9 cap9->(∀ s,s ≠ v->s ≠ v+1->s ≠ v+2->s ≠ v+3->s < t->(s < v∨X.T0<=s)->getT a9 s=getT a s) ->
   Foot X.rb b (o+h.off) (o+h.off+1) w w9->w9.heap[b]?=some (.cells cs E' (0,0))->stE=after (some r0) (pTy X.ver X.flex (.list T E size of) (nuOf h)) ->
   (∀ x r',pTy X.ver X.flex (.list T E size of) (nuOf h) r0=some (x,r')->FitTy X.ver (.list T E size of) x->len9=(if nuOf h && x.null then 0 else x.l.length) /\
    (if nuOf h && x.null then base9=none else x.l.length<=most/\(nuOf h=true->base9 ≠ none)/\((base9=none/\x.l=[])∨∃ b' o',base9=some ⟨b',o',none⟩/\(∀ k,k=b'->FO O w9 k)/\∀ i y,x.l[i]?=some y->HTy X.G w9 (FO O w9) X.ver X.flex of false b' (o'+i * size) y))) ->
   wpL X.P Q [.reg [mv uE (v+1),asg v uE],rStore p v (uE+1) S h.idx T] a9 w9:=by
  intro a9 w9 stE base9 len9 cap9 hi9 v9 g9 hf9 hrow9 hstE hval
  have hsz9:=hi9.size
  simp only [wpL]
  refine wRg (ops_mv (ops_asg (oNi ?_)))
  generalize ha10:((a9.put (some uE) (getT a9 (v+1))).put (some v) (getT (a9.put (some uE) (getT a9 (v+1))) uE))=a10
  have s10:a10.tmps.size=X.N:=by rw [<- ha10];simp only [sPu];exact hsz9
  have g10:∀ s,s ≠ v->s < uE->getT a10 s=getT a9 s:=fun s h1 h2=>by rw [<- ha10,gTn h1,gTn (by omega)]
  have v10:getT a10 v=.slice base9 len9 cap9:=by rw [<- ha10,gTp (by rw [sPu];omega),gTp (by omega)];exact v9
  have hi10:RInv X a10 w9 stE:=hi9.act (by rw [s10,hsz9]) (by rw [<- ha10];simp [dPu]) fun s hs=>g10 s (by omega) (by omega)
  simp only [Exit.then]
  refine rStore_ok hX hi10 (p:=p) (x:=v) (b:=b) (o:=o) (y:=.slice base9 len9 cap9) (cs:=cs) (E:=E') ?_ v10 rfl (by omega) (by omega) (by omega) (by omega) hS hT hrow9 (by omega) ho.ne hbS ho.hB fun a11 hi11 g11=>?_
  ·rw [g10 p (by omega) (by omega),g9 p (by omega) (by omega) (by omega) (by omega) (by omega) (.inl hpv)]
   exact hp
  simp only [Exit.then]
  refine hQ a11 _ (by rw [<- hstE];exact hi11) (fun s hs=>?_) ?_ ?_
  ·rw [g11 s (by omega),g10 s (by omega) (by omega)]
   exact g9 s (by omega) (by omega) (by omega) (by omega) (by omega) (by omega)
  ·refine hf9.trans (foot_setRow hrow9 (by simp) fun j hj=>?_)
   rw [Array.getElem?_setIfInBounds_ne (by omega)]
  ·intro r x r' hst hpx hfit
   cases hst
   obtain ⟨k1,k2⟩:=hval x r' hpx hfit
   simp only [HTy]
   refine ⟨base9,cap9,?_,?_⟩
   ·rw [cell_setRow_same _ _ _ _ _ _ _ hrow9,k1]
    simp only [Array.getElem?_setIfInBounds,if_true]
    rw [if_pos (by omega)]
   ·split at k2
    ·rename_i hc
     rw [if_pos hc]
     exact k2
    ·rename_i hc
     rw [if_neg hc]
     refine ⟨k2.1,k2.2.1,k2.2.2.imp id fun ⟨b',o',q1,q2,q3⟩=>⟨b',o',q1,?_,fun i y hy=>?_⟩⟩
     ·have:=q2 b' rfl
      exact ⟨by simpa using this.1,this.2⟩
     ·refine hTy_frame (F:=FO O w9) (fun k hk=>⟨⟨by simpa using hk.1,hk.2⟩,setRow_other _ _ _ _ fun e=>hk.2 (e ▸ ho.ob)⟩) X.ver X.flex of false b' _ y hlay.1 (fun j _ _=>?_) (q3 i y hy)
      have hb':=q2 b' rfl
      exact cell_setRow_other _ _ _ _ fun e=>hb'.2 (by rw [show b'=b from e];exact ho.ob)
 by_cases hn0:0 < n
 ·
  obtain ⟨m,rfl⟩:∃ m:Nat,n=(m:Int):=⟨n.toNat,by omega⟩
  have hb0:base=none:=by
   rcases hbase with hbase | hbase
   ·exact hbase.1
   ·have:=hbase.2.2.2
    omega
  subst hb0
  have hm31:m < 2147483648:=by omega
  unfold rMake
  generalize hu8:t+10+rLenT X.c+rNilT h=u8
  have hsz7:=s7
  refine wSq (wRg (ops_mv (oNo rfl (opw_cmp (op:=.gtr) (k:=.i32) (m:=(m:Int)) (n:=0) (r:=true) ?_ rfl (by simp;omega) (oNi ?_)))))
  ·rw [eTm,gTp (by omega)]
   exact l7
  refine wCd (t:=true) (by rw [eTm,gTp (by rw [sPu];omega)]) ?_
  rw [if_pos rfl]
  generalize ha8:((a7.put (some u8) (getT a7 (v+2))).put (some (u8+1)) (.bool true))=a8
  have s8:a8.tmps.size=X.N:=by rw [<- ha8];simp only [sPu];exact s7
  have g8:∀ s,s < u8->getT a8 s=getT a7 s:=fun s hs=>by rw [<- ha8,gTn (by omega),gTn (by omega)]
  have hi8:RInv X a8 w5 (some r1):=hi7.act (by rw [s8,s7]) (by rw [<- ha8];simp [dPu]) fun s hs=>g8 s (by omega)
  refine wRg (ops_mv (ops_mv (oNo rfl (opw_makeN (m:=m) hsl hi32 hii hiz (by omega) hby ?_ ?_ (by omega) hm31 fun cap hcap=>ops_asg (oNi ?_)))))
  ·rw [eTm,gTn (by omega),gTp (by omega),g8 (v+1) (by omega)]
   exact v7
  ·rw [eTm,gTp (by rw [sPu];omega),gTn (by omega),g8 (v+2) (by omega)]
   exact l7
  generalize ha9:((((a8.put (some (u8+2)) (getT a8 (v+1))).put (some (u8+3)) (getT (a8.put (some (u8+2)) (getT a8 (v+1))) (v+2))).put (some (u8+4)) (.slice (some ⟨w5.heap.size,0,none⟩) m cap)).put (some (v+1)) (getT (((a8.put (some (u8+2)) (getT a8 (v+1))).put (some (u8+3)) (getT (a8.put (some (u8+2)) (getT a8 (v+1))) (v+2))).put (some (u8+4)) (.slice (some ⟨w5.heap.size,0,none⟩) m cap)) (u8+4)))=a9
  have s9:a9.tmps.size=X.N:=by rw [<- ha9];simp only [sPu];exact s8
  have g9:∀ s,s ≠ v+1->s < u8->getT a9 s=getT a7 s:=fun s h1 hs=>by rw [<- ha9,gTn h1,gTn (by omega),gTn (by omega),gTn (by omega)];exact g8 s hs
  have v9:getT a9 (v+1)=.slice (some ⟨w5.heap.size,0,none⟩) m cap:=by rw [<- ha9,gTp (by simp only [sPu];omega),gTp (by simp only [sPu];omega)]
  generalize hw6:w5.drew.alloc (.cells (Builtin.zeroCells z.cells m ++ Builtin.zeroCells z.cells (cap - m)) E)=w6
  have hsz65:w6.heap.size=w5.heap.size+1:=by rw [<- hw6];simp
  have hi9:RInv X a9 w6 (some r1):=by
   rw [<- hw6]
   exact ((hi8.drew).alloc _).act (a:=a8) (by rw [s9,s8]) (by rw [<- ha9];simp [dPu]) fun s hs=>(g9 s (by omega) (by omega)).trans (g8 s (by omega)).symm
  have hbl:w6.heap[w5.heap.size]?=some (.cells (Builtin.zeroCells z.cells m ++ Builtin.zeroCells z.cells (cap - m)) E (0,0)):=by
   rw [<- hw6]
   exact heap_alloc_new w5.drew _
  have hb5:b < w5.heap.size:=Nat.lt_of_lt_of_le hbw (hf5 (lo:=0) (hi:=0)).size
  have hf6:∀ {lo hi:Nat},Foot X.rb b lo hi w w6:=by
   intro lo hi
   rw [<- hw6]
   exact (hf5.trans foot_drew).trans (foot_alloc _)
  have hrow6:w6.heap[b]?=some (.cells cs E' (0,0)):=by
   rw [<- hw6,Below.heap_alloc _ _ _ (show b < w5.drew.heap.size from hb5)]
   exact hrow5
  have hOl:∀ k,O k->k < w5.heap.size:=fun k hk=>Nat.lt_of_lt_of_le (ho.lt k hk) (hf5 (lo:=0) (hi:=0)).size
  have ho6:Opn X (fun k=>O k∨k=w5.heap.size) w5.heap.size w6:=by
   refine ⟨.inl ho.orb,.inr rfl,fun k hk=>?_,fun sb hsb hk=>?_,?_,hi5.heap⟩
   ·rw [hsz65]
    rcases hk with hk | hk
    ·have:=hOl k hk
     omega
    ·omega
   ·rcases hk with hk | hk
    ·exact ho.src sb hsb hk
    ·have:=(hi5.src sb hsb).2
     omega
   ·have:=hi5.at_.lt
    omega
  simp only [Exit.then]
  have hcsz:(Builtin.zeroCells z.cells m).size=m * size:=by rw [size_zeroCells,hzc]
  refine rRounds_ok (sa:=v+1) (l:=v+2) (i:=v+3) (t:=t+15+rLenT X.c+rNilT h) (b:=bk) (bl:=w5.heap.size) (m:=m) (cap:=cap) (O:=fun k=>O k∨k=w5.heap.size) hX hE hel hsl hlay.1 hszl hdef hi9 v9 ((g9 (v+2) (by omega) (by omega)).trans l7) hm31 ho6 ⟨_,E,hbl,by simp [hcsz]⟩ ?_ (by omega) (by omega) (by omega) (by omega) (by omega) (by omega) ?_ ?_
  ·intro j hj
   refine hfresh w6 _ _ fun r y hy=>?_
   have hr:r < z.cells.size:=(Array.getElem?_eq_some_iff.1 hy).1
   rw [cell_of_row _ _ _ _ _ _ hbl,<- hzc,zeroCells_get hj hr]
   exact hy
  ·intro a10 w10 hi10 g10 hf10 hv10
   simp only [Exit.then]
   have hne:b ≠ w5.heap.size:=by omega
   have hst:after (some r1) (pMany (pTy X.ver X.flex of false) m)=after (some r0) (pTy X.ver X.flex (.list T E size of) (nuOf h)):=by
    rw [hpt,after_then _ _ _ rfl hp1,if_neg (by simp)]
    simp only [Int.toNat_natCast]
    cases hpm:pMany (pTy X.ver X.flex of false) m r1 with
    | none=>simp [after,rThen,hpm]
    | some y=>rw [after_then _ _ _ rfl hpm,after_ok hpm];exact (after_rOk _ _).symm
   have hf10':Foot X.rb b (o+h.off) (o+h.off+1) w w10:=hf6.other hf10 (Nat.le_trans honly.size hs45) hbw ho.ne
   refine last a10 w10 _ (some ⟨w5.heap.size,0,none⟩) m cap hi10 ((g10 (v+1) (by omega)).trans v9) (fun s k1 k2 k3 k4 k5 k6=>?_) hf10' ?_ hst ?_
   ·rw [g10 s (by omega),g9 s k2 (by omega)]
    exact g7 s k1 k2 k3 k5
   ·rw [hf10.block b (by omega) ho.ne hne]
    exact hrow6
   ·intro x r' hpx hfit
    rw [hpt] at hpx
    obtain ⟨n2,r2,q1,q2⟩:=rThen_some hpx
    rw [hp1] at q1
    cases q1
    rw [if_neg (by simp)] at q2
    obtain ⟨xs,r3,q3,q4⟩:=rThen_some q2
    obtain ⟨rfl,rfl⟩:=rOk_some q4
    simp only [Int.toNat_natCast] at q3
    have hxl:=pMany_length _ _ _ _ _ q3
    simp only [tL,Tree.null,Tree.l,Bool.and_false,Bool.false_eq_true,if_false]
    simp only [FitTy,tL,Tree.l] at hfit
    refine ⟨hxl.symm,hfit.1,fun _=>by simp,.inr ⟨w5.heap.size,0,rfl,fun k hk=>?_,fun i y hy=>?_⟩⟩
    ·subst hk
     refine ⟨?_,fun hk=>by have:=hOl _ hk;omega⟩
     have:=hf10.size
     omega
    ·have:=hv10 xs _ q3 hfit.2 i y hy
     rw [Nat.zero_add]
     exact hTy_frame (fo_sub fun k hk=>.inl hk) X.ver X.flex of false _ _ y hlay.1 (fun _ _ _=>rfl) this
  ·intro a' w' h1 h2 h3 h4
   refine hR a' w' h1 h2 h3 ?_
   rw [hpt,after_then _ _ _ rfl hp1,if_neg (by simp)]
   simp only [Int.toNat_natCast]
   exact after_then_none h4
 ·
  unfold rMake
  generalize hu8:t+10+rLenT X.c+rNilT h=u8
  refine wSq (wRg (ops_mv (oNo rfl (opw_cmp (op:=.gtr) (k:=.i32) (m:=n) (n:=0) (r:=false) ?_ rfl (by simp;omega) (oNi ?_)))))
  ·rw [eTm,gTp (by omega)]
   exact l7
  refine wCd (t:=false) (by rw [eTm,gTp (by rw [sPu];omega)]) ?_
  rw [if_neg (by simp)]
  refine wSk ?_
  generalize ha8:((a7.put (some u8) (getT a7 (v+2))).put (some (u8+1)) (.bool false))=a8
  have s8:a8.tmps.size=X.N:=by rw [<- ha8];simp only [sPu];exact s7
  have g8:∀ s,s < u8->getT a8 s=getT a7 s:=fun s hs=>by rw [<- ha8,gTn (by omega),gTn (by omega)]
  have hi8:RInv X a8 w5 (some r1):=hi7.act (by rw [s8,s7]) (by rw [<- ha8];simp [dPu]) fun s hs=>g8 s (by omega)
  simp only [Exit.then]
  refine rNone_ok (of:=of) (T:=T) (E:=E) (sa:=v+1) hi8 ((g8 (v+2) (by omega)).trans l7) (by omega) (by omega) (by omega) (by omega) (by omega) (by omega) (by omega) fun a9 hi9 g9=>?_
  simp only [Exit.then]
  have hst:some r1=after (some r0) (pTy X.ver X.flex (.list T E size of) (nuOf h)):=by
   rw [hpt,after_then _ _ _ rfl hp1]
   split
   ·exact (after_rOk _ _).symm
   ·rw [show n.toNat=0 by omega]
    rw [after_then (x:=[]) (r:=r1) _ _ _ rfl rfl]
    exact (after_rOk _ _).symm
  refine last a9 w5 _ base 0 0 hi9 (by rw [g9 (v+1) (by omega) (by omega),g8 (v+1) (by omega)];exact v7) (fun s k1 k2 k3 k4 k5 k6=>?_) hf5 hrow5 hst ?_
  ·rw [g9 s k4 (by omega),g8 s (by omega)]
   exact g7 s k1 k2 k3 k5
  ·intro x r' hpx hfit
   rw [hpt] at hpx
   obtain ⟨n2,r2,q1,q2⟩:=rThen_some hpx
   rw [hp1] at q1
   cases q1
   by_cases hc:(nuOf h && decide (n < 0))=true
   ·rw [if_pos hc] at q2
    obtain ⟨rfl,rfl⟩:=rOk_some q2
    simp only [Bool.and_eq_true,decide_eq_true_eq] at hc
    simp only [tNull,Tree.null,Bool.and_true,hc.1,if_true]
    refine ⟨trivial,?_⟩
    rcases hbase with hbase | hbase
    ·exact hbase.1
    ·have:=hbase.2.2.2
     omega
   ·rw [if_neg hc] at q2
    rw [show n.toNat=0 by omega] at q2
    obtain ⟨xs,r3,q3,q4⟩:=rThen_some q2
    obtain ⟨rfl,rfl⟩:=rOk_some q4
    obtain ⟨rfl,rfl⟩:=rOk_some q3
    simp only [tL,Tree.null,Tree.l,Bool.and_false,Bool.false_eq_true,if_false,List.length_nil]
    refine ⟨trivial,Nat.zero_le _,?_,?_⟩
    ·intro hnu
     rcases hbase with hbase | hbase
     ·exfalso
      have:=hbase.2 hnu
      simp only [hnu,Bool.true_and,decide_eq_true_eq] at hc
      omega
     ·rw [hbase.2.1]
      simp
    ·rcases hbase with hbase | hbase
     ·exact .inl ⟨hbase.1,trivial⟩
     ·refine .inr ⟨w4.heap.size,0,hbase.2.1,fun k hk=>?_,fun i y hy=>by simp at hy⟩
      subst hk
      exact ⟨hbase.1,fun hk=>by have:=ho.lt _ hk;have:=honly.size;omega⟩
end
mutual
theorem val_all:∀ (ty:Ty) (X:RX),X.ok->ValOK X ty/\ElemOK X ty
 | .prim k,X,hX=>⟨valOK_prim hX k,elemOK_prim hX k⟩
 | .list T E size of,X,hX=>⟨valOK_list hX (val_all of X hX).2,by
  intro T E size sa si v t bk bl l cap idx O a w st Q hok
  simp [okRElem] at hok⟩
 | .struct S size d tags fs kn,X,hX=>⟨valOK_struct hX (fs_all fs X hX) (kv_all kn),elemOK_struct hX (fs_all fs X hX) (kv_all kn)⟩
theorem fs_all:∀ (fs:Fs) (X:RX),X.ok->FsOK X fs
 | .nil,X,hX=>fsOK_nil
 | .cons h ty r,X,hX=>fsOK_cons hX (val_all ty X hX).1 (fs_all r X hX)
theorem kv_all:∀ kn:Fs,KV kn
 | .nil=>trivial
 | .cons h ty r=>fun X' hX'=>(val_all ty X' hX').1
end
end Go.Proofs.YtdnpafdgglpagaaGreatDoor.K
namespace Go.Proofs.YtdnpafdgglpagaaGreatDoor.K
open Go Go.RowKit Go.Proofs.YtdnpafdgglpagaaGreatDoor.T
attribute [local simp] eTm eCo pNo gTp gTn qv qcall vop iop
set_option linter.unusedVariables false
set_option linter.unusedSimpArgs false
theorem wpL_gen {P:Program} {l:List SC} {Q:Exit->Act->World->Prop} {a:Act} {w:World} (C:Act->Prop) (ha:C a) (h:∀ a,C a->wpL P Q l a w):wpL P Q l a w:=h a ha
theorem top_body {X:RX} {fs kn:Fs} {S p v t bk bkk b o lo size:Nat} {tags:Option (Nat × Nat)} {O:Nat->Prop} {a:Act} {w:World} {st:Option Bytes} {Q:Exit->Act->World->Prop} {rest:List SC} (hX:X.ok)
  (hok:okRFs X.P X.I X.c S fs=true) (hokt:okRTags X.P X.I X.c S tags=true) (hokk:okRKn X.P X.I X.c S tags kn=true) (hlay:layFs lo (endF size tags kn) fs=true) (hlk:layKn tags kn=true) (hszt:∀ f off,tags=some (f,off)->off < size) (hlo:lo<=endF size tags kn) (hdef:DefFs X.P fs) (hdefk:DefKn X.P kn) (hi:RInv X a w st) (hp:getT a p=.pointer (some ⟨b,o,none⟩)) (ho:Opn X O b w) (hrow:RowAt w b o size) (hfr:FrFs w b fs o) (hfrk:DfKn w b o tags kn) (hgood:KGood X.flex (after st (pFs X.ver X.flex fs)) kn)
  (hbk:bkk=bk+rBs fs) (hpv:p < v) (hv:X.v0<=v) (hvT:v+rVs fs+rVk kn<=X.T0) (ht:X.T0<=t) (htN:t+rFT X.c fs+rKT X.c tags kn<=X.N)
  (hQ:∀ a' w',RInv X a' w' (after st (pBody X.ver X.flex fs kn))->RSame X a a' v t->Foot X.rb b (o+lo) (o+size) w w' ->
   (∀ r x r',st=some r->pBody X.ver X.flex fs kn r=some (x,r')->FitFs X.ver fs x.l->FitTags x.u->FitKn X.ver kn (x.l.drop (Fs.len fs))->HFs X.G w' (FO O w') X.ver X.flex fs b o x.l/\TagsAt X.G w' (FO O w') X.flex b o tags x.u/\HKn X.G w' (FO O w') X.ver X.flex kn b o (x.l.drop (Fs.len fs)) x.u)->wpL X.P Q rest a' w')
  (hR:RetOK X Q (after st (pBody X.ver X.flex fs kn)=none)) :
  wpL X.P Q (rFs X.I X.c S p v t bk fs ++ (rTagsK X.I X.c S p tags (v+rVs fs) (t+rFT X.c fs) bkk kn ++ rest)) a w:=by
 subst hbk
 have hend:=endF_le hszt hlk
 refine fs_all fs X hX S p v t bk b o lo (endF size tags kn) O a w st Q _ hok hlay hdef hi hp ho (hrow.mono (by omega)) hfr hpv hv (by omega) ht (by omega) ?_ ?_
 ·intro a1 w1 hi1 hs1 hf1 hv1
  refine knTags_ok hX (kv_all kn) hokt hokk hlk hszt hdefk hi1 ((hs1 p (.inl hpv)).trans hp) (ho.mono hf1.size) (hf1.rowAt hrow) (dfKn_frame hszt hlk (fun j h1 h2=>hf1.cell hrow (.inr h1)) hfrk) hgood (by omega) (by omega) (by omega) (by omega) (by omega) ?_ ?_
  ·intro a2 w2 hi2 hs2 hf2 hv2
   refine hQ a2 w2 (by rw [after_body];exact hi2) (fun s hs=>(hs2 s (by omega)).trans (hs1 s hs)) ((hf1.mono (by omega) (by omega)).trans (hf2.mono (by omega) (Nat.le_refl _))) ?_
   intro r x r' hst hpx hfit hfu hfk
   unfold pBody at hpx
   obtain ⟨xs,r1,q1,q2⟩:=rThen_some hpx
   obtain ⟨z,r2,q3,q4⟩:=rThen_some q2
   obtain ⟨rfl,rfl⟩:=rOk_some q4
   have hl:=pFs_len X.ver X.flex fs _ _ _ q1
   simp only [Tree.l,Tree.u] at hfit hfu hfk
   rw [drop_app hl] at hfk
   rw [fitFs_app fs xs z.1 hl] at hfit
   have hst2:after st (pFs X.ver X.flex fs)=some r1:=by rw [hst];exact after_ok q1
   have h2:=hv2 r1 z.1 z.2 _ hst2 q3 hfu hfk
   simp only [Tree.l,Tree.u]
   rw [drop_app hl,hFs_app fs b o xs z.1 hl]
   exact ⟨hFs_frame (hf2.fo (ho.mono hf1.size)) X.ver X.flex fs lo _ b o xs hlay (fun j h1 h2=>hf2.cell (hf1.rowAt hrow) (.inl (by omega))) (hv1 r xs r1 hst q1 hfit),h2⟩
  ·intro a' w' h1 h2 h3 h4
   exact hR a' w' h1 h2 h3 (by rw [after_body];exact h4)
 ·intro a' w' h1 h2 h3 h4
  refine hR a' w' h1 h2 h3 ?_
  rw [after_body,h4]
  rfl
structure RTop where
 S:Nat
 size:Nat
 d:Nat
 t:Nat
 N:Nat
 flex:Option Int
 tags:Option (Nat × Nat)
 fs:Fs
 kn:Fs
def RTop.chk (P:Program) (I:RIds) (M:RTop):Bool :=
 okRFs P I (rCtx M.flex) M.S M.fs && okRTags P I (rCtx M.flex) M.S M.tags && (layFs 1 (endF M.size M.tags M.kn) M.fs && okRKn P I (rCtx M.flex) M.S M.tags M.kn && layKn M.tags M.kn && decide (1<=endF M.size M.tags M.kn)) && (match M.tags with | none=>true | some (_,off)=>decide (off < M.size/\1<=off)) &&
 decide (1<=M.size/\rS M.flex+1+rVs M.fs+rVk M.kn<=M.t/\rT1 M.t M.flex+1+rFT (rCtx M.flex) M.fs+rKT (rCtx M.flex) M.tags M.kn+1<=M.N) && fieldB P M.S 0 0 && intB P I.tI16 .i16 && oneB P I.tI16 && rdNew P I.tRd
def ReadC (P:Program) (I:RIds) (M:RTop) (B:Nat) (G:List (Nat × Bytes)->Prop) (err:Value) (F:FuncId) (w0:World):Prop :=
 ∀ (S:Option Nat) (b:Nat) (cs:Array Value) (E:TypeId) (base:Option Addr) (src:Bytes) (cap:Nat) (ver:Int),0<=ver->B<=b->B<=w0.heap.size->w0.heap[b]?=some (.cells cs E (0,0))->M.size<=cs.size->cs[0]?=some (.int .i16 ver) ->
  FrFs w0 b M.fs 0->FrKn w0 b M.tags M.kn 0->KGood (flexAt M.flex ver) (after (some src) (pFs ver (flexAt M.flex ver) M.fs)) M.kn->src.length<=cap->SrcAt w0 S base src->(∀ sb,S=some sb->sb ≠ b/\sb < w0.heap.size) ->
  Calls P F #[.pointer (some ⟨b,0,none⟩),.slice base src.length cap,.bool false] w0 fun e w'=>Below B w0 w'/\B<=w'.heap.size /\
   match pBody ver (flexAt M.flex ver) M.fs M.kn src with
   | none=>e=.returned err
   | some (x,r)=>e=.returned .nilIface/\b < w'.heap.size/\w'.cell? ⟨b,0,none⟩=some (.int .i16 ver) /\
    (FitFs ver M.fs x.l->FitTags x.u->FitKn ver M.kn (x.l.drop (Fs.len M.fs))->∃ F:Nat->Prop,(∀ k,F k->k < w'.heap.size)/\HFs G w' F ver (flexAt M.flex ver) M.fs b 0 x.l/\TagsAt G w' F (flexAt M.flex ver) b 0 M.tags x.u/\HKn G w' F ver (flexAt M.flex ver) M.kn b 0 (x.l.drop (Fs.len M.fs)) x.u)
section
variable {P:Program} {I:RIds} {M:RTop} {B:Nat} {G:List (Nat × Bytes)->Prop} {err:Value} {Gl:World->Prop} {gb:Nat} {f:FuncId} {fn:Func} {w0:World}
theorem readFrom_ok {out:List (Nat × Value)} (hk:KR P I I.tRd gb err Gl) (hG:∀ u,G u) (hgl:∀ w,Below B w0 w->Gl w) (hgb:gb < B) (hchk:M.chk P I=true) (hmix:P.follows .mixedOrders=true) (her:∃ t y,err=.iface t y) (hdef:DefFs P M.fs) (hdefk:DefKn P M.kn) (hd:DefAt P M.d M.size out) (hout:outFs out M.fs 0=true) (houtk:outKn out M.tags M.kn 0=true) (hks:knSet out M.size M.kn) (hoa:(out.all fun x=>decide (x.1 < M.size/\0 < x.1))=true)
  (hf:P.funcs[f]?=some fn) (hb:fn.body.map strip=some (rTop I M.S M.d M.t M.flex M.tags M.fs M.kn)) (hn:fn.ntmps=M.N) (hr:fn.results=#[.tmp 6]):ReadC P I M B G err f w0:=by
 intro S b cs E base src cap ver hver hBb hBw hcs hlen hvc hfr hfrk hgood hcap hsr hsrc
 simp only [RTop.chk,Bool.and_eq_true,decide_eq_true_eq] at hchk
 obtain ⟨⟨⟨⟨⟨⟨⟨⟨c1,c2⟩,⟨⟨c3,ck⟩,clk⟩,cle⟩,c4⟩,c5,c6,c7⟩,c8⟩,c9⟩,c10⟩,c11⟩:=hchk
 obtain ⟨r1,⟨rit,rz,rzi,rzz,rzc⟩,r3⟩:=rdNew_of c11
 have hrS:9<=rS M.flex:=by cases M.flex <;> simp [rS]
 have hbl:b < w0.heap.size:=(Array.getElem?_eq_some_iff.1 hcs).1
 have hoa':∀ x ∈ out,x.1 < M.size/\0 < x.1:=fun x hx=>by simpa using (List.all_eq_true.1 hoa) x hx
 have hT1:M.t+9<=rT1 M.t M.flex:=by cases M.flex <;> simp [rT1]
 refine fCa hf hb hn (by simp;omega) fun a0 hs hdf ha=>?_
 have h0:=ha 0 _ rfl
 have h1:=ha 1 _ rfl
 have h2:=ha 2 _ rfl
 simp only [List.getElem_toArray,List.getElem_cons_zero,List.getElem_cons_succ] at h0 h1 h2
 refine wpL_seqs _ _ _ ?_
 simp only [List.cons_append,List.nil_append,wpL]
 refine wRg (oNo rfl (opw_assign (oNi ?_)))
 simp only [Exit.then,eCo]
 refine wRg (ops_mv (ops_call (argsV:=#[.pointer (some ⟨b,0,none⟩)]) hd.1 (hd.2 w0 b 0 cs E hcs (by omega)) (by simp (disch:=(try simp only [sPu]);omega) [h0]) ?_))
 rintro e w1 ⟨rfl,hw1⟩
 refine ⟨_,rfl,oNi ?_⟩
 simp only [Exit.then]
 have hds:(dSetAll 0 out cs).size=cs.size:=dSetAll_size _ _ _
 have hrow1:w1.heap[b]?=some (.cells (dSetAll 0 out cs) E (0,0)):=by rw [hw1];exact setRow_heap _ _ _ _ _ _ hcs
 have hoth1:∀ k,k ≠ b->w1.heap[k]?=w0.heap[k]?:=fun k hk=>by rw [hw1];exact setRow_other _ _ _ _ hk
 have hsz1:w1.heap.size=w0.heap.size:=by rw [hw1];simp
 have hbelow1:Below B w0 w1:=by rw [hw1];exact ⟨rfl,rfl,rfl,by simp,fun k hk=>setRow_other _ _ _ _ (by omega)⟩
 have hv1:(dSetAll 0 out cs)[0]?=some (.int .i16 ver):=by
  rw [dSetAll_other out cs fun x hx=>by have:=(hoa' x hx).2;omega]
  exact hvc
 have hfr1:FrFs w1 b M.fs 0:=by
  have:=outFs_ok (w:=w0) (w':=w1) (b:=b) (q:=0) (out:=out) (fun j hj=>by
   rw [Nat.zero_add,cell_of_row _ _ _ _ _ _ hrow1,cell_of_row _ _ _ _ _ _ hcs]
   exact dSetAll_other out cs fun x hx=>by rw [Nat.zero_add];exact hj x hx) M.fs 0 hout (by simpa using hfr)
  simpa using this
 have hfrk1:DfKn w1 b 0 M.tags M.kn:=by
  have:=outKn_ok (w:=w0) (w':=w1) (b:=b) (q:=0) (out:=out) (fun j hj=>by
   rw [Nat.zero_add,cell_of_row _ _ _ _ _ _ hrow1,cell_of_row _ _ _ _ _ _ hcs]
   exact dSetAll_other out cs fun x hx=>by rw [Nat.zero_add];exact hj x hx) M.tags M.kn 0 houtk (by simpa using hfrk)
  rw [Nat.add_zero] at this
  cases hkn:M.kn with
  | nil=>trivial
  | cons h2 ty r =>
   rw [hkn] at this hks
   simp only [FrKn] at this
   obtain ⟨g1,g2,g3⟩:=this
   refine ⟨g1,g2,?_⟩
   cases ty with
   | struct a sz d tg fs kn =>
    obtain ⟨z1,z2⟩:=hks cs 0 (by omega)
    exact ⟨by rw [cell_of_row _ _ _ _ _ _ hrow1];exact z1,by rw [cell_of_row _ _ _ _ _ _ hrow1];exact z2,g3⟩
   | _=>trivial
 refine wRg (ops_mv (oNo rfl (opw_build (cs:=#[.slice base src.length cap,.bool false]) ?_ (oNo rfl (opw_alloc rzi rzz ?_)))))
 ·have:(#[(0,Operand.tmp (M.t+2))].map fun x:Nat × Operand=>(x.1,Act.eval (((((a0.put (some 6) .nilIface).put (some M.t) (getT (a0.put (some 6) .nilIface) 0)).put (some (M.t+1)) (.tuple #[])).put (some (M.t+2)) (getT (((a0.put (some 6) .nilIface).put (some M.t) (getT (a0.put (some 6) .nilIface) 0)).put (some (M.t+1)) (.tuple #[])) 1))) x.2)).toList=[(0,.slice base src.length cap)]:=by
   simp only [List.map_toArray,List.map_cons,List.map_nil]
   rw [eTm,gTp (by simp only [sPu];omega),gTn (by omega),gTn (by omega),gTn (by omega),h1]
  rw [this]
  exact r3 _ rfl
 have hnew:=heap_alloc_new w1 (.cells rz.cells I.tRd)
 refine oNo rfl (opw_store_agg (cs:=[.slice base src.length cap,.bool false]) (cur:=rz.cells) (b:=w1.heap.size) (E:=I.tRd) r1 (by simp (disch:=(try simp only [sPu]);omega)) (by simp (disch:=(try simp only [sPu]);omega)) hnew (by rw [rzc];rfl) (by intro v hv;simp at hv;rcases hv with rfl | rfl <;> rfl) (oNi ?_))
 rw [pNo]
 simp only [Exit.then]
 obtain ⟨rb,hrb⟩:∃ rb,rb=w1.heap.size:=⟨_,rfl⟩
 rw [<- hrb] at hnew ⊢
 obtain ⟨w2,hw2⟩:∃ w2,w2=(w1.alloc (.cells rz.cells I.tRd)).setRow rb [Value.slice base src.length cap,.bool false].toArray:=⟨_,rfl⟩
 rw [<- hw2]
 have hrow2:w2.heap[rb]?=some (.cells #[.slice base src.length cap,.bool false] I.tRd (0,0)):=by rw [hw2];exact setRow_heap _ _ _ _ _ _ hnew
 have hoth2:∀ k,k < w1.heap.size->w2.heap[k]?=w1.heap[k]?:=fun k hk=>by
  rw [hw2,setRow_other _ _ _ _ (by omega)]
  exact Below.heap_alloc _ _ _ hk
 have hsz2:w2.heap.size=w1.heap.size+1:=by rw [hw2];simp
 have hbelow2:Below B w0 w2:=by
  rw [hw2]
  exact (hbelow1.alloc (by omega) _).trans ⟨rfl,rfl,rfl,by simp,fun k hk=>setRow_other _ _ _ _ (by omega)⟩
 have hrb2:w2.heap[b]?=some (.cells (dSetAll 0 out cs) E (0,0)):=by rw [hoth2 b (by omega)];exact hrow1
 have hvc2:w2.cell? ⟨b,0,none⟩=some (.int .i16 ver):=by rw [cell_of_row _ _ _ _ _ _ hrb2];exact hv1
 refine wRg (ops_mv (ops_nilc (ad:=⟨b,0,none⟩) (by simp (disch:=(try simp only [sPu]);omega) [h0]) (ops_fa c8 (b:=b) (o:=0) (by simp (disch:=(try simp only [sPu]);omega)) (ops_ld c10 (ad:=⟨b,0,none⟩) (v:=.int .i16 ver) (by simp (disch:=(try simp only [sPu]);omega)) hvc2 (ops_asg (oNi ?_))))))
 simp only [Exit.then]
 refine wRg (ops_mv (oNi ?_))
 simp only [Exit.then]
 refine wpL_gen (fun a=>a.tmps.size=M.N/\a.defers=[]/\getT a 2=.bool false/\getT a 7=.pointer (some ⟨rb,0,none⟩)/\getT a 8=.int .i16 ver/\getT a 0=.pointer (some ⟨b,0,none⟩)) ⟨by simp [sPu,hs,hn],by simp [dPu,hdf],by simp (disch:=(try simp only [sPu]);omega) [h2],by simp (disch:=(try simp only [sPu]);omega),by simp (disch:=(try simp only [sPu]);omega),by simp (disch:=(try simp only [sPu]);omega) [h0]⟩ fun a2 ⟨p1,p2,p3,p4,p5,p6⟩=>?_
 have mid:∀ a:Act,a.tmps.size=M.N/\a.defers=[]/\getT a 2=.bool false/\getT a 7=.pointer (some ⟨rb,0,none⟩)/\getT a 8=.int .i16 ver/\getT a 0=.pointer (some ⟨b,0,none⟩)/\(M.flex ≠ none->getT a 9=.bool (flexAt M.flex ver)) ->
   wpL P (bodyPost P fn (fun e w'=>Below B w0 w'/\B<=w'.heap.size /\
   match pBody ver (flexAt M.flex ver) M.fs M.kn src with
   | none=>e=.returned err
   | some (x,r)=>e=.returned .nilIface/\b < w'.heap.size/\w'.cell? ⟨b,0,none⟩=some (.int .i16 ver) /\
    (FitFs ver M.fs x.l->FitTags x.u->FitKn ver M.kn (x.l.drop (Fs.len M.fs))->∃ F:Nat->Prop,(∀ k,F k->k < w'.heap.size)/\HFs G w' F ver (flexAt M.flex ver) M.fs b 0 x.l/\TagsAt G w' F (flexAt M.flex ver) b 0 M.tags x.u/\HKn G w' F ver (flexAt M.flex ver) M.kn b 0 (x.l.drop (Fs.len M.fs)) x.u))) (.reg [mv (rT1 M.t M.flex) 0,asg (rS M.flex) (rT1 M.t M.flex)] :: (rFs I (rCtx M.flex) M.S (rS M.flex) (rS M.flex+1) (rT1 M.t M.flex+1) 0 M.fs ++ rTagsK I (rCtx M.flex) M.S (rS M.flex) M.tags (rS M.flex+1+rVs M.fs) (rT1 M.t M.flex+1+rFT (rCtx M.flex) M.fs) (rBs M.fs) M.kn ++
    [.reg [cal (rT1 M.t M.flex+1+rFT (rCtx M.flex) M.fs+rKT (rCtx M.flex) M.tags M.kn) I.rCompl [7],asg 6 (rT1 M.t M.flex+1+rFT (rCtx M.flex) M.fs+rKT (rCtx M.flex) M.tags M.kn)],.ret])) a w2:=by
  clear p1 p2 p3 p4 p5 p6
  rintro a ⟨p1,p2,p3,p4,p5,p6,p7⟩
  simp only [wpL]
  refine wRg (ops_mv (ops_asg (oNi ?_)))
  simp only [Exit.then]
  obtain ⟨X,hX⟩:∃ X:RX,X=⟨P,I,I.tRd,S,rb,G,rCtx M.flex,w0,B,ver,flexAt M.flex ver,M.t,M.N,err,Gl,gb,10⟩:=⟨_,rfl⟩
  have hXok:X.ok:=by
   rw [hX]
   refine ⟨hk,hgb,by cases M.flex <;> rfl,⟨by show 9 < M.t;omega,Nat.le_refl 10,by show 10<=M.t;omega,by show (rCtx M.flex).rd < 10;rw [show (rCtx M.flex).rd=7 by cases M.flex <;> rfl];decide⟩,?_,by simp only;omega,hver,hG,hgl,rfl,her,hmix⟩
   intro h
   cases hfl:M.flex with
   | none=>rfl
   | some n=>rw [hfl] at h;cases h
  have hg:∀ s,s < 9->getT ((a.put (some (rT1 M.t M.flex)) (getT a 0)).put (some (rS M.flex)) (getT (a.put (some (rT1 M.t M.flex)) (getT a 0)) (rT1 M.t M.flex))) s=getT a s:=fun s h=>by
   rw [gTn (by omega),gTn (by omega)]
  have hpS:getT ((a.put (some (rT1 M.t M.flex)) (getT a 0)).put (some (rS M.flex)) (getT (a.put (some (rT1 M.t M.flex)) (getT a 0)) (rT1 M.t M.flex))) (rS M.flex)=.pointer (some ⟨b,0,none⟩):=by
   rw [gTp (by simp only [sPu];omega),gTp (by omega)]
   exact p6
  have hg9:M.flex ≠ none->getT ((a.put (some (rT1 M.t M.flex)) (getT a 0)).put (some (rS M.flex)) (getT (a.put (some (rT1 M.t M.flex)) (getT a 0)) (rT1 M.t M.flex))) 9=.bool (flexAt M.flex ver):=fun h=>by
   have:rS M.flex=10:=by cases hfl:M.flex <;> simp_all [rS]
   rw [gTn (by omega),gTn (by omega)]
   exact p7 h
  have hs3:((a.put (some (rT1 M.t M.flex)) (getT a 0)).put (some (rS M.flex)) (getT (a.put (some (rT1 M.t M.flex)) (getT a 0)) (rT1 M.t M.flex))).tmps.size=M.N:=by simp only [sPu];exact p1
  have hd3:((a.put (some (rT1 M.t M.flex)) (getT a 0)).put (some (rS M.flex)) (getT (a.put (some (rT1 M.t M.flex)) (getT a 0)) (rT1 M.t M.flex))).defers=[]:=by simp only [dPu];exact p2
  generalize ((a.put (some (rT1 M.t M.flex)) (getT a 0)).put (some (rS M.flex)) (getT (a.put (some (rT1 M.t M.flex)) (getT a 0)) (rT1 M.t M.flex)))=a3 at hg hpS hg9 hs3 hd3 ⊢
  rw [List.append_assoc]
  have hi:RInv X a3 w2 (some src):=by
   rw [hX]
   refine ⟨hs3,hd3,by rw [hg 2 (by omega)];exact p3,by rw [show (rCtx M.flex).rd=7 by cases M.flex <;> rfl,hg 7 (by omega)];exact p4,by rw [hg 8 (by omega)];exact p5,fun h=>?_,⟨base,cap,hrow2,hcap,?_⟩,fun sb hsb=>⟨by have:=(hsrc sb hsb).2;show sb ≠ rb;omega,by have:=(hsrc sb hsb).2;show sb < w2.heap.size;omega⟩,hbelow2,by show B<=w2.heap.size;omega,⟨Nat.le_refl 10,by show (rCtx M.flex).rd < 10;rw [show (rCtx M.flex).rd=7 by cases M.flex <;> rfl];decide⟩⟩
   ·refine hg9 fun e=>?_
    rw [e] at h
    cases h
   ·have:SrcAt w2 S base src:=hsr.frame fun sb hsb=>by rw [hoth2 sb (by have:=(hsrc sb hsb).2;omega),hoth1 sb (hsrc sb hsb).1]
    cases S <;> exact this
  have hopn:Opn X (fun k=>k=rb∨k=b) b w2:=by
   rw [hX]
   refine ⟨.inl rfl,.inr rfl,fun k hk=>by rcases hk with rfl | rfl <;> omega,fun sb hsb h=>?_,by simp only;omega,hBb⟩
   have:=hsrc sb hsb
   rcases h with h | h
   ·omega
   ·exact this.1 h
  have hfr2:FrFs w2 b M.fs 0:=by
   refine frFs_frame (w:=w1) M.fs 1 (endF M.size M.tags M.kn) 0 c3 (fun j h1 h2=>World.cell?_of_block (hoth2 b (by omega))) hfr1
  have hszt:∀ f off,M.tags=some (f,off)->off < M.size:=fun f off e=>by
   rw [e] at c4
   simp only [decide_eq_true_eq] at c4
   exact c4.1
  have hfrk2:DfKn w2 b 0 M.tags M.kn:=dfKn_frame hszt clk (fun j h1 h2=>World.cell?_of_block (a:=⟨b,j,none⟩) (hoth2 b (by omega))) hfrk1
  subst hX
  refine top_body (X:=⟨P,I,I.tRd,S,rb,G,rCtx M.flex,w0,B,ver,flexAt M.flex ver,M.t,M.N,err,Gl,gb,10⟩) (fs:=M.fs) (kn:=M.kn) (bkk:=rBs M.fs) (S:=M.S) (p:=rS M.flex) (v:=rS M.flex+1) (t:=rT1 M.t M.flex+1) (bk:=0) (b:=b) (o:=0) (tags:=M.tags) (lo:=1) (size:=M.size) (O:=fun k=>k=rb∨k=b) (st:=some src) hXok c1 c2 ck c3 clk hszt cle hdef hdefk hi hpS hopn ⟨_,_,hrb2,by omega⟩ hfr2 hfrk2 hgood (by simp) (by omega) (by show 10<=rS M.flex+1;omega) c6 (by show M.t<=rT1 M.t M.flex+1;omega) (by show rT1 M.t M.flex+1+rFT (rCtx M.flex) M.fs+rKT (rCtx M.flex) M.tags M.kn<=M.N;omega) ?_ ?_
  ·intro a4 w4 hi4 hs4 hf4 hv4
   simp only [wpL]
   refine wRg (ops_call (argsV:=#[.pointer (some ⟨rb,0,none⟩)]) hk.complF (hk.compl w4 S rb _ (hgl _ hi4.below) hi4.at_) ?_ ?_)
   ·simp only [List.map_cons,List.map_nil,List.map_toArray,eTm]
    have hr7:getT a4 7=.pointer (some ⟨rb,0,none⟩):=by
     have:=hi4.rd
     rw [show (rCtx M.flex).rd=7 by cases M.flex <;> rfl] at this
     exact this
    rw [hr7]
   rintro e w5 ⟨rfl,rfl⟩
   refine ⟨_,rfl,ops_asg (oNi ?_)⟩
   simp only [Exit.then]
   refine wRt ?_
   simp only [Exit.then]
   have hsz4:a4.tmps.size=M.N:=hi4.size
   refine ret_tmp hr (by simp only [dPu];exact hi4.defers) ⟨hi4.below,hi4.heap,?_⟩
   have hres:getT ((a4.put (some (rT1 M.t M.flex+1+rFT (rCtx M.flex) M.fs+rKT (rCtx M.flex) M.tags M.kn)) (if (after (some src) (pBody ver (flexAt M.flex ver) M.fs M.kn)).isSome=true then Value.nilIface else err)).put (some 6) (getT (a4.put (some (rT1 M.t M.flex+1+rFT (rCtx M.flex) M.fs+rKT (rCtx M.flex) M.tags M.kn)) (if (after (some src) (pBody ver (flexAt M.flex ver) M.fs M.kn)).isSome=true then Value.nilIface else err)) (rT1 M.t M.flex+1+rFT (rCtx M.flex) M.fs+rKT (rCtx M.flex) M.tags M.kn))) 6=(if (after (some src) (pBody ver (flexAt M.flex ver) M.fs M.kn)).isSome=true then Value.nilIface else err):=by
    rw [gTp (by simp only [sPu];omega),gTp (by omega)]
   rw [hres]
   cases hp:pBody ver (flexAt M.flex ver) M.fs M.kn src with
   | none=>simp [after_no hp]
   | some z =>
    obtain ⟨x,r⟩:=z
    have hlt4:b < w5.heap.size:=Nat.lt_of_lt_of_le (by omega) hf4.size
    refine ⟨by simp [after_ok hp],hlt4,?_,fun hfit hfu hfk=>⟨FO (fun k=>k=rb∨k=b) w5,fun k hk=>hk.1,hv4 src x r rfl hp hfit hfu hfk⟩⟩
    rw [hf4.cell (q:=0) (n:=0) ⟨_,_,hrb2,Nat.zero_le _⟩ (j:=0) (by omega)]
    exact hvc2
  ·intro a' w' e1 e2 e3 e4
   refine ret_tmp hr e1 ⟨e3,Nat.le_trans hBw e3.size,?_⟩
   cases hp:pBody ver (flexAt M.flex ver) M.fs M.kn src with
   | none=>simp only;rw [e2]
   | some z =>
    rw [after_ok hp] at e4
    cases e4
 cases hfl:M.flex with
 | none =>
  rw [hfl] at mid
  simp only [rFlexL,List.nil_append]
  exact mid a2 ⟨p1,p2,p3,p4,p5,p6,fun h=>absurd rfl h⟩
 | some n =>
  rw [hfl] at mid
  simp only [rFlexL,List.cons_append,List.nil_append,wpL]
  have ht1:rT1 M.t (some n)=M.t+12:=rfl
  rw [hfl] at c7 hT1
  refine wRg (ops_mv (ops_1 (v:=.bool (decide (n<=ver))) (by simp (disch:=(try simp only [sPu]);omega) [p5,qv,vop,iop]) (ops_asg (oNi ?_))))
  simp only [Exit.then]
  refine wRg (ops_mv (oNi ?_))
  simp only [Exit.then]
  exact mid _ ⟨by simp [sPu,p1],by simp [dPu,p2],by simp (disch:=(try simp only [sPu]);omega) [p3],by simp (disch:=(try simp only [sPu]);omega) [p4],by simp (disch:=(try simp only [sPu]);omega) [p5],by simp (disch:=(try simp only [sPu]);omega) [p6],fun _=>by simp (disch:=(try simp only [sPu]);omega) [flexAt]⟩
end
set_option maxHeartbeats 4000000
def sc_NewPtr (T fDef:Nat):SC:=.seq (.reg [⟨some 0,.assign (.const (.pointer none)),none⟩]) (.seq (.reg [⟨some 1,.alloc T,none⟩]) (.seq (.reg [cal 2 fDef [1]]) (.seq (.reg [asg 0 1]) .ret)))
def sc_MaxV (n:Int):SC:=.seq (.reg [⟨some 2,.assign (.const (.int .i16 0)),none⟩]) (.seq (.reg [⟨some 2,.assign (.const (.int .i16 n)),none⟩]) .ret)
def sc_SetV (T T16:Nat):SC:=.reg [mv 4 0,mv 5 1,nilc 6 4,fa 7 T 6 0,⟨none,.store T16 (.tmp 7) (.tmp 5),none⟩]
def sc_Max (fNP fMV T16 TI:Nat):SC:=.seq (.reg [⟨some 0,.assign (.const (.int .i64 0)),none⟩]) (.seq (.reg [cal 1 fNP [],cal 2 fMV [1],⟨some 3,.convert T16 TI (.tmp 2),none⟩,asg 0 3]) .ret)
section
variable {P:Program} {X:STy} {f:FuncId} {fn:Func}
def DefFn (P:Program) (f T:Nat) (cs0 cs:Array Value):Prop :=
 FnOK P f/\∀ (w:World) (b:Nat),w.heap[b]?=some (.cells cs0 T (0,0))->Calls P f #[.pointer (some ⟨b,0,none⟩)] w fun e w'=>e=.returned (.tuple #[])/\w'=w.setRow b cs
theorem newPtr_ok {T fDef:Nat} {cs0 cs:Array Value} (hT:∃ i z,P.info? T=some i/\i.zero=some z/\z.cells=cs0) (hD:DefFn P fDef T cs0 cs) (hf:P.funcs[f]?=some fn) (hb:fn.body.map strip=some (sc_NewPtr T fDef)) (hn:fn.ntmps=3) (hr:fn.results=#[.tmp 0]) (w:World) :
  Calls P f #[] w fun e w'=>∃ b,e=.returned (.pointer (some ⟨b,0,none⟩))/\w.heap.size<=b/\w'.heap[b]?=some (.cells cs T (0,0))/\Below w.heap.size w w':=by
 obtain ⟨i,z,hi,hz,rfl⟩:=hT
 refine fCa hf hb hn (by simp) fun a0 hs hd ha=>?_
 refine wSq (wRg ?_)
 repeat (apply ops_1;(focus (simp (disch:=(try simp only [sPu]);omega) ;try rfl)))
 refine oNi (wSq (wRg (oNo rfl (opw_alloc hi hz (oNi ?_)))))
 have hnew:=heap_alloc_new w (.cells z.cells T)
 have hbn:Below w.heap.size w (w.alloc (.cells z.cells T)):=(Below.refl _ _).alloc (Nat.le_refl _) _
 generalize w.alloc (.cells z.cells T)=w1 at *
 simp only [Exit.then]
 refine wSq (wRg (ops_cal hD.1 (R:=fun e w'=>e=.returned (.tuple #[])/\w'=w1.setRow w.heap.size cs) ?_ ?_))
 ·refine Eq.mp (congrArg (fun z=>Calls P fDef z w1 _) ?_) (hD.2 w1 w.heap.size hnew)
  simp (disch:=(try simp only [sPu]);omega)
 rintro e w2 ⟨rfl,rfl⟩
 refine ⟨_,rfl,oNi ?_⟩
 simp only [Exit.then]
 refine wSq (wRg ?_)
 repeat (apply ops_1;(focus (simp (disch:=(try simp only [sPu]);omega) ;try rfl)))
 refine oNi (wRt (ret_tmp hr (by simp [dPu,hd]) ⟨w.heap.size,?_,Nat.le_refl _,setRow_heap w1 _ _ cs _ _ hnew,below_setRow hbn (Nat.le_refl _) _⟩))
 simp (disch:=(try simp only [sPu]);omega)
theorem maxV_ok {n:Int} (hf:P.funcs[f]?=some fn) (hb:fn.body.map strip=some (sc_MaxV n)) (hn:fn.ntmps=3) (hr:fn.results=#[.tmp 2]) (w:World) (v:Value) :
  Calls P f #[v] w fun e w'=>e=.returned (.int .i16 n)/\w'=w:=by
 refine fCa hf hb hn (by simp) fun a0 hs hd ha=>?_
 refine wSq (wRg ?_)
 repeat (apply ops_1;(focus (simp (disch:=(try simp only [sPu]);omega) ;try rfl)))
 refine oNi (wSq (wRg ?_))
 repeat (apply ops_1;(focus (simp (disch:=(try simp only [sPu]);omega) ;try rfl)))
 refine oNi (wRt (ret_tmp hr (by simp [dPu,hd]) ⟨?_,rfl⟩))
 simp (disch:=(try simp only [sPu]);omega)
theorem max_ok {fNP fMV T16 TI T:Nat} {n:Nat} {cs:Array Value} (h16:intK P T16=some .i16) (hI:intK P TI=some .i64) (hn16:n < 32768) (oNP:FnOK P fNP) (cNP:∀ w:World,Calls P fNP #[] w fun e w'=>∃ b,e=.returned (.pointer (some ⟨b,0,none⟩))/\w.heap.size<=b/\w'.heap[b]?=some (.cells cs T (0,0))/\Below w.heap.size w w')
  (oMV:FnOK P fMV) (cMV:∀ (w:World) (v:Value),Calls P fMV #[v] w fun e w'=>e=.returned (.int .i16 (n:Int))/\w'=w)
  (hf:P.funcs[f]?=some fn) (hb:fn.body.map strip=some (sc_Max fNP fMV T16 TI)) (hn:fn.ntmps=4) (hr:fn.results=#[.tmp 0]) (w:World) :
  Calls P f #[] w fun e w'=>e=.returned (.int .i64 (n:Int))/\Below w.heap.size w w':=by
 refine fCa hf hb hn (by simp) fun a0 hs hd ha=>?_
 have ew:IntKind.i64.wrap (n:Int)=(n:Int):=by rw [wrap_i64'];split <;> omega
 refine wSq (wRg ?_)
 repeat (apply ops_1;(focus (simp (disch:=(try simp only [sPu]);omega) ;try rfl)))
 refine oNi (wSq (wRg (ops_cal oNP (cNP w) ?_)))
 rintro e w1 ⟨b,rfl,hb,hc,hbw⟩
 refine ⟨_,rfl,ops_cal oMV (R:=fun e w'=>e=.returned (.int .i16 (n:Int))/\w'=w1) ?_ ?_⟩
 ·refine Eq.mp (congrArg (fun z=>Calls P fMV z w1 _) ?_) (cMV w1 (.pointer (some ⟨b,0,none⟩)))
  simp (disch:=(try simp only [sPu]);omega)
 rintro e w2 ⟨rfl,rfl⟩
 refine ⟨_,rfl,?_⟩
 repeat (apply ops_1;(focus (simp (disch:=(try simp only [sPu]);omega) [h16,hI,ew];try rfl)))
 refine oNi (wRt (ret_tmp hr (by simp [dPu,hd]) ⟨?_,hbw⟩))
 simp (disch:=(try simp only [sPu]);omega)
theorem setV_ok {T T16:Nat} (h0:fieldOff P T 0=some 0) (h1:oneB P T16=true) (hf:P.funcs[f]?=some fn) (hb:fn.body.map strip=some (sc_SetV T T16)) (hn:fn.ntmps=8) (hr:fn.results=#[]) (w:World) (b:Nat) (cs:Array Value) (E:TypeId) (hc:w.heap[b]?=some (.cells cs E (0,0))) (hcs:0 < cs.size) (n:Int) :
  Calls P f #[.pointer (some ⟨b,0,none⟩),.int .i16 n] w fun e w'=>e=.returned (.tuple #[])/\w'=w.setRow b (cs.setIfInBounds 0 (.int .i16 n)):=by
 refine fCa hf hb hn (by simp) fun a0 hs hd ha=>?_
 have k0:=ha 0 _ rfl
 have k1:=ha 1 _ rfl
 simp only [List.getElem_toArray,List.getElem_cons_zero,List.getElem_cons_succ] at k0 k1
 refine wRg ?_
 iterate 4 (apply ops_1;(focus (simp (disch:=(try simp only [sPu]);omega) [k0,k1,h0];try rfl)))
 refine oNo rfl (opw_store_one (ad:=⟨b,0,none⟩) (v:=.int .i16 n) (v0:=cs[0]) h1 (by simp (disch:=(try simp only [sPu]);omega)) (by simp (disch:=(try simp only [sPu]);omega)) rfl (by rw [cell_of_row _ _ _ _ _ _ hc];exact Array.getElem?_eq_getElem hcs) (by simp [World.frozen?,hc]) (oNi ?_))
 refine ⟨by simp [dPu,pNo,hd],.tuple #[],by simp [results,hr],rfl,setCell_eq_setRow _ _ _ _ _ _ _ hc⟩
end
end Go.Proofs.YtdnpafdgglpagaaGreatDoor.K
