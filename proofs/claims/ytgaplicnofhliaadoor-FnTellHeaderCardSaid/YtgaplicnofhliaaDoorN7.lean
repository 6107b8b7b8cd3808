/- Generic texts: R11 R13 R14 R15. No condition. -/
import Derived.Test.YtgaplicnofhliaaDoorN6
namespace Go.Proofs.YtgaplicnofhliaaDoor.K
open Go Go.RowKit Go.Proofs.YtgaplicnofhliaaDoor.T
set_option linter.unusedVariables false
set_option linter.unusedSimpArgs false
section
variable {X:RX}
theorem idx_le {j k size q:Nat} (hjk:j < k) (hq:q≤size):j * size+q≤k * size:=by
  have:(j+1) * size≤k * size:=Nat.mul_le_mul_right _ hjk
  rw [Nat.add_mul] at this
  omega
theorem rRounds_ok {of:Ty} {T E size sa l i t b bl m cap:Nat} {r1:Bytes} {O:Nat→Prop} {a:Act} {w:World} {Q:Exit→Act→World→Prop} (hX:X.ok) (hE:ElemOK X of)
    (hok:okRElem X.P X.I X.c T E size of=true) (hsl:sliceB X.P T E size=true) (hlay:layTy false of=true) (hszl:szTy false of≤size) (hdef:DefTy X.P of)
    (hi:RInv X a w (some r1)) (hsa:getT a sa=.slice (some ⟨bl,0,none⟩) m cap) (hl:getT a l=.int .i32 (m:Int)) (hm:m < 2147483648) (ho:Opn X O bl w) (hrow:RowAt w bl 0 (m * size)) (hfr:∀ j,j < m→FrTy w bl false of (j * size))
    (hsai:sa < i) (hli:l < i) (hii:10≤i) (hT:i+1+rVE of≤X.T0) (ht:X.T0≤t) (htN:t+5+rET X.c of≤X.N)
    (hQ:∀ a' w',RInv X a' w' (after (some r1) (pMany (pTy X.ver X.flex of false) m))→RSame X a a' i t→Foot X.rb bl 0 (m * size) w w' →
      (∀ xs r',pMany (pTy X.ver X.flex of false) m r1=some (xs,r')→(∀ x ∈ xs,FitTy X.ver of x)→∀ j x,xs[j]?=some x→HTy X.G w' (FO O w') X.ver X.flex of false bl (j * size) x)→Q .normal a' w')
    (hR:RetOK X Q (after (some r1) (pMany (pTy X.ver X.flex of false) m)=none)) :
    (rLoop X.I l i t (rET X.c of) b (rElem X.I X.c T E sa i (i+1) (t+5) (b+2) of)).wp X.P Q a w:=by
  have hten:=hX.ten
  let p:=pTy X.ver X.flex of false
  let Inv:Nat→Act→World→Prop:=fun k a' w'=>k≤m∧RInv X a' w' (after (some r1) (pMany p k))∧getT a' i=.int .i32 (k:Int)∧(∀ s,(s < i∨(X.T0≤s∧s < t))→getT a' s=getT a s)∧Foot X.rb bl 0 (m * size) w w' ∧
    (∀ j,k≤j→j < m→FrTy w' bl false of (j * size)) ∧
    (∀ xs r',pMany p k r1=some (xs,r')→(∀ x ∈ xs,FitTy X.ver of x)→∀ j x,xs[j]?=some x→HTy X.G w' (FO O w') X.ver X.flex of false bl (j * size) x)
  let InvB:Nat→Act→World→Prop:=fun k a' w'=>k < m∧RInv X a' w' (after (some r1) (pMany p (k+1)))∧getT a' i=.int .i32 (k:Int)∧(∀ s,(s < i∨(X.T0≤s∧s < t))→getT a' s=getT a s)∧Foot X.rb bl 0 (m * size) w w' ∧
    (∀ j,k+1≤j→j < m→FrTy w' bl false of (j * size)) ∧
    (∀ xs r',pMany p (k+1) r1=some (xs,r')→(∀ x ∈ xs,FitTy X.ver of x)→∀ j x,xs[j]?=some x→HTy X.G w' (FO O w') X.ver X.flex of false bl (j * size) x)
  refine rLoop_ok (R:=fun a' w'=>a'.defers=[]∧getT a' 6=X.err∧Below X.B X.w0 w'∧after (some r1) (pMany p m)=none) (n:=(m:Int)) Inv InvB ?_ ?_ ?_ ?_ ?_ (by omega) (by omega) (by omega) (by omega) hi.size ?_ ?_ ?_
  · rintro k a' w' ⟨h1,h2,h3,h4,_⟩
    exact ⟨h2.size,h3,(h4 l (.inl hli)).trans hl⟩
  · rintro k a' a2 w' ⟨h1,h2,h3,h4,h5⟩ hs hd hg
    exact ⟨h1,h2.act hs hd fun s hs=>hg s (by omega),(hg i (by omega)).trans h3,fun s hs=>(hg s (by omega)).trans (h4 s hs),h5⟩
  · rintro k a' w' Q' ⟨h1,h2,h3,h4,h5,h6,h7⟩ hkn hN hRR
    have hkm:k < m:=by omega
    have ho':=ho.mono h5.size
    have hrow':=h5.rowAt hrow
    have hks:=idx_le (size:=size) (q:=size) hkm (Nat.le_refl _)
    refine hE T E size sa i (i+1) (t+5) (b+2) bl m cap k O a' w' _ Q' hok hsl hlay hdef h2 ((h4 sa (.inl hsai)).trans hsa) h3 hkm ho' (hrow'.mono (by omega)) (h6 k (Nat.le_refl _) hkm) (by omega) (by omega) (by omega) (by omega) (by omega) (by omega) ?_ ?_
    · intro a2 w2 q1 q2 q3 q4
      have e:after (some r1) (pMany p (k+1))=after (after (some r1) (pMany p k)) p:=after_many_succ p k (some r1)
      have hf2:Foot X.rb bl 0 (m * size) w' w2:=q3.mono (Nat.zero_le _) hks
      refine hN a2 w2 ⟨hkm,by rw [e];exact q1,(q2 i (by omega)).trans h3,fun s hs=>(q2 s (by omega)).trans (h4 s hs),h5.trans hf2,?_,?_⟩
      · intro j hj1 hj2
        refine frTy_frame false of (j * size) hlay (fun u hu1 hu2=>q3.cell hrow' ?_) (h6 j (by omega) hj2)
        have:=idx_le (size:=size) (q:=size) (show k < j by omega) (Nat.le_refl _)
        right
        omega
      · intro xs r' hxs hfit j x hj
        rw [show pMany p (k+1) r1=(pMany p k r1).bind fun z=>(p z.2).map fun y=>(z.1 ++ [y.1],y.2) from pMany_succ p k r1] at hxs
        obtain ⟨z,hz,hxs⟩:=Option.bind_eq_some_iff.1 hxs
        obtain ⟨y,hy,hxs⟩:=Option.map_eq_some_iff.1 hxs
        simp only [Prod.mk.injEq] at hxs
        obtain ⟨rfl,rfl⟩:=hxs
        have hlen:=pMany_length p k r1 z.2 z.1 hz
        have hst:after (some r1) (pMany p k)=some z.2:=after_ok (x:=z.1) hz
        by_cases hjk:j < k
        · have hj':z.1[j]?=some x:=by rw [List.getElem?_append_left (by omega)] at hj;exact hj
          have:=h7 z.1 z.2 hz (fun x hx=>hfit x (by simp [hx])) j x hj'
          refine hTy_frame (q3.fo ho') X.ver X.flex of false bl (j * size) x hlay (fun u hu1 hu2=>q3.cell hrow' ?_) this
          have:=idx_le (size:=size) (q:=szTy false of) hjk hszl
          left
          omega
        · have hjk':j=k:=by
            have:=(List.getElem?_eq_some_iff.1 hj).1
            simp at this
            omega
          subst hjk'
          have hx:x=y.1:=by
            rw [List.getElem?_append_right (by omega)] at hj
            simp [hlen] at hj
            exact hj.symm
          subst hx
          exact q4 z.2 y.1 y.2 hst hy (hfit _ (by simp))
    · intro a2 w2 q1 q2 q3 q4
      refine hRR a2 w2 ⟨q1,q2,q3,?_⟩
      refine many_bad p (k+1) (some r1) ?_ m hkm
      rw [after_many_succ]
      exact q4
  · rintro k a' w' ⟨h1,h2,h3,_⟩
    exact ⟨h2.size,h3⟩
  · rintro k a' a2 w' ⟨h1,h2,h3,h4,h5,h6,h7⟩ hs hd hgi hg
    exact ⟨h1,h2.act hs hd fun s hs=>hg s (by omega) (by omega),hgi,fun s hs=>(hg s (by omega) (by omega)).trans (h4 s hs),h5,h6,h7⟩
  · intro a' hs hd hgi hg
    refine ⟨Nat.zero_le _,?_,hgi,fun s hs=>hg s (by omega),Foot.refl _ _ _ _ _,fun j _ hj=>hfr j hj,?_⟩
    · have e:after (some r1) (pMany p 0)=some r1:=after_rOk _ _
      rw [e]
      exact hi.act hs hd fun s hs=>hg s (by omega)
    · intro xs r' hxs _ j x hj
      obtain ⟨rfl,_⟩:=rOk_some hxs
      simp at hj
  · rintro k a' w' ⟨h1,h2,h3,h4,h5,h6,h7⟩ hkn
    have hkm:k=m:=by omega
    subst hkm
    exact hQ a' w' h2 (fun s hs=>h4 s hs) h5 h7
  · rintro a' w' ⟨h1,h2,h3,h4⟩
    exact hR a' w' h1 h2 h3 h4
theorem rNone_ok {of:Ty} {T E sa l i t et b:Nat} {body:List SC} {n:Int} {st:Option Bytes} {a:Act} {w:World} {Q:Exit→Act→World→Prop} (hi:RInv X a w st) (hl:getT a l=.int .i32 n) (hn:n≤0)
    (hii:10≤i) (hli:l ≠ i) (hlt:l < t) (hit:i < t) (ht:10≤t) (htN:t+5≤X.N)
    (hQ:∀ a',RInv X a' w st→(∀ s,s ≠ i→(s < t∨t+5≤s)→getT a' s=getT a s)→Q .normal a' w):(rLoop X.I l i t et b body).wp X.P Q a w:=by
  refine rLoop_ok (R:=fun _ _=>False) (n:=n) (fun k a' w'=>k=0∧w'=w∧RInv X a' w' st∧getT a' i=.int .i32 0∧(∀ s,s ≠ i→(s < t∨t+5≤s)→getT a' s=getT a s)) (fun _ _ _=>False) ?_ ?_ ?_ ?_ ?_ (by omega) hit hlt htN hi.size ?_ ?_ ?_
  · rintro k a' w' ⟨rfl,rfl,h2,h3,h4⟩
    exact ⟨h2.size,h3,(h4 l hli (.inl hlt)).trans hl⟩
  · rintro k a' a2 w' ⟨rfl,rfl,h2,h3,h4⟩ hs hd hg
    exact ⟨rfl,rfl,h2.act hs hd fun s hs=>hg s (by omega),(hg i (.inl hit)).trans h3,fun s h1 h2=>(hg s h2).trans (h4 s h1 h2)⟩
  · rintro k a' w' Q' ⟨rfl,rfl,h2,h3,h4⟩ hkn
    omega
  · intro _ _ _ h
    exact h.elim
  · intro _ _ _ _ h
    exact h.elim
  · intro a' hs hd hgi hg
    exact ⟨rfl,rfl,hi.act hs hd fun s hs=>hg s (by omega),hgi,fun s h1 _=>hg s h1⟩
  · rintro k a' w' ⟨rfl,rfl,h2,h3,h4⟩ _
    exact hQ a' h2 h4
  · intro _ _ h
    exact h.elim
theorem valOK_list (hX:X.ok) {T E size:Nat} {of:Ty} (hE:ElemOK X of):ValOK X (.list T E size of):=by
  intro S p h v t bk b o O a w st Q hok hlay hdef hS hnull hi hp ho hrow hfr hpv hv hvT ht htN hQ hR
  have hten:=hX.ten
  have hsz:=hi.size
  simp only [okRVal,Bool.and_eq_true,Bool.or_eq_true,Bool.not_eq_true',bne_iff_ne,ne_eq,beq_iff_eq] at hok
  obtain ⟨⟨⟨⟨⟨⟨⟨hen,hT⟩,hsl⟩,hca⟩,har⟩,hro⟩,hi32⟩,hel⟩:=hok
  obtain ⟨iz,z,hii,hiz,hzc,hzs,h0,hby,hszl,hfresh⟩:=elem_fresh hel
  simp only [layTy,Bool.and_eq_true,decide_eq_true_eq] at hlay
  simp only [rV] at hvT
  simp only [rVT] at htN
  simp only [szTy] at hrow hQ
  simp only [FrTy] at hfr
  simp only [DefTy] at hdef
  have hbw:b < w.heap.size:=ho.lt b ho.ob
  have hbS:X.S ≠ some b:=fun e=>ho.src b e ho.ob
  have hnat:∀ r,pTy X.ver X.flex (.list T E size of) (nuOf h) r=rThen (pLen X.flex) (fun n=>if (nuOf h && decide (n < 0))=true then rOk tNull else rThen (pMany (pTy X.ver X.flex of false) n.toNat) fun xs=>rOk (tL xs)) r:=by
    intro r
    simp only [pTy]
  have hpt:pTy X.ver X.flex (.list T E size of) (nuOf h)=rThen (pLen X.flex) (fun n=>if (nuOf h && decide (n < 0))=true then rOk tNull else rThen (pMany (pTy X.ver X.flex of false) n.toNat) fun xs=>rOk (tL xs)):=funext hnat
  obtain ⟨cs,E',hcs,hlen⟩:=hrow
  unfold rVal
  refine wpL_seqs _ _ _ ?_
  simp only [List.cons_append,List.nil_append,List.append_assoc,wpL]
  rw [show t+21+rLenT X.c+rNilT h+rET X.c of=t+20+rLenT X.c+rNilT h+rET X.c of+1 by omega,show t+20+rLenT X.c+rNilT h=t+15+rLenT X.c+rNilT h+5 by omega]
  refine SC.wp_reg (ops_mv (ops_nilc (ad:=⟨b,o,none⟩) ?_ (ops_fa hS (b:=b) (o:=o) ?_ (ops_ld hT (ad:=⟨b,o+h.off,none⟩) ?_ hfr (ops_asg (oNi ?_))))))
  · rw [gTp (by omega)]
    exact hp
  · rw [gTp (by rw [sPu];omega)]
  · rw [gTp (by simp only [sPu];omega)]
  generalize ha1:(((((a.put (some t) (getT a p)).put (some (t+1)) (.pointer (some ⟨b,o,none⟩))).put (some (t+2)) (.pointer (some ⟨b,o+h.off,none⟩))).put (some (t+3)) (.slice none 0 0)).put (some v) (getT ((((a.put (some t) (getT a p)).put (some (t+1)) (.pointer (some ⟨b,o,none⟩))).put (some (t+2)) (.pointer (some ⟨b,o+h.off,none⟩))).put (some (t+3)) (.slice none 0 0)) (t+3)))=a1
  have s1:a1.tmps.size=X.N:=by rw [← ha1];simp only [sPu];exact hsz
  have g1:∀ s,s ≠ v→s < t→getT a1 s=getT a s:=fun s h1 h2=>by rw [← ha1,gTn h1,gTn (by omega),gTn (by omega),gTn (by omega),gTn (by omega)]
  have v1:getT a1 v=.slice none 0 0:=by rw [← ha1,gTp (by simp only [sPu];omega),gTp (by simp only [sPu];omega)]
  have hi1:RInv X a1 w st:=hi.act (by rw [s1,hsz]) (by rw [← ha1];simp [dPu]) fun s hs=>g1 s (by omega) (by omega)
  simp only [Exit.then]
  refine SC.wp_reg (ops_mv (ops_asg (oNi ?_)))
  generalize ha2:((a1.put (some (t+4)) (getT a1 v)).put (some (v+1)) (getT (a1.put (some (t+4)) (getT a1 v)) (t+4)))=a2
  have s2:a2.tmps.size=X.N:=by rw [← ha2];simp only [sPu];exact s1
  have g2:∀ s,s ≠ v→s ≠ v+1→s < t→getT a2 s=getT a s:=fun s h1 h2 h3=>by rw [← ha2,gTn h2,gTn (by omega)];exact g1 s h1 h3
  have v2:getT a2 (v+1)=.slice none 0 0:=by rw [← ha2,gTp (by simp only [sPu];omega),gTp (by omega)];exact v1
  have hi2:RInv X a2 w st:=hi.act (by rw [s2,hsz]) (by rw [← ha2,← ha1];simp [dPu]) fun s hs=>g2 s (by omega) (by omega) (by omega)
  simp only [Exit.then]
  refine cset_ok hi2 (by omega) (by omega) fun a3 hi3 v3 g3'=>?_
  have g3:∀ s,s ≠ v→s ≠ v+1→s ≠ v+2→s < t→getT a3 s=getT a s:=fun s h1 h2 h3 h4=>(g3' s h3).trans (g2 s h1 h2 h4)
  simp only [Exit.then]
  refine rLen_ok hX ⟨hca,har⟩ hi3 (by omega) (by omega) (by omega) (by omega) fun a4 w4 n hi4 v4 g4' honly hnv=>?_
  have g4:∀ s,s ≠ v→s ≠ v+1→s ≠ v+2→s < t→getT a4 s=getT a s:=fun s h1 h2 h3 h4=>(g4' s h3 (by omega)).trans (g3 s h1 h2 h3 h4)
  have w4s:getT a4 (v+1)=.slice none 0 0:=by rw [g4' (v+1) (by omega) (by omega),g3' (v+1) (by omega)];exact v2
  simp only [Exit.then]
  refine rNil_ok (sa:=v+1) (l:=v+2) hX hsl ⟨iz,z,hii,hiz⟩ hnull hi4 (by omega) (by omega) (by omega) (by omega) (by omega) (by omega) w4s v4 fun a5 w5 base hi5 v5 g5' hw5 hbase=>?_
  have g5:∀ s,s ≠ v→s ≠ v+1→s ≠ v+2→s < t→getT a5 s=getT a s:=fun s h1 h2 h3 h4=>(g5' s h2 (by omega)).trans (g4 s h1 h2 h3 h4)
  have l5:getT a5 (v+2)=.int .i32 n:=(g5' (v+2) (by omega) (by omega)).trans v4
  have hs45:w4.heap.size≤w5.heap.size:=by rcases hw5 with rfl | rfl <;> simp
  have hf5:∀ {lo hi:Nat},Foot X.rb b lo hi w w5:=by
    intro lo hi
    rcases hw5 with rfl | rfl
    · exact Foot.of_only honly ho.ne
    · exact (Foot.of_only honly ho.ne).trans (foot_alloc _)
  have hrow5:w5.heap[b]?=some (.cells cs E' (0,0)):=by
    have h4:w4.heap[b]?=some (.cells cs E' (0,0)):=by rw [honly.block b hbw ho.ne];exact hcs
    rcases hw5 with rfl | rfl
    · exact h4
    · rw [Below.heap_alloc _ _ _ (Nat.lt_of_lt_of_le hbw honly.size)]
      exact h4
  simp only [wpL]
  have hbad:after st (pLen X.flex)=none→after st (pTy X.ver X.flex (.list T E size of) (nuOf h))=none:=fun e=>by rw [hpt];exact after_then_none e
  refine rOkC_ok hX hro hi5 (by omega) (by omega) (fun a6 r1 hst1 hi6 g6'=>?_) fun a' w' h1 h2 h3 h4=>hR a' w' h1 h2 h3 (hbad h4)
  obtain ⟨r0,rfl⟩:∃ r0,st=some r0:=by
    cases st with
    | none=>simp [after] at hst1
    | some r0=>exact ⟨r0,rfl⟩
  obtain ⟨n',hp1⟩:∃ n',pLen X.flex r0=some (n',r1):=by
    cases hp1:pLen X.flex r0 with
    | none=>rw [after_no hp1] at hst1;cases hst1
    | some zz =>
      rw [after_ok hp1] at hst1
      cases hst1
      exact ⟨zz.1,rfl⟩
  obtain rfl:n=n':=hnv r0 n' r1 rfl hp1
  have hn31:=pLen_lt hp1
  rw [hst1] at hi6
  have g6:∀ s,s ≠ v→s ≠ v+1→s ≠ v+2→s < t→getT a6 s=getT a s:=fun s h1 h2 h3 h4=>(g6' s (by omega)).trans (g5 s h1 h2 h3 h4)
  have v6:getT a6 (v+1)=.slice base 0 0:=(g6' (v+1) (by omega)).trans v5
  have l6:getT a6 (v+2)=.int .i32 n:=(g6' (v+2) (by omega)).trans l5
  have hsz6:=hi6.size
  simp only [Exit.then]
  unfold rCut
  refine SC.wp_reg (ops_mv (ops_1 (v:=.slice base 0 0) ?_ (ops_asg (oNi ?_))))
  · simp only [qv,eTm,eCo]
    rw [gTp (by omega),v6,sliceN_of hsl]
    simp
  generalize hu7:t+8+rLenT X.c+rNilT h=u7
  generalize ha7:(((a6.put (some u7) (getT a6 (v+1))).put (some (u7+1)) (.slice base 0 0)).put (some (v+1)) (getT ((a6.put (some u7) (getT a6 (v+1))).put (some (u7+1)) (.slice base 0 0)) (u7+1)))=a7
  have s7:a7.tmps.size=X.N:=by rw [← ha7];simp only [sPu];exact hsz6
  have g7:∀ s,s ≠ v→s ≠ v+1→s ≠ v+2→s < t→getT a7 s=getT a s:=fun s h1 h2 h3 h4=>by rw [← ha7,gTn h2,gTn (by omega),gTn (by omega)];exact g6 s h1 h2 h3 h4
  have v7:getT a7 (v+1)=.slice base 0 0:=by rw [← ha7,gTp (by simp only [sPu];omega),gTp (by rw [sPu];omega)]
  have l7:getT a7 (v+2)=.int .i32 n:=by rw [← ha7,gTn (by omega),gTn (by omega),gTn (by omega)];exact l6
  have hi7:RInv X a7 w5 (some r1):=hi6.act (by rw [s7,hsz6]) (by rw [← ha7];simp [dPu]) fun s hs=>by rw [← ha7,gTn (by omega),gTn (by omega),gTn (by omega)]
  simp only [Exit.then]
  generalize huE:t+15+rLenT X.c+rNilT h+5+rET X.c of=uE
  have last:∀ (a9:Act) (w9:World) (stE:Option Bytes) (base9:Option Addr) (len9 cap9:Nat),RInv X a9 w9 stE→getT a9 (v+1)=.slice base9 len9 cap9→(∀ s,s ≠ v→s ≠ v+1→s ≠ v+2→s ≠ v+3→s < t→(s < v∨X.T0≤s)→getT a9 s=getT a s) →
      Foot X.rb b (o+h.off) (o+h.off+1) w w9→w9.heap[b]?=some (.cells cs E' (0,0))→stE=after (some r0) (pTy X.ver X.flex (.list T E size of) (nuOf h)) →
      (∀ x r',pTy X.ver X.flex (.list T E size of) (nuOf h) r0=some (x,r')→FitTy X.ver (.list T E size of) x→len9=(if nuOf h && x.null then 0 else x.l.length) ∧
        (if nuOf h && x.null then base9=none else x.l.length≤most∧(nuOf h=true→base9 ≠ none)∧((base9=none∧x.l=[])∨∃ b' o',base9=some ⟨b',o',none⟩∧(∀ k,k=b'→FO O w9 k)∧∀ i y,x.l[i]?=some y→HTy X.G w9 (FO O w9) X.ver X.flex of false b' (o'+i * size) y))) →
      wpL X.P Q [.reg [mv uE (v+1),asg v uE],rStore p v (uE+1) S h.idx T] a9 w9:=by
    intro a9 w9 stE base9 len9 cap9 hi9 v9 g9 hf9 hrow9 hstE hval
    have hsz9:=hi9.size
    simp only [wpL]
    refine SC.wp_reg (ops_mv (ops_asg (oNi ?_)))
    generalize ha10:((a9.put (some uE) (getT a9 (v+1))).put (some v) (getT (a9.put (some uE) (getT a9 (v+1))) uE))=a10
    have s10:a10.tmps.size=X.N:=by rw [← ha10];simp only [sPu];exact hsz9
    have g10:∀ s,s ≠ v→s < uE→getT a10 s=getT a9 s:=fun s h1 h2=>by rw [← ha10,gTn h1,gTn (by omega)]
    have v10:getT a10 v=.slice base9 len9 cap9:=by rw [← ha10,gTp (by rw [sPu];omega),gTp (by omega)];exact v9
    have hi10:RInv X a10 w9 stE:=hi9.act (by rw [s10,hsz9]) (by rw [← ha10];simp [dPu]) fun s hs=>g10 s (by omega) (by omega)
    simp only [Exit.then]
    refine rStore_ok hX hi10 (p:=p) (x:=v) (b:=b) (o:=o) (y:=.slice base9 len9 cap9) (cs:=cs) (E:=E') ?_ v10 rfl (by omega) (by omega) (by omega) (by omega) hS hT hrow9 (by omega) ho.ne hbS ho.hB fun a11 hi11 g11=>?_
    · rw [g10 p (by omega) (by omega),g9 p (by omega) (by omega) (by omega) (by omega) (by omega) (.inl hpv)]
      exact hp
    simp only [Exit.then]
    refine hQ a11 _ (by rw [← hstE];exact hi11) (fun s hs=>?_) ?_ ?_
    · rw [g11 s (by omega),g10 s (by omega) (by omega)]
      exact g9 s (by omega) (by omega) (by omega) (by omega) (by omega) (by omega)
    · refine hf9.trans (foot_setRow hrow9 (by simp) fun j hj=>?_)
      rw [Array.getElem?_setIfInBounds_ne (by omega)]
    · intro r x r' hst hpx hfit
      cases hst
      obtain ⟨k1,k2⟩:=hval x r' hpx hfit
      simp only [HTy]
      refine ⟨base9,cap9,?_,?_⟩
      · rw [cell_setRow_same _ _ _ _ _ _ _ hrow9,k1]
        simp only [Array.getElem?_setIfInBounds,if_true]
        rw [if_pos (by omega)]
      · split at k2
        · rename_i hc
          rw [if_pos hc]
          exact k2
        · rename_i hc
          rw [if_neg hc]
          refine ⟨k2.1,k2.2.1,k2.2.2.imp id fun ⟨b',o',q1,q2,q3⟩=>⟨b',o',q1,?_,fun i y hy=>?_⟩⟩
          · have:=q2 b' rfl
            exact ⟨by simpa using this.1,this.2⟩
          · refine hTy_frame (F:=FO O w9) (fun k hk=>⟨⟨by simpa using hk.1,hk.2⟩,setRow_other _ _ _ _ fun e=>hk.2 (e ▸ ho.ob)⟩) X.ver X.flex of false b' _ y hlay.1 (fun j _ _=>?_) (q3 i y hy)
            have hb':=q2 b' rfl
            exact cell_setRow_other _ _ _ _ fun e=>hb'.2 (by rw [show b'=b from e];exact ho.ob)
  by_cases hn0:0 < n
  ·
    obtain ⟨m,rfl⟩:∃ m:Nat,n=(m:Int):=⟨n.toNat,by omega⟩
    have hb0:base=none:=by
      rcases hbase with hbase | hbase
      · exact hbase.1
      · have:=hbase.2.2.2
        omega
    subst hb0
    have hm31:m < 2147483648:=by omega
    unfold rMake
    generalize hu8:t+10+rLenT X.c+rNilT h=u8
    have hsz7:=s7
    refine SC.wp_seq (SC.wp_reg (ops_mv (oNo rfl (opw_cmp (op:=.gtr) (k:=.i32) (m:=(m:Int)) (n:=0) (r:=true) ?_ rfl (by simp;omega) (oNi ?_)))))
    · rw [eTm,gTp (by omega)]
      exact l7
    refine SC.wp_cond (t:=true) (by rw [eTm,gTp (by rw [sPu];omega)]) ?_
    rw [if_pos rfl]
    generalize ha8:((a7.put (some u8) (getT a7 (v+2))).put (some (u8+1)) (.bool true))=a8
    have s8:a8.tmps.size=X.N:=by rw [← ha8];simp only [sPu];exact s7
    have g8:∀ s,s < u8→getT a8 s=getT a7 s:=fun s hs=>by rw [← ha8,gTn (by omega),gTn (by omega)]
    have hi8:RInv X a8 w5 (some r1):=hi7.act (by rw [s8,s7]) (by rw [← ha8];simp [dPu]) fun s hs=>g8 s (by omega)
    refine SC.wp_reg (ops_mv (ops_mv (oNo rfl (opw_makeN (m:=m) hsl hi32 hii hiz (by omega) hby ?_ ?_ (by omega) hm31 fun cap hcap=>ops_asg (oNi ?_)))))
    · rw [eTm,gTn (by omega),gTp (by omega),g8 (v+1) (by omega)]
      exact v7
    · rw [eTm,gTp (by rw [sPu];omega),gTn (by omega),g8 (v+2) (by omega)]
      exact l7
    generalize ha9:((((a8.put (some (u8+2)) (getT a8 (v+1))).put (some (u8+3)) (getT (a8.put (some (u8+2)) (getT a8 (v+1))) (v+2))).put (some (u8+4)) (.slice (some ⟨w5.heap.size,0,none⟩) m cap)).put (some (v+1)) (getT (((a8.put (some (u8+2)) (getT a8 (v+1))).put (some (u8+3)) (getT (a8.put (some (u8+2)) (getT a8 (v+1))) (v+2))).put (some (u8+4)) (.slice (some ⟨w5.heap.size,0,none⟩) m cap)) (u8+4)))=a9
    have s9:a9.tmps.size=X.N:=by rw [← ha9];simp only [sPu];exact s8
    have g9:∀ s,s ≠ v+1→s < u8→getT a9 s=getT a7 s:=fun s h1 hs=>by rw [← ha9,gTn h1,gTn (by omega),gTn (by omega),gTn (by omega)];exact g8 s hs
    have v9:getT a9 (v+1)=.slice (some ⟨w5.heap.size,0,none⟩) m cap:=by rw [← ha9,gTp (by simp only [sPu];omega),gTp (by simp only [sPu];omega)]
    generalize hw6:w5.drew.alloc (.cells (Builtin.zeroCells z.cells m ++ Builtin.zeroCells z.cells (cap - m)) E)=w6
    have hsz65:w6.heap.size=w5.heap.size+1:=by rw [← hw6];simp
    have hi9:RInv X a9 w6 (some r1):=by
      rw [← hw6]
      exact ((hi8.drew).alloc _).act (a:=a8) (by rw [s9,s8]) (by rw [← ha9];simp [dPu]) fun s hs=>(g9 s (by omega) (by omega)).trans (g8 s (by omega)).symm
    have hbl:w6.heap[w5.heap.size]?=some (.cells (Builtin.zeroCells z.cells m ++ Builtin.zeroCells z.cells (cap - m)) E (0,0)):=by
      rw [← hw6]
      exact heap_alloc_new w5.drew _
    have hb5:b < w5.heap.size:=Nat.lt_of_lt_of_le hbw (hf5 (lo:=0) (hi:=0)).size
    have hf6:∀ {lo hi:Nat},Foot X.rb b lo hi w w6:=by
      intro lo hi
      rw [← hw6]
      exact (hf5.trans foot_drew).trans (foot_alloc _)
    have hrow6:w6.heap[b]?=some (.cells cs E' (0,0)):=by
      rw [← hw6,Below.heap_alloc _ _ _ (show b < w5.drew.heap.size from hb5)]
      exact hrow5
    have hOl:∀ k,O k→k < w5.heap.size:=fun k hk=>Nat.lt_of_lt_of_le (ho.lt k hk) (hf5 (lo:=0) (hi:=0)).size
    have ho6:Opn X (fun k=>O k∨k=w5.heap.size) w5.heap.size w6:=by
      refine ⟨.inl ho.orb,.inr rfl,fun k hk=>?_,fun sb hsb hk=>?_,?_,hi5.heap⟩
      · rw [hsz65]
        rcases hk with hk | hk
        · have:=hOl k hk
          omega
        · omega
      · rcases hk with hk | hk
        · exact ho.src sb hsb hk
        · have:=(hi5.src sb hsb).2
          omega
      · have:=hi5.at_.lt
        omega
    simp only [Exit.then]
    have hcsz:(Builtin.zeroCells z.cells m).size=m * size:=by rw [size_zeroCells,hzc]
    refine rRounds_ok (sa:=v+1) (l:=v+2) (i:=v+3) (t:=t+15+rLenT X.c+rNilT h) (b:=bk) (bl:=w5.heap.size) (m:=m) (cap:=cap) (O:=fun k=>O k∨k=w5.heap.size) hX hE hel hsl hlay.1 hszl hdef hi9 v9 ((g9 (v+2) (by omega) (by omega)).trans l7) hm31 ho6 ⟨_,E,hbl,by simp [hcsz]⟩ ?_ (by omega) (by omega) (by omega) (by omega) (by omega) (by omega) ?_ ?_
    · intro j hj
      refine hfresh w6 _ _ fun r y hy=>?_
      have hr:r < z.cells.size:=(Array.getElem?_eq_some_iff.1 hy).1
      rw [cell_of_row _ _ _ _ _ _ hbl,← hzc,zeroCells_get hj hr]
      exact hy
    · intro a10 w10 hi10 g10 hf10 hv10
      simp only [Exit.then]
      have hne:b ≠ w5.heap.size:=by omega
      have hst:after (some r1) (pMany (pTy X.ver X.flex of false) m)=after (some r0) (pTy X.ver X.flex (.list T E size of) (nuOf h)):=by
        rw [hpt,after_then _ _ _ rfl hp1,if_neg (by simp)]
        simp only [Int.toNat_natCast]
        cases hpm:pMany (pTy X.ver X.flex of false) m r1 with
        | none=>simp [after,rThen,hpm]
        | some y=>rw [after_then _ _ _ rfl hpm,after_ok hpm];exact (after_rOk _ _).symm
      have hf10':Foot X.rb b (o+h.off) (o+h.off+1) w w10:=hf6.other hf10 (Nat.le_trans honly.size hs45) hbw ho.ne
      refine last a10 w10 _ (some ⟨w5.heap.size,0,none⟩) m cap hi10 ((g10 (v+1) (by omega)).trans v9) (fun s k1 k2 k3 k4 k5 k6=>?_) hf10' ?_ hst ?_
      · rw [g10 s (by omega),g9 s k2 (by omega)]
        exact g7 s k1 k2 k3 k5
      · rw [hf10.block b (by omega) ho.ne hne]
        exact hrow6
      · intro x r' hpx hfit
        rw [hpt] at hpx
        obtain ⟨n2,r2,q1,q2⟩:=rThen_some hpx
        rw [hp1] at q1
        cases q1
        rw [if_neg (by simp)] at q2
        obtain ⟨xs,r3,q3,q4⟩:=rThen_some q2
        obtain ⟨rfl,rfl⟩:=rOk_some q4
        simp only [Int.toNat_natCast] at q3
        have hxl:=pMany_length _ _ _ _ _ q3
        simp only [tL,Tree.null,Tree.l,Bool.and_false,Bool.false_eq_true,if_false]
        simp only [FitTy,tL,Tree.l] at hfit
        refine ⟨hxl.symm,hfit.1,fun _=>by simp,.inr ⟨w5.heap.size,0,rfl,fun k hk=>?_,fun i y hy=>?_⟩⟩
        · subst hk
          refine ⟨?_,fun hk=>by have:=hOl _ hk;omega⟩
          have:=hf10.size
          omega
        · have:=hv10 xs _ q3 hfit.2 i y hy
          rw [Nat.zero_add]
          exact hTy_frame (fo_sub fun k hk=>.inl hk) X.ver X.flex of false _ _ y hlay.1 (fun _ _ _=>rfl) this
    · intro a' w' h1 h2 h3 h4
      refine hR a' w' h1 h2 h3 ?_
      rw [hpt,after_then _ _ _ rfl hp1,if_neg (by simp)]
      simp only [Int.toNat_natCast]
      exact after_then_none h4
  ·
    unfold rMake
    generalize hu8:t+10+rLenT X.c+rNilT h=u8
    refine SC.wp_seq (SC.wp_reg (ops_mv (oNo rfl (opw_cmp (op:=.gtr) (k:=.i32) (m:=n) (n:=0) (r:=false) ?_ rfl (by simp;omega) (oNi ?_)))))
    · rw [eTm,gTp (by omega)]
      exact l7
    refine SC.wp_cond (t:=false) (by rw [eTm,gTp (by rw [sPu];omega)]) ?_
    rw [if_neg (by simp)]
    refine SC.wp_skip ?_
    generalize ha8:((a7.put (some u8) (getT a7 (v+2))).put (some (u8+1)) (.bool false))=a8
    have s8:a8.tmps.size=X.N:=by rw [← ha8];simp only [sPu];exact s7
    have g8:∀ s,s < u8→getT a8 s=getT a7 s:=fun s hs=>by rw [← ha8,gTn (by omega),gTn (by omega)]
    have hi8:RInv X a8 w5 (some r1):=hi7.act (by rw [s8,s7]) (by rw [← ha8];simp [dPu]) fun s hs=>g8 s (by omega)
    simp only [Exit.then]
    refine rNone_ok (of:=of) (T:=T) (E:=E) (sa:=v+1) hi8 ((g8 (v+2) (by omega)).trans l7) (by omega) (by omega) (by omega) (by omega) (by omega) (by omega) (by omega) fun a9 hi9 g9=>?_
    simp only [Exit.then]
    have hst:some r1=after (some r0) (pTy X.ver X.flex (.list T E size of) (nuOf h)):=by
      rw [hpt,after_then _ _ _ rfl hp1]
      split
      · exact (after_rOk _ _).symm
      · rw [show n.toNat=0 by omega]
        rw [after_then (x:=[]) (r:=r1) _ _ _ rfl rfl]
        exact (after_rOk _ _).symm
    refine last a9 w5 _ base 0 0 hi9 (by rw [g9 (v+1) (by omega) (by omega),g8 (v+1) (by omega)];exact v7) (fun s k1 k2 k3 k4 k5 k6=>?_) hf5 hrow5 hst ?_
    · rw [g9 s k4 (by omega),g8 s (by omega)]
      exact g7 s k1 k2 k3 k5
    · intro x r' hpx hfit
      rw [hpt] at hpx
      obtain ⟨n2,r2,q1,q2⟩:=rThen_some hpx
      rw [hp1] at q1
      cases q1
      by_cases hc:(nuOf h && decide (n < 0))=true
      · rw [if_pos hc] at q2
        obtain ⟨rfl,rfl⟩:=rOk_some q2
        simp only [Bool.and_eq_true,decide_eq_true_eq] at hc
        simp only [tNull,Tree.null,Bool.and_true,hc.1,if_true]
        refine ⟨trivial,?_⟩
        rcases hbase with hbase | hbase
        · exact hbase.1
        · have:=hbase.2.2.2
          omega
      · rw [if_neg hc] at q2
        rw [show n.toNat=0 by omega] at q2
        obtain ⟨xs,r3,q3,q4⟩:=rThen_some q2
        obtain ⟨rfl,rfl⟩:=rOk_some q4
        obtain ⟨rfl,rfl⟩:=rOk_some q3
        simp only [tL,Tree.null,Tree.l,Bool.and_false,Bool.false_eq_true,if_false,List.length_nil]
        refine ⟨trivial,Nat.zero_le _,?_,?_⟩
        · intro hnu
          rcases hbase with hbase | hbase
          · exfalso
            have:=hbase.2 hnu
            simp only [hnu,Bool.true_and,decide_eq_true_eq] at hc
            omega
          · rw [hbase.2.1]
            simp
        · rcases hbase with hbase | hbase
          · exact .inl ⟨hbase.1,trivial⟩
          · refine .inr ⟨w4.heap.size,0,hbase.2.1,fun k hk=>?_,fun i y hy=>by simp at hy⟩
            subst hk
            exact ⟨hbase.1,fun hk=>by have:=ho.lt _ hk;have:=honly.size;omega⟩
theorem elem_all (hX:X.ok) (hF:∀ fs,FsOK X fs):∀ ty,ElemOK X ty
  | .prim k=>elemOK_prim hX k
  | .list _ _ _ _=>by
    intro T E size sa si v t bk bl l cap idx O a w st Q hok
    simp [okRElem] at hok
  | .struct _ _ _ _ fs=>elemOK_struct hX (hF fs)
mutual
theorem val_all (hX:X.ok):∀ ty:Ty,ValOK X ty∧ElemOK X ty
  | .prim k=>⟨valOK_prim hX k,elemOK_prim hX k⟩
  | .list T E size of=>⟨valOK_list hX (val_all hX of).2,by
    intro T E size sa si v t bk bl l cap idx O a w st Q hok
    simp [okRElem] at hok⟩
  | .struct S size d tags fs=>⟨valOK_struct hX (fs_all hX fs),elemOK_struct hX (fs_all hX fs)⟩
theorem fs_all (hX:X.ok):∀ fs:Fs,FsOK X fs
  | .nil=>fsOK_nil
  | .cons h ty r=>fsOK_cons hX (val_all hX ty).1 (fs_all hX r)
end
end
end Go.Proofs.YtgaplicnofhliaaDoor.K
namespace Go.Proofs.YtgaplicnofhliaaDoor.K
open Go Go.RowKit Go.Proofs.YtgaplicnofhliaaDoor.T
attribute [local simp] eTm eCo pNo gTp gTn qv qcall vop iop
set_option linter.unusedSimpArgs false
set_option linter.unusedVariables false
set_option maxHeartbeats 2000000
def sc_BE16 (T0 T1 T2 T3 T4:Nat):SC:=.seq (.reg [⟨some 2,.box T0 (.tmp 0),none⟩,⟨some 4,.assign (.const (.int .u16 0)),none⟩]) (.seq (.reg [mv 5 1,⟨some 6,.indexAddr T1 (.tmp 5) (.const (.int .i64 1)),none⟩,ld 7 T2 6]) (.seq (.dreg [mv 8 1,⟨some 9,.indexAddr T1 (.tmp 8) (.const (.int .i64 1)),none⟩,ld 10 T2 9,⟨some 11,.convert T2 T3 (.tmp 10),none⟩,mv 12 1,⟨some 13,.indexAddr T1 (.tmp 12) (.const (.int .i64 0)),none⟩,ld 14 T2 13,⟨some 15,.convert T2 T3 (.tmp 14),none⟩,⟨some 16,.binOp .shl T3 (.tmp 15) (.const (.int .u64 8)) T4,none⟩,⟨some 17,.binOp .or T3 (.tmp 11) (.tmp 16) T3,none⟩,asg 4 17] [[],[0],[1],[2],[],[4],[5],[6],[7],[3,8],[9,0,1,2,3,4,5,6,7,8,9]]) (.ret)))
def sc_BE32 (T0 T1 T2 T3 T4:Nat):SC:=.seq (.reg [⟨some 2,.box T0 (.tmp 0),none⟩,⟨some 4,.assign (.const (.int .u32 0)),none⟩]) (.seq (.reg [mv 5 1,⟨some 6,.indexAddr T1 (.tmp 5) (.const (.int .i64 3)),none⟩,ld 7 T2 6]) (.seq (.dreg [mv 8 1,⟨some 9,.indexAddr T1 (.tmp 8) (.const (.int .i64 3)),none⟩,ld 10 T2 9,⟨some 11,.convert T2 T3 (.tmp 10),none⟩,mv 12 1,⟨some 13,.indexAddr T1 (.tmp 12) (.const (.int .i64 2)),none⟩,ld 14 T2 13,⟨some 15,.convert T2 T3 (.tmp 14),none⟩,⟨some 16,.binOp .shl T3 (.tmp 15) (.const (.int .u64 8)) T4,none⟩,⟨some 17,.binOp .or T3 (.tmp 11) (.tmp 16) T3,none⟩,mv 18 1,⟨some 19,.indexAddr T1 (.tmp 18) (.const (.int .i64 1)),none⟩,ld 20 T2 19,⟨some 21,.convert T2 T3 (.tmp 20),none⟩,⟨some 22,.binOp .shl T3 (.tmp 21) (.const (.int .u64 16)) T4,none⟩,⟨some 23,.binOp .or T3 (.tmp 17) (.tmp 22) T3,none⟩,mv 24 1,⟨some 25,.indexAddr T1 (.tmp 24) (.const (.int .i64 0)),none⟩,ld 26 T2 25,⟨some 27,.convert T2 T3 (.tmp 26),none⟩,⟨some 28,.binOp .shl T3 (.tmp 27) (.const (.int .u64 24)) T4,none⟩,⟨some 29,.binOp .or T3 (.tmp 23) (.tmp 28) T3,none⟩,asg 4 29] [[],[0],[1],[2],[],[4],[5],[6],[7],[3,8],[],[10],[11],[12],[13],[9,14],[],[16],[17],[18],[19],[15,20],[21,0,1,2,3,4,5,6,7,8,9,10,11,12,13,14,15,16,17,18,19,20,21]]) (.ret)))
def sc_BE64 (T0 T1 T2 T3 T4:Nat):SC:=.seq (.reg [⟨some 2,.box T0 (.tmp 0),none⟩,⟨some 4,.assign (.const (.int .u64 0)),none⟩]) (.seq (.reg [mv 5 1,⟨some 6,.indexAddr T1 (.tmp 5) (.const (.int .i64 7)),none⟩,ld 7 T2 6]) (.seq (.dreg [mv 8 1,⟨some 9,.indexAddr T1 (.tmp 8) (.const (.int .i64 7)),none⟩,ld 10 T2 9,⟨some 11,.convert T2 T3 (.tmp 10),none⟩,mv 12 1,⟨some 13,.indexAddr T1 (.tmp 12) (.const (.int .i64 6)),none⟩,ld 14 T2 13,⟨some 15,.convert T2 T3 (.tmp 14),none⟩,⟨some 16,.binOp .shl T3 (.tmp 15) (.const (.int .u64 8)) T4,none⟩,⟨some 17,.binOp .or T3 (.tmp 11) (.tmp 16) T3,none⟩,mv 18 1,⟨some 19,.indexAddr T1 (.tmp 18) (.const (.int .i64 5)),none⟩,ld 20 T2 19,⟨some 21,.convert T2 T3 (.tmp 20),none⟩,⟨some 22,.binOp .shl T3 (.tmp 21) (.const (.int .u64 16)) T4,none⟩,⟨some 23,.binOp .or T3 (.tmp 17) (.tmp 22) T3,none⟩,mv 24 1,⟨some 25,.indexAddr T1 (.tmp 24) (.const (.int .i64 4)),none⟩,ld 26 T2 25,⟨some 27,.convert T2 T3 (.tmp 26),none⟩,⟨some 28,.binOp .shl T3 (.tmp 27) (.const (.int .u64 24)) T4,none⟩,⟨some 29,.binOp .or T3 (.tmp 23) (.tmp 28) T3,none⟩,mv 30 1,⟨some 31,.indexAddr T1 (.tmp 30) (.const (.int .i64 3)),none⟩,ld 32 T2 31,⟨some 33,.convert T2 T3 (.tmp 32),none⟩,⟨some 34,.binOp .shl T3 (.tmp 33) (.const (.int .u64 32)) T4,none⟩,⟨some 35,.binOp .or T3 (.tmp 29) (.tmp 34) T3,none⟩,mv 36 1,⟨some 37,.indexAddr T1 (.tmp 36) (.const (.int .i64 2)),none⟩,ld 38 T2 37,⟨some 39,.convert T2 T3 (.tmp 38),none⟩,⟨some 40,.binOp .shl T3 (.tmp 39) (.const (.int .u64 40)) T4,none⟩,⟨some 41,.binOp .or T3 (.tmp 35) (.tmp 40) T3,none⟩,mv 42 1,⟨some 43,.indexAddr T1 (.tmp 42) (.const (.int .i64 1)),none⟩,ld 44 T2 43,⟨some 45,.convert T2 T3 (.tmp 44),none⟩,⟨some 46,.binOp .shl T3 (.tmp 45) (.const (.int .u64 48)) T4,none⟩,⟨some 47,.binOp .or T3 (.tmp 41) (.tmp 46) T3,none⟩,mv 48 1,⟨some 49,.indexAddr T1 (.tmp 48) (.const (.int .i64 0)),none⟩,ld 50 T2 49,⟨some 51,.convert T2 T3 (.tmp 50),none⟩,⟨some 52,.binOp .shl T3 (.tmp 51) (.const (.int .u64 56)) T4,none⟩,⟨some 53,.binOp .or T3 (.tmp 47) (.tmp 52) T3,none⟩,asg 4 53] [[],[0],[1],[2],[],[4],[5],[6],[7],[3,8],[],[10],[11],[12],[13],[9,14],[],[16],[17],[18],[19],[15,20],[],[22],[23],[24],[25],[21,26],[],[28],[29],[30],[31],[27,32],[],[34],[35],[36],[37],[33,38],[],[40],[41],[42],[43],[39,44],[45,0,1,2,3,4,5,6,7,8,9,10,11,12,13,14,15,16,17,18,19,20,21,22,23,24,25,26,27,28,29,30,31,32,33,34,35,36,37,38,39,40,41,42,43,44,45]]) (.ret)))
theorem or_add {bits a b s:Nat} (ha:a < 2 ^ s) (h:a+b * 2 ^ s < 2 ^ bits):(BitVec.ofInt bits (a:Int) ||| BitVec.ofInt bits ((b:Int) * (2 ^ s:Nat))).toNat=a+b * 2 ^ s:=by
  have e1:(BitVec.ofInt bits (a:Int)).toNat=a:=by
    rw [BitVec.ofInt_natCast,BitVec.toNat_ofNat]
    exact Nat.mod_eq_of_lt (by omega)
  have e2:(BitVec.ofInt bits ((b:Int) * (2 ^ s:Nat))).toNat=b * 2 ^ s:=by
    rw [← Int.natCast_mul,BitVec.ofInt_natCast,BitVec.toNat_ofNat]
    exact Nat.mod_eq_of_lt (by omega)
  rw [BitVec.toNat_or,e1,e2,Nat.or_comm,Nat.mul_comm b,← Nat.two_pow_add_eq_or_of_lt ha b]
  omega
theorem or_add2 {bits a b s:Nat} {A B:Int} (hA:A=(a:Int)) (hB:B=((b * 2 ^ s:Nat):Int)) (ha:a < 2 ^ s) (h:a+b * 2 ^ s < 2 ^ bits):(BitVec.ofInt bits A ||| BitVec.ofInt bits B).toNat=a+b * 2 ^ s:=by
  subst hA hB
  rw [Int.natCast_mul]
  exact or_add ha h
theorem wrap_uN {k:IntKind} (hk:k.signed=false) {n:Nat} (h:n < 2 ^ k.bits):k.wrap (n:Int)=n:=by
  cases k <;> simp [IntKind.signed] at hk <;> simp only [IntKind.wrap,IntKind.bits,IntKind.signed] at h ⊢ <;> simp <;> omega
theorem be2_ok {P:Program} {f:FuncId} {fn:Func} {R:RTy} {T0 T3 T4:Nat} (hm:P.follows .mixedOrders=true) (hR:rdOK P R=true) (hi3:intK P T3=some .u16) (hf:P.funcs[f]?=some fn) (hb:fn.body.map strip=some (sc_BE16 T0 R.TB R.U8 T3 T4)) (hn:fn.ntmps=18) (hr:fn.results=#[.tmp 4])
    (w:World) (sb q len cap:Nat) (u0 u1:UInt8) (hlen:2≤len) (hsb:sb < w.heap.size) (hc:∀ j u,[u0,u1][j]?=some u→w.cell? ⟨sb,q+j,none⟩=some (cell u)) :
    Calls P f #[.agg #[],.slice (some ⟨sb,q,none⟩) len cap] w fun e w'=>e=.returned (.int .u16 ((unfix [u0,u1]:Nat):Int))∧Below w.heap.size w w':=by
  have hst:=rd_facts hR
  refine fCa hf hb hn (by simp) fun a0 hs hd ha=>?_
  have h0:=ha 0 _ rfl
  have h1:=ha 1 _ rfl
  simp only [List.getElem_toArray,List.getElem_cons_zero,List.getElem_cons_succ] at h0 h1
  have c0:=hc 0 u0 rfl
  have c1:=hc 1 u1 rfl
  simp only [cell,Nat.add_zero] at c0 c1
  have hlt:u0.toNat < 256∧u1.toNat < 256:=⟨u0.toNat_lt,u1.toNat_lt⟩
  refine SC.wp_seq (SC.wp_reg (oNo rfl (opw_box h0 ?_)))
  repeat (apply ops_1;(focus (simp (disch:=(try simp only [sPu]);omega) ;try rfl)))
  refine oNi ?_
  simp only [Exit.then]
  generalize hw1:w.alloc (.cells (Value.agg #[]).cells T0)=w1
  have hb1:Below w.heap.size w w1:=by rw [← hw1];exact (Below.refl _ _).alloc (Nat.le_refl _) _
  have hl1:sb < w1.heap.size:=Nat.lt_of_lt_of_le hsb hb1.size
  have d0:w1.cell? ⟨sb,q,none⟩=some (.int .u8 (u0.toNat:Int)):=by rw [hb1.cell (p:=⟨sb,q,none⟩) hsb];exact c0
  have d1:w1.cell? ⟨sb,q+1,none⟩=some (.int .u8 (u1.toNat:Int)):=by rw [hb1.cell (p:=⟨sb,q+1,none⟩) hsb];exact c1
  have g0:0 < len:=by omega
  have g1:(1:Int) < (len:Int):=by omega
  have x0:IntKind.u16.wrap (u0.toNat:Int)=(u0.toNat:Int):=wrap_uN rfl (by have:=u0.toNat_lt;simp only [IntKind.bits];omega)
  have x1:IntKind.u16.wrap (u1.toNat:Int)=(u1.toNat:Int):=wrap_uN rfl (by have:=u1.toNat_lt;simp only [IntKind.bits];omega)
  have s0:IntKind.u16.wrap ((u0.toNat:Int) * 256)=(u0.toNat:Int) * 256:=by
    have:=wrap_uN (k:=.u16) rfl (n:=u0.toNat * 256) (by have:=u0.toNat_lt;simp only [IntKind.bits];omega)
    simpa using this
  have o0:IntKind.u16.wrap ((BitVec.ofInt IntKind.u16.bits ((u1.toNat:Int)) ||| BitVec.ofInt IntKind.u16.bits ((u0.toNat:Int) * 256)).toNat:Int)=(u1.toNat:Int)+(u0.toNat:Int) * 256:=by
    rw [or_add2 (a:=u1.toNat) (b:=u0.toNat) (s:=8) (by omega) (by omega) (by omega) (by simp only [IntKind.bits];omega)]
    rw [wrap_uN (k:=.u16) rfl (n:=u1.toNat+u0.toNat * 2 ^ 8) (by simp only [IntKind.bits];omega)]
    omega
  have b1:8≤IntKind.u16.bits:=by decide
  refine SC.wp_seq (SC.wp_reg ?_)
  repeat (apply ops_1;(focus (simp (disch:=(try simp only [sPu]);omega) [hst,h1,hi3,hl1,d0,g0,x0,d1,g1,x1,s0,o0,b1];try rfl)))
  refine oNi ?_
  simp only [Exit.then]
  refine SC.wp_seq (SC.wp_dreg hm (Below w1.heap.size w1.drew) [(0,true),(1,true),(2,true),(3,true),(4,true),(5,true),(6,true),(7,true),(8,true),(9,true),(10,true)] (by rfl) (by rfl) (by decide) (Below.refl _ _) ?_)
  have e0:w1.drew.cell? ⟨sb,q,none⟩=some (.int .u8 (u0.toNat:Int)):=d0
  have e1:w1.drew.cell? ⟨sb,q+1,none⟩=some (.int .u8 (u1.toNat:Int)):=d1
  repeat (apply dr_1;(focus rfl);(focus (simp (disch:=(try simp only [sPu]);omega) [hst,h1,hi3,hl1,e0,g0,x0,e1,g1,x1,s0,o0,b1,-BitVec.toNat_or,-BitVec.ofInt_natCast,-BitVec.toNat_ofInt,-BitVec.toNat_ofNat];try rfl)))
  refine dreg_nil ?_
  simp only [Exit.then]
  refine SC.wp_ret (ret_tmp hr (by simp [dPu,hd]) ⟨?_,hb1.drew⟩)
  simp (disch:=(try simp only [sPu]);omega) [-BitVec.toNat_or,-BitVec.ofInt_natCast,-BitVec.toNat_ofInt,-BitVec.toNat_ofNat]
  simp only [unfix,List.length_cons,List.length_nil,Nat.reduceAdd,Nat.reducePow]
  omega
theorem be4_ok {P:Program} {f:FuncId} {fn:Func} {R:RTy} {T0 T3 T4:Nat} (hm:P.follows .mixedOrders=true) (hR:rdOK P R=true) (hi3:intK P T3=some .u32) (hf:P.funcs[f]?=some fn) (hb:fn.body.map strip=some (sc_BE32 T0 R.TB R.U8 T3 T4)) (hn:fn.ntmps=30) (hr:fn.results=#[.tmp 4])
    (w:World) (sb q len cap:Nat) (u0 u1 u2 u3:UInt8) (hlen:4≤len) (hsb:sb < w.heap.size) (hc:∀ j u,[u0,u1,u2,u3][j]?=some u→w.cell? ⟨sb,q+j,none⟩=some (cell u)) :
    Calls P f #[.agg #[],.slice (some ⟨sb,q,none⟩) len cap] w fun e w'=>e=.returned (.int .u32 ((unfix [u0,u1,u2,u3]:Nat):Int))∧Below w.heap.size w w':=by
  have hst:=rd_facts hR
  refine fCa hf hb hn (by simp) fun a0 hs hd ha=>?_
  have h0:=ha 0 _ rfl
  have h1:=ha 1 _ rfl
  simp only [List.getElem_toArray,List.getElem_cons_zero,List.getElem_cons_succ] at h0 h1
  have c0:=hc 0 u0 rfl
  have c1:=hc 1 u1 rfl
  have c2:=hc 2 u2 rfl
  have c3:=hc 3 u3 rfl
  simp only [cell,Nat.add_zero] at c0 c1 c2 c3
  have hlt:u0.toNat < 256∧u1.toNat < 256∧u2.toNat < 256∧u3.toNat < 256:=⟨u0.toNat_lt,u1.toNat_lt,u2.toNat_lt,u3.toNat_lt⟩
  refine SC.wp_seq (SC.wp_reg (oNo rfl (opw_box h0 ?_)))
  repeat (apply ops_1;(focus (simp (disch:=(try simp only [sPu]);omega) ;try rfl)))
  refine oNi ?_
  simp only [Exit.then]
  generalize hw1:w.alloc (.cells (Value.agg #[]).cells T0)=w1
  have hb1:Below w.heap.size w w1:=by rw [← hw1];exact (Below.refl _ _).alloc (Nat.le_refl _) _
  have hl1:sb < w1.heap.size:=Nat.lt_of_lt_of_le hsb hb1.size
  have d0:w1.cell? ⟨sb,q,none⟩=some (.int .u8 (u0.toNat:Int)):=by rw [hb1.cell (p:=⟨sb,q,none⟩) hsb];exact c0
  have d1:w1.cell? ⟨sb,q+1,none⟩=some (.int .u8 (u1.toNat:Int)):=by rw [hb1.cell (p:=⟨sb,q+1,none⟩) hsb];exact c1
  have d2:w1.cell? ⟨sb,q+2,none⟩=some (.int .u8 (u2.toNat:Int)):=by rw [hb1.cell (p:=⟨sb,q+2,none⟩) hsb];exact c2
  have d3:w1.cell? ⟨sb,q+3,none⟩=some (.int .u8 (u3.toNat:Int)):=by rw [hb1.cell (p:=⟨sb,q+3,none⟩) hsb];exact c3
  have g0:0 < len:=by omega
  have g1:(1:Int) < (len:Int):=by omega
  have g2:(2:Int) < (len:Int):=by omega
  have g3:(3:Int) < (len:Int):=by omega
  have x0:IntKind.u32.wrap (u0.toNat:Int)=(u0.toNat:Int):=wrap_uN rfl (by have:=u0.toNat_lt;simp only [IntKind.bits];omega)
  have x1:IntKind.u32.wrap (u1.toNat:Int)=(u1.toNat:Int):=wrap_uN rfl (by have:=u1.toNat_lt;simp only [IntKind.bits];omega)
  have x2:IntKind.u32.wrap (u2.toNat:Int)=(u2.toNat:Int):=wrap_uN rfl (by have:=u2.toNat_lt;simp only [IntKind.bits];omega)
  have x3:IntKind.u32.wrap (u3.toNat:Int)=(u3.toNat:Int):=wrap_uN rfl (by have:=u3.toNat_lt;simp only [IntKind.bits];omega)
  have s2:IntKind.u32.wrap ((u2.toNat:Int) * 256)=(u2.toNat:Int) * 256:=by
    have:=wrap_uN (k:=.u32) rfl (n:=u2.toNat * 256) (by have:=u2.toNat_lt;simp only [IntKind.bits];omega)
    simpa using this
  have s1:IntKind.u32.wrap ((u1.toNat:Int) * 65536)=(u1.toNat:Int) * 65536:=by
    have:=wrap_uN (k:=.u32) rfl (n:=u1.toNat * 65536) (by have:=u1.toNat_lt;simp only [IntKind.bits];omega)
    simpa using this
  have s0:IntKind.u32.wrap ((u0.toNat:Int) * 16777216)=(u0.toNat:Int) * 16777216:=by
    have:=wrap_uN (k:=.u32) rfl (n:=u0.toNat * 16777216) (by have:=u0.toNat_lt;simp only [IntKind.bits];omega)
    simpa using this
  have o2:IntKind.u32.wrap ((BitVec.ofInt IntKind.u32.bits ((u3.toNat:Int)) ||| BitVec.ofInt IntKind.u32.bits ((u2.toNat:Int) * 256)).toNat:Int)=(u3.toNat:Int)+(u2.toNat:Int) * 256:=by
    rw [or_add2 (a:=u3.toNat) (b:=u2.toNat) (s:=8) (by omega) (by omega) (by omega) (by simp only [IntKind.bits];omega)]
    rw [wrap_uN (k:=.u32) rfl (n:=u3.toNat+u2.toNat * 2 ^ 8) (by simp only [IntKind.bits];omega)]
    omega
  have o1:IntKind.u32.wrap ((BitVec.ofInt IntKind.u32.bits ((u3.toNat:Int)+(u2.toNat:Int) * 256) ||| BitVec.ofInt IntKind.u32.bits ((u1.toNat:Int) * 65536)).toNat:Int)=(u3.toNat:Int)+(u2.toNat:Int) * 256+(u1.toNat:Int) * 65536:=by
    rw [or_add2 (a:=u3.toNat+u2.toNat * 256) (b:=u1.toNat) (s:=16) (by omega) (by omega) (by omega) (by simp only [IntKind.bits];omega)]
    rw [wrap_uN (k:=.u32) rfl (n:=u3.toNat+u2.toNat * 256+u1.toNat * 2 ^ 16) (by simp only [IntKind.bits];omega)]
    omega
  have o0:IntKind.u32.wrap ((BitVec.ofInt IntKind.u32.bits ((u3.toNat:Int)+(u2.toNat:Int) * 256+(u1.toNat:Int) * 65536) ||| BitVec.ofInt IntKind.u32.bits ((u0.toNat:Int) * 16777216)).toNat:Int)=(u3.toNat:Int)+(u2.toNat:Int) * 256+(u1.toNat:Int) * 65536+(u0.toNat:Int) * 16777216:=by
    rw [or_add2 (a:=u3.toNat+u2.toNat * 256+u1.toNat * 65536) (b:=u0.toNat) (s:=24) (by omega) (by omega) (by omega) (by simp only [IntKind.bits];omega)]
    rw [wrap_uN (k:=.u32) rfl (n:=u3.toNat+u2.toNat * 256+u1.toNat * 65536+u0.toNat * 2 ^ 24) (by simp only [IntKind.bits];omega)]
    omega
  have b1:8≤IntKind.u32.bits:=by decide
  have b2:16≤IntKind.u32.bits:=by decide
  have b3:24≤IntKind.u32.bits:=by decide
  refine SC.wp_seq (SC.wp_reg ?_)
  repeat (apply ops_1;(focus (simp (disch:=(try simp only [sPu]);omega) [hst,h1,hi3,hl1,d0,g0,x0,d1,g1,x1,d2,g2,x2,d3,g3,x3,s0,o0,s1,o1,s2,o2,b1,b2,b3];try rfl)))
  refine oNi ?_
  simp only [Exit.then]
  refine SC.wp_seq (SC.wp_dreg hm (Below w1.heap.size w1.drew) [(0,true),(1,true),(2,true),(3,true),(4,true),(5,true),(6,true),(7,true),(8,true),(9,true),(10,true),(11,true),(12,true),(13,true),(14,true),(15,true),(16,true),(17,true),(18,true),(19,true),(20,true),(21,true),(22,true)] (by rfl) (by rfl) (by decide) (Below.refl _ _) ?_)
  have e0:w1.drew.cell? ⟨sb,q,none⟩=some (.int .u8 (u0.toNat:Int)):=d0
  have e1:w1.drew.cell? ⟨sb,q+1,none⟩=some (.int .u8 (u1.toNat:Int)):=d1
  have e2:w1.drew.cell? ⟨sb,q+2,none⟩=some (.int .u8 (u2.toNat:Int)):=d2
  have e3:w1.drew.cell? ⟨sb,q+3,none⟩=some (.int .u8 (u3.toNat:Int)):=d3
  repeat (apply dr_1;(focus rfl);(focus (simp (disch:=(try simp only [sPu]);omega) [hst,h1,hi3,hl1,e0,g0,x0,e1,g1,x1,e2,g2,x2,e3,g3,x3,s0,o0,s1,o1,s2,o2,b1,b2,b3,-BitVec.toNat_or,-BitVec.ofInt_natCast,-BitVec.toNat_ofInt,-BitVec.toNat_ofNat];try rfl)))
  refine dreg_nil ?_
  simp only [Exit.then]
  refine SC.wp_ret (ret_tmp hr (by simp [dPu,hd]) ⟨?_,hb1.drew⟩)
  simp (disch:=(try simp only [sPu]);omega) [-BitVec.toNat_or,-BitVec.ofInt_natCast,-BitVec.toNat_ofInt,-BitVec.toNat_ofNat]
  simp only [unfix,List.length_cons,List.length_nil,Nat.reduceAdd,Nat.reducePow]
  omega
theorem be8_ok {P:Program} {f:FuncId} {fn:Func} {R:RTy} {T0 T3 T4:Nat} (hm:P.follows .mixedOrders=true) (hR:rdOK P R=true) (hi3:intK P T3=some .u64) (hf:P.funcs[f]?=some fn) (hb:fn.body.map strip=some (sc_BE64 T0 R.TB R.U8 T3 T4)) (hn:fn.ntmps=54) (hr:fn.results=#[.tmp 4])
    (w:World) (sb q len cap:Nat) (u0 u1 u2 u3 u4 u5 u6 u7:UInt8) (hlen:8≤len) (hsb:sb < w.heap.size) (hc:∀ j u,[u0,u1,u2,u3,u4,u5,u6,u7][j]?=some u→w.cell? ⟨sb,q+j,none⟩=some (cell u)) :
    Calls P f #[.agg #[],.slice (some ⟨sb,q,none⟩) len cap] w fun e w'=>e=.returned (.int .u64 ((unfix [u0,u1,u2,u3,u4,u5,u6,u7]:Nat):Int))∧Below w.heap.size w w':=by
  have hst:=rd_facts hR
  refine fCa hf hb hn (by simp) fun a0 hs hd ha=>?_
  have h0:=ha 0 _ rfl
  have h1:=ha 1 _ rfl
  simp only [List.getElem_toArray,List.getElem_cons_zero,List.getElem_cons_succ] at h0 h1
  have c0:=hc 0 u0 rfl
  have c1:=hc 1 u1 rfl
  have c2:=hc 2 u2 rfl
  have c3:=hc 3 u3 rfl
  have c4:=hc 4 u4 rfl
  have c5:=hc 5 u5 rfl
  have c6:=hc 6 u6 rfl
  have c7:=hc 7 u7 rfl
  simp only [cell,Nat.add_zero] at c0 c1 c2 c3 c4 c5 c6 c7
  have hlt:u0.toNat < 256∧u1.toNat < 256∧u2.toNat < 256∧u3.toNat < 256∧u4.toNat < 256∧u5.toNat < 256∧u6.toNat < 256∧u7.toNat < 256:=⟨u0.toNat_lt,u1.toNat_lt,u2.toNat_lt,u3.toNat_lt,u4.toNat_lt,u5.toNat_lt,u6.toNat_lt,u7.toNat_lt⟩
  refine SC.wp_seq (SC.wp_reg (oNo rfl (opw_box h0 ?_)))
  repeat (apply ops_1;(focus (simp (disch:=(try simp only [sPu]);omega) ;try rfl)))
  refine oNi ?_
  simp only [Exit.then]
  generalize hw1:w.alloc (.cells (Value.agg #[]).cells T0)=w1
  have hb1:Below w.heap.size w w1:=by rw [← hw1];exact (Below.refl _ _).alloc (Nat.le_refl _) _
  have hl1:sb < w1.heap.size:=Nat.lt_of_lt_of_le hsb hb1.size
  have d0:w1.cell? ⟨sb,q,none⟩=some (.int .u8 (u0.toNat:Int)):=by rw [hb1.cell (p:=⟨sb,q,none⟩) hsb];exact c0
  have d1:w1.cell? ⟨sb,q+1,none⟩=some (.int .u8 (u1.toNat:Int)):=by rw [hb1.cell (p:=⟨sb,q+1,none⟩) hsb];exact c1
  have d2:w1.cell? ⟨sb,q+2,none⟩=some (.int .u8 (u2.toNat:Int)):=by rw [hb1.cell (p:=⟨sb,q+2,none⟩) hsb];exact c2
  have d3:w1.cell? ⟨sb,q+3,none⟩=some (.int .u8 (u3.toNat:Int)):=by rw [hb1.cell (p:=⟨sb,q+3,none⟩) hsb];exact c3
  have d4:w1.cell? ⟨sb,q+4,none⟩=some (.int .u8 (u4.toNat:Int)):=by rw [hb1.cell (p:=⟨sb,q+4,none⟩) hsb];exact c4
  have d5:w1.cell? ⟨sb,q+5,none⟩=some (.int .u8 (u5.toNat:Int)):=by rw [hb1.cell (p:=⟨sb,q+5,none⟩) hsb];exact c5
  have d6:w1.cell? ⟨sb,q+6,none⟩=some (.int .u8 (u6.toNat:Int)):=by rw [hb1.cell (p:=⟨sb,q+6,none⟩) hsb];exact c6
  have d7:w1.cell? ⟨sb,q+7,none⟩=some (.int .u8 (u7.toNat:Int)):=by rw [hb1.cell (p:=⟨sb,q+7,none⟩) hsb];exact c7
  have g0:0 < len:=by omega
  have g1:(1:Int) < (len:Int):=by omega
  have g2:(2:Int) < (len:Int):=by omega
  have g3:(3:Int) < (len:Int):=by omega
  have g4:(4:Int) < (len:Int):=by omega
  have g5:(5:Int) < (len:Int):=by omega
  have g6:(6:Int) < (len:Int):=by omega
  have g7:(7:Int) < (len:Int):=by omega
  have x0:IntKind.u64.wrap (u0.toNat:Int)=(u0.toNat:Int):=wrap_uN rfl (by have:=u0.toNat_lt;simp only [IntKind.bits];omega)
  have x1:IntKind.u64.wrap (u1.toNat:Int)=(u1.toNat:Int):=wrap_uN rfl (by have:=u1.toNat_lt;simp only [IntKind.bits];omega)
  have x2:IntKind.u64.wrap (u2.toNat:Int)=(u2.toNat:Int):=wrap_uN rfl (by have:=u2.toNat_lt;simp only [IntKind.bits];omega)
  have x3:IntKind.u64.wrap (u3.toNat:Int)=(u3.toNat:Int):=wrap_uN rfl (by have:=u3.toNat_lt;simp only [IntKind.bits];omega)
  have x4:IntKind.u64.wrap (u4.toNat:Int)=(u4.toNat:Int):=wrap_uN rfl (by have:=u4.toNat_lt;simp only [IntKind.bits];omega)
  have x5:IntKind.u64.wrap (u5.toNat:Int)=(u5.toNat:Int):=wrap_uN rfl (by have:=u5.toNat_lt;simp only [IntKind.bits];omega)
  have x6:IntKind.u64.wrap (u6.toNat:Int)=(u6.toNat:Int):=wrap_uN rfl (by have:=u6.toNat_lt;simp only [IntKind.bits];omega)
  have x7:IntKind.u64.wrap (u7.toNat:Int)=(u7.toNat:Int):=wrap_uN rfl (by have:=u7.toNat_lt;simp only [IntKind.bits];omega)
  have s6:IntKind.u64.wrap ((u6.toNat:Int) * 256)=(u6.toNat:Int) * 256:=by
    have:=wrap_uN (k:=.u64) rfl (n:=u6.toNat * 256) (by have:=u6.toNat_lt;simp only [IntKind.bits];omega)
    simpa using this
  have s5:IntKind.u64.wrap ((u5.toNat:Int) * 65536)=(u5.toNat:Int) * 65536:=by
    have:=wrap_uN (k:=.u64) rfl (n:=u5.toNat * 65536) (by have:=u5.toNat_lt;simp only [IntKind.bits];omega)
    simpa using this
  have s4:IntKind.u64.wrap ((u4.toNat:Int) * 16777216)=(u4.toNat:Int) * 16777216:=by
    have:=wrap_uN (k:=.u64) rfl (n:=u4.toNat * 16777216) (by have:=u4.toNat_lt;simp only [IntKind.bits];omega)
    simpa using this
  have s3:IntKind.u64.wrap ((u3.toNat:Int) * 4294967296)=(u3.toNat:Int) * 4294967296:=by
    have:=wrap_uN (k:=.u64) rfl (n:=u3.toNat * 4294967296) (by have:=u3.toNat_lt;simp only [IntKind.bits];omega)
    simpa using this
  have s2:IntKind.u64.wrap ((u2.toNat:Int) * 1099511627776)=(u2.toNat:Int) * 1099511627776:=by
    have:=wrap_uN (k:=.u64) rfl (n:=u2.toNat * 1099511627776) (by have:=u2.toNat_lt;simp only [IntKind.bits];omega)
    simpa using this
  have s1:IntKind.u64.wrap ((u1.toNat:Int) * 281474976710656)=(u1.toNat:Int) * 281474976710656:=by
    have:=wrap_uN (k:=.u64) rfl (n:=u1.toNat * 281474976710656) (by have:=u1.toNat_lt;simp only [IntKind.bits];omega)
    simpa using this
  have s0:IntKind.u64.wrap ((u0.toNat:Int) * 72057594037927936)=(u0.toNat:Int) * 72057594037927936:=by
    have:=wrap_uN (k:=.u64) rfl (n:=u0.toNat * 72057594037927936) (by have:=u0.toNat_lt;simp only [IntKind.bits];omega)
    simpa using this
  have o6:IntKind.u64.wrap ((BitVec.ofInt IntKind.u64.bits ((u7.toNat:Int)) ||| BitVec.ofInt IntKind.u64.bits ((u6.toNat:Int) * 256)).toNat:Int)=(u7.toNat:Int)+(u6.toNat:Int) * 256:=by
    rw [or_add2 (a:=u7.toNat) (b:=u6.toNat) (s:=8) (by omega) (by omega) (by omega) (by simp only [IntKind.bits];omega)]
    rw [wrap_uN (k:=.u64) rfl (n:=u7.toNat+u6.toNat * 2 ^ 8) (by simp only [IntKind.bits];omega)]
    omega
  have o5:IntKind.u64.wrap ((BitVec.ofInt IntKind.u64.bits ((u7.toNat:Int)+(u6.toNat:Int) * 256) ||| BitVec.ofInt IntKind.u64.bits ((u5.toNat:Int) * 65536)).toNat:Int)=(u7.toNat:Int)+(u6.toNat:Int) * 256+(u5.toNat:Int) * 65536:=by
    rw [or_add2 (a:=u7.toNat+u6.toNat * 256) (b:=u5.toNat) (s:=16) (by omega) (by omega) (by omega) (by simp only [IntKind.bits];omega)]
    rw [wrap_uN (k:=.u64) rfl (n:=u7.toNat+u6.toNat * 256+u5.toNat * 2 ^ 16) (by simp only [IntKind.bits];omega)]
    omega
  have o4:IntKind.u64.wrap ((BitVec.ofInt IntKind.u64.bits ((u7.toNat:Int)+(u6.toNat:Int) * 256+(u5.toNat:Int) * 65536) ||| BitVec.ofInt IntKind.u64.bits ((u4.toNat:Int) * 16777216)).toNat:Int)=(u7.toNat:Int)+(u6.toNat:Int) * 256+(u5.toNat:Int) * 65536+(u4.toNat:Int) * 16777216:=by
    rw [or_add2 (a:=u7.toNat+u6.toNat * 256+u5.toNat * 65536) (b:=u4.toNat) (s:=24) (by omega) (by omega) (by omega) (by simp only [IntKind.bits];omega)]
    rw [wrap_uN (k:=.u64) rfl (n:=u7.toNat+u6.toNat * 256+u5.toNat * 65536+u4.toNat * 2 ^ 24) (by simp only [IntKind.bits];omega)]
    omega
  have o3:IntKind.u64.wrap ((BitVec.ofInt IntKind.u64.bits ((u7.toNat:Int)+(u6.toNat:Int) * 256+(u5.toNat:Int) * 65536+(u4.toNat:Int) * 16777216) ||| BitVec.ofInt IntKind.u64.bits ((u3.toNat:Int) * 4294967296)).toNat:Int)=(u7.toNat:Int)+(u6.toNat:Int) * 256+(u5.toNat:Int) * 65536+(u4.toNat:Int) * 16777216+(u3.toNat:Int) * 4294967296:=by
    rw [or_add2 (a:=u7.toNat+u6.toNat * 256+u5.toNat * 65536+u4.toNat * 16777216) (b:=u3.toNat) (s:=32) (by omega) (by omega) (by omega) (by simp only [IntKind.bits];omega)]
    rw [wrap_uN (k:=.u64) rfl (n:=u7.toNat+u6.toNat * 256+u5.toNat * 65536+u4.toNat * 16777216+u3.toNat * 2 ^ 32) (by simp only [IntKind.bits];omega)]
    omega
  have o2:IntKind.u64.wrap ((BitVec.ofInt IntKind.u64.bits ((u7.toNat:Int)+(u6.toNat:Int) * 256+(u5.toNat:Int) * 65536+(u4.toNat:Int) * 16777216+(u3.toNat:Int) * 4294967296) ||| BitVec.ofInt IntKind.u64.bits ((u2.toNat:Int) * 1099511627776)).toNat:Int)=(u7.toNat:Int)+(u6.toNat:Int) * 256+(u5.toNat:Int) * 65536+(u4.toNat:Int) * 16777216+(u3.toNat:Int) * 4294967296+(u2.toNat:Int) * 1099511627776:=by
    rw [or_add2 (a:=u7.toNat+u6.toNat * 256+u5.toNat * 65536+u4.toNat * 16777216+u3.toNat * 4294967296) (b:=u2.toNat) (s:=40) (by omega) (by omega) (by omega) (by simp only [IntKind.bits];omega)]
    rw [wrap_uN (k:=.u64) rfl (n:=u7.toNat+u6.toNat * 256+u5.toNat * 65536+u4.toNat * 16777216+u3.toNat * 4294967296+u2.toNat * 2 ^ 40) (by simp only [IntKind.bits];omega)]
    omega
  have o1:IntKind.u64.wrap ((BitVec.ofInt IntKind.u64.bits ((u7.toNat:Int)+(u6.toNat:Int) * 256+(u5.toNat:Int) * 65536+(u4.toNat:Int) * 16777216+(u3.toNat:Int) * 4294967296+(u2.toNat:Int) * 1099511627776) ||| BitVec.ofInt IntKind.u64.bits ((u1.toNat:Int) * 281474976710656)).toNat:Int)=(u7.toNat:Int)+(u6.toNat:Int) * 256+(u5.toNat:Int) * 65536+(u4.toNat:Int) * 16777216+(u3.toNat:Int) * 4294967296+(u2.toNat:Int) * 1099511627776+(u1.toNat:Int) * 281474976710656:=by
    rw [or_add2 (a:=u7.toNat+u6.toNat * 256+u5.toNat * 65536+u4.toNat * 16777216+u3.toNat * 4294967296+u2.toNat * 1099511627776) (b:=u1.toNat) (s:=48) (by omega) (by omega) (by omega) (by simp only [IntKind.bits];omega)]
    rw [wrap_uN (k:=.u64) rfl (n:=u7.toNat+u6.toNat * 256+u5.toNat * 65536+u4.toNat * 16777216+u3.toNat * 4294967296+u2.toNat * 1099511627776+u1.toNat * 2 ^ 48) (by simp only [IntKind.bits];omega)]
    omega
  have o0:IntKind.u64.wrap ((BitVec.ofInt IntKind.u64.bits ((u7.toNat:Int)+(u6.toNat:Int) * 256+(u5.toNat:Int) * 65536+(u4.toNat:Int) * 16777216+(u3.toNat:Int) * 4294967296+(u2.toNat:Int) * 1099511627776+(u1.toNat:Int) * 281474976710656) ||| BitVec.ofInt IntKind.u64.bits ((u0.toNat:Int) * 72057594037927936)).toNat:Int)=(u7.toNat:Int)+(u6.toNat:Int) * 256+(u5.toNat:Int) * 65536+(u4.toNat:Int) * 16777216+(u3.toNat:Int) * 4294967296+(u2.toNat:Int) * 1099511627776+(u1.toNat:Int) * 281474976710656+(u0.toNat:Int) * 72057594037927936:=by
    rw [or_add2 (a:=u7.toNat+u6.toNat * 256+u5.toNat * 65536+u4.toNat * 16777216+u3.toNat * 4294967296+u2.toNat * 1099511627776+u1.toNat * 281474976710656) (b:=u0.toNat) (s:=56) (by omega) (by omega) (by omega) (by simp only [IntKind.bits];omega)]
    rw [wrap_uN (k:=.u64) rfl (n:=u7.toNat+u6.toNat * 256+u5.toNat * 65536+u4.toNat * 16777216+u3.toNat * 4294967296+u2.toNat * 1099511627776+u1.toNat * 281474976710656+u0.toNat * 2 ^ 56) (by simp only [IntKind.bits];omega)]
    omega
  have b1:8≤IntKind.u64.bits:=by decide
  have b2:16≤IntKind.u64.bits:=by decide
  have b3:24≤IntKind.u64.bits:=by decide
  have b4:32≤IntKind.u64.bits:=by decide
  have b5:40≤IntKind.u64.bits:=by decide
  have b6:48≤IntKind.u64.bits:=by decide
  have b7:56≤IntKind.u64.bits:=by decide
  refine SC.wp_seq (SC.wp_reg ?_)
  repeat (apply ops_1;(focus (simp (disch:=(try simp only [sPu]);omega) [hst,h1,hi3,hl1,d0,g0,x0,d1,g1,x1,d2,g2,x2,d3,g3,x3,d4,g4,x4,d5,g5,x5,d6,g6,x6,d7,g7,x7,s0,o0,s1,o1,s2,o2,s3,o3,s4,o4,s5,o5,s6,o6,b1,b2,b3,b4,b5,b6,b7];try rfl)))
  refine oNi ?_
  simp only [Exit.then]
  refine SC.wp_seq (SC.wp_dreg hm (Below w1.heap.size w1.drew) [(0,true),(1,true),(2,true),(3,true),(4,true),(5,true),(6,true),(7,true),(8,true),(9,true),(10,true),(11,true),(12,true),(13,true),(14,true),(15,true),(16,true),(17,true),(18,true),(19,true),(20,true),(21,true),(22,true),(23,true),(24,true),(25,true),(26,true),(27,true),(28,true),(29,true),(30,true),(31,true),(32,true),(33,true),(34,true),(35,true),(36,true),(37,true),(38,true),(39,true),(40,true),(41,true),(42,true),(43,true),(44,true),(45,true),(46,true)] (by rfl) (by rfl) (by decide) (Below.refl _ _) ?_)
  have e0:w1.drew.cell? ⟨sb,q,none⟩=some (.int .u8 (u0.toNat:Int)):=d0
  have e1:w1.drew.cell? ⟨sb,q+1,none⟩=some (.int .u8 (u1.toNat:Int)):=d1
  have e2:w1.drew.cell? ⟨sb,q+2,none⟩=some (.int .u8 (u2.toNat:Int)):=d2
  have e3:w1.drew.cell? ⟨sb,q+3,none⟩=some (.int .u8 (u3.toNat:Int)):=d3
  have e4:w1.drew.cell? ⟨sb,q+4,none⟩=some (.int .u8 (u4.toNat:Int)):=d4
  have e5:w1.drew.cell? ⟨sb,q+5,none⟩=some (.int .u8 (u5.toNat:Int)):=d5
  have e6:w1.drew.cell? ⟨sb,q+6,none⟩=some (.int .u8 (u6.toNat:Int)):=d6
  have e7:w1.drew.cell? ⟨sb,q+7,none⟩=some (.int .u8 (u7.toNat:Int)):=d7
  repeat (apply dr_1;(focus rfl);(focus (simp (disch:=(try simp only [sPu]);omega) [hst,h1,hi3,hl1,e0,g0,x0,e1,g1,x1,e2,g2,x2,e3,g3,x3,e4,g4,x4,e5,g5,x5,e6,g6,x6,e7,g7,x7,s0,o0,s1,o1,s2,o2,s3,o3,s4,o4,s5,o5,s6,o6,b1,b2,b3,b4,b5,b6,b7,-BitVec.toNat_or,-BitVec.ofInt_natCast,-BitVec.toNat_ofInt,-BitVec.toNat_ofNat];try rfl)))
  refine dreg_nil ?_
  simp only [Exit.then]
  refine SC.wp_ret (ret_tmp hr (by simp [dPu,hd]) ⟨?_,hb1.drew⟩)
  simp (disch:=(try simp only [sPu]);omega) [-BitVec.toNat_or,-BitVec.ofInt_natCast,-BitVec.toNat_ofInt,-BitVec.toNat_ofNat]
  simp only [unfix,List.length_cons,List.length_nil,Nat.reduceAdd,Nat.reducePow]
  omega
end Go.Proofs.YtgaplicnofhliaaDoor.K
namespace Go.Proofs.YtgaplicnofhliaaDoor.K
open Go Go.RowKit Go.Proofs.YtgaplicnofhliaaDoor.T
attribute [local simp] eTm eCo pNo gTp gTn qv qcall vop iop
set_option linter.unusedSimpArgs false
set_option linter.unusedVariables false
set_option maxHeartbeats 2000000
def rDropC (R:RTy) (t:Nat) (n:Int):SC:=.reg [mv t 0,mv (t+1) 0,nilc (t+2) (t+1),fa (t+3) R.TR (t+2) 0,ld (t+4) R.TB (t+3),⟨some (t+5),.slice R.TB (.tmp (t+4)) (some (.const (.int .i64 n))) none none,none⟩,nilc (t+6) t,fa (t+7) R.TR (t+6) 0,⟨none,.store R.TB (.tmp (t+7)) (.tmp (t+5)),none⟩]
def rLess (R:RTy) (n:Int):SC:=.reg [mv 4 0,nilc 5 4,fa 6 R.TR 5 0,ld 7 R.TB 6,lenOp 8 R.TB 7,⟨some 9,.binOp .lss R.I (.tmp 8) (.const (.int .i64 n)) R.I,none⟩]
section
variable {P:Program} {R:RTy} {f:FuncId} {fn:Func}
theorem rDropC_ok {t n rb:Nat} {a:Act} {w:World} {S:Option Nat} {base:Option Addr} {rest:Bytes} {cap:Nat} {Q:Exit→Act→World→Prop} (hR:rdOK P R=true) (hr:rdRow R.TR w rb (.slice base rest.length cap) false) (hc:rest.length≤cap) (hs:SrcAt w S base rest) (hS:∀ sb,S=some sb→sb ≠ rb) (hn:n≤rest.length)
    (h0:getT a 0=.pointer (some ⟨rb,0,none⟩)) (ht:0 < t) (htN:t+8≤a.tmps.size)
    (hQ:∀ a' w',a'.tmps.size=a.tmps.size→a'.defers=a.defers→(∀ s,s < t→getT a' s=getT a s)→RdAt R.TR w' S rb (some (rest.drop n))→Only rb w w'→Q .normal a' w'):(rDropC R t (n:Int)).wp P Q a w:=by
  have hf:=rd_facts hR
  have hcl:=rdRow_cells hr
  have hrow:w.heap[rb]?=some (.cells #[.slice base rest.length cap,.bool false] R.TR (0,0)):=hr
  refine SC.wp_reg (ops_mv (ops_mv (ops_nilc (ad:=⟨rb,0,none⟩) ?_ (ops_fa (fieldB_of hf.1) (b:=rb) (o:=0) ?_ (ops_ld hf.2.2.1 (ad:=⟨rb,0,none⟩) (v:=.slice base rest.length cap) ?_ hcl.1 (oNo rfl (opw_sliceLo (n:=n) (k:=.i64) (len:=rest.length) (cap:=cap) (base:=base) hf.2.2.2.1 ?_ rfl hn (ops_nilc (ad:=⟨rb,0,none⟩) ?_ (ops_fa (fieldB_of hf.1) (b:=rb) (o:=0) ?_ (ops_stR (b:=rb) (i:=0) (v:=sliceLo base rest.length cap n) hf.2.2.1 ?_ ?_ rfl hrow (by simp) (oNi ?_)))))))))))
  · rw [gTp (by simp only [sPu];omega),gTn (by omega)];exact h0
  · rw [gTp (by simp only [sPu];omega)]
  · rw [gTp (by simp only [sPu];omega)]
  · rw [eTm,gTp (by simp only [sPu];omega)]
  · rw [gTn (by omega),gTn (by omega),gTn (by omega),gTn (by omega),gTn (by omega),gTp (by omega)];exact h0
  · rw [gTp (by simp only [sPu];omega)]
  · rw [eTm,gTp (by simp only [sPu];omega)]
  · rw [eTm,gTn (by omega),gTn (by omega),gTp (by simp only [sPu];omega)]
  refine hQ _ _ (by simp only [sPu]) (by simp only [dPu]) (fun s hs=>?_) (rdAt_drop hr hc hs hS hn) ((Only.refl rb w).setRow _)
  rw [gTn (by omega),gTn (by omega),gTn (by omega),gTn (by omega),gTn (by omega),gTn (by omega),gTn (by omega),gTn (by omega)]
theorem RC.map {α β:Type} {TR gb:Nat} {p:Rd α} {g:α→β} {ty ty':Value→Prop} {ok:World→(Nat→Prop)→α→Value→Prop} {ok':World→(Nat→Prop)→β→Value→Prop} (h:RC P TR gb f p ty ok) (hty:∀ v,ty v→ty' v) (hok:∀ w F x v,ok w F x v→ok' w F (g x) v) :
    RC P TR gb f (rThen p fun x=>rOk (g x)) ty' ok':=by
  refine ⟨h.1,fun w S rb st h1 h2 h3=>(h.2 w S rb st h1 h2 h3).mono ?_⟩
  rintro e w' ⟨v,rfl,q1,q2,q3,q4⟩
  have ea:after st (rThen p fun x=>rOk (g x))=after st p:=by
    cases st with
    | none=>rfl
    | some b =>
      cases hp:p b with
      | none=>simp [after,rThen,hp]
      | some z=>rw [after_then _ _ _ rfl hp,after_ok hp];exact after_rOk _ _
  refine ⟨v,rfl,by rw [ea];exact q1,q2,hty v q3,fun b x r hst hpx=>?_⟩
  obtain ⟨y,r1,k1,k2⟩:=rThen_some hpx
  obtain ⟨rfl,rfl⟩:=rOk_some k2
  exact hok _ _ _ _ (q4 b y _ hst k1)
theorem pFix_none {k:Nat} {b:Bytes} (h:b.length < k):pFix k b=none:=by simp [pFix,h]
theorem pFix_some {k:Nat} {b:Bytes} (h:k≤b.length):pFix k b=some (unfix (b.take k),b.drop k):=by unfold pFix;rw [if_neg (by omega)]
theorem rdAt_lt {TR rb:Nat} {w:World} {v:Value} {bad:Bool} (h:rdRow TR w rb v bad):rb < w.heap.size:=(Array.getElem?_eq_some_iff.1 h).1
def sc_RBool (R:RTy):SC:=.seq (.reg [⟨some 2,.assign (.const (.bool false)),none⟩]) (.seq (.seq (rLess R 1) (.cond (.tmp 9) (rFail R 10 2 (.bool false)) .skip)) (.seq (.reg [mv 16 0,nilc 17 16,fa 18 R.TR 17 0,ld 19 R.TB 18,⟨some 20,.indexAddr R.TB (.tmp 19) (.const (.int .i64 0)),none⟩,ld 21 R.U8 20,⟨some 22,.binOp .neq R.U8 (.tmp 21) (.const (.int .u8 0)) R.U8,none⟩,asg 3 22]) (.seq (rDropC R 23 1) (.seq (.reg [mv 31 3,asg 2 31]) .ret))))
def sc_RInt8 (R:RTy) (I8:Nat):SC:=.seq (.reg [⟨some 2,.assign (.const (.int .i8 0)),none⟩]) (.seq (.seq (rLess R 1) (.cond (.tmp 9) (rFail R 10 2 (.int .i8 0)) .skip)) (.seq (.reg [mv 16 0,nilc 17 16,fa 18 R.TR 17 0,ld 19 R.TB 18,⟨some 20,.indexAddr R.TB (.tmp 19) (.const (.int .i64 0)),none⟩,ld 21 R.U8 20,asg 3 21]) (.seq (rDropC R 22 1) (.seq (.reg [mv 30 3,⟨some 31,.convert R.U8 I8 (.tmp 30),none⟩,asg 2 31]) .ret))))
theorem src_head {w:World} {S:Option Nat} {base:Option Addr} {rest:Bytes} (hs:SrcAt w S base rest) {k:Nat} (hk:k≤rest.length) (hk0:0 < k):∃ sb o,S=some sb∧base=some ⟨sb,o,none⟩∧∀ j u,(rest.take k)[j]?=some u→w.cell? ⟨sb,o+j,none⟩=some (cell u):=by
  cases S with
  | none =>
    obtain ⟨_,rfl⟩:=hs
    simp at hk
    omega
  | some sb =>
    obtain ⟨o,h1,h2⟩:=hs
    refine ⟨sb,o,rfl,h1,fun j u hu=>h2 j u ?_⟩
    rw [List.getElem?_take] at hu
    split at hu
    · exact hu
    · simp at hu
theorem rBool_ok {TR gb : Nat} (hTR : R.TR = TR) (hR : rdOK P R = true) (hf : P.funcs[f]? = some fn) (hb : fn.body.map strip = some (sc_RBool R)) (hnm : (fn.name == "runtime.NumGoroutine") = false) (hn : fn.ntmps = 32) (hr : fn.results = #[.tmp 2]) :
    RC P TR gb f (pFix 1) (fun v=>∃ x,v=.bool x) (fun _ _ n v=>v=.bool (n != 0)):=by
  subst hTR
  have hst:=rd_facts hR
  refine ⟨fnOK_of hf hb hnm,fun w S rb st hgb hrd hsrc=>?_⟩
  refine fCa hf hb hn (by simp) fun a0 hs hd ha=>?_
  have h0:=ha 0 _ rfl
  simp only [List.getElem_toArray,List.getElem_cons_zero,List.getElem_cons_succ] at h0
  refine SC.wp_seq (SC.wp_reg ?_)
  repeat (apply ops_1;(focus (simp (disch:=(try simp only [sPu]);omega) ;try rfl)))
  refine oNi (SC.wp_seq (SC.wp_seq (SC.wp_reg ?_)))
  rcases rdAt_row hrd with ⟨rfl,hrow⟩ | ⟨rest,base,cap,rfl,hrow,hcap,hsr⟩
  · have hc:=rdRow_cells hrow
    repeat (apply ops_1;(focus (simp (disch:=(try simp only [sPu]);omega) [hst,h0,hc];try rfl)))
    refine oNi (SC.wp_cond (t:=true) (by simp (disch:=(try simp only [sPu]);omega)) ?_)
    rw [if_pos rfl]
    refine rFail_ok (S:=S) hR hrow (by simp (disch:=(try simp only [sPu]);omega) [h0]) (by omega) (by simp [sPu,hs]) (by simp [sPu,hs]) fun a' w' q1 q2 q3 q4=>?_
    simp only [Exit.then]
    exact ret_tmp hr (by rw [q1];simp [dPu,hd]) ⟨_,rfl,q3,q4,⟨false,q2⟩,fun b x r h=>by cases h⟩
  · have hc:=rdRow_cells hrow
    repeat (apply ops_1;(focus (simp (disch:=(try simp only [sPu]);omega) [hst,h0,hc];try rfl)))
    refine oNi (SC.wp_cond (t:=decide ((rest.length:Int) < 1)) (by simp (disch:=(try simp only [sPu]);omega)) ?_)
    by_cases hl:rest.length < 1
    · rw [if_pos (decide_eq_true (by omega))]
      refine rFail_ok (S:=S) hR hrow (by simp (disch:=(try simp only [sPu]);omega) [h0]) (by omega) (by simp [sPu,hs]) (by simp [sPu,hs]) fun a' w' q1 q2 q3 q4=>?_
      simp only [Exit.then]
      refine ret_tmp hr (by rw [q1];simp [dPu,hd]) ⟨_,rfl,by rw [after_no (pFix_none hl)];exact q3,q4,⟨false,q2⟩,fun b x r h hp=>?_⟩
      cases h
      rw [pFix_none hl] at hp
      cases hp
    · rw [if_neg (by rw [decide_eq_false (by omega)];simp)]
      refine SC.wp_skip ?_
      simp only [Exit.then]
      obtain ⟨sb,q,rfl,rfl,hbytes⟩:=src_head hsr (k:=1) (by omega) (by omega)
      obtain ⟨u,rest',rfl⟩:∃ u rest',rest=u :: rest':=by
        cases rest with
        | nil=>simp at hl
        | cons u r=>exact ⟨u,r,rfl⟩
      have hcu:=hbytes 0 u rfl
      simp only [cell,Nat.add_zero] at hcu
      have hlp:0 < (u :: rest').length:=by simp
      refine SC.wp_seq (SC.wp_reg ?_)
      repeat (apply ops_1;(focus (simp (disch:=(try simp only [sPu]);omega) [hst,h0,hc,hcu,hlp];try rfl)))
      refine oNi ?_
      simp only [Exit.then]
      refine SC.wp_seq (rDropC_ok (n:=1) (S:=some sb) hR hrow hcap hsr (fun s h=>(hsrc s h).1) (by simp) (by simp (disch:=(try simp only [sPu]);omega) [h0]) (by omega) (by simp [sPu,hs]) fun a1 w1 q1 q2 q3 q4 q5=>?_)
      have hs1:a1.tmps.size=32:=by rw [q1];simp [sPu,hs]
      have hd1:a1.defers=[]:=by rw [q2];simp [dPu,hd]
      have h3:getT a1 3=.bool ((u.toNat:Int) != 0):=by rw [q3 3 (by omega)];simp (disch:=(try simp only [sPu]);omega)
      simp only [Exit.then]
      refine SC.wp_seq (SC.wp_reg ?_)
      repeat (apply ops_1;(focus (simp (disch:=(try simp only [sPu]);omega) [h3];try rfl)))
      refine oNi (SC.wp_ret ?_)
      have hpf:pFix 1 (u :: rest')=some (u.toNat,rest'):=by simp [pFix,unfix]
      refine ret_tmp hr (by simp [dPu,hd1]) ⟨_,rfl,by rw [after_ok hpf];exact q4,q5,⟨(u.toNat:Int) != 0,by simp (disch:=(try simp only [sPu]);omega) [h3]⟩,fun b x r h hp=>?_⟩
      cases h
      rw [hpf] at hp
      cases hp
      have hbn:((u.toNat:Int) != 0)=(u.toNat != 0):=by
        rw [Bool.eq_iff_iff,bne_iff_ne,bne_iff_ne]
        omega
      rw [← hbn]
      simp (disch:=(try simp only [sPu]);omega) [h3]
theorem wrap_i8 {n:Nat} (h:n < 256):IntKind.i8.wrap (n:Int)=sgn 1 n:=by
  simp only [IntKind.wrap,IntKind.bits,IntKind.signed,sgn]
  simp
  split <;> split <;> omega
theorem rInt8_ok {TR gb I8 : Nat} (hTR : R.TR = TR) (hR : rdOK P R = true) (hI8 : intK P I8 = some .i8) (hf : P.funcs[f]? = some fn) (hb : fn.body.map strip = some (sc_RInt8 R I8)) (hnm : (fn.name == "runtime.NumGoroutine") = false) (hn : fn.ntmps = 32) (hr : fn.results = #[.tmp 2]) :
    RC P TR gb f (pInt 1) (fun v=>∃ n,v=.int .i8 n) (fun _ _ n v=>v=.int .i8 n):=by
  subst hTR
  have hst:=rd_facts hR
  refine ⟨fnOK_of hf hb hnm,fun w S rb st hgb hrd hsrc=>?_⟩
  refine fCa hf hb hn (by simp) fun a0 hs hd ha=>?_
  have h0:=ha 0 _ rfl
  simp only [List.getElem_toArray,List.getElem_cons_zero,List.getElem_cons_succ] at h0
  refine SC.wp_seq (SC.wp_reg ?_)
  repeat (apply ops_1;(focus (simp (disch:=(try simp only [sPu]);omega) ;try rfl)))
  refine oNi (SC.wp_seq (SC.wp_seq (SC.wp_reg ?_)))
  rcases rdAt_row hrd with ⟨rfl,hrow⟩ | ⟨rest,base,cap,rfl,hrow,hcap,hsr⟩
  · have hc:=rdRow_cells hrow
    repeat (apply ops_1;(focus (simp (disch:=(try simp only [sPu]);omega) [hst,h0,hc];try rfl)))
    refine oNi (SC.wp_cond (t:=true) (by simp (disch:=(try simp only [sPu]);omega)) ?_)
    rw [if_pos rfl]
    refine rFail_ok (S:=S) hR hrow (by simp (disch:=(try simp only [sPu]);omega) [h0]) (by omega) (by simp [sPu,hs]) (by simp [sPu,hs]) fun a' w' q1 q2 q3 q4=>?_
    simp only [Exit.then]
    exact ret_tmp hr (by rw [q1];simp [dPu,hd]) ⟨_,rfl,q3,q4,⟨0,q2⟩,fun b x r h=>by cases h⟩
  · have hc:=rdRow_cells hrow
    repeat (apply ops_1;(focus (simp (disch:=(try simp only [sPu]);omega) [hst,h0,hc];try rfl)))
    refine oNi (SC.wp_cond (t:=decide ((rest.length:Int) < 1)) (by simp (disch:=(try simp only [sPu]);omega)) ?_)
    by_cases hl:rest.length < 1
    · have hno:pInt 1 rest=none:=by simp [pInt,rThen,pFix_none hl]
      rw [if_pos (decide_eq_true (by omega))]
      refine rFail_ok (S:=S) hR hrow (by simp (disch:=(try simp only [sPu]);omega) [h0]) (by omega) (by simp [sPu,hs]) (by simp [sPu,hs]) fun a' w' q1 q2 q3 q4=>?_
      simp only [Exit.then]
      refine ret_tmp hr (by rw [q1];simp [dPu,hd]) ⟨_,rfl,by rw [after_no hno];exact q3,q4,⟨0,q2⟩,fun b x r h hp=>?_⟩
      cases h
      rw [hno] at hp
      cases hp
    · rw [if_neg (by rw [decide_eq_false (by omega)];simp)]
      refine SC.wp_skip ?_
      simp only [Exit.then]
      obtain ⟨sb,q,rfl,rfl,hbytes⟩:=src_head hsr (k:=1) (by omega) (by omega)
      obtain ⟨u,rest',rfl⟩:∃ u rest',rest=u :: rest':=by
        cases rest with
        | nil=>simp at hl
        | cons u r=>exact ⟨u,r,rfl⟩
      have hcu:=hbytes 0 u rfl
      simp only [cell,Nat.add_zero] at hcu
      have hlp:0 < (u :: rest').length:=by simp
      refine SC.wp_seq (SC.wp_reg ?_)
      repeat (apply ops_1;(focus (simp (disch:=(try simp only [sPu]);omega) [hst,h0,hc,hcu,hlp];try rfl)))
      refine oNi ?_
      simp only [Exit.then]
      refine SC.wp_seq (rDropC_ok (n:=1) (S:=some sb) hR hrow hcap hsr (fun s h=>(hsrc s h).1) (by simp) (by simp (disch:=(try simp only [sPu]);omega) [h0]) (by omega) (by simp [sPu,hs]) fun a1 w1 q1 q2 q3 q4 q5=>?_)
      have hs1:a1.tmps.size=32:=by rw [q1];simp [sPu,hs]
      have hd1:a1.defers=[]:=by rw [q2];simp [dPu,hd]
      have h3:getT a1 3=.int .u8 (u.toNat:Int):=by rw [q3 3 (by omega)];simp (disch:=(try simp only [sPu]);omega)
      have hw:=wrap_i8 u.toNat_lt
      simp only [Exit.then]
      refine SC.wp_seq (SC.wp_reg ?_)
      repeat (apply ops_1;(focus (simp (disch:=(try simp only [sPu]);omega) [h3,hst,hI8,hw];try rfl)))
      refine oNi (SC.wp_ret ?_)
      have hpf:pInt 1 (u :: rest')=some (sgn 1 u.toNat,rest'):=by simp [pInt,pFix,unfix,rThen,rOk]
      refine ret_tmp hr (by simp [dPu,hd1]) ⟨_,rfl,by rw [after_ok hpf];exact q4,q5,⟨sgn 1 u.toNat,by simp (disch:=(try simp only [sPu]);omega)⟩,fun b x r h hp=>?_⟩
      cases h
      rw [hpf] at hp
      cases hp
      simp (disch:=(try simp only [sPu]);omega)
end
end Go.Proofs.YtgaplicnofhliaaDoor.K
namespace Go.Proofs.YtgaplicnofhliaaDoor.K
open Go Go.RowKit Go.Proofs.YtgaplicnofhliaaDoor.T
attribute [local simp] eTm eCo pNo gTp gTn qv qcall vop iop
set_option linter.unusedSimpArgs false
set_option linter.unusedVariables false
set_option maxHeartbeats 2000000
def sc_RNumS (R:RTy) (BE F G0 T T':Nat) (nb:Int) (ks:IntKind):SC:=.seq (.reg [⟨some 2,.assign (.const (.int ks 0)),none⟩]) (.seq (.seq (rLess R nb) (.cond (.tmp 9) (rFail R 10 2 (.int ks 0)) .skip)) (.seq (.dreg [⟨some 16,.load BE (.global G0),none⟩,mv 17 0,nilc 18 17,fa 19 R.TR 18 0,ld 20 R.TB 19,cal 21 F [16,20],⟨some 22,.convert T T' (.tmp 21),none⟩,asg 3 22] [[],[],[1],[2],[3],[0,4],[5],[6,5,0,1,2,3,4,5,6]]) (.seq (rDropC R 23 nb) (.seq (.reg [mv 31 3,asg 2 31]) .ret))))
def sc_RNumU (R:RTy) (BE F G0:Nat) (nb:Int) (ku:IntKind):SC:=.seq (.reg [⟨some 2,.assign (.const (.int ku 0)),none⟩]) (.seq (.seq (rLess R nb) (.cond (.tmp 9) (rFail R 10 2 (.int ku 0)) .skip)) (.seq (.dreg [⟨some 16,.load BE (.global G0),none⟩,mv 17 0,nilc 18 17,fa 19 R.TR 18 0,ld 20 R.TB 19,cal 21 F [16,20],asg 3 21] [[],[],[1],[2],[3],[0,4],[5,5,0,1,2,3,4,5]]) (.seq (rDropC R 22 nb) (.seq (.reg [mv 30 3,asg 2 30]) .ret))))
def sc_RInt64 (T0 T1 F0:Nat):SC:=.seq (.reg [⟨some 2,.assign (.const (.int .i64 0)),none⟩]) (.seq (.reg [mv 3 0,cal 4 F0 [3],⟨some 5,.convert T0 T1 (.tmp 4),none⟩,asg 2 5]) (.ret))
def BeC (P:Program) (F nb:Nat) (ku:IntKind):Prop:=FnOK P F∧∀ (w:World) (sb q len cap:Nat) (bs:Bytes),bs.length=nb→nb≤len→sb < w.heap.size→(∀ j u,bs[j]?=some u→w.cell? ⟨sb,q+j,none⟩=some (cell u)) →
  Calls P F #[.agg #[],.slice (some ⟨sb,q,none⟩) len cap] w fun e w'=>e=.returned (.int ku ((unfix bs:Nat):Int))∧Below w.heap.size w w'
theorem beC2 {P : Program} {f : FuncId} {fn : Func} {R : RTy} {T0 T3 T4 : Nat} (hm : P.follows .mixedOrders = true) (hR : rdOK P R = true) (hi3 : intK P T3 = some .u16) (hf : P.funcs[f]? = some fn) (hb : fn.body.map strip = some (sc_BE16 T0 R.TB R.U8 T3 T4)) (hnm : (fn.name == "runtime.NumGoroutine") = false) (hn : fn.ntmps = 18) (hr : fn.results = #[.tmp 4]) : BeC P f 2 .u16 := by
  refine ⟨fnOK_of hf hb hnm,fun w sb q len cap bs hbs hlen hsb hc=>?_⟩
  match bs,hbs,hc with
  | [u0,u1],_,hc=>exact be2_ok hm hR hi3 hf hb hn hr w sb q len cap u0 u1 hlen hsb hc
theorem beC4 {P : Program} {f : FuncId} {fn : Func} {R : RTy} {T0 T3 T4 : Nat} (hm : P.follows .mixedOrders = true) (hR : rdOK P R = true) (hi3 : intK P T3 = some .u32) (hf : P.funcs[f]? = some fn) (hb : fn.body.map strip = some (sc_BE32 T0 R.TB R.U8 T3 T4)) (hnm : (fn.name == "runtime.NumGoroutine") = false) (hn : fn.ntmps = 30) (hr : fn.results = #[.tmp 4]) : BeC P f 4 .u32 := by
  refine ⟨fnOK_of hf hb hnm,fun w sb q len cap bs hbs hlen hsb hc=>?_⟩
  match bs,hbs,hc with
  | [u0,u1,u2,u3],_,hc=>exact be4_ok hm hR hi3 hf hb hn hr w sb q len cap u0 u1 u2 u3 hlen hsb hc
theorem beC8 {P : Program} {f : FuncId} {fn : Func} {R : RTy} {T0 T3 T4 : Nat} (hm : P.follows .mixedOrders = true) (hR : rdOK P R = true) (hi3 : intK P T3 = some .u64) (hf : P.funcs[f]? = some fn) (hb : fn.body.map strip = some (sc_BE64 T0 R.TB R.U8 T3 T4)) (hnm : (fn.name == "runtime.NumGoroutine") = false) (hn : fn.ntmps = 54) (hr : fn.results = #[.tmp 4]) : BeC P f 8 .u64 := by
  refine ⟨fnOK_of hf hb hnm,fun w sb q len cap bs hbs hlen hsb hc=>?_⟩
  match bs,hbs,hc with
  | [u0,u1,u2,u3,u4,u5,u6,u7],_,hc=>exact be8_ok hm hR hi3 hf hb hn hr w sb q len cap u0 u1 u2 u3 u4 u5 u6 u7 hlen hsb hc
theorem eval_global (a:Act) (g:Nat):a.eval (.global g)=.pointer (some ⟨g,0,none⟩):=rfl
theorem wrap_i16s {n:Nat} (h:n < 256 ^ 2):IntKind.i16.wrap (n:Int)=sgn 2 n:=by
  simp only [IntKind.wrap,IntKind.bits,IntKind.signed,sgn]
  simp
  split <;> split <;> omega
theorem wrap_i32s {n:Nat} (h:n < 256 ^ 4):IntKind.i32.wrap (n:Int)=sgn 4 n:=by
  simp only [IntKind.wrap,IntKind.bits,IntKind.signed,sgn]
  simp
  split <;> split <;> omega
theorem wrap_i64s {n:Nat} (h:n < 256 ^ 8):IntKind.i64.wrap (n:Int)=sgn 8 n:=by
  simp only [IntKind.wrap,IntKind.bits,IntKind.signed,sgn]
  simp
  split <;> split <;> omega
theorem unfix_lt:∀ (l:Bytes),unfix l < 256 ^ l.length
  | []=>by simp [unfix]
  | u :: l=>by
    have ih:=unfix_lt l
    simp only [unfix,List.length_cons,Nat.pow_succ]
    have hu:u.toNat≤255:=by have:=u.toNat_lt;omega
    have:u.toNat * 256 ^ l.length≤255 * 256 ^ l.length:=Nat.mul_le_mul_right _ hu
    omega
theorem pInt_of {k:Nat} {b:Bytes} (h:k≤b.length):pInt k b=some (sgn k (unfix (b.take k)),b.drop k):=by
  unfold pInt
  rw [rThen_of (pFix_some h)]
  rfl
theorem pInt_no {k:Nat} {b:Bytes} (h:b.length < k):pInt k b=none:=by simp [pInt,rThen,pFix_none h]
section
variable {P:Program} {R:RTy} {f:FuncId} {fn:Func}
theorem rNumS_ok {TR gb BE F T T' nb : Nat} {ks ku : IntKind} (hTR : R.TR = TR) (hm : P.follows .mixedOrders = true) (hR : rdOK P R = true) (hBE : aggN P BE = some 0) (hBE1 : oneB P BE = false) (hF : BeC P F nb ku) (hnb : 0 < nb) (hT : intK P T = some ku) (hT' : intK P T' = some ks) (hw : ∀ n : Nat, n < 256 ^ nb → ks.wrap (n : Int) = sgn nb n) (hf : P.funcs[f]? = some fn) (hb : fn.body.map strip = some (sc_RNumS R BE F gb T T' (nb : Int) ks)) (hnm : (fn.name == "runtime.NumGoroutine") = false) (hn : fn.ntmps = 32) (hr : fn.results = #[.tmp 2]) :
    RC P TR gb f (pInt nb) (fun v=>∃ n,v=.int ks n) (fun _ _ n v=>v=.int ks n):=by
  subst hTR
  have hst:=rd_facts hR
  refine ⟨fnOK_of hf hb hnm,fun w S rb st hgb hrd hsrc=>?_⟩
  refine fCa hf hb hn (by simp) fun a0 hs hd ha=>?_
  have h0:=ha 0 _ rfl
  simp only [List.getElem_toArray,List.getElem_cons_zero,List.getElem_cons_succ] at h0
  refine SC.wp_seq (SC.wp_reg ?_)
  repeat (apply ops_1;(focus (simp (disch:=(try simp only [sPu]);omega) ;try rfl)))
  refine oNi (SC.wp_seq (SC.wp_seq (SC.wp_reg ?_)))
  rcases rdAt_row hrd with ⟨rfl,hrow⟩ | ⟨rest,base,cap,rfl,hrow,hcap,hsr⟩
  · have hc:=rdRow_cells hrow
    have hnbi:decide ((0:Int) < (nb:Int))=true:=by simpa using hnb
    repeat (apply ops_1;(focus (simp (disch:=(try simp only [sPu]);omega) [hst,h0,hc];try rfl)))
    refine oNi (SC.wp_cond (t:=true) (by simp (disch:=(try simp only [sPu]);omega) [hnb]) ?_)
    rw [if_pos rfl]
    refine rFail_ok (S:=S) hR hrow (by simp (disch:=(try simp only [sPu]);omega) [h0]) (by omega) (by simp [sPu,hs]) (by simp [sPu,hs]) fun a' w' q1 q2 q3 q4=>?_
    simp only [Exit.then]
    exact ret_tmp hr (by rw [q1];simp [dPu,hd]) ⟨_,rfl,q3,q4,⟨0,q2⟩,fun b x r h=>by cases h⟩
  · have hc:=rdRow_cells hrow
    repeat (apply ops_1;(focus (simp (disch:=(try simp only [sPu]);omega) [hst,h0,hc];try rfl)))
    refine oNi (SC.wp_cond (t:=decide ((rest.length:Int) < (nb:Int))) (by simp (disch:=(try simp only [sPu]);omega)) ?_)
    by_cases hl:rest.length < nb
    · have hno:pInt nb rest=none:=pInt_no hl
      rw [if_pos (decide_eq_true (by omega))]
      refine rFail_ok (S:=S) hR hrow (by simp (disch:=(try simp only [sPu]);omega) [h0]) (by omega) (by simp [sPu,hs]) (by simp [sPu,hs]) fun a' w' q1 q2 q3 q4=>?_
      simp only [Exit.then]
      refine ret_tmp hr (by rw [q1];simp [dPu,hd]) ⟨_,rfl,by rw [after_no hno];exact q3,q4,⟨0,q2⟩,fun b x r h hp=>?_⟩
      cases h
      rw [hno] at hp
      cases hp
    · rw [if_neg (by rw [decide_eq_false (by omega)];simp)]
      refine SC.wp_skip ?_
      simp only [Exit.then]
      obtain ⟨sb,q,rfl,rfl,hbytes⟩:=src_head hsr (k:=nb) (by omega) hnb
      have hsbl:=(hsrc sb rfl).2
      have hrbl:=rdAt_lt hrow
      have hcd:w.drew.cell? ⟨rb,0,none⟩=some (.slice (some ⟨sb,q,none⟩) rest.length cap):=hc.1
      have hrg:rangeV w.drew gb 0 0=some []:=rfl
      refine SC.wp_seq (SC.wp_dreg hm (Below w.heap.size w.drew) [(0,true),(1,true),(2,true),(3,true),(4,true),(5,false),(6,true),(7,true)] (by rfl) (by rfl) (by decide) (Below.refl _ _) ?_)
      iterate 5 (apply dr_1;(focus rfl);(focus (simp (disch:=(try simp only [sPu]);omega) [hst,h0,hcd,hrbl,hgb,hBE,hBE1,hrg,eval_global];try rfl)))
      refine dreg_call (argsV:=#[.agg #[],.slice (some ⟨sb,q,none⟩) rest.length cap]) rfl hF.1 (hF.2 w.drew sb q rest.length cap (rest.take nb) (by simp;omega) (by omega) hsbl hbytes) (by simp (disch:=(try simp only [sPu]);omega)) ?_
      rintro e w1 ⟨rfl,hb1⟩
      refine ⟨_,rfl,hb1,?_⟩
      have hwv:=hw (unfix (rest.take nb)) (by have:=unfix_lt (rest.take nb);rwa [show (rest.take nb).length=nb by simp;omega] at this)
      repeat (apply dr_1;(focus rfl);(focus (simp (disch:=(try simp only [sPu]);omega) [hT,hT',hwv];try rfl)))
      refine dreg_nil ?_
      simp only [Exit.then]
      have hrow1:rdRow R.TR w1 rb (.slice (some ⟨sb,q,none⟩) rest.length cap) false:=(hb1.block rb hrbl).trans hrow
      have hsr1:SrcAt w1 (some sb) (some ⟨sb,q,none⟩) rest:=hsr.frame fun s h=>hb1.block s (hsrc s h).2
      refine SC.wp_seq (rDropC_ok (n:=nb) (S:=some sb) hR hrow1 hcap hsr1 (fun s h=>(hsrc s h).1) (by omega) (by simp (disch:=(try simp only [sPu]);omega) [h0]) (by omega) (by simp [sPu,hs]) fun a1 w2 q1 q2 q3 q4 q5=>?_)
      have hs1:a1.tmps.size=32:=by rw [q1];simp [sPu,hs]
      have hd1:a1.defers=[]:=by rw [q2];simp [dPu,hd]
      have h3:getT a1 3=.int ks (sgn nb (unfix (rest.take nb))):=by rw [q3 3 (by omega)];simp (disch:=(try simp only [sPu]);omega)
      simp only [Exit.then]
      refine SC.wp_seq (SC.wp_reg ?_)
      repeat (apply ops_1;(focus (simp (disch:=(try simp only [sPu]);omega) [h3];try rfl)))
      refine oNi (SC.wp_ret ?_)
      have hpf:pInt nb rest=some (sgn nb (unfix (rest.take nb)),rest.drop nb):=pInt_of (by omega)
      have ho1:Only rb w w1:=⟨hb1.os,hb1.tape,hb1.output,hb1.size,fun k hk _=>hb1.block k hk⟩
      refine ret_tmp hr (by simp [dPu,hd1]) ⟨_,rfl,by rw [after_ok hpf];exact q4,ho1.trans q5,⟨sgn nb (unfix (rest.take nb)),by simp (disch:=(try simp only [sPu]);omega) [h3]⟩,fun b x r h hp=>?_⟩
      cases h
      rw [hpf] at hp
      cases hp
      simp (disch:=(try simp only [sPu]);omega) [h3]
theorem rNumU_ok {TR gb BE F nb : Nat} {ku : IntKind} (hTR : R.TR = TR) (hm : P.follows .mixedOrders = true) (hR : rdOK P R = true) (hBE : aggN P BE = some 0) (hBE1 : oneB P BE = false) (hF : BeC P F nb ku) (hnb : 0 < nb) (hf : P.funcs[f]? = some fn) (hb : fn.body.map strip = some (sc_RNumU R BE F gb (nb : Int) ku)) (hnm : (fn.name == "runtime.NumGoroutine") = false) (hn : fn.ntmps = 31) (hr : fn.results = #[.tmp 2]) :
    RC P TR gb f (pFix nb) (fun v=>∃ n,v=.int ku n) (fun _ _ n v=>v=.int ku (n:Int)):=by
  subst hTR
  have hst:=rd_facts hR
  refine ⟨fnOK_of hf hb hnm,fun w S rb st hgb hrd hsrc=>?_⟩
  refine fCa hf hb hn (by simp) fun a0 hs hd ha=>?_
  have h0:=ha 0 _ rfl
  simp only [List.getElem_toArray,List.getElem_cons_zero,List.getElem_cons_succ] at h0
  refine SC.wp_seq (SC.wp_reg ?_)
  repeat (apply ops_1;(focus (simp (disch:=(try simp only [sPu]);omega) ;try rfl)))
  refine oNi (SC.wp_seq (SC.wp_seq (SC.wp_reg ?_)))
  rcases rdAt_row hrd with ⟨rfl,hrow⟩ | ⟨rest,base,cap,rfl,hrow,hcap,hsr⟩
  · have hc:=rdRow_cells hrow
    have hnbi:decide ((0:Int) < (nb:Int))=true:=by simpa using hnb
    repeat (apply ops_1;(focus (simp (disch:=(try simp only [sPu]);omega) [hst,h0,hc];try rfl)))
    refine oNi (SC.wp_cond (t:=true) (by simp (disch:=(try simp only [sPu]);omega) [hnb]) ?_)
    rw [if_pos rfl]
    refine rFail_ok (S:=S) hR hrow (by simp (disch:=(try simp only [sPu]);omega) [h0]) (by omega) (by simp [sPu,hs]) (by simp [sPu,hs]) fun a' w' q1 q2 q3 q4=>?_
    simp only [Exit.then]
    exact ret_tmp hr (by rw [q1];simp [dPu,hd]) ⟨_,rfl,q3,q4,⟨0,q2⟩,fun b x r h=>by cases h⟩
  · have hc:=rdRow_cells hrow
    repeat (apply ops_1;(focus (simp (disch:=(try simp only [sPu]);omega) [hst,h0,hc];try rfl)))
    refine oNi (SC.wp_cond (t:=decide ((rest.length:Int) < (nb:Int))) (by simp (disch:=(try simp only [sPu]);omega)) ?_)
    by_cases hl:rest.length < nb
    · have hno:pFix nb rest=none:=pFix_none hl
      rw [if_pos (decide_eq_true (by omega))]
      refine rFail_ok (S:=S) hR hrow (by simp (disch:=(try simp only [sPu]);omega) [h0]) (by omega) (by simp [sPu,hs]) (by simp [sPu,hs]) fun a' w' q1 q2 q3 q4=>?_
      simp only [Exit.then]
      refine ret_tmp hr (by rw [q1];simp [dPu,hd]) ⟨_,rfl,by rw [after_no hno];exact q3,q4,⟨0,q2⟩,fun b x r h hp=>?_⟩
      cases h
      rw [hno] at hp
      cases hp
    · rw [if_neg (by rw [decide_eq_false (by omega)];simp)]
      refine SC.wp_skip ?_
      simp only [Exit.then]
      obtain ⟨sb,q,rfl,rfl,hbytes⟩:=src_head hsr (k:=nb) (by omega) hnb
      have hsbl:=(hsrc sb rfl).2
      have hrbl:=rdAt_lt hrow
      have hcd:w.drew.cell? ⟨rb,0,none⟩=some (.slice (some ⟨sb,q,none⟩) rest.length cap):=hc.1
      have hrg:rangeV w.drew gb 0 0=some []:=rfl
      refine SC.wp_seq (SC.wp_dreg hm (Below w.heap.size w.drew) [(0,true),(1,true),(2,true),(3,true),(4,true),(5,false),(6,true)] (by rfl) (by rfl) (by decide) (Below.refl _ _) ?_)
      iterate 5 (apply dr_1;(focus rfl);(focus (simp (disch:=(try simp only [sPu]);omega) [hst,h0,hcd,hrbl,hgb,hBE,hBE1,hrg,eval_global];try rfl)))
      refine dreg_call (argsV:=#[.agg #[],.slice (some ⟨sb,q,none⟩) rest.length cap]) rfl hF.1 (hF.2 w.drew sb q rest.length cap (rest.take nb) (by simp;omega) (by omega) hsbl hbytes) (by simp (disch:=(try simp only [sPu]);omega)) ?_
      rintro e w1 ⟨rfl,hb1⟩
      refine ⟨_,rfl,hb1,?_⟩
      repeat (apply dr_1;(focus rfl);(focus (simp (disch:=(try simp only [sPu]);omega) ;try rfl)))
      refine dreg_nil ?_
      simp only [Exit.then]
      have hrow1:rdRow R.TR w1 rb (.slice (some ⟨sb,q,none⟩) rest.length cap) false:=(hb1.block rb hrbl).trans hrow
      have hsr1:SrcAt w1 (some sb) (some ⟨sb,q,none⟩) rest:=hsr.frame fun s h=>hb1.block s (hsrc s h).2
      refine SC.wp_seq (rDropC_ok (n:=nb) (S:=some sb) hR hrow1 hcap hsr1 (fun s h=>(hsrc s h).1) (by omega) (by simp (disch:=(try simp only [sPu]);omega) [h0]) (by omega) (by simp [sPu,hs]) fun a1 w2 q1 q2 q3 q4 q5=>?_)
      have hs1:a1.tmps.size=31:=by rw [q1];simp [sPu,hs]
      have hd1:a1.defers=[]:=by rw [q2];simp [dPu,hd]
      have h3:getT a1 3=.int ku (((unfix (rest.take nb):Nat):Int)):=by rw [q3 3 (by omega)];simp (disch:=(try simp only [sPu]);omega)
      simp only [Exit.then]
      refine SC.wp_seq (SC.wp_reg ?_)
      repeat (apply ops_1;(focus (simp (disch:=(try simp only [sPu]);omega) [h3];try rfl)))
      refine oNi (SC.wp_ret ?_)
      have hpf:pFix nb rest=some (unfix (rest.take nb),rest.drop nb):=pFix_some (by omega)
      have ho1:Only rb w w1:=⟨hb1.os,hb1.tape,hb1.output,hb1.size,fun k hk _=>hb1.block k hk⟩
      refine ret_tmp hr (by simp [dPu,hd1]) ⟨_,rfl,by rw [after_ok hpf];exact q4,ho1.trans q5,⟨((unfix (rest.take nb):Nat):Int),by simp (disch:=(try simp only [sPu]);omega) [h3]⟩,fun b x r h hp=>?_⟩
      cases h
      rw [hpf] at hp
      cases hp
      simp (disch:=(try simp only [sPu]);omega) [h3]
theorem rInt64_ok {TR gb T0 T1 F0:Nat} (hT0:intK P T0=some .u64) (hT1:intK P T1=some .i64) (h:RC P TR gb F0 (pFix 8) (fun v=>∃ n,v=.int .u64 n) (fun _ _ n v=>v=.int .u64 (n:Int)))
    (hf : P.funcs[f]? = some fn) (hb : fn.body.map strip = some (sc_RInt64 T0 T1 F0)) (hnm : (fn.name == "runtime.NumGoroutine") = false) (hn : fn.ntmps = 6) (hr : fn.results = #[.tmp 2]) :
    RC P TR gb f (pInt 8) (fun v=>∃ n,v=.int .i64 n) (fun _ _ n v=>v=.int .i64 n):=by
  refine ⟨fnOK_of hf hb hnm,fun w S rb st hgb hrd hsrc=>?_⟩
  refine fCa hf hb hn (by simp) fun a0 hs hd ha=>?_
  have h0:=ha 0 _ rfl
  simp only [List.getElem_toArray,List.getElem_cons_zero,List.getElem_cons_succ] at h0
  refine SC.wp_seq (SC.wp_reg ?_)
  repeat (apply ops_1;(focus (simp (disch:=(try simp only [sPu]);omega) ;try rfl)))
  refine oNi (SC.wp_seq (SC.wp_reg ?_))
  iterate 1 (apply ops_1;(focus (simp (disch:=(try simp only [sPu]);omega) [h0];try rfl)))
  refine ops_cal h.1 (by
    have:=h.2 w S rb st hgb hrd hsrc
    refine Eq.mp (congrArg (fun z=>Calls P F0 z w _) ?_) this
    simp (disch:=(try simp only [sPu]);omega)) ?_
  rintro e w1 ⟨v,rfl,q1,q2,⟨m,rfl⟩,q4⟩
  refine ⟨_,rfl,?_⟩
  repeat (apply ops_1;(focus (simp (disch:=(try simp only [sPu]);omega) [hT0,hT1];try rfl)))
  have ea:after st (pInt 8)=after st (pFix 8):=by
    cases st with
    | none=>rfl
    | some b =>
      unfold pInt
      cases hp:pFix 8 b with
      | none=>simp [after,rThen,hp]
      | some z=>rw [after_then _ _ _ rfl hp,after_ok hp];exact after_rOk _ _
  refine oNi (SC.wp_ret (ret_tmp hr (by simp [dPu,hd]) ⟨_,rfl,by rw [ea];exact q1,q2,⟨IntKind.i64.wrap m,by simp (disch:=(try simp only [sPu]);omega)⟩,fun b x r hst hp=>?_⟩))
  unfold pInt at hp
  obtain ⟨y,r1,k1,k2⟩:=rThen_some hp
  obtain ⟨rfl,rfl⟩:=rOk_some k2
  have hm:=q4 b y _ hst k1
  simp only [Value.int.injEq,true_and] at hm
  subst hm
  have hlt:y < 256 ^ 8:=by
    have f1:=pFix_facts k1
    have:=unfix_lt (b.take 8)
    rw [show (b.take 8).length=8 by simp;omega] at this
    rw [f1.2.1]
    exact this
  have:=wrap_i64s hlt
  simp (disch:=(try simp only [sPu]);omega) [this]
end
end Go.Proofs.YtgaplicnofhliaaDoor.K
