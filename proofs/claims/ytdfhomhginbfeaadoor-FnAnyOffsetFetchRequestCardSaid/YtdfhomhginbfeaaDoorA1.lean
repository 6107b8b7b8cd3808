/- Generic texts: L3 L4. No condition. -/
import Derived.Test.YtdfhomhginbfeaaDoorA0
namespace Go.Proofs.YtdfhomhginbfeaaDoor.K
open Go Go.RowKit Go.Proofs.YtdfhomhginbfeaaDoor.T
attribute [local simp] eTm eCo pNo gTp gTn qv qcall vop iop
set_option linter.unusedVariables false
set_option linter.unusedSimpArgs false
set_option maxHeartbeats 4000000
section
variable {X:RX}
theorem valL_ok (hX:X.ok) {tStr S p v t bk b o:Nat} {h:Hd} {ty:Ty} {O:Nat→Prop} {a:Act} {w:World} {st:Option Bytes} {Q:Exit→Act→World→Prop}
    (hok:okRValL X.P X.I X.c tStr h ty=true) (hlay:layTy (nuOf h) ty=true) (hdef:DefTy X.P ty) (hS:fieldB X.P S h.idx h.off=true) (hh:h.has X.ver=true)
    (hi:RInv X a w st) (hp:getT a p=.pointer (some ⟨b,o,none⟩)) (ho:Opn X O b w) (hrow:RowAt w b (o+h.off) (szTy (nuOf h) ty)) (hfr:FrTy w b (nuOf h) ty (o+h.off))
    (hpv:p < v) (hv:10≤v) (hvT:v+rVL h ty≤X.T0) (ht:X.T0≤t) (htN:t+rVTL X.c h ty≤X.N)
    (hQ:∀ a' w',RInv X a' w' (after st (pTy X.ver X.flex ty (nulAt X.ver h ty)))→RSame X a a' v t→Foot X.rb b (o+h.off) (o+h.off+szTy (nuOf h) ty) w w' →
      (∀ r x r',st=some r→pTy X.ver X.flex ty (nulAt X.ver h ty) r=some (x,r')→FitTy X.ver ty x→HTy X.G w' (FO O w') X.ver X.flex ty (nuOf h) b (o+h.off) x)→Q .normal a' w')
    (hR:RetOK X Q (after st (pTy X.ver X.flex ty (nulAt X.ver h ty))=none)):(rValL X.I X.c tStr S p h v t bk ty).wp X.P Q a w:=by
  have std:((decide (h.null < 0) || decide (h.null≤h.from_) || lateB h ty) && okRVal X.P X.I X.c h ty)=true→v+rV h ty≤X.T0→t+rVT X.c h ty≤X.N→(ty=.prim .str→¬ lateB h (.prim .str)=true)→(rVal X.I X.c S p h v t bk ty).wp X.P Q a w:=by
    intro hval hvT htN hstr
    simp only [Bool.and_eq_true,Bool.or_eq_true,decide_eq_true_eq] at hval
    by_cases hlt:lateB h ty=true∧X.ver < h.null∧ty ≠ .prim .str
    · obtain ⟨hl,hlt,hne⟩:=hlt
      have hn:=nulAt_late hl hlt
      rw [hn] at hQ hR
      cases ty with
      | list T E size of =>
        have h0:0≤h.null:=by have:=hX.hver;omega
        exact valLateList_ok hX (val_all hX of).2 S p h v t bk b o O a w st Q hval.2 hlay hdef hS h0 hlt hi hp ho hrow hfr hpv hv hvT ht htN hQ hR
      | prim k=>exact absurd (show k=.str by cases k <;> simp_all [lateB]) fun e=>hne (by rw [e])
      | struct _ _ _ _ _=>simp [lateB] at hl
    have hver:h.null < 0∨h.null≤X.ver:=by
      have hfrom:h.from_≤X.ver:=by
        simp only [Hd.has,Bool.and_eq_true,decide_eq_true_eq] at hh
        exact hh.1
      rcases hval.1 with (e | e) | e
      · exact .inl e
      · right;omega
      · by_cases hs:ty=.prim .str
        · exact absurd e (by rw [hs];exact hstr hs)
        · right
          apply Classical.byContradiction
          intro hc
          exact hlt ⟨e,by omega,hs⟩
    have hnat:nulAt X.ver h ty=nuOf h:=by
      unfold nuOf
      rcases hver with e | e
      · cases ty <;> simp [nulAt,show ¬ (0≤h.null) by omega]
      · cases ty <;> simp [nulAt,e]
    rw [hnat] at hQ hR
    exact (val_all hX ty).1 S p h v t bk b o O a w st Q hval.2 hlay hdef hS hver hi hp ho hrow hfr hpv hv hvT ht htN hQ hR
  by_cases hs:ty=.prim .str
  · subst hs
    simp only [okRValL,rValL,rVL,rVTL] at hok hvT htN ⊢
    by_cases hl:lateB h (.prim .str)=true
    · rw [if_pos hl] at hok hvT htN ⊢
      simp only [Bool.and_eq_true,Bool.not_eq_true',decide_eq_true_eq] at hok
      obtain ⟨⟨⟨⟨⟨⟨⟨q1,q2⟩,q3⟩,q4⟩,q5⟩,q6⟩,q7⟩,q8⟩:=hok
      have hnu:nuOf h=true:=by simp [nuOf,q3]
      rw [hnu] at hrow hQ
      have e1:szTy true (.prim .str)=1:=rfl
      rw [e1] at hrow hQ
      exact rLate_ok hX q1 hl q3 q4 q5 q6 q7 q8 hS hi hp ho hrow hpv hv hvT ht htN hQ
    · rw [if_neg hl] at hok hvT htN ⊢
      exact std hok hvT htN fun _=>hl
  · have e1:okRValL X.P X.I X.c tStr h ty=((decide (h.null < 0) || decide (h.null≤h.from_) || lateB h ty) && okRVal X.P X.I X.c h ty):=by
      cases ty with
      | prim k=>cases k <;> first | rfl | exact absurd rfl hs
      | _=>rfl
    have e2:rVL h ty=rV h ty:=by
      cases ty with
      | prim k=>cases k <;> first | rfl | exact absurd rfl hs
      | _=>rfl
    have e3:rVTL X.c h ty=rVT X.c h ty:=by
      cases ty with
      | prim k=>cases k <;> first | rfl | exact absurd rfl hs
      | _=>rfl
    have e4:rValL X.I X.c tStr S p h v t bk ty=rVal X.I X.c S p h v t bk ty:=by
      cases ty with
      | prim k=>cases k <;> first | rfl | exact absurd rfl hs
      | _=>rfl
    rw [e1] at hok
    rw [e2] at hvT
    rw [e3] at htN
    rw [e4]
    exact std hok hvT htN fun e=>absurd e hs
def FsOKL (X:RX) (tStr:Nat) (fs:Fs):Prop:=∀ (S p v t bk b o lo n:Nat) (O:Nat→Prop) (a:Act) (w:World) (st:Option Bytes) (Q:Exit→Act→World→Prop) (rest:List SC),
  okRFsL X.P X.I X.c tStr S fs=true→layFs lo n fs=true→DefFs X.P fs →
  RInv X a w st→getT a p=.pointer (some ⟨b,o,none⟩)→Opn X O b w→RowAt w b o n→FrFs w b fs o →
  p < v→10≤v→v+rVsL fs≤X.T0→X.T0≤t→t+rFTL X.c fs≤X.N →
  (∀ a' w',RInv X a' w' (after st (pFs X.ver X.flex fs))→RSame X a a' v t→Foot X.rb b (o+lo) (o+n) w w' →
    (∀ r xs r',st=some r→pFs X.ver X.flex fs r=some (xs,r')→FitFs X.ver fs xs→HFs X.G w' (FO O w') X.ver X.flex fs b o xs)→wpL X.P Q rest a' w') →
  RetOK X Q (after st (pFs X.ver X.flex fs)=none) →
  wpL X.P Q (rFsL X.I X.c tStr S p v t bk fs ++ rest) a w
theorem fsL_nil {tStr:Nat}:FsOKL X tStr .nil:=by
  intro S p v t bk b o lo n O a w st Q rest hok hlay hdef hi hp ho hrow hfr hpv hv hvT ht htN hQ hR
  exact fsOK_nil S p v t bk b o lo n O a w st Q rest rfl hlay hdef hi hp ho hrow hfr hpv hv hvT ht htN hQ hR
theorem fsL_cons (hX:X.ok) {tStr:Nat} {h:Hd} {ty:Ty} {r:Fs} (hF:FsOKL X tStr r):FsOKL X tStr (.cons h ty r):=by
  intro S p v t bk b o lo n O a w st Q rest hok hlay hdef hi hp ho hrow hfr hpv hv hvT ht htN hQ hR
  simp only [okRFsL,Bool.and_eq_true] at hok
  obtain ⟨⟨hS,hval⟩,hrest⟩:=hok
  have hlay0:=hlay
  simp only [layFs,Bool.and_eq_true,decide_eq_true_eq] at hlay
  obtain ⟨⟨⟨l1,l2⟩,l3⟩,l4⟩:=hlay
  simp only [DefFs] at hdef
  simp only [FrFs] at hfr
  simp only [rVsL] at hvT
  simp only [rFTL] at htN
  simp only [rFsL,List.cons_append,wpL]
  refine rvCond_ok hX hi ht (by omega) fun a1 hi1 hs1=>?_
  by_cases hh:h.has X.ver=true
  · rw [if_pos hh]
    have hpf:pFs X.ver X.flex (.cons h ty r)=rThen (pTy X.ver X.flex ty (nulAt X.ver h ty)) fun x=>rThen (pFs X.ver X.flex r) fun xs=>rOk (x :: xs):=by
      simp only [pFs]
      rw [if_pos hh]
    refine valL_ok hX hval l3 hdef.1 hS hh hi1 ((hs1 p (by omega)).trans hp) ho (hrow.mono (by omega)) hfr.1 hpv hv (by omega) (by omega) (by omega) ?_ ?_
    · intro a2 w2 hi2 hs2 hf2 hv2
      have hs12:RSame X a a2 v t:=fun s hs=>(hs2 s (by omega)).trans (hs1 s (by omega))
      refine hF S p (v+rVL h ty) _ _ b o (h.off+szTy (nuOf h) ty) n O a2 w2 _ Q rest hrest l4 hdef.2 hi2 ((hs12 p (.inl hpv)).trans hp) (ho.mono hf2.size) (hf2.rowAt hrow) ?_ (by omega) (by omega) (by omega) (by omega) (by omega) ?_ ?_
      · exact frFs_frame r _ n o l4 (fun j h1 h2=>hf2.cell hrow (by omega)) hfr.2
      · intro a3 w3 hi3 hs3 hf3 hv3
        have hle:h.off+szTy (nuOf h) ty≤n:=l2
        refine hQ a3 w3 ?_ (hs12.trans hs3 (by omega) (by omega)) ((hf2.mono (by omega) (by omega)).trans (hf3.mono (by omega) (Nat.le_refl _))) ?_
        · rw [hpf]
          have e:after st (rThen (pTy X.ver X.flex ty (nulAt X.ver h ty)) fun x=>rThen (pFs X.ver X.flex r) fun xs=>rOk (x :: xs))=after (after st (pTy X.ver X.flex ty (nulAt X.ver h ty))) (pFs X.ver X.flex r):=by
            cases st with
            | none=>rfl
            | some bb =>
              cases hp1:pTy X.ver X.flex ty (nulAt X.ver h ty) bb with
              | none=>simp [after,rThen,hp1]
              | some z =>
                rw [after_then _ _ _ rfl hp1,after_ok hp1]
                cases hp2:pFs X.ver X.flex r z.2 with
                | none=>simp [after,rThen,hp2]
                | some y=>rw [after_then _ _ _ rfl hp2,after_ok hp2];exact after_rOk _ _
          rw [e]
          exact hi3
        · intro bb xs rr hst hpx hfit
          rw [hpf] at hpx
          obtain ⟨x,r1,q1,q2⟩:=rThen_some hpx
          obtain ⟨ys,r2,q3,q4⟩:=rThen_some q2
          obtain ⟨rfl,rfl⟩:=rOk_some q4
          simp only [FitFs,List.headD_cons,List.tail_cons] at hfit
          simp only [HFs,List.headD_cons,List.tail_cons]
          have hst2:after st (pTy X.ver X.flex ty (nulAt X.ver h ty))=some r1:=by rw [hst];exact after_ok q1
          refine ⟨fun _=>?_,hv3 r1 ys _ hst2 q3 hfit.2⟩
          have:=hv2 bb x r1 hst q1 (hfit.1 hh)
          exact hTy_frame (hf3.fo (ho.mono hf2.size)) X.ver X.flex ty _ b (o+h.off) x l3 (fun j h1 h2=>hf3.cell (hf2.rowAt hrow) (by unfold nuOf at *;omega)) this
      · intro a' w' h1 h2 h3 h4
        refine hR a' w' h1 h2 h3 ?_
        rw [hpf]
        cases st with
        | none=>rfl
        | some bb =>
          cases hp1:pTy X.ver X.flex ty (nulAt X.ver h ty) bb with
          | none=>simp [after,rThen,hp1]
          | some z =>
            rw [after_ok hp1] at h4
            rw [after_then _ _ _ rfl hp1]
            exact after_then_none h4
    · intro a' w' h1 h2 h3 h4
      refine hR a' w' h1 h2 h3 ?_
      rw [hpf]
      exact after_then_none h4
  · rw [if_neg hh]
    have hpf:pFs X.ver X.flex (.cons h ty r)=rThen (rOk Tree.zero) fun x=>rThen (pFs X.ver X.flex r) fun xs=>rOk (x :: xs):=by
      simp only [pFs]
      rw [if_neg hh]
    have e:after st (pFs X.ver X.flex (.cons h ty r))=after st (pFs X.ver X.flex r):=by
      rw [hpf]
      cases st with
      | none=>rfl
      | some bb =>
        rw [after_then (x:=Tree.zero) (r:=bb) _ _ _ rfl rfl]
        cases hp2:pFs X.ver X.flex r bb with
        | none=>simp [after,rThen,hp2]
        | some y=>rw [after_then _ _ _ rfl hp2,after_ok hp2];exact after_rOk _ _
    simp only [Exit.then]
    refine hF S p (v+rVL h ty) _ _ b o (h.off+szTy (nuOf h) ty) n O a1 w st Q rest hrest l4 hdef.2 hi1 ((hs1 p (by omega)).trans hp) ho hrow hfr.2 (by omega) (by omega) (by omega) (by omega) (by omega) ?_ ?_
    · intro a3 w3 hi3 hs3 hf3 hv3
      refine hQ a3 w3 (by rw [e];exact hi3) (RSame.trans (fun s hs=>hs1 s (by omega)) hs3 (by omega) (by omega)) (hf3.mono (by omega) (Nat.le_refl _)) ?_
      intro bb xs rr hst hpx hfit
      rw [hpf] at hpx
      obtain ⟨x,r1,q1,q2⟩:=rThen_some hpx
      obtain ⟨rfl,rfl⟩:=rOk_some q1
      obtain ⟨ys,r2,q3,q4⟩:=rThen_some q2
      obtain ⟨rfl,rfl⟩:=rOk_some q4
      simp only [FitFs,List.headD_cons,List.tail_cons] at hfit
      simp only [HFs,List.headD_cons,List.tail_cons]
      exact ⟨fun h=>absurd h hh,hv3 bb ys _ hst q3 hfit.2⟩
    · intro a' w' h1 h2 h3 h4
      exact hR a' w' h1 h2 h3 (by rw [e];exact h4)
theorem fsL_all (hX:X.ok) {tStr:Nat}:∀ fs:Fs,FsOKL X tStr fs
  | .nil=>fsL_nil
  | .cons _ _ r=>fsL_cons hX (fsL_all hX r)
end
theorem top_bodyL {X:RX} {tStr:Nat} {fs:Fs} {S p v t bk b o lo size:Nat} {tags:Option (Nat × Nat)} {O:Nat→Prop} {a:Act} {w:World} {st:Option Bytes} {Q:Exit→Act→World→Prop} {rest:List SC} (hX:X.ok)
    (hok:okRFsL X.P X.I X.c tStr S fs=true) (hokt:okRTags X.P X.I X.c S tags=true) (hlay:layFs lo (topEnd size tags) fs=true) (hszt:∀ f off,tags=some (f,off)→off < size∧lo≤off) (hlo:lo≤size) (hdef:DefFs X.P fs) (hi:RInv X a w st) (hp:getT a p=.pointer (some ⟨b,o,none⟩)) (ho:Opn X O b w) (hrow:RowAt w b o size) (hfr:FrFs w b fs o)
    (hpv:p < v) (hv:10≤v) (hvT:v+rVsL fs≤X.T0) (ht:X.T0≤t) (htN:t+rFTL X.c fs+rTagsT tags≤X.N)
    (hQ:∀ a' w',RInv X a' w' (after st (pBody X.ver X.flex fs))→RSame X a a' v t→Foot X.rb b (o+lo) (o+size) w w' →
      (∀ r x r',st=some r→pBody X.ver X.flex fs r=some (x,r')→FitFs X.ver fs x.l→FitTags x.u→HFs X.G w' (FO O w') X.ver X.flex fs b o x.l∧TagsAt X.G w' (FO O w') X.flex b o tags x.u)→wpL X.P Q rest a' w')
    (hR:RetOK X Q (after st (pBody X.ver X.flex fs)=none)) :
    wpL X.P Q (rFsL X.I X.c tStr S p v t bk fs ++ (rTagsL X.I S p tags (t+rFTL X.c fs) ++ rest)) a w:=by
  obtain ⟨n,hlf,hns,hn⟩:∃ n,layFs lo n fs=true∧n≤size∧(tags=none∧n=size∨∃ f,tags=some (f,n)):=by
    cases tags with
    | none=>exact ⟨size,hlay,Nat.le_refl _,.inl ⟨rfl,rfl⟩⟩
    | some z=>exact ⟨z.2,hlay,Nat.le_of_lt (hszt z.1 z.2 rfl).1,.inr ⟨z.1,rfl⟩⟩
  have hln:lo≤n:=by
    rcases hn with ⟨rfl,rfl⟩ | ⟨f,rfl⟩
    · exact hlo
    · exact (hszt f n rfl).2
  refine fsL_all (tStr:=tStr) hX fs S p v t bk b o lo n O a w st Q _ hok hlf hdef hi hp ho (hrow.mono (by omega)) hfr hpv hv hvT ht (by omega) ?_ ?_
  · intro a1 w1 hi1 hs1 hf1 hv1
    refine rTags_ok hX hokt hi1 ((hs1 p (.inl hpv)).trans hp) (ho.mono hf1.size) (hf1.rowAt hrow) (fun f off e=>(hszt f off e).1) (by omega) (by omega) htN ?_
    intro a2 w2 hi2 hs2 hf2 hv2
    refine hQ a2 w2 (by rw [after_body];exact hi2) (fun s hs=>(hs2 s (by omega)).trans (hs1 s hs)) ?_ ?_
    · refine (hf1.mono (by omega) (by omega)).trans (hf2.mono ?_ (Nat.le_refl _))
      rcases hn with ⟨rfl,rfl⟩ | ⟨f,rfl⟩
      · simp only;omega
      · simp only;omega
    · intro r x r' hst hpx hfit hfu
      unfold pBody at hpx
      obtain ⟨xs,r1,q1,q2⟩:=rThen_some hpx
      obtain ⟨u,r2,q3,q4⟩:=rThen_some q2
      obtain ⟨rfl,rfl⟩:=rOk_some q4
      have hst2:after st (pFs X.ver X.flex fs)=some r1:=by rw [hst];exact after_ok q1
      refine ⟨?_,hv2 r1 u _ hst2 q3 hfu⟩
      have h1:=hv1 r xs r1 hst q1 hfit
      refine hFs_frame (hf2.fo (ho.mono hf1.size)) X.ver X.flex fs lo n b o xs hlf (fun j h1 h2=>hf2.cell (hf1.rowAt hrow) ?_) h1
      rcases hn with ⟨rfl,rfl⟩ | ⟨f,rfl⟩
      · left;simp only;omega
      · left;simp only;omega
  · intro a' w' h1 h2 h3 h4
    refine hR a' w' h1 h2 h3 ?_
    rw [after_body,h4]
    rfl
def rTopL (I:RIds) (tStr S d t:Nat) (flex:Option Int) (tags:Option (Nat × Nat)) (fs:Fs):SC :=
  seqs ([cset 6 .nilIface,.reg [mv t 0,cal (t+1) d [t]],
    .reg [mv (t+2) 1,⟨some (t+3),.build I.tRd #[(0,.tmp (t+2))],none⟩,⟨some 7,.alloc I.tRd,none⟩,⟨none,.store I.tRd (.tmp 7) (.tmp (t+3)),none⟩],
    .reg [mv (t+4) 0,nilc (t+5) (t+4),fa (t+6) S (t+5) 0,ld (t+7) I.tI16 (t+6),asg 8 (t+7)],.reg [mv (t+8) 8]] ++
    (rFlexL I t flex ++ ([.reg [mv (rT1 t flex) 0,asg (rS flex) (rT1 t flex)]] ++
      ((rFsL I (rCtx flex) tStr S (rS flex) (rS flex+1) (rT1 t flex+1) 0 fs ++ rTagsL I S (rS flex) tags (rT1 t flex+1+rFTL (rCtx flex) fs)) ++
      [.reg [cal (rT1 t flex+1+rFTL (rCtx flex) fs+rTagsT tags) I.rCompl [7],asg 6 (rT1 t flex+1+rFTL (rCtx flex) fs+rTagsT tags)],.ret]))))
def RTop.chkL (P:Program) (I:RIds) (tStr:Nat) (M:RTop):Bool :=
  okRFsL P I (rCtx M.flex) tStr M.S M.fs && okRTags P I (rCtx M.flex) M.S M.tags && layFs 1 (topEnd M.size M.tags) M.fs && (match M.tags with | none=>true | some (_,off)=>decide (off < M.size∧1≤off)) &&
  decide (1≤M.size∧rS M.flex+1+rVsL M.fs≤M.t∧rT1 M.t M.flex+1+rFTL (rCtx M.flex) M.fs+rTagsT M.tags+1≤M.N) && fieldB P M.S 0 0 && intB P I.tI16 .i16 && oneB P I.tI16 && rdNew P I.tRd
section
variable {P:Program} {I:RIds} {M:RTop} {B:Nat} {G:List (Nat × Bytes)→Prop} {err:Value} {Gl:World→Prop} {gb:Nat} {f:FuncId} {fn:Func} {w0:World}
theorem readFromL_ok {tStr:Nat} {out:List (Nat × Value)} (hk:KR P I I.tRd gb err Gl) (hG:∀ u,G u) (hgl:∀ w,Below B w0 w→Gl w) (hgb:gb < B) (hchk:M.chkL P I tStr=true) (hdef:DefFs P M.fs) (hd:DefAt P M.d M.size out) (hout:outFs out M.fs 0=true) (hoa:(out.all fun x=>decide (x.1 < M.size∧0 < x.1))=true)
    (hf:P.funcs[f]?=some fn) (hb:fn.body.map strip=some (rTopL I tStr M.S M.d M.t M.flex M.tags M.fs)) (hn:fn.ntmps=M.N) (hr:fn.results=#[.tmp 6]):ReadC P I M B G err f w0:=by
  intro S b cs E base src cap ver hver hBb hBw hcs hlen hvc hfr hcap hsr hsrc
  simp only [RTop.chkL,Bool.and_eq_true,decide_eq_true_eq] at hchk
  obtain ⟨⟨⟨⟨⟨⟨⟨⟨c1,c2⟩,c3⟩,c4⟩,c5,c6,c7⟩,c8⟩,c9⟩,c10⟩,c11⟩:=hchk
  obtain ⟨r1,⟨rit,rz,rzi,rzz,rzc⟩,r3⟩:=rdNew_of c11
  have hrS:9≤rS M.flex:=by cases M.flex <;> simp [rS]
  have hbl:b < w0.heap.size:=(Array.getElem?_eq_some_iff.1 hcs).1
  have hoa':∀ x ∈ out,x.1 < M.size∧0 < x.1:=fun x hx=>by simpa using (List.all_eq_true.1 hoa) x hx
  have hT1:M.t+9≤rT1 M.t M.flex:=by cases M.flex <;> simp [rT1]
  refine fCa hf hb hn (by simp;omega) fun a0 hs hdf ha=>?_
  have h0:=ha 0 _ rfl
  have h1:=ha 1 _ rfl
  have h2:=ha 2 _ rfl
  simp only [List.getElem_toArray,List.getElem_cons_zero,List.getElem_cons_succ] at h0 h1 h2
  refine wpL_seqs _ _ _ ?_
  simp only [List.cons_append,List.nil_append,wpL]
  refine SC.wp_reg (oNo rfl (opw_assign (oNi ?_)))
  simp only [Exit.then,eCo]
  refine SC.wp_reg (ops_mv (ops_call (argsV:=#[.pointer (some ⟨b,0,none⟩)]) hd.1 (hd.2 w0 b 0 cs E hcs (by omega)) (by simp (disch:=(try simp only [sPu]);omega) [h0]) ?_))
  rintro e w1 ⟨rfl,hw1⟩
  refine ⟨_,rfl,oNi ?_⟩
  simp only [Exit.then]
  have hds:(dSetAll 0 out cs).size=cs.size:=dSetAll_size _ _ _
  have hrow1:w1.heap[b]?=some (.cells (dSetAll 0 out cs) E (0,0)):=by rw [hw1];exact setRow_heap _ _ _ _ _ _ hcs
  have hoth1:∀ k,k ≠ b→w1.heap[k]?=w0.heap[k]?:=fun k hk=>by rw [hw1];exact setRow_other _ _ _ _ hk
  have hsz1:w1.heap.size=w0.heap.size:=by rw [hw1];simp
  have hbelow1:Below B w0 w1:=by rw [hw1];exact ⟨rfl,rfl,rfl,by simp,fun k hk=>setRow_other _ _ _ _ (by omega)⟩
  have hv1:(dSetAll 0 out cs)[0]?=some (.int .i16 ver):=by
    rw [dSetAll_other out cs fun x hx=>by have:=(hoa' x hx).2;omega]
    exact hvc
  have hfr1:FrFs w1 b M.fs 0:=by
    have:=outFs_ok (w:=w0) (w':=w1) (b:=b) (q:=0) (out:=out) (fun j hj=>by
      rw [Nat.zero_add,cell_of_row _ _ _ _ _ _ hrow1,cell_of_row _ _ _ _ _ _ hcs]
      exact dSetAll_other out cs fun x hx=>by rw [Nat.zero_add];exact hj x hx) M.fs 0 hout (by simpa using hfr)
    simpa using this
  refine SC.wp_reg (ops_mv (oNo rfl (opw_build (cs:=#[.slice base src.length cap,.bool false]) ?_ (oNo rfl (opw_alloc rzi rzz ?_)))))
  · have:(#[(0,Operand.tmp (M.t+2))].map fun x:Nat × Operand=>(x.1,Act.eval (((((a0.put (some 6) .nilIface).put (some M.t) (getT (a0.put (some 6) .nilIface) 0)).put (some (M.t+1)) (.tuple #[])).put (some (M.t+2)) (getT (((a0.put (some 6) .nilIface).put (some M.t) (getT (a0.put (some 6) .nilIface) 0)).put (some (M.t+1)) (.tuple #[])) 1))) x.2)).toList=[(0,.slice base src.length cap)]:=by
      simp only [List.map_toArray,List.map_cons,List.map_nil]
      rw [eTm,gTp (by simp only [sPu];omega),gTn (by omega),gTn (by omega),gTn (by omega),h1]
    rw [this]
    exact r3 _ rfl
  have hnew:=heap_alloc_new w1 (.cells rz.cells I.tRd)
  refine oNo rfl (opw_store_agg (cs:=[.slice base src.length cap,.bool false]) (cur:=rz.cells) (b:=w1.heap.size) (E:=I.tRd) r1 (by simp (disch:=(try simp only [sPu]);omega)) (by simp (disch:=(try simp only [sPu]);omega)) hnew (by rw [rzc];rfl) (by intro v hv;simp at hv;rcases hv with rfl | rfl <;> rfl) (oNi ?_))
  rw [pNo]
  simp only [Exit.then]
  obtain ⟨rb,hrb⟩:∃ rb,rb=w1.heap.size:=⟨_,rfl⟩
  rw [← hrb] at hnew ⊢
  obtain ⟨w2,hw2⟩:∃ w2,w2=(w1.alloc (.cells rz.cells I.tRd)).setRow rb [Value.slice base src.length cap,.bool false].toArray:=⟨_,rfl⟩
  rw [← hw2]
  have hrow2:w2.heap[rb]?=some (.cells #[.slice base src.length cap,.bool false] I.tRd (0,0)):=by rw [hw2];exact setRow_heap _ _ _ _ _ _ hnew
  have hoth2:∀ k,k < w1.heap.size→w2.heap[k]?=w1.heap[k]?:=fun k hk=>by
    rw [hw2,setRow_other _ _ _ _ (by omega)]
    exact Below.heap_alloc _ _ _ hk
  have hsz2:w2.heap.size=w1.heap.size+1:=by rw [hw2];simp
  have hbelow2:Below B w0 w2:=by
    rw [hw2]
    exact (hbelow1.alloc (by omega) _).trans ⟨rfl,rfl,rfl,by simp,fun k hk=>setRow_other _ _ _ _ (by omega)⟩
  have hrb2:w2.heap[b]?=some (.cells (dSetAll 0 out cs) E (0,0)):=by rw [hoth2 b (by omega)];exact hrow1
  have hvc2:w2.cell? ⟨b,0,none⟩=some (.int .i16 ver):=by rw [cell_of_row _ _ _ _ _ _ hrb2];exact hv1
  refine SC.wp_reg (ops_mv (ops_nilc (ad:=⟨b,0,none⟩) (by simp (disch:=(try simp only [sPu]);omega) [h0]) (ops_fa c8 (b:=b) (o:=0) (by simp (disch:=(try simp only [sPu]);omega)) (ops_ld c10 (ad:=⟨b,0,none⟩) (v:=.int .i16 ver) (by simp (disch:=(try simp only [sPu]);omega)) hvc2 (ops_asg (oNi ?_))))))
  simp only [Exit.then]
  refine SC.wp_reg (ops_mv (oNi ?_))
  simp only [Exit.then]
  refine wpL_gen (fun a=>a.tmps.size=M.N∧a.defers=[]∧getT a 2=.bool false∧getT a 7=.pointer (some ⟨rb,0,none⟩)∧getT a 8=.int .i16 ver∧getT a 0=.pointer (some ⟨b,0,none⟩)) ⟨by simp [sPu,hs,hn],by simp [dPu,hdf],by simp (disch:=(try simp only [sPu]);omega) [h2],by simp (disch:=(try simp only [sPu]);omega),by simp (disch:=(try simp only [sPu]);omega),by simp (disch:=(try simp only [sPu]);omega) [h0]⟩ fun a2 ⟨p1,p2,p3,p4,p5,p6⟩=>?_
  have mid:∀ a:Act,a.tmps.size=M.N∧a.defers=[]∧getT a 2=.bool false∧getT a 7=.pointer (some ⟨rb,0,none⟩)∧getT a 8=.int .i16 ver∧getT a 0=.pointer (some ⟨b,0,none⟩)∧(M.flex ≠ none→getT a 9=.bool (flexAt M.flex ver)) →
      wpL P (bodyPost P fn (fun e w'=>Below B w0 w'∧B≤w'.heap.size ∧
      match pBody ver (flexAt M.flex ver) M.fs src with
      | none=>e=.returned err
      | some (x,r)=>e=.returned .nilIface∧b < w'.heap.size∧w'.cell? ⟨b,0,none⟩=some (.int .i16 ver) ∧
        (FitFs ver M.fs x.l→FitTags x.u→∃ F:Nat→Prop,(∀ k,F k→k < w'.heap.size)∧HFs G w' F ver (flexAt M.flex ver) M.fs b 0 x.l∧TagsAt G w' F (flexAt M.flex ver) b 0 M.tags x.u))) (.reg [mv (rT1 M.t M.flex) 0,asg (rS M.flex) (rT1 M.t M.flex)] :: (rFsL I (rCtx M.flex) tStr M.S (rS M.flex) (rS M.flex+1) (rT1 M.t M.flex+1) 0 M.fs ++ rTagsL I M.S (rS M.flex) M.tags (rT1 M.t M.flex+1+rFTL (rCtx M.flex) M.fs) ++
        [.reg [cal (rT1 M.t M.flex+1+rFTL (rCtx M.flex) M.fs+rTagsT M.tags) I.rCompl [7],asg 6 (rT1 M.t M.flex+1+rFTL (rCtx M.flex) M.fs+rTagsT M.tags)],.ret])) a w2:=by
    clear p1 p2 p3 p4 p5 p6
    rintro a ⟨p1,p2,p3,p4,p5,p6,p7⟩
    simp only [wpL]
    refine SC.wp_reg (ops_mv (ops_asg (oNi ?_)))
    simp only [Exit.then]
    obtain ⟨X,hX⟩:∃ X:RX,X=⟨P,I,I.tRd,S,rb,G,rCtx M.flex,w0,B,ver,flexAt M.flex ver,M.t,M.N,err,Gl,gb⟩:=⟨_,rfl⟩
    have hXok:X.ok:=by
      rw [hX]
      refine ⟨hk,hgb,by cases M.flex <;> rfl,by simp only;omega,?_,by simp only;omega,hver,hG,hgl⟩
      intro h
      cases hfl:M.flex with
      | none=>rfl
      | some n=>rw [hfl] at h;cases h
    have hg:∀ s,s < 9→getT ((a.put (some (rT1 M.t M.flex)) (getT a 0)).put (some (rS M.flex)) (getT (a.put (some (rT1 M.t M.flex)) (getT a 0)) (rT1 M.t M.flex))) s=getT a s:=fun s h=>by
      rw [gTn (by omega),gTn (by omega)]
    have hpS:getT ((a.put (some (rT1 M.t M.flex)) (getT a 0)).put (some (rS M.flex)) (getT (a.put (some (rT1 M.t M.flex)) (getT a 0)) (rT1 M.t M.flex))) (rS M.flex)=.pointer (some ⟨b,0,none⟩):=by
      rw [gTp (by simp only [sPu];omega),gTp (by omega)]
      exact p6
    have hg9:M.flex ≠ none→getT ((a.put (some (rT1 M.t M.flex)) (getT a 0)).put (some (rS M.flex)) (getT (a.put (some (rT1 M.t M.flex)) (getT a 0)) (rT1 M.t M.flex))) 9=.bool (flexAt M.flex ver):=fun h=>by
      have:rS M.flex=10:=by cases hfl:M.flex <;> simp_all [rS]
      rw [gTn (by omega),gTn (by omega)]
      exact p7 h
    have hs3:((a.put (some (rT1 M.t M.flex)) (getT a 0)).put (some (rS M.flex)) (getT (a.put (some (rT1 M.t M.flex)) (getT a 0)) (rT1 M.t M.flex))).tmps.size=M.N:=by simp only [sPu];exact p1
    have hd3:((a.put (some (rT1 M.t M.flex)) (getT a 0)).put (some (rS M.flex)) (getT (a.put (some (rT1 M.t M.flex)) (getT a 0)) (rT1 M.t M.flex))).defers=[]:=by simp only [dPu];exact p2
    generalize ((a.put (some (rT1 M.t M.flex)) (getT a 0)).put (some (rS M.flex)) (getT (a.put (some (rT1 M.t M.flex)) (getT a 0)) (rT1 M.t M.flex)))=a3 at hg hpS hg9 hs3 hd3 ⊢
    rw [List.append_assoc]
    have hi:RInv X a3 w2 (some src):=by
      rw [hX]
      refine ⟨hs3,hd3,by rw [hg 2 (by omega)];exact p3,by rw [hg 7 (by omega)];exact p4,by rw [hg 8 (by omega)];exact p5,fun h=>?_,⟨base,cap,hrow2,hcap,?_⟩,fun sb hsb=>⟨by have:=(hsrc sb hsb).2;show sb ≠ rb;omega,by have:=(hsrc sb hsb).2;show sb < w2.heap.size;omega⟩,hbelow2,by show B≤w2.heap.size;omega⟩
      · refine hg9 fun e=>?_
        rw [e] at h
        cases h
      · have:SrcAt w2 S base src:=hsr.frame fun sb hsb=>by rw [hoth2 sb (by have:=(hsrc sb hsb).2;omega),hoth1 sb (hsrc sb hsb).1]
        cases S <;> exact this
    have hopn:Opn X (fun k=>k=rb∨k=b) b w2:=by
      rw [hX]
      refine ⟨.inl rfl,.inr rfl,fun k hk=>by rcases hk with rfl | rfl <;> omega,fun sb hsb h=>?_,by simp only;omega,hBb⟩
      have:=hsrc sb hsb
      rcases h with h | h
      · omega
      · exact this.1 h
    have hfr2:FrFs w2 b M.fs 0:=by
      refine frFs_frame (w:=w1) M.fs 1 (topEnd M.size M.tags) 0 c3 (fun j h1 h2=>World.cell?_of_block (hoth2 b (by omega))) hfr1
    subst hX
    refine top_bodyL (tStr:=tStr) (X:=⟨P,I,I.tRd,S,rb,G,rCtx M.flex,w0,B,ver,flexAt M.flex ver,M.t,M.N,err,Gl,gb⟩) (fs:=M.fs) (S:=M.S) (p:=rS M.flex) (v:=rS M.flex+1) (t:=rT1 M.t M.flex+1) (bk:=0) (b:=b) (o:=0) (tags:=M.tags) (lo:=1) (size:=M.size) (O:=fun k=>k=rb∨k=b) (st:=some src) hXok c1 c2 c3 (fun f off e=>by rw [e] at c4;simpa using c4) c5 hdef hi hpS hopn ⟨_,_,hrb2,by omega⟩ hfr2 (by omega) (by omega) c6 (by simp only;omega) (by simp only;omega) ?_ ?_
    · intro a4 w4 hi4 hs4 hf4 hv4
      simp only [wpL]
      refine SC.wp_reg (ops_call (argsV:=#[.pointer (some ⟨rb,0,none⟩)]) hk.complF (hk.compl w4 S rb _ (hgl _ hi4.below) hi4.at_) ?_ ?_)
      · simp only [List.map_cons,List.map_nil,List.map_toArray,eTm]
        rw [hi4.rd]
      rintro e w5 ⟨rfl,rfl⟩
      refine ⟨_,rfl,ops_asg (oNi ?_)⟩
      simp only [Exit.then]
      refine SC.wp_ret ?_
      simp only [Exit.then]
      have hsz4:a4.tmps.size=M.N:=hi4.size
      refine ret_tmp hr (by simp only [dPu];exact hi4.defers) ⟨hi4.below,hi4.heap,?_⟩
      have hres:getT ((a4.put (some (rT1 M.t M.flex+1+rFTL (rCtx M.flex) M.fs+rTagsT M.tags)) (if (after (some src) (pBody ver (flexAt M.flex ver) M.fs)).isSome=true then Value.nilIface else err)).put (some 6) (getT (a4.put (some (rT1 M.t M.flex+1+rFTL (rCtx M.flex) M.fs+rTagsT M.tags)) (if (after (some src) (pBody ver (flexAt M.flex ver) M.fs)).isSome=true then Value.nilIface else err)) (rT1 M.t M.flex+1+rFTL (rCtx M.flex) M.fs+rTagsT M.tags))) 6=(if (after (some src) (pBody ver (flexAt M.flex ver) M.fs)).isSome=true then Value.nilIface else err):=by
        rw [gTp (by simp only [sPu];omega),gTp (by omega)]
      rw [hres]
      cases hp:pBody ver (flexAt M.flex ver) M.fs src with
      | none=>simp [after_no hp]
      | some z =>
        obtain ⟨x,r⟩:=z
        have hlt4:b < w5.heap.size:=Nat.lt_of_lt_of_le (by omega) hf4.size
        refine ⟨by simp [after_ok hp],hlt4,?_,fun hfit hfu=>⟨FO (fun k=>k=rb∨k=b) w5,fun k hk=>hk.1,hv4 src x r rfl hp hfit hfu⟩⟩
        rw [hf4.cell (q:=0) (n:=0) ⟨_,_,hrb2,Nat.zero_le _⟩ (j:=0) (by omega)]
        exact hvc2
    · intro a' w' e1 e2 e3 e4
      refine ret_tmp hr e1 ⟨e3,Nat.le_trans hBw e3.size,?_⟩
      cases hp:pBody ver (flexAt M.flex ver) M.fs src with
      | none=>simp only;rw [e2]
      | some z =>
        rw [after_ok hp] at e4
        cases e4
  cases hfl:M.flex with
  | none =>
    rw [hfl] at mid
    simp only [rFlexL,List.nil_append]
    exact mid a2 ⟨p1,p2,p3,p4,p5,p6,fun h=>absurd rfl h⟩
  | some n =>
    rw [hfl] at mid
    simp only [rFlexL,List.cons_append,List.nil_append,wpL]
    have ht1:rT1 M.t (some n)=M.t+12:=rfl
    rw [hfl] at c7 hT1
    refine SC.wp_reg (ops_mv (ops_1 (v:=.bool (decide (n≤ver))) (by simp (disch:=(try simp only [sPu]);omega) [p5,qv,vop,iop]) (ops_asg (oNi ?_))))
    simp only [Exit.then]
    refine SC.wp_reg (ops_mv (oNi ?_))
    simp only [Exit.then]
    exact mid _ ⟨by simp [sPu,p1],by simp [dPu,p2],by simp (disch:=(try simp only [sPu]);omega) [p3],by simp (disch:=(try simp only [sPu]);omega) [p4],by simp (disch:=(try simp only [sPu]);omega) [p5],by simp (disch:=(try simp only [sPu]);omega) [p6],fun _=>by simp (disch:=(try simp only [sPu]);omega) [flexAt]⟩
end
end Go.Proofs.YtdfhomhginbfeaaDoor.K
namespace Go.Proofs.YtdfhomhginbfeaaDoor.K
open Go Go.RowKit Go.Proofs.YtdfhomhginbfeaaDoor.T
attribute [local simp] eTm eCo pNo gTp gTn qv qcall vop iop
set_option linter.unusedVariables false
set_option linter.unusedSimpArgs false
set_option maxHeartbeats 2000000
section
variable {P:Program} {f:FuncId} {fn:Func}
theorem pMsg_nn {ver:Int} {flex:Bool} {fs:Fs} {src r:Bytes} {xs:List Tree} {u:List (Nat × Bytes)} (h:pMsg ver flex fs src=some ((xs,u),r)):NnFs ver fs xs:=by
  obtain ⟨ys,r1,h1,h2⟩:=rThen_some h
  obtain ⟨u',r2,h3,h4⟩:=rThen_some h2
  obtain ⟨e,rfl⟩:=rOk_some h4
  cases e
  exact pFs_nn fs h1
theorem againL_ok {I:RIds} {M:RTop} {tU8 gb m T0 T1 T2 T3 F0 F1 F2 F3 FR:Nat} {G:List (Nat × Bytes)→Prop} {Gl:World→Prop} {err:Value} {cs:Array Value} {T:TypeId}
    (h0k:intK P T0=some .i64) (h1k:intK P T1=some .i16) (hT2:u8sB P T2 tU8=true) (hT3:ifaceT P T3=true) (hm:m < 32768) (herr:∃ t y,err=.iface t y)
    (oNP:FnOK P F0) (cNP:∀ w:World,Calls P F0 #[] w fun e w'=>∃ b,e=.returned (.pointer (some ⟨b,0,none⟩))∧w.heap.size≤b∧w'.heap[b]?=some (.cells cs T (0,0))∧Below w.heap.size w w')
    (oSV:FnOK P F1) (cSV:∀ (w:World) (b:Nat) (cs:Array Value) (E:TypeId),w.heap[b]?=some (.cells cs E (0,0))→0 < cs.size→∀ n:Int,Calls P F1 #[.pointer (some ⟨b,0,none⟩),.int .i16 n] w fun e w'=>e=.returned (.tuple #[])∧w'=w.setRow b (cs.setIfInBounds 0 (.int .i16 n)))
    (oRF:FnOK P F2) (cRF:∀ (w:World) (x y:Value) (R:Ending→World→Prop),(Calls P FR #[x,y,.bool false] w fun e w'=>∃ v,e=.returned v∧R e w')→Calls P F2 #[x,y] w R)
    (cR:∀ (B:Nat) (w0:World),gb < B→(∀ w',Below B w0 w'→Gl w')→ReadC P I M B G err FR w0)
    (oAT:FnOK P F3) (cAT:∀ (w:World) (b:Nat) (ver:Int) (ts:List Tree) (u:List (Nat × Bytes)),b < w.heap.size→w.cell? ⟨b,0,none⟩=some (.int .i16 ver)→0≤ver→HFs G w (· < w.heap.size) ver (flexAt M.flex ver) M.fs b 0 ts→TagsAt G w (· < w.heap.size) (flexAt M.flex ver) b 0 M.tags u→NnFs ver M.fs ts →
      (wFs ver (flexAt M.flex ver) M.fs ts ++ wTags (flexAt M.flex ver) u).length≤lim→Calls P F3 #[.pointer (some ⟨b,0,none⟩),.slice none 0 0] w fun e w'=>∃ dv,e=.returned dv∧Own tU8 w' w.heap.size dv (wFs ver (flexAt M.flex ver) M.fs ts ++ wTags (flexAt M.flex ver) u)∧Below w.heap.size w w')
    (hsz:M.size≤cs.size) (hs1:1≤M.size) (hlay:layFs 1 (topEnd M.size M.tags) M.fs=true) (hfr:frFsB (fun j=>cs[j]?) M.fs 0=true)
    (hf : P.funcs[f]? = some fn) (hb : fn.body.map strip = some (sc_Again T0 T1 T2 T3 F0 F1 F2 F3)) (hnm : (fn.name == "runtime.NumGoroutine") = false) (hn : fn.ntmps = 19) (hr : fn.results = #[.tmp 4, .tmp 5]) : AgC P tU8 M.flex M.fs gb m Gl f := by
  refine ⟨fnOK_of hf hb hnm,fun w S base src cap v hv hgb hgl hsr hS hlen hfit=>?_⟩
  refine fCa hf hb hn (by simp) fun a0 hs hd ha=>?_
  have h0:=ha 0 _ rfl
  have h1:=ha 1 _ rfl
  simp only [List.getElem_toArray,List.getElem_cons_zero,List.getElem_cons_succ] at h0 h1
  refine SC.wp_seq (SC.wp_reg ?_)
  repeat (apply ops_1;(focus (simp (disch:=(try simp only [sPu]);omega) ;try rfl)))
  refine oNi (SC.wp_seq (SC.wp_reg ?_))
  refine ops_call oNP (cNP w) (by simp (disch:=(try simp only [sPu]);omega)) ?_
  rintro e w1 ⟨b,rfl,hbw,hrow,hb1⟩
  refine ⟨_,rfl,?_⟩
  have hbl1:b < w1.heap.size:=(Array.getElem?_eq_some_iff.1 hrow).1
  repeat (apply ops_1;(focus (simp (disch:=(try simp only [sPu]);omega) ;try rfl)))
  refine oNi (SC.wp_seq (SC.wp_reg ?_))
  have hwv:IntKind.i16.wrap (v:Int)=(v:Int):=by
    simp only [IntKind.wrap,IntKind.bits,IntKind.signed]
    simp
    split <;> omega
  iterate 3 (apply ops_1;(focus (simp (disch:=(try simp only [sPu]);omega) [h0,h0k,h1k,hwv];try rfl)))
  refine ops_call oSV (cSV w1 b cs T hrow (by omega) (v:Int)) (by simp (disch:=(try simp only [sPu]);omega)) ?_
  rintro e w2 ⟨rfl,hw2⟩
  refine ⟨_,rfl,oNi ?_⟩
  simp only [Exit.then]
  have hrow2:w2.heap[b]?=some (.cells (cs.setIfInBounds 0 (.int .i16 v)) T (0,0)):=by rw [hw2];exact setRow_heap _ _ _ _ _ _ hrow
  have hb2:Below w.heap.size w w2:=by rw [hw2];exact hb1.trans ⟨rfl,rfl,rfl,by simp,fun k hk=>setRow_other _ _ _ _ (by omega)⟩
  have hsz2:w2.heap.size=w1.heap.size:=by rw [hw2];simp
  refine SC.wp_seq (SC.wp_seq (SC.wp_reg ?_))
  iterate 2 (apply ops_1;(focus (simp (disch:=(try simp only [sPu]);omega) [h1];try rfl)))
  have hS2:SrcAt w2 S base src:=hsr.frame fun sb h=>hb2.block sb (hS sb h)
  have hu8:=(u8s_of hT2).1
  have hsrc:Src P 1 T2 (.slice base src.length cap) src.length (cellsOf src) w2:=by
    cases S with
    | none =>
      obtain ⟨rfl,rfl⟩:=hS2
      exact Src.ofNil w2 hu8 _
    | some sb =>
      obtain ⟨o,rfl,hc⟩:=hS2
      refine Src.ofSlice w2 hu8 ⟨sb,o,none⟩ src.length cap (cellsOf src) (by simp [cLen]) (fun j u hj=>?_) (fun u hu=>?_)
      · rw [add_none]
        simp only [cellsOf,List.getElem?_map,Option.map_eq_some_iff] at hj
        obtain ⟨u',hu',rfl⟩:=hj
        exact hc j u' hu'
      · simp only [cellsOf,List.mem_map] at hu
        obtain ⟨u',_,rfl⟩:=hu
        rfl
  refine oNo rfl (opw_appendU8 (B:=w2.heap.size) (xs:=[]) (bs:=src) (dv:=.slice none 0 0) (xv:=.slice base src.length cap) hT2 (eCo _ _) (by simp (disch:=(try simp only [sPu]);omega)) rfl (World.ownsRow_nil _ _ _ _) (Nat.le_refl _) hsrc (by simpa using hlen) fun dv w3 ho hb3 hbs3 _=>?_)
  rw [List.nil_append] at ho
  have hrow3:w3.heap[b]?=some (.cells (cs.setIfInBounds 0 (.int .i16 v)) T (0,0)):=by rw [hb3.block b (by omega)];exact hrow2
  have hb3':Below w.heap.size w w3:=hb2.trans ⟨hb3.os,hb3.tape,hb3.output,hb3.size,fun k hk=>hb3.block k (by have:=hb2.size;omega)⟩
  obtain ⟨S3,base3,cap3,rfl,hcap3,hsr3,hS3⟩:∃ S3 base3 cap3,dv=.slice base3 src.length cap3∧src.length≤cap3∧SrcAt w3 S3 base3 src∧∀ sb,S3=some sb→sb ≠ b∧sb < w3.heap.size:=by
    obtain ⟨ho1,⟨e1,e2⟩ | ⟨g,c3,cur,e1,e2,e3,e4,e5,e6,e7⟩⟩:=ho
    · have hnil:src=[]:=List.length_eq_zero_iff.1 e2
      subst hnil
      exact ⟨none,none,0,e1,Nat.le_refl _,⟨rfl,rfl⟩,fun sb h=>by cases h⟩
    · refine ⟨some g,some ⟨g,0,none⟩,c3,e1,e4,⟨0,rfl,fun j u hu=>?_⟩,fun sb h=>by cases h;exact ⟨by omega,(Array.getElem?_eq_some_iff.1 e3).1⟩⟩
      rw [cell_of_row _ _ _ _ _ _ e3,Nat.zero_add]
      have hj:(cellsOf src)[j]?=some (cell u):=by simp [cellsOf,hu]
      rw [← e7,List.getElem?_take] at hj
      split at hj
      · rwa [Array.getElem?_toList] at hj
      · cases hj
  have hfr1:FrFs w1 b M.fs 0:=by
    have:=frFsB_ok (w:=w1) (b:=b) (q:=0) (get:=fun j=>cs[j]?) (fun j v hj=>by rw [Nat.zero_add,cell_of_row _ _ _ _ _ _ hrow];exact hj) M.fs 0 hfr
    simpa using this
  have hfr3:FrFs w3 b M.fs 0:=by
    refine frFs_frame (w:=w1) M.fs 1 (topEnd M.size M.tags) 0 hlay (fun j h1 h2=>?_) hfr1
    rw [cell_of_row _ _ _ _ _ _ hrow,cell_of_row _ _ _ _ _ _ hrow3]
    exact Array.getElem?_setIfInBounds_ne (by omega)
  have hcr:=cR w.heap.size w3 hgb (fun w' h=>hgl w' (hb3'.trans h)) S3 b _ T base3 src cap3 (v:Int) (by omega) hbw (by have:=hb3'.size;omega) hrow3 (by rw [Array.size_setIfInBounds];exact hsz) (by simp [show 0 < cs.size by omega]) hfr3 hcap3 hsr3 hS3
  obtain ⟨R,hR⟩:∃ R:Ending→World→Prop,R=fun e w'=>∃ v',e=.returned v'∧((v'=.nilIface∨∃ t y,v'=.iface t y)∧Below w.heap.size w3 w'∧w.heap.size≤w'.heap.size ∧
      match pMsg v (flexAt M.flex v) M.fs src with
      | none=>v'=err
      | some ((xs,u),r)=>v'=.nilIface∧b < w'.heap.size∧w'.cell? ⟨b,0,none⟩=some (.int .i16 v)∧HFs G w' (· < w'.heap.size) v (flexAt M.flex v) M.fs b 0 xs∧TagsAt G w' (· < w'.heap.size) (flexAt M.flex v) b 0 M.tags u):=⟨_,rfl⟩
  refine ops_call oRF (cRF w3 (.pointer (some ⟨b,0,none⟩)) (.slice base3 src.length cap3) R (hcr.mono fun e w' h=>?_)) (by simp (disch:=(try simp only [sPu]);omega)) ?_
  · obtain ⟨z1,z2,z3⟩:=h
    rw [hR]
    simp only [pMsg_body]
    cases hp:pBody v (flexAt M.flex v) M.fs src with
    | none =>
      rw [hp] at z3
      simp only at z3
      subst z3
      exact ⟨_,rfl,_,rfl,.inr herr,z1,z2,rfl⟩
    | some zz =>
      obtain ⟨x,r⟩:=zz
      rw [hp] at z3
      obtain ⟨rfl,y1,y2,y3⟩:=z3
      have hft:=hfit x.l x.u r (by rw [pMsg_body,hp];rfl)
      obtain ⟨F,hF,q1,q2⟩:=y3 hft.1 hft.2.1
      refine ⟨_,rfl,_,rfl,.inl rfl,z1,z2,rfl,y1,y2,?_,?_⟩
      · exact hFs_frame (fun k hk=>⟨hF k hk,rfl⟩) _ _ M.fs 1 (topEnd M.size M.tags) b 0 x.l hlay (fun _ _ _=>rfl) q1
      · cases ht:M.tags with
        | none=>rw [ht] at q2;exact q2
        | some z =>
          rw [ht] at q2
          exact fun hfl=>hTags_frame (fun k hk=>⟨hF k hk,rfl⟩) rfl (q2 hfl)
  rw [hR]
  rintro e w4 ⟨v',rfl,hv',hb4,hs4,hpost⟩
  refine ⟨_,rfl,?_⟩
  refine oNo rfl (opw_isErr (v:=v') hT3 (by simp (disch:=(try simp only [sPu]);omega)) hv' (oNi ?_))
  simp only [Exit.then]
  refine SC.wp_cond (t:=isErr v') (by simp (disch:=(try simp only [sPu]);omega)) ?_
  have hb4':Below w.heap.size w w4:=hb3'.trans hb4
  cases hp:pMsg v (flexAt M.flex v) M.fs src with
  | none =>
    rw [hp] at hpost
    simp only at hpost
    subst hpost
    obtain ⟨t,y,rfl⟩:=herr
    simp only [isErr,if_true]
    refine SC.wp_seq (SC.wp_reg ?_)
    repeat (apply ops_1;(focus (simp (disch:=(try simp only [sPu]);omega) ;try rfl)))
    refine oNi (SC.wp_ret ?_)
    try simp only [Exit.then]
    exact bodyPost_ret_by (v:=.tuple #[.slice none 0 0,.bool false]) (res2 hr (by simp (disch:=(try simp only [sPu]);omega)) (by simp (disch:=(try simp only [sPu]);omega))) (by simp [dPu,hd]) ⟨hb4',rfl⟩
  | some zz =>
    obtain ⟨⟨xs,u⟩,r⟩:=zz
    rw [hp] at hpost
    obtain ⟨rfl,y1,y2,y3,y4⟩:=hpost
    simp only [isErr,Bool.false_eq_true,if_false]
    refine SC.wp_skip ?_
    simp only [Exit.then]
    refine SC.wp_seq (SC.wp_reg ?_)
    iterate 1 (apply ops_1;(focus (simp (disch:=(try simp only [sPu]);omega) ;try rfl)))
    refine ops_call oAT (cAT w4 b v xs u y1 y2 (by omega) y3 y4 (pMsg_nn hp) (hfit xs u r hp).2.2) (by simp (disch:=(try simp only [sPu]);omega)) ?_
    rintro e w5 ⟨dv5,rfl,ho5,hb5⟩
    refine ⟨_,rfl,?_⟩
    repeat (apply ops_1;(focus (simp (disch:=(try simp only [sPu]);omega) ;try rfl)))
    refine oNi (SC.wp_ret ?_)
    try simp only [Exit.then]
    exact bodyPost_ret_by (v:=.tuple #[dv5,.bool true]) (res2 hr (by simp (disch:=(try simp only [sPu]);omega)) (by simp (disch:=(try simp only [sPu]);omega))) (by simp [dPu,hd]) ⟨hb4'.trans ⟨hb5.os,hb5.tape,hb5.output,hb5.size,fun k hk=>hb5.block k (by omega)⟩,dv5,rfl,own_base ho5 (by omega)⟩
end
end Go.Proofs.YtdfhomhginbfeaaDoor.K
