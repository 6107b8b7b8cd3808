/- Generic texts: K9 K10 R3 R4 R5 R6 R7. No condition. -/
import Derived.Test.YtecdefhecaeclaaDoorN2
import Derived.Lib.AppendZeros
namespace Go.Proofs.YtecdefhecaeclaaDoor.K
open Go Go.RowKit Go.Proofs.YtecdefhecaeclaaDoor.T
set_option linter.unusedVariables false
set_option linter.unusedSimpArgs false
attribute [local simp] eTm eCo pNo gTp gTn qv qcall vop iop
section
variable {X:Fix}
theorem enum_fixed (n:Int):fixed (IntKind.i8.wrap n) 1=fixed n 1:=by
  have:(IntKind.i8.wrap n) % 256=n % 256:=by
    simp only [IntKind.wrap,IntKind.bits,IntKind.signed,Bool.true_and]
    split <;> omega
  simp [fixed,T.byteOf,this]
theorem stable_two {x y lo t:Nat} {v u:Value} (hx:x < lo) (hx1:x ≠ 1) (hy:y < lo∨(X.T0≤y∧y < t)) (hy1:y ≠ 1):∀ a a',Same X a a' lo t→(getT a x=v∧getT a y=u)→(getT a' x=v∧getT a' y=u) :=
  fun _ _ hs h=>⟨(hs x hx1 (.inl hx)).trans h.1,(hs y hy1 hy).trans h.2⟩
theorem getElem?_map_flatten {α:Type} (l:List α) (f:α→Bytes):(l.map f).flatten=l.flatMap f:=by simp [List.flatMap]
theorem AFragP.keep {x:SC} {pre post:Act→Prop} {lo t:Nat} {o:Bytes} (h:AFragP X x pre post lo t o) (hst:∀ a a',Same X a a' lo t→pre a→pre a'):AFragP X x pre (fun a=>pre a∧post a) lo t o :=
  fun a w xs Q hi hp hlen hQ=>h a w xs Q hi hp hlen fun a' w' h1 h2 h3=>hQ a' w' h1 h2 ⟨hst _ _ h2 hp,h3⟩
theorem seqs_cons {x:SC} {l:List SC} (hl:l ≠ []):seqs (x :: l)=.seq x (seqs l):=by
  cases l with
  | nil=>exact absurd rfl hl
  | cons y r=>rfl
theorem aElem_ne (I:Ids) (c:Ctx) (T E s i v t b:Nat) (ty:Ty):aElem I c T E s i v t b ty ≠ []:=by
  cases ty <;> simp [aElem]
  split <;> simp
def TagsAt (G:List (Nat × Bytes)→Prop) (w:World) (F:Nat→Prop) (flex:Bool) (b o:Nat) (tags:Option (Nat × Nat)) (u:List (Nat × Bytes)):Prop :=
  match tags with | none=>u=[] | some (_,off)=>flex=true→HTags G w F b (o+off) u
theorem aTagsL_ok {S p t b o lo:Nat} {tags:Option (Nat × Nat)} {u:List (Nat × Bytes)} (hX:X.ok) (hlo:lo≤X.T0) (hlv:X.c.ver < lo) (hlf:X.c.flex < lo) (hp:p < lo) (hp1:p ≠ 1) (ht:X.T0≤t) (htN:t+tagsT tags≤X.N) (hb:b < X.B)
    (hok:okTags X.P X.I X.c S tags=true) (hu:TagsAt X.G X.w0 (· < X.B) X.flex b o tags u) :
    AList X (fun a=>getT a p=.pointer (some ⟨b,o,none⟩)) lo t (aTagsL X.I X.c S p tags t) (wTags X.flex u):=by
  cases tags with
  | none =>
    have hf:=hX.never hok
    have e:wTags X.flex u=[]:=by simp [wTags,hf]
    rw [e]
    exact .nil
  | some x =>
    obtain ⟨f,off⟩:=x
    simp only [tagsT,Option.isSome_some,if_true,aTagsT] at htN
    have h:=aTags_ok (X:=X) (S:=S) (p:=p) (f:=f) (off:=off) (t:=t) (b:=b) (o:=o) (lo:=lo) (u:=u) hX hlo hlv hlf hp hp1 ht (by omega) hb hok hu
    have:=AList.cons h (AList.nil (X:=X) (pre:=fun a=>getT a p=.pointer (some ⟨b,o,none⟩)) (lo:=lo) (t:=t))
    simpa [aTagsL] using this
mutual
theorem aVal_ok (hX:X.ok):∀ (ty:Ty) (S p:Nat) (h:Hd) (v t bk b o:Nat) (tr:Tree),okVal X.P X.I X.c X.tU8 h ty=true→fieldB X.P S h.idx h.off=true→(h.null < 0∨h.null≤X.ver) →
    HTy X.G X.w0 (· < X.B) X.ver X.flex ty (decide (0≤h.null)) b (o+h.off) tr→b < X.B→p < v→p ≠ 1→X.c.ver < v→X.c.flex < v→2≤v→v+nV ty+(if h.enum then 1 else 0)≤X.T0→X.T0≤t→t+aVT X.c h ty≤X.N →
    AFrag X (aVal X.I X.c S p h v t bk ty) (fun a=>getT a p=.pointer (some ⟨b,o,none⟩)) v t (wField X.ver X.flex h ty tr)
  | .prim k,S,p,h,v,t,bk,b,o,tr,hok,hS,hnull,hH,hb,hp,hp1,hlv,hlf,hv2,hvT,ht,htN=>by
    have hnul:h.isNull X.ver tr=(decide (0≤h.null) && tr.null):=by
      rcases hnull with e | e
      · simp [Hd.isNull,show ¬ (0≤h.null) by omega]
      · simp [Hd.isNull,e,Bool.and_comm]
    have hwf:wField X.ver X.flex h (.prim k) tr=wPrim X.flex (decide (0≤h.null) && tr.null) tr k:=by simp only [wField,wTy,hnul]
    rw [hwf]
    simp only [nV] at hvT
    simp only [aVT] at htN
    simp only [HTy,HPrim] at hH
    unfold okVal at hok
    by_cases hk:k=.uuid
    · subst hk
      rw [if_pos rfl] at hok hH
      simp only [Bool.and_eq_true,decide_eq_true_eq,Bool.not_eq_true',bne_iff_ne,ne_eq] at hok
      obtain ⟨⟨⟨hn,he⟩,hT⟩,hU⟩:=hok
      simp only [aAppT,PK.parted,Bool.false_eq_true,if_false] at htN
      have:=aUuid_ok (X:=X) (S:=S) (p:=p) (v:=v) (t:=t) (b:=b) (o:=o) (lo:=v) (h:=h) (tr:=tr) hX (Nat.le_refl _) hlv hlf (by omega) (by omega) ht (by omega) hS hT hU hb hH
      have e2:wPrim X.flex (decide (0≤h.null) && tr.null) tr .uuid=uuidOf tr:=by simp [wPrim,uuidOf]
      rw [e2]
      simpa only [aVal,if_true] using this
    · rw [if_neg hk] at hok hH
      obtain ⟨u,hc,hpv⟩:=hH
      simp only [Bool.and_eq_true,Bool.or_eq_true,Bool.not_eq_true',decide_eq_true_eq] at hok
      obtain ⟨⟨hT,hen⟩,happ⟩:=hok
      have hload:=aLoad_ok (X:=X) (S:=S) (p:=p) (f:=h.idx) (T:=h.typ) (v:=v) (t:=t) (off:=h.off) (b:=b) (o:=o) (u:=u) (lo:=v) hX (Nat.le_refl _) hlv hlf (by omega) (by omega) ht (by omega) hS hT hb hc
      unfold aVal
      rw [if_neg hk]
      by_cases he:h.enum=true
      · rw [if_pos he] at hvT htN ⊢
        rcases hen with hen | hk8
        · rw [hen] at he;cases he
        · subst hk8
          obtain rfl:=hpv
          have hap:=aApp_ok (X:=X) (nul:=decide (0≤h.null)) (k:=.i8) (x:=v+1) (t:=t+5) (lo:=v+2) (tr:=tr) (v:=.int .i8 tr.n) hX happ rfl (by omega) (by omega) (by omega) (by omega) (by omega) (by omega) (by simp only [aAppT,PK.parted,Bool.false_eq_true,if_false] at htN ⊢;omega)
          have hmid:AFragP X (.reg [mv (t+4) v,asg (v+1) (t+4)]) (fun a=>getT a v=.int .i8 tr.n) (fun a=>getT a (v+1)=.int .i8 tr.n) (v+1) (t+4) []:=by
            refine AFragP.quiet hX (by omega) (by omega) ?_
            intro a w xs K hi hpre hK
            have hsz:=hi.size
            refine ops_mv (ops_asg (oNi ?_))
            refine hK _ (by simp [sPu]) (by simp [dPu]) ?_ ?_ ?_
            · intro s hs1 hs2
              simp (disch:=omega) [gTn]
            · simp (disch:=omega) [gTn]
            · simp (disch:=(try simp only [sPu]);omega) [gTp,hpre]
          have h2:=hmid.seq hap (fun a a' _ _ hq=>hq) (by omega) (by omega)
          have h3:=hload.seq h2 (fun a a' _ _ hq=>hq) (by omega) (by omega)
          exact h3
      · rw [if_neg he] at hvT htN ⊢
        have hap:=aApp_ok (X:=X) (nul:=decide (0≤h.null)) (k:=k) (x:=v) (t:=t+4) (lo:=v+1) (tr:=tr) (v:=u) hX happ hpv (by omega) (by omega) (by omega) (by omega) (by omega) (by omega) (by omega)
        exact hload.seq hap (fun a a' _ _ hq=>hq) (by omega) (by omega)
  | .list T E size of,S,p,h,v,t,bk,b,o,tr,hok,hS,hnull,hH,hb,hp,hp1,hlv,hlf,hv2,hvT,ht,htN=>by
    have hnul:h.isNull X.ver tr=(decide (0≤h.null) && tr.null):=by
      rcases hnull with e | e
      · simp [Hd.isNull,show ¬ (0≤h.null) by omega]
      · simp [Hd.isNull,e,Bool.and_comm]
    have hwf:wField X.ver X.flex h (.list T E size of) tr=wTy X.ver X.flex (.list T E size of) (decide (0≤h.null) && tr.null) tr:=by simp only [wField,hnul]
    rw [hwf]
    simp only [nV] at hvT
    simp only [aVT] at htN
    unfold okVal at hok
    simp only [Bool.and_eq_true,Bool.not_eq_true',beq_iff_eq] at hok
    obtain ⟨⟨⟨⟨⟨he,hTT⟩,hT1⟩,hsl⟩,hlen⟩,hel⟩:=hok
    rw [if_neg (by simp [he])] at hvT
    simp only [HTy] at hH
    obtain ⟨base,cap,hc,hH⟩:=hH
    have hload:=aLoad_ok (X:=X) (S:=S) (p:=p) (f:=h.idx) (T:=h.typ) (v:=v) (t:=t) (off:=h.off) (b:=b) (o:=o) (lo:=v) hX (Nat.le_refl _) hlv hlf (by omega) (by omega) ht (by omega) hS (by rw [hTT];exact hT1) hb hc
    unfold aVal
    generalize hnl:(decide (0≤h.null) && tr.null)=nl at hc hH hload ⊢
    have hisn:(decide (0≤h.null) && base.isNone)=nl∧(if nl=true then 0 else tr.l.length)≤most:=by
      cases nl with
      | true =>
        simp only [if_true] at hH ⊢
        simp only [Bool.and_eq_true] at hnl
        exact ⟨by simp [hH];simpa using hnl.1,Nat.zero_le _⟩
      | false =>
        simp only [Bool.false_eq_true,if_false] at hH ⊢
        refine ⟨?_,hH.1⟩
        by_cases hz:decide (0≤h.null)=true
        · have:=hH.2.1 hz
          cases base <;> simp_all
        · simp only [Bool.not_eq_true] at hz
          rw [hz];rfl
    have hlenOk:=aLen_ok (X:=X) (nul:=decide (0≤h.null)) (T:=T) (E:=E) (n:=size) (v:=v) (t:=t+4) (lo:=v+1) (cnt:=if nl=true then 0 else tr.l.length) (cap:=cap) (base:=base) hX (by omega) (by omega) (by omega) (by omega) (by omega) (by omega) (by omega) hsl hlen hisn.2
    rw [hisn.1] at hlenOk
    have hlen2:AFragP X (aLen X.I X.c (decide (0≤h.null)) T v (t+4)) (fun a=>getT a v=.slice base (if nl=true then 0 else tr.l.length) cap) (fun a=>getT a v=.slice base (if nl=true then 0 else tr.l.length) cap) v (t+4) (counted X.flex nl (if nl=true then 0 else tr.l.length) 4) :=
      (hlenOk.keep (stable_slot (by omega) (by omega))).mono (fun _ h=>h) (fun _ h=>h.1) (by omega) (Nat.le_refl _)
    have hloop:AFrag X (aLoop T v (t+4+aLenT X.c (decide (0≤h.null))) bk (aET X.c of) (aElem X.I X.c T E v (v+1) (v+2) (t+4+aLenT X.c (decide (0≤h.null))+5) (bk+2) of) X.I.tInt)
        (fun a=>getT a v=.slice base (if nl=true then 0 else tr.l.length) cap) v (t+4+aLenT X.c (decide (0≤h.null))) ((if nl=true then [] else tr.l).flatMap (fun x=>wTy X.ver X.flex of false x)):=by
      have hnV:1≤nV of:=by cases of <;> simp [nV] <;> omega
      rw [← getElem?_map_flatten]
      have hcnt:(if nl=true then 0 else tr.l.length)=((if nl=true then [] else tr.l).map (fun x=>wTy X.ver X.flex of false x)).length:=by split <;> simp
      rw [hcnt]
      refine aLoop_ok (X:=X) (lo:=v) hX (Nat.le_refl _) (by omega) (by omega) hlv hlf (by omega) (by omega) hsl (by rw [← hcnt];exact hisn.2) ?_
      intro i out hout
      rw [← hcnt]
      simp only [List.getElem?_map,Option.map_eq_some_iff] at hout
      obtain ⟨x,hx,rfl⟩:=hout
      cases nl with
      | true=>simp at hx
      | false =>
        simp only [Bool.false_eq_true,if_false] at hx hH ⊢
        obtain ⟨-,-,hH⟩:=hH
        have hlt:i < tr.l.length:=(List.getElem?_eq_some_iff.1 hx).1
        rcases hH with ⟨rfl,hnil⟩ | ⟨b',o',rfl,hF,hels⟩
        · rw [hnil] at hlt
          exact absurd hlt (Nat.not_lt_zero _)
        · have hE:=aElem_ok hX of T E size v (v+1) (v+2) (t+4+aLenT X.c (decide (0≤h.null))+5) (bk+2) b' o' cap tr.l.length i x hel hsl (hels i x hx) hF hlt (by omega) (by omega) (by omega) (by omega) (by omega) (by omega) (by omega) (by omega) (by omega) (by omega)
          rw [seqs_cons (aElem_ne _ _ _ _ _ _ _ _ _ _)]
          have hreg:AFragP X (.reg [mv (t+4+aLenT X.c (decide (0≤h.null))+4) (t+4+aLenT X.c (decide (0≤h.null))+2),asg (v+1) (t+4+aLenT X.c (decide (0≤h.null))+4)])
              (fun a=>getT a v=.slice (some ⟨b',o',none⟩) tr.l.length cap∧getT a (t+4+aLenT X.c (decide (0≤h.null))+2)=.int .i64 (i:Int))
              (fun a=>getT a v=.slice (some ⟨b',o',none⟩) tr.l.length cap∧getT a (v+1)=.int .i64 (i:Int)) (v+1) (t+4+aLenT X.c (decide (0≤h.null))+4) []:=by
            refine AFragP.quiet hX (by omega) (by omega) ?_
            intro a w xs K hi hpre hK
            have hsz:=hi.size
            refine ops_mv (ops_asg (oNi ?_))
            refine hK _ (by simp [sPu]) (by simp [dPu]) ?_ ?_ ⟨?_,?_⟩
            · intro s hs1 hs2
              simp (disch:=omega) [gTn]
            · simp (disch:=omega) [gTn]
            · simp (disch:=omega) [gTn]
              exact hpre.1
            · simp (disch:=(try simp only [sPu]);omega) [gTp]
              exact hpre.2
          exact hreg.seq hE (fun a a' _ _ hq=>hq) (by omega) (by omega)
    have hout:wTy X.ver X.flex (.list T E size of) nl tr=counted X.flex nl (if nl=true then 0 else tr.l.length) 4 ++ (if nl=true then [] else tr.l).flatMap (fun x=>wTy X.ver X.flex of false x):=by
      simp only [wTy]
      cases nl with
      | true=>simp
      | false =>
        simp only [Bool.false_eq_true,if_false] at hH ⊢
        rw [List.take_of_length_le hH.1]
    rw [hout]
    have h2:=hlen2.seq hloop (fun a a' _ _ hq=>hq) (Nat.le_refl _) (by omega)
    exact hload.seq h2 (fun a a' _ _ hq=>hq) (Nat.le_refl _) (by omega)
  | .struct S' sz df tags fs,S,p,h,v,t,bk,b,o,tr,hok,hS,hnull,hH,hb,hp,hp1,hlv,hlf,hv2,hvT,ht,htN=>by
    have hnul:h.isNull X.ver tr=(decide (0≤h.null) && tr.null):=by
      rcases hnull with e | e
      · simp [Hd.isNull,show ¬ (0≤h.null) by omega]
      · simp [Hd.isNull,e,Bool.and_comm]
    simp only [nV] at hvT
    simp only [aVT] at htN
    unfold okVal at hok
    simp only [Bool.and_eq_true,Bool.not_eq_true',Bool.or_eq_true,decide_eq_true_eq] at hok
    obtain ⟨⟨⟨he,hn⟩,htag⟩,hfs⟩:=hok
    rw [if_neg (by simp [he])] at hvT
    unfold aVal
    simp only [HTy] at hH
    by_cases hz:0≤h.null
    · rw [if_pos hz] at htN ⊢
      rw [if_pos (by simpa using hz)] at hH
      rcases hn with hn | ⟨⟨hT1,hpt⟩,hu8⟩
      · omega
      have hwf:wField X.ver X.flex h (.struct S' sz df tags fs) tr=if tr.null then [255] else [1] ++ (wFs X.ver X.flex fs tr.l ++ wTags X.flex tr.u):=by
        have hd:h.isNull X.ver tr=tr.null:=by rw [hnul];simp [hz]
        simp only [wField,hz,if_true,hd,wTy,List.cons_append,List.nil_append]
      rw [hwf]
      by_cases hnl:tr.null=true
      · rw [if_pos hnl] at hH ⊢
        have hload:=aLoad_ok (X:=X) (S:=S) (p:=p) (f:=h.idx) (T:=h.typ) (v:=v) (t:=t) (off:=h.off) (b:=b) (o:=o) (lo:=v) hX (Nat.le_refl _) hlv hlf (by omega) (by omega) ht (by omega) hS hT1 hb hH
        have hby:=aByte_ok (X:=X) (n:=255) (t:=t+6) (lo:=v) (u:=255) hX rfl (by omega) hlv hlf (by omega) (by omega) hu8
        have hrest:AFrag X (.seq (.reg [mv (t+4) v,bin .eql (t+5) h.typ (t+4) (.const (.pointer none))])
            (.cond (.tmp (t+5)) (aByte X.I 255 (t+6)) (seqs (aByte X.I 1 (t+9) :: (aFs X.I X.c S' v (v+1) (t+12) bk fs ++ aTagsL X.I X.c S' v tags (t+12+aFT X.c fs))))))
            (fun a=>getT a v=.pointer none) v (t+4) [255]:=by
          intro a w xs Q hi hp hlen hQ
          have hsz:=hi.size
          have h1:=hX.oneT
          refine SC.wp_seq (SC.wp_reg (ops_mv (oNo rfl (opw_eqlnil_ptr hpt (q:=none) (by rw [eTm,gTp (by omega)];exact hp) (oNi ?_)))))
          refine SC.wp_cond (t:=true) (by simp (disch:=(try simp only [sPu]);omega) [eTm,gTp]) ?_
          rw [if_pos rfl]
          have hS2:Same X a ((a.put (some (t+4)) (getT a v)).put (some (t+5)) (.bool (Option.isNone (none:Option Addr)))) v (t+4):=by
            intro s hs1 hs2
            simp (disch:=omega) [gTn]
          refine hby _ w xs _ ?_ trivial hlen fun a' w' h1 h2 h3=>hQ a' w' h1 (hS2.trans h2 (Nat.le_refl _) (by omega)) h3
          refine hi.step hX (by simp [sPu]) (by simp [dPu]) hS2 hlv hlf ?_ (Below.refl _ _) hi.heap
          simp (disch:=omega) [gTn]
          exact hi.own
        exact hload.seq hrest (fun a a' _ _ hq=>hq) (Nat.le_refl _) (by omega)
      · rw [if_neg hnl] at hH ⊢
        obtain ⟨b',o',hc,hF,hHf,hHt⟩:=hH
        have hload:=aLoad_ok (X:=X) (S:=S) (p:=p) (f:=h.idx) (T:=h.typ) (v:=v) (t:=t) (off:=h.off) (b:=b) (o:=o) (lo:=v) hX (Nat.le_refl _) hlv hlf (by omega) (by omega) ht (by omega) hS hT1 hb hc
        have hby:=(aByte_ok (X:=X) (n:=1) (t:=t+9) (lo:=v+1) (u:=1) hX rfl (by omega) (by omega) (by omega) (by omega) (by omega) hu8).mono (pre':=fun a=>getT a v=.pointer (some ⟨b',o',none⟩)) (fun _ _=>trivial) (fun _ h=>h) (Nat.le_refl _) (Nat.le_refl _)
        have hA:=aFs_ok hX fs S' v (v+1) (t+12) bk b' o' tr.l hfs hHf hF (by omega) (by omega) (by omega) (by omega) (by omega) (by omega) (by omega) (by omega)
        have hTg:=aTagsL_ok (X:=X) (S:=S') (p:=v) (t:=t+12+aFT X.c fs) (b:=b') (o:=o') (lo:=v+1) (u:=tr.u) hX (by omega) (by omega) (by omega) (by omega) (by omega) (by omega) (by omega) hF htag hHt
        have hL:=((AList.cons hby ((hA.append (hTg.mono (Nat.le_refl _) (by omega))).mono (Nat.le_refl _) (by omega))).frag (stable_slot (by omega) (by omega)))
        have hrest:AFrag X (.seq (.reg [mv (t+4) v,bin .eql (t+5) h.typ (t+4) (.const (.pointer none))])
            (.cond (.tmp (t+5)) (aByte X.I 255 (t+6)) (seqs (aByte X.I 1 (t+9) :: (aFs X.I X.c S' v (v+1) (t+12) bk fs ++ aTagsL X.I X.c S' v tags (t+12+aFT X.c fs))))))
            (fun a=>getT a v=.pointer (some ⟨b',o',none⟩)) v (t+4) ([1] ++ (wFs X.ver X.flex fs tr.l ++ wTags X.flex tr.u)):=by
          intro a w xs Q hi hp hlen hQ
          have hsz:=hi.size
          have h1:=hX.oneT
          refine SC.wp_seq (SC.wp_reg (ops_mv (oNo rfl (opw_eqlnil_ptr hpt (q:=some ⟨b',o',none⟩) (by rw [eTm,gTp (by omega)];exact hp) (oNi ?_)))))
          refine SC.wp_cond (t:=false) (by simp (disch:=(try simp only [sPu]);omega) [eTm,gTp]) ?_
          rw [if_neg (by simp)]
          have hS2:Same X a ((a.put (some (t+4)) (getT a v)).put (some (t+5)) (.bool (Option.isNone (some (⟨b',o',none⟩:Addr))))) (v+1) (t+4):=by
            intro s hs1 hs2
            simp (disch:=omega) [gTn]
          refine hL _ w xs _ ?_ ((hS2 v (by omega) (by omega)).trans hp) hlen fun a' w' h1 h2 h3=>hQ a' w' h1 ((hS2.trans h2 (Nat.le_refl _) (by omega)).mono (by omega) (Nat.le_refl _)) h3
          refine hi.step hX (by simp [sPu]) (by simp [dPu]) hS2 (by omega) (by omega) ?_ (Below.refl _ _) hi.heap
          simp (disch:=omega) [gTn]
          exact hi.own
        exact hload.seq hrest (fun a a' _ _ hq=>hq) (Nat.le_refl _) (by omega)
    · rw [if_neg hz] at htN ⊢
      rw [if_neg (by simpa using hz)] at hH
      obtain ⟨hHf,hHt⟩:=hH
      have hwf:wField X.ver X.flex h (.struct S' sz df tags fs) tr=[] ++ (wFs X.ver X.flex fs tr.l ++ wTags X.flex tr.u):=by
        simp only [wField,hz,if_false,wTy,List.nil_append]
      rw [hwf]
      have hA:=aFs_ok hX fs S' v (v+1) (t+3) bk b (o+h.off) tr.l hfs hHf hb (by omega) (by omega) (by omega) (by omega) (by omega) (by omega) (by omega) (by omega)
      have hTg:=aTagsL_ok (X:=X) (S:=S') (p:=v) (t:=t+3+aFT X.c fs) (b:=b) (o:=o+h.off) (lo:=v+1) (u:=tr.u) hX (by omega) (by omega) (by omega) (by omega) (by omega) (by omega) (by omega) hb htag hHt
      have hreg:AFragP X (.reg [mv t p,nilc (t+1) t,fa (t+2) S (t+1) h.idx,asg v (t+2)]) (fun a=>getT a p=.pointer (some ⟨b,o,none⟩)) (fun a=>getT a v=.pointer (some ⟨b,o+h.off,none⟩)) v t []:=by
        refine AFragP.quiet hX hlv hlf ?_
        intro a w xs K hi hpre hK
        have hsz:=hi.size
        refine ops_mv (ops_nilc (ad:=⟨b,o,none⟩) (by rw [gTp (by omega)];exact hpre) (ops_fa hS (b:=b) (o:=o) (by rw [gTp (by simp only [sPu];omega)]) (ops_asg (oNi ?_))))
        refine hK _ (by simp [sPu]) (by simp [dPu]) ?_ ?_ ?_
        · intro s hs1 hs2
          simp (disch:=omega) [gTn]
        · simp (disch:=omega) [gTn]
        · simp (disch:=(try simp only [sPu]);omega) [gTp]
      exact AList.behind hreg (hA.append (hTg.mono (Nat.le_refl _) (by omega))) (stable_slot (by omega) (by omega)) (fun a a' _ _ hq=>hq) (by omega) (by omega)
theorem aElem_ok (hX:X.ok):∀ (ty:Ty) (T E size s i v t bk b o cap cnt idx:Nat) (tr:Tree),okElem X.P X.I X.c X.tU8 E size ty=true→sliceB X.P T E size=true →
    HTy X.G X.w0 (· < X.B) X.ver X.flex ty false b (o+idx * size) tr→b < X.B→idx < cnt→s < v→i < v→s ≠ 1→i ≠ 1→X.c.ver < v→X.c.flex < v→2≤v→v+nV ty≤X.T0→X.T0≤t→t+aET X.c ty≤X.N →
    AFrag X (seqs (aElem X.I X.c T E s i v t bk ty)) (fun a=>getT a s=.slice (some ⟨b,o,none⟩) cnt cap∧getT a i=.int .i64 (idx:Int)) v t (wTy X.ver X.flex ty false tr)
  | .prim k,T,E,size,s,i,v,t,bk,b,o,cap,cnt,idx,tr,hok,hsl,hH,hb,hidx,hsv,hiv,hs1,hi1,hlv,hlf,hv2,hvT,ht,htN=>by
    unfold okElem at hok
    by_cases hk:k=.uuid
    · subst hk
      rw [if_pos rfl] at hok
      simp only [Bool.and_eq_true,bne_iff_ne,ne_eq,beq_iff_eq] at hok
      obtain ⟨⟨hsz1,hT1⟩,hU⟩:=hok
      subst hsz1
      simp only [HTy,HPrim,if_true] at hH
      simp only [nV] at hvT
      simp only [aET,aAppT,PK.parted,Bool.false_eq_true,if_false] at htN
      exact aUuidE_ok (X:=X) hX (Nat.le_refl _) hlv hlf (by omega) (by omega) ht (by omega) hsl hidx hsv hiv hT1 hU hb hH
    rw [if_neg hk] at hok
    simp only [Bool.and_eq_true,bne_iff_ne,ne_eq,beq_iff_eq] at hok
    obtain ⟨⟨hsz1,hT1⟩,happ⟩:=hok
    subst hsz1
    simp only [HTy,HPrim,if_neg hk] at hH
    obtain ⟨u,hc,hpv⟩:=hH
    simp only [nV] at hvT
    simp only [aET] at htN
    simp only [aElem,if_neg hk,seqs,wTy]
    have hreg:AFragP X (.reg [mv t s,mv (t+1) i,⟨some (t+2),.indexAddr T (.tmp t) (.tmp (t+1)),none⟩,ld (t+3) E (t+2),asg v (t+3)]) (fun a=>getT a s=.slice (some ⟨b,o,none⟩) cnt cap∧getT a i=.int .i64 (idx:Int)) (fun a=>getT a v=u) v t []:=by
      refine AFragP.quiet hX hlv hlf ?_
      intro a w xs K hi hpre hK
      have hsz:=hi.size
      refine ops_mv (ops_mv (oNo rfl (opw_index hsl (b:=b) (o:=o) (len:=cnt) (cap:=cap) (j:=idx) (k:=.i64) ?_ ?_ hidx (ops_ld hT1 (ad:=⟨b,o+idx * 1,none⟩) (v:=u) ?_ ?_ (ops_asg (oNi ?_))))))
      · simp (disch:=(try simp only [sPu]);omega) [eTm,gTp,gTn]
        exact hpre.1
      · simp (disch:=(try simp only [sPu]);omega) [eTm,gTp,gTn]
        exact hpre.2
      · rw [gTp (by simp only [sPu];omega)]
      · rw [hi.below.cell hb]
        exact hc
      refine hK _ (by simp [sPu]) (by simp [dPu]) ?_ ?_ ?_
      · intro q hq1 hq2
        simp (disch:=omega) [gTn]
      · simp (disch:=omega) [gTn]
      · simp (disch:=(try simp only [sPu]);omega) [gTp]
    have hap:=aApp_ok (X:=X) (nul:=false) (k:=k) (x:=v) (t:=t+4) (lo:=v+1) (tr:=tr) (v:=u) hX happ hpv (by omega) (by omega) (by omega) (by omega) (by omega) (by omega) (by omega)
    exact hreg.seq hap (fun a a' _ _ hq=>hq) (by omega) (by omega)
  | .list _ _ _ _,T,E,size,s,i,v,t,bk,b,o,cap,cnt,idx,tr,hok,hsl,hH,hb,hidx,hsv,hiv,hs1,hi1,hlv,hlf,hv2,hvT,ht,htN=>by
    simp [okElem] at hok
  | .struct S sz df tags fs,T,E,size,s,i,v,t,bk,b,o,cap,cnt,idx,tr,hok,hsl,hH,hb,hidx,hsv,hiv,hs1,hi1,hlv,hlf,hv2,hvT,ht,htN=>by
    unfold okElem at hok
    simp only [Bool.and_eq_true,beq_iff_eq] at hok
    obtain ⟨⟨⟨hSE,hsz1⟩,htag⟩,hfs⟩:=hok
    simp only [HTy,Bool.false_eq_true,if_false] at hH
    obtain ⟨hHf,hHt⟩:=hH
    simp only [nV] at hvT
    simp only [aET] at htN
    simp only [aElem,wTy]
    have hreg:AFragP X (.reg [mv t s,mv (t+1) i,⟨some (t+2),.indexAddr T (.tmp t) (.tmp (t+1)),none⟩,asg v (t+2)]) (fun a=>getT a s=.slice (some ⟨b,o,none⟩) cnt cap∧getT a i=.int .i64 (idx:Int)) (fun a=>getT a v=.pointer (some ⟨b,o+idx * size,none⟩)) v t []:=by
      refine AFragP.quiet hX hlv hlf ?_
      intro a w xs K hi hpre hK
      have hsz:=hi.size
      refine ops_mv (ops_mv (oNo rfl (opw_index hsl (b:=b) (o:=o) (len:=cnt) (cap:=cap) (j:=idx) (k:=.i64) ?_ ?_ hidx (ops_asg (oNi ?_)))))
      · simp (disch:=(try simp only [sPu]);omega) [eTm,gTp,gTn]
        exact hpre.1
      · simp (disch:=(try simp only [sPu]);omega) [eTm,gTp,gTn]
        exact hpre.2
      refine hK _ (by simp [sPu]) (by simp [dPu]) ?_ ?_ ?_
      · intro q hq1 hq2
        simp (disch:=omega) [gTn]
      · simp (disch:=omega) [gTn]
      · simp (disch:=(try simp only [sPu]);omega) [gTp]
    have hA:=aFs_ok hX fs S v (v+1) (t+3) bk b (o+idx * size) tr.l hfs hHf hb (by omega) (by omega) (by omega) (by omega) (by omega) (by omega) (by omega) (by omega)
    have hTg:=aTagsL_ok (X:=X) (S:=S) (p:=v) (t:=t+3+aFT X.c fs) (b:=b) (o:=o+idx * size) (lo:=v+1) (u:=tr.u) hX (by omega) (by omega) (by omega) (by omega) (by omega) (by omega) (by omega) hb htag hHt
    have:=AList.behind hreg (hA.append (hTg.mono (Nat.le_refl _) (by omega))) (stable_slot (by omega) (by omega)) (fun a a' _ _ hq=>hq) (by omega) (by omega)
    simpa using this
theorem aFs_ok (hX:X.ok):∀ (fs:Fs) (S p v t bk b o:Nat) (ts:List Tree),okFs X.P X.I X.c X.tU8 S fs=true→HFs X.G X.w0 (· < X.B) X.ver X.flex fs b o ts→b < X.B→p < v→p ≠ 1→X.c.ver < v→X.c.flex < v→2≤v →
    v+nVs fs≤X.T0→X.T0≤t→t+aFT X.c fs≤X.N→AList X (fun a=>getT a p=.pointer (some ⟨b,o,none⟩)) v t (aFs X.I X.c S p v t bk fs) (wFs X.ver X.flex fs ts)
  | .nil,S,p,v,t,bk,b,o,ts,hok,hH,hb,hp,hp1,hlv,hlf,hv2,hvT,ht,htN=>by
    simp only [aFs,wFs]
    exact .nil
  | .cons h ty r,S,p,v,t,bk,b,o,ts,hok,hH,hb,hp,hp1,hlv,hlf,hv2,hvT,ht,htN=>by
    unfold okFs at hok
    simp only [Bool.and_eq_true,Bool.or_eq_true,decide_eq_true_eq] at hok
    obtain ⟨⟨⟨hS,hnull⟩,hval⟩,hrest⟩:=hok
    simp only [HFs] at hH
    simp only [nVs] at hvT
    simp only [aFT] at htN
    rw [wFs_cons]
    unfold aFs
    refine .cons ?_ ?_
    · refine vCond_ok hX (by omega) hlv hlf ht (by omega) (stable_slot hp hp1) (fun hh=>?_)
      have hfrom:h.from_≤X.ver:=by
        simp only [Hd.has,Bool.and_eq_true,decide_eq_true_eq] at hh
        exact hh.1
      exact (aVal_ok hX ty S p h v (t+vTmps h) bk b o (ts.headD Tree.zero) hval hS (hnull.imp id fun e=>Int.le_trans e hfrom) (hH.1 hh) hb hp hp1 hlv hlf hv2 (by omega) (by omega) (by omega)).mono (fun _ h=>h) (fun _ h=>h) (Nat.le_refl _) (Nat.le_refl _)
    · exact (aFs_ok hX r S p (v+nV ty+(if h.enum then 1 else 0)) (t+vTmps h+aVT X.c h ty) (bk+nB ty) b o ts.tail hrest hH.2 hb (by omega) hp1 (by omega) (by omega) (by omega) (by omega) (by omega) (by omega)).mono (by omega) (by omega)
end
end
end Go.Proofs.YtecdefhecaeclaaDoor.K
namespace Go.Proofs.YtecdefhecaeclaaDoor.K
open Go Go.RowKit Go.Proofs.YtecdefhecaeclaaDoor.T
set_option linter.unusedVariables false
set_option linter.unusedSimpArgs false
attribute [local simp] eTm eCo pNo gTp gTn qv qcall vop iop
section
variable {X:Fix}
theorem AList.wp_append {pre:Act→Prop} {lo t:Nat} {l rest:List SC} {o:Bytes} {Q:Exit→Act→World→Prop} (hne:rest ≠ []) (h:AList X pre lo t l o) (hst:∀ a a',Same X a a' lo t→pre a→pre a') :
    ∀ (a:Act) (w:World) (xs:Bytes),AInv X a w xs→pre a→xs.length+o.length≤lim→(∀ a' w',AInv X a' w' (xs ++ o)→Same X a a' lo t→(seqs rest).wp X.P Q a' w')→(seqs (l ++ rest)).wp X.P Q a w:=by
  induction h with
  | nil =>
    intro a w xs hi hp hlen hQ
    exact hQ a w (by simpa using hi) (Same.refl _ _ _ _)
  | cons h1 _ ih =>
    intro a w xs hi hp hlen hQ
    rw [List.cons_append,seqs_cons (by simp [hne])]
    rw [List.length_append] at hlen
    refine SC.wp_seq (h1 a w xs _ hi hp (by omega) ?_)
    intro a' w' hi' hs' _
    refine ih a' w' _ hi' (hst _ _ hs' hp) (by rw [List.length_append];omega) ?_
    intro a2 w2 hi2 hs2
    exact hQ a2 w2 (by rw [← List.append_assoc];exact hi2) (hs'.trans hs2 (Nat.le_refl _) (Nat.le_refl _))
theorem top_mid {S b o:Nat} {tags:Option (Nat × Nat)} {fs:Fs} {v t:Nat} {ts:List Tree} {u:List (Nat × Bytes)} {Q:Exit→Act→World→Prop} {a:Act} {w:World} (hX:X.ok) (hvT:v+nVs fs≤X.T0) (ht:X.T0≤t) (htN:t+aFT X.c fs+tagsT tags+1≤X.N)
    (hlv:X.c.ver < v) (hlf:X.c.flex < v) (hv:5 < v) (hb:b < X.B) (htags:okTags X.P X.I X.c S tags=true) (hfs:okFs X.P X.I X.c X.tU8 S fs=true)
    (hH:HFs X.G X.w0 (· < X.B) X.ver X.flex fs b o ts) (hT:TagsAt X.G X.w0 (· < X.B) X.flex b o tags u) (hi:AInv X a w []) (hp:getT a 0=.pointer (some ⟨b,o,none⟩))
    (hlim:(wFs X.ver X.flex fs ts ++ wTags X.flex u).length≤lim)
    (hQ:∀ a' w' dv,a'.defers=[]→getT a' 4=dv→Own X.tU8 w' X.B dv (wFs X.ver X.flex fs ts ++ wTags X.flex u)→Below X.B X.w0 w'→Q .ret a' w') :
    (seqs ((aFs X.I X.c S 0 v t 0 fs ++ aTagsL X.I X.c S 0 tags (t+aFT X.c fs)) ++ [.reg [mv (t+aFT X.c fs+tagsT tags) 1,asg 4 (t+aFT X.c fs+tagsT tags)],.ret])).wp X.P Q a w:=by
  have h1:=hX.oneT
  have hA:=aFs_ok hX fs S 0 v t 0 b o ts hfs hH hb (by omega) (by omega) hlv hlf (by omega) hvT ht (by omega)
  have hTg:=aTagsL_ok (X:=X) (S:=S) (p:=0) (t:=t+aFT X.c fs) (b:=b) (o:=o) (lo:=v) (u:=u) hX (by omega) hlv hlf (by omega) (by omega) (by omega) (by omega) hb htags hT
  refine (hA.append (hTg.mono (Nat.le_refl _) (by omega))).wp_append (by simp) (stable_slot (by omega) (by omega)) a w [] hi hp (by simpa using hlim) ?_
  intro a' w' hi' _
  have hsz:=hi'.size
  rw [List.nil_append] at hi'
  refine SC.wp_seq (SC.wp_reg (ops_mv (ops_asg (oNi ?_))))
  refine SC.wp_ret (hQ _ _ (getT a' 1) (by simp [dPu,hi'.defers]) ?_ hi'.own hi'.below)
  rw [gTp (by simp only [sPu];omega),gTp (by omega)]
end
def flexAt (flex:Option Int) (ver:Int):Bool:=match flex with | none=>false | some n=>decide (n≤ver)
def okTop (P:Program) (I:Ids) (tU8 S t N:Nat) (flex:Option Int) (tags:Option (Nat × Nat)) (fs:Fs):Bool :=
  decide (v0Of flex+nVs fs≤t) && decide (t1Of t flex+aFT (ctxOf flex) fs+tagsT tags+1≤N) && fieldB P S 0 0 && oneB P I.tI16 && okTags P I (ctxOf flex) S tags && okFs P I (ctxOf flex) tU8 S fs
theorem appendTo_calls {P:Program} {I:Ids} {tU8:Nat} {G:List (Nat × Bytes)→Prop} {f S t:Nat} {fn:Func} {flex:Option Int} {tags:Option (Nat × Nat)} {fs:Fs} (hka:KA G P I tU8)
    (hf:P.funcs[f]?=some fn) (hb:fn.body.map strip=some (aTop I S t flex tags fs)) (hr:fn.results=#[.tmp 4]) (hok:okTop P I tU8 S t fn.ntmps flex tags fs=true)
    (w:World) (b o:Nat) (ver:Int) (ts:List Tree) (u:List (Nat × Bytes)) (hbB:b < w.heap.size) (hver:w.cell? ⟨b,o,none⟩=some (.int .i16 ver)) (hv0:0≤ver)
    (hH:HFs G w (· < w.heap.size) ver (flexAt flex ver) fs b o ts) (hT:TagsAt G w (· < w.heap.size) (flexAt flex ver) b o tags u)
    (hlim:(wFs ver (flexAt flex ver) fs ts ++ wTags (flexAt flex ver) u).length≤lim) :
    Calls P f #[.pointer (some ⟨b,o,none⟩),.slice none 0 0] w fun e w'=>∃ dv,e=.returned dv∧Own tU8 w' w.heap.size dv (wFs ver (flexAt flex ver) fs ts ++ wTags (flexAt flex ver) u)∧Below w.heap.size w w':=by
  unfold okTop at hok
  simp only [Bool.and_eq_true,decide_eq_true_eq] at hok
  obtain ⟨⟨⟨⟨⟨h1,h2⟩,h3⟩,h4⟩,h5⟩,h6⟩:=hok
  obtain ⟨c,hc,hs⟩:∃ c,fn.body=some c∧strip c=aTop I S t flex tags fs:=by
    cases hc:fn.body with
    | none=>simp [hc] at hb
    | some c=>exact ⟨c,rfl,by simpa [hc] using hb⟩
  refine calls_of_wp hf hc ?_
  generalize hR:bodyPost P fn _=Q
  suffices h:(aTop I S t flex tags fs).wp P Q { tmps:=#[.pointer (some ⟨b,o,none⟩),.slice none 0 0] ++ Array.replicate (fn.ntmps - 2) undef,defers:=[] } w from h c hs
  have hQ:∀ a w' dv,a.defers=[]→getT a 4=dv→Own tU8 w' w.heap.size dv (wFs ver (flexAt flex ver) fs ts ++ wTags (flexAt flex ver) u)→Below w.heap.size w w'→Q .ret a w':=by
    intro a w' dv hd h4 ho hbl
    subst hR
    exact bodyPost_ret (results_tmp hr _ _ _) hd ⟨_,rfl,by rw [← h4] at ho;exact ho,hbl⟩
  clear hR hs hc hb hf hr
  have hown0:Own tU8 w w.heap.size (.slice none 0 0) []:=World.ownsRow_nil _ _ _ _
  have ht5:6≤t∧t+6≤fn.ntmps:=by cases flex <;> simp [v0Of,t1Of] at h1 h2 <;> omega
  generalize ha0:({ tmps:=#[.pointer (some ⟨b,o,none⟩),.slice none 0 0] ++ Array.replicate (fn.ntmps - 2) undef,defers:=[] }:Act)=a0
  have h00:getT a0 0=.pointer (some ⟨b,o,none⟩):=by rw [← ha0];simp [getT,Array.getD]
  have h01:getT a0 1=.slice none 0 0:=by
    rw [← ha0]
    simp only [getT,Array.getD_eq_getD_getElem?]
    rw [Array.getElem?_append_left (by simp)]
    rfl
  have hd0:a0.defers=[]:=by rw [← ha0]
  have hs0:a0.tmps.size=fn.ntmps:=by rw [← ha0];simp;omega
  clear ha0
  have fin:∀ a1:Act,a1.tmps.size=fn.ntmps→a1.defers=[]→getT a1 0=.pointer (some ⟨b,o,none⟩)→getT a1 1=.slice none 0 0→getT a1 5=.int .i16 ver →
      (seqs (flexPart I t flex ++ ((aFs I (ctxOf flex) S 0 (v0Of flex) (t1Of t flex) 0 fs ++ aTagsL I (ctxOf flex) S 0 tags (t1Of t flex+aFT (ctxOf flex) fs)) ++
        [.reg [mv (t1Of t flex+aFT (ctxOf flex) fs+tagsT tags) 1,asg 4 (t1Of t flex+aFT (ctxOf flex) fs+tagsT tags)],.ret]))).wp P Q a1 w:=by
    intro a1 hs1 hd1 h10 h11 h15
    cases flex with
    | none =>
      simp only [v0Of,t1Of,ctxOf,flexAt,flexPart,List.nil_append] at *
      let X:Fix:=⟨P,I,tU8,G,⟨5,5,true⟩,w,w.heap.size,ver,false,t,fn.ntmps⟩
      have hX:X.ok:=⟨hka,(by omega:(5:Nat) ≠ 1),(by omega:(5:Nat) ≠ 1),(by omega:5 < t),(by omega:5 < t),(by omega:1 < t),fun _=>rfl,Nat.le_refl _,hv0⟩
      exact top_mid (X:=X) hX h1 (by show t≤t+5;omega) h2 (by show 5 < 6;omega) (by show 5 < 6;omega) (by omega) hbB h5 h6 hH hT
        ⟨hs1,hd1,h15,(by intro h;cases h),(by rw [h11];exact hown0),Below.refl _ _,Nat.le_refl _⟩ h10 hlim hQ
    | some n =>
      simp only [v0Of,t1Of,ctxOf,flexAt,flexPart] at *
      rw [List.cons_append,seqs_cons (by simp)]
      refine SC.wp_seq (SC.wp_reg (ops_mv (oNo rfl (opw_cmp (op:=.geq) (k:=.i16) (m:=ver) (n:=n) (r:=decide (n≤ver)) ?_ rfl (by simp) (ops_asg (oNi ?_))))))
      · rw [eTm,gTp (by omega)]
        exact h15
      rw [List.cons_append,List.nil_append,seqs_cons (by simp)]
      refine SC.wp_seq (SC.wp_reg (ops_mv (oNi ?_)))
      let X:Fix:=⟨P,I,tU8,G,⟨5,6,false⟩,w,w.heap.size,ver,decide (n≤ver),t,fn.ntmps⟩
      have hX:X.ok:=⟨hka,(by omega:(5:Nat) ≠ 1),(by omega:(6:Nat) ≠ 1),(by omega:5 < t),(by omega:6 < t),(by omega:1 < t),(fun h=>by cases h),Nat.le_refl _,hv0⟩
      refine top_mid (X:=X) hX h1 (by show t≤t+8;omega) h2 (by show 5 < 7;omega) (by show 6 < 7;omega) (by omega) hbB h5 h6 hH hT
        ⟨?_,?_,?_,?_,?_,Below.refl _ _,Nat.le_refl _⟩ ?_ hlim hQ
      · simp [sPu,hs1];rfl
      · simp [dPu,hd1]
      · show getT _ 5=_
        simp (disch:=omega) [gTn]
        exact h15
      · intro _
        show getT _ 6=_
        simp (disch:=(try simp only [sPu]);omega) [gTp,gTn]
        rfl
      · simp (disch:=omega) [gTn]
        rw [h11];exact hown0
      · simp (disch:=omega) [gTn]
        exact h10
  obtain ⟨rest,hrest⟩:∃ rest,rest=(flexPart I t flex ++ ((aFs I (ctxOf flex) S 0 (v0Of flex) (t1Of t flex) 0 fs ++ aTagsL I (ctxOf flex) S 0 tags (t1Of t flex+aFT (ctxOf flex) fs)) ++
        [.reg [mv (t1Of t flex+aFT (ctxOf flex) fs+tagsT tags) 1,asg 4 (t1Of t flex+aFT (ctxOf flex) fs+tagsT tags)],.ret])):=⟨_,rfl⟩
  have htop:aTop I S t flex tags fs=seqs (.reg [⟨some 4,.assign (.const (.slice none 0 0)),none⟩] :: aLoad S 0 0 I.tI16 5 t :: .reg [mv (t+4) 5] :: rest):=by rw [hrest];rfl
  have hne:rest ≠ []:=by rw [hrest];simp
  rw [← hrest] at fin
  clear hrest
  rw [htop,seqs_cons (by simp)]
  refine SC.wp_seq (SC.wp_reg (oNo rfl (opw_assign (oNi ?_))))
  rw [eCo,seqs_cons (by simp)]
  refine SC.wp_seq (SC.wp_reg (ops_mv (ops_nilc (ad:=⟨b,o,none⟩) ?_ (ops_fa h3 (b:=b) (o:=o) (by rw [gTp (by simp only [sPu];omega)]) ?_))))
  · rw [gTp (by simp only [sPu];omega),gTn (by omega)]
    exact h00
  refine ops_ld h4 (ad:=⟨b,o+0,none⟩) (v:=.int .i16 ver) (by rw [gTp (by simp only [sPu];omega)]) (by rw [Nat.add_zero];exact hver) (ops_asg (oNi ?_))
  rw [seqs_cons hne]
  refine SC.wp_seq (SC.wp_reg (ops_mv (oNi ?_)))
  refine fin _ (by simp [sPu,hs0]) (by simp [dPu,hd0]) ?_ ?_ ?_
  · simp (disch:=omega) [gTn,h00]
  · simp (disch:=omega) [gTn,h01]
  · simp (disch:=(try simp only [sPu]);omega) [gTp,gTn]
end Go.Proofs.YtecdefhecaeclaaDoor.K
namespace Go.Proofs.YtecdefhecaeclaaDoor.K
open Go Go.RowKit Go.Proofs.YtecdefhecaeclaaDoor.T
set_option linter.unusedVariables false
set_option linter.unusedSimpArgs false
def wpL (P:Program) (Q:Exit→Act→World→Prop):List SC→Act→World→Prop
  | [],a,w=>Q .normal a w
  | x :: l,a,w=>x.wp P (Exit.then (wpL P Q l) Q) a w
theorem wpL_seqs {P:Program} {Q:Exit→Act→World→Prop}:∀ (l:List SC) (a:Act) (w:World),wpL P Q l a w→(seqs l).wp P Q a w
  | [],a,w,h=>SC.wp_skip h
  | [x],a,w,h=>SC.wp_mono h fun e a w hq=>by cases e <;> exact hq
  | x :: y :: l,a,w,h=>SC.wp_seq (SC.wp_mono h fun e a w hq=>by
      cases e
      case normal=>exact wpL_seqs (y :: l) a w hq
      all_goals exact hq)
def szTy (nul:Bool):Ty→Nat
  | .prim k=>if k=.uuid then 16 else 1
  | .list _ _ _ _=>1
  | .struct _ size _ _ _=>if nul then 1 else size
def nuOf (h:Hd):Bool:=decide (0≤h.null)
mutual
def layTy (nul:Bool):Ty→Bool
  | .prim _=>true
  | .list _ _ size of=>layTy false of && decide (szTy false of≤size)
  | .struct _ size _ tags fs=>layFs 0 (match tags with | none=>size | some (_,off)=>off) fs && (match tags with | none=>true | some (_,off)=>decide (off < size))
def layFs (lo n:Nat):Fs→Bool
  | .nil=>decide (lo≤n)
  | .cons h ty r=>decide (lo≤h.off) && decide (h.off+szTy (nuOf h) ty≤n) && layTy (nuOf h) ty && layFs (h.off+szTy (nuOf h) ty) n r
end
section
variable {G:List (Nat × Bytes)→Prop} {w w':World} {F F':Nat→Prop}
theorem bytesAt_frame {base:Option Addr} {bs:Bytes} (hF:∀ k,F k→F' k∧w'.heap[k]?=w.heap[k]?) (h:BytesAt w F base bs):BytesAt w' F' base bs:=by
  rcases h with h | ⟨b,o,h1,h2,h3⟩
  · exact .inl h
  · exact .inr ⟨b,o,h1,(hF b h2).1,fun j u hu=>by rw [World.cell?_of_block (hF b h2).2];exact h3 j u hu⟩
theorem pVal_frame {nul:Bool} {t:Tree} {k:PK} {v:Value} (hF:∀ k,F k→F' k∧w'.heap[k]?=w.heap[k]?) (h:PVal w F nul t k v):PVal w' F' nul t k v:=by
  cases k <;> simp only [PVal] at h ⊢
  case str =>
    split at h
    · rename_i hn
      split at h
      · rename_i ht
        rw [if_pos hn,if_pos ht]
        exact h
      · rename_i ht
        rw [if_pos hn,if_neg ht]
        obtain ⟨b',o',s,h1,h2,h3,h4⟩:=h
        exact ⟨b',o',s,h1,(hF _ h2).1,by rw [World.cell?_of_block (hF _ h2).2];exact h3,h4⟩
    · rename_i hn
      rw [if_neg hn]
      exact h
  case bytes =>
    obtain ⟨base,cap,h1,h2⟩:=h
    refine ⟨base,cap,h1,?_⟩
    split at h2
    · rename_i hn
      rw [if_pos hn]
      exact h2
    · rename_i hn
      rw [if_neg hn]
      exact ⟨bytesAt_frame hF h2.1,h2.2⟩
  all_goals exact h
theorem tagsV_frame {u:List (Nat × Bytes)} {m:Value} (hF:∀ k,F k→F' k∧w'.heap[k]?=w.heap[k]?) (h:TagsV w F u m):TagsV w' F' u m:=by
  rcases h with h | ⟨r,es,clock,h1,h2,h3,h4,h4s,h5⟩
  · exact .inl h
  · refine .inr ⟨r,es,clock,h1,(hF _ h2).1,by rw [(hF _ h2).2];exact h3,h4,h4s,fun e he x hx hk=>?_⟩
    obtain ⟨base,cap,q1,q2⟩:=h5 e he x hx hk
    exact ⟨base,cap,q1,bytesAt_frame hF q2⟩
theorem hTags_frame {b o:Nat} {u:List (Nat × Bytes)} (hF:∀ k,F k→F' k∧w'.heap[k]?=w.heap[k]?) (hc:w'.cell? ⟨b,o,none⟩=w.cell? ⟨b,o,none⟩) (h:HTags G w F b o u):HTags G w' F' b o u:=by
  obtain ⟨h1,h2,h3,h4,h5⟩:=h
  refine ⟨h1,h2,h3,h4,?_⟩
  rw [hc]
  rcases h5 with h5 | ⟨r,es,clock,q1,q2,q3,q4,q4s,q5⟩
  · exact .inl h5
  · refine .inr ⟨r,es,clock,q1,(hF _ q2).1,by rw [(hF _ q2).2];exact q3,q4,q4s,fun e he x hx hk=>?_⟩
    obtain ⟨base,cap,k1,k2⟩:=q5 e he x hx hk
    exact ⟨base,cap,k1,bytesAt_frame hF k2⟩
mutual
theorem hTy_frame (hF:∀ k,F k→F' k∧w'.heap[k]?=w.heap[k]?) (ver:Int) (flex:Bool):∀ (ty:Ty) (nul:Bool) (b o:Nat) (t:Tree),layTy nul ty=true →
    (∀ j,o≤j→j < o+szTy nul ty→w'.cell? ⟨b,j,none⟩=w.cell? ⟨b,j,none⟩)→HTy G w F ver flex ty nul b o t→HTy G w' F' ver flex ty nul b o t
  | .prim k,nul,b,o,t,_,hc,h=>by
    simp only [HTy,HPrim] at h ⊢
    simp only [szTy] at hc
    split
    · rename_i hk
      subst hk
      rw [if_pos rfl] at h
      intro j u hu
      have hj:j < 16:=by
        have:=(List.getElem?_eq_some_iff.1 hu).1
        rw [uuidOf_length] at this
        exact this
      rw [hc (o+j) (by omega) (by simp;omega)]
      exact h j u hu
    · rename_i hk
      rw [if_neg hk] at h hc
      obtain ⟨v,h1,h2⟩:=h
      exact ⟨v,by rw [hc o (by omega) (by omega)];exact h1,pVal_frame hF h2⟩
  | .list _ _ size of,nul,b,o,t,hl,hc,h=>by
    simp only [HTy] at h ⊢
    simp only [layTy,Bool.and_eq_true] at hl
    simp only [szTy] at hc
    obtain ⟨base,cap,h1,h2⟩:=h
    refine ⟨base,cap,by rw [hc o (by omega) (by omega)];exact h1,?_⟩
    split at h2
    · rename_i hn
      rw [if_pos hn]
      exact h2
    · rename_i hn
      rw [if_neg hn]
      refine ⟨h2.1,h2.2.1,h2.2.2.imp id fun ⟨b',o',q1,q2,q3⟩=>⟨b',o',q1,(hF _ q2).1,fun i x hx=>?_⟩⟩
      exact hTy_frame hF ver flex of false b' (o'+i * size) x hl.1 (fun j _ _=>World.cell?_of_block (hF _ q2).2) (q3 i x hx)
  | .struct _ size _ tags fs,nul,b,o,t,hl,hc,h=>by
    simp only [HTy] at h ⊢
    simp only [layTy,Bool.and_eq_true] at hl
    have key:∀ (b o:Nat),(∀ j,o≤j→j < o+size→w'.cell? ⟨b,j,none⟩=w.cell? ⟨b,j,none⟩)→(HFs G w F ver flex fs b o t.l∧TagsAt G w F flex b o tags t.u) →
        (HFs G w' F' ver flex fs b o t.l∧TagsAt G w' F' flex b o tags t.u):=by
      clear hc h
      intro b o hc h
      unfold TagsAt at h ⊢
      cases tags with
      | none =>
        exact ⟨hFs_frame hF ver flex fs 0 size b o t.l hl.1 (fun j h1 h2=>hc j (by omega) (by omega)) h.1,h.2⟩
      | some x =>
        obtain ⟨f,off⟩:=x
        simp only [decide_eq_true_eq] at hl
        exact ⟨hFs_frame hF ver flex fs 0 off b o t.l hl.1 (fun j h1 h2=>hc j (by omega) (by omega)) h.1,fun hf=>hTags_frame hF (hc _ (by omega) (by omega)) (h.2 hf)⟩
    split
    · rename_i hn
      rw [if_pos hn] at h
      simp only [szTy,hn,if_true] at hc
      split
      · rename_i ht
        rw [if_pos ht] at h
        rw [hc o (by omega) (by omega)]
        exact h
      · rename_i ht
        rw [if_neg ht] at h
        obtain ⟨b',o',q1,q2,q3⟩:=h
        exact ⟨b',o',by rw [hc o (by omega) (by omega)];exact q1,(hF _ q2).1,key b' o' (fun j _ _=>World.cell?_of_block (hF _ q2).2) q3⟩
    · rename_i hn
      rw [if_neg hn] at h
      have hn':nul=false:=by simpa using hn
      simp only [szTy,hn',Bool.false_eq_true,if_false] at hc
      exact key b o hc h
theorem hFs_frame (hF:∀ k,F k→F' k∧w'.heap[k]?=w.heap[k]?) (ver:Int) (flex:Bool):∀ (fs:Fs) (lo n:Nat) (b o:Nat) (ts:List Tree),layFs lo n fs=true →
    (∀ j,o+lo≤j→j < o+n→w'.cell? ⟨b,j,none⟩=w.cell? ⟨b,j,none⟩)→HFs G w F ver flex fs b o ts→HFs G w' F' ver flex fs b o ts
  | .nil,_,_,_,_,_,_,_,_=>by simp [HFs]
  | .cons h ty r,lo,n,b,o,ts,hl,hc,hh=>by
    simp only [HFs] at hh ⊢
    simp only [layFs,Bool.and_eq_true,decide_eq_true_eq] at hl
    obtain ⟨⟨⟨l1,l2⟩,l3⟩,l4⟩:=hl
    refine ⟨fun hv=>hTy_frame hF ver flex ty _ b (o+h.off) _ l3 (fun j h1 h2=>hc j (by omega) (by unfold nuOf at l2;omega)) (hh.1 hv),hFs_frame hF ver flex r _ n b o _ l4 (fun j h1 h2=>hc j (by omega) h2) hh.2⟩
end
end
mutual
def FrTy (w:World) (b:Nat) (nul:Bool):Ty→Nat→Prop
  | .prim _,_=>True
  | .list _ _ _ _,o=>w.cell? ⟨b,o,none⟩=some (.slice none 0 0)
  | .struct _ _ _ _ fs,o=>if nul then w.cell? ⟨b,o,none⟩=some (.pointer none) else FrFs w b fs o
def FrFs (w:World) (b:Nat):Fs→Nat→Prop
  | .nil,_=>True
  | .cons h ty r,o=>FrTy w b (nuOf h) ty (o+h.off)∧FrFs w b r o
end
mutual
theorem frTy_frame {w w':World} {b:Nat}:∀ (nul:Bool) (ty:Ty) (o:Nat),layTy nul ty=true→(∀ j,o≤j→j < o+szTy nul ty→w'.cell? ⟨b,j,none⟩=w.cell? ⟨b,j,none⟩)→FrTy w b nul ty o→FrTy w' b nul ty o
  | nul,.prim _,_,_,_,_=>by simp [FrTy]
  | nul,.list _ _ _ _,o,_,hc,h=>by
    simp only [FrTy] at h ⊢
    simp only [szTy] at hc
    rw [hc o (by omega) (by omega)]
    exact h
  | nul,.struct _ size _ tags fs,o,hl,hc,h=>by
    simp only [FrTy] at h ⊢
    simp only [layTy,Bool.and_eq_true] at hl
    cases nul with
    | true =>
      simp only [szTy,if_true] at hc h ⊢
      rw [hc o (by omega) (by omega)]
      exact h
    | false =>
      simp only [szTy,Bool.false_eq_true,if_false] at hc h ⊢
      cases tags with
      | none=>exact frFs_frame fs 0 size o hl.1 (fun j h1 h2=>hc j (by omega) (by omega)) h
      | some x =>
        obtain ⟨f,off⟩:=x
        simp only [decide_eq_true_eq] at hl
        exact frFs_frame fs 0 off o hl.1 (fun j h1 h2=>hc j (by omega) (by omega)) h
theorem frFs_frame {w w':World} {b:Nat}:∀ (fs:Fs) (lo n o:Nat),layFs lo n fs=true→(∀ j,o+lo≤j→j < o+n→w'.cell? ⟨b,j,none⟩=w.cell? ⟨b,j,none⟩)→FrFs w b fs o→FrFs w' b fs o
  | .nil,_,_,_,_,_,_=>by simp [FrFs]
  | .cons h ty r,lo,n,o,hl,hc,hh=>by
    simp only [FrFs] at hh ⊢
    simp only [layFs,Bool.and_eq_true,decide_eq_true_eq] at hl
    obtain ⟨⟨⟨l1,l2⟩,l3⟩,l4⟩:=hl
    exact ⟨frTy_frame (nuOf h) ty _ l3 (fun j h1 h2=>hc j (by omega) (by omega)) hh.1,frFs_frame r _ n o l4 (fun j h1 h2=>hc j (by omega) h2) hh.2⟩
end
mutual
def frTyB (get:Nat→Option Value) (nul:Bool):Ty→Nat→Bool
  | .prim _,_=>true
  | .list _ _ _ _,o=>match get o with | some (.slice none 0 0)=>true | _=>false
  | .struct _ _ _ _ fs,o=>if nul then (match get o with | some (.pointer none)=>true | _=>false) else frFsB get fs o
def frFsB (get:Nat→Option Value):Fs→Nat→Bool
  | .nil,_=>true
  | .cons h ty r,o=>frTyB get (nuOf h) ty (o+h.off) && frFsB get r o
end
mutual
theorem frTyB_ok {w:World} {b q:Nat} {get:Nat→Option Value} (hg:∀ j v,get j=some v→w.cell? ⟨b,q+j,none⟩=some v):∀ (nul:Bool) (ty:Ty) (o:Nat),frTyB get nul ty o=true→FrTy w b nul ty (q+o)
  | nul,.prim _,_,_=>by simp [FrTy]
  | nul,.list _ _ _ _,o,h=>by
    simp only [frTyB] at h
    simp only [FrTy]
    split at h
    · rename_i hv
      exact hg _ _ hv
    · simp at h
  | nul,.struct _ _ _ _ fs,o,h=>by
    simp only [frTyB] at h
    simp only [FrTy]
    cases nul with
    | true =>
      simp only [if_true] at h ⊢
      split at h
      · rename_i hv
        exact hg _ _ hv
      · simp at h
    | false =>
      simp only [Bool.false_eq_true,if_false] at h ⊢
      exact frFsB_ok hg fs o h
theorem frFsB_ok {w:World} {b q:Nat} {get:Nat→Option Value} (hg:∀ j v,get j=some v→w.cell? ⟨b,q+j,none⟩=some v):∀ (fs:Fs) (o:Nat),frFsB get fs o=true→FrFs w b fs (q+o)
  | .nil,_,_=>by simp [FrFs]
  | .cons h ty r,o,hh=>by
    simp only [frFsB,Bool.and_eq_true] at hh
    simp only [FrFs]
    exact ⟨by rw [Nat.add_assoc];exact frTyB_ok hg (nuOf h) ty _ hh.1,frFsB_ok hg r o hh.2⟩
end
mutual
def outTy (out:List (Nat × Value)) (nul:Bool):Ty→Nat→Bool
  | .prim _,_=>true
  | .list _ _ _ _,o=>out.all fun x=>x.1 != o
  | .struct _ _ _ _ fs,o=>if nul then (out.all fun x=>x.1 != o) else outFs out fs o
def outFs (out:List (Nat × Value)):Fs→Nat→Bool
  | .nil,_=>true
  | .cons h ty r,o=>outTy out (nuOf h) ty (o+h.off) && outFs out r o
end
theorem dSetAll_other {q j:Nat}:∀ (out:List (Nat × Value)) (cs:Array Value),(∀ x ∈ out,q+x.1 ≠ j)→(dSetAll q out cs)[j]?=cs[j]?
  | [],_,_=>rfl
  | x :: r,cs,h=>by
    rw [dSetAll,dSetAll_other r _ (fun y hy=>h y (List.mem_cons_of_mem _ hy))]
    rw [Array.getElem?_setIfInBounds_ne (h x (by simp))]
mutual
theorem outTy_ok {w w':World} {b q:Nat} {out:List (Nat × Value)} (hc:∀ j,(∀ x ∈ out,x.1 ≠ j)→w'.cell? ⟨b,q+j,none⟩=w.cell? ⟨b,q+j,none⟩):∀ (nul:Bool) (ty:Ty) (o:Nat),outTy out nul ty o=true→FrTy w b nul ty (q+o)→FrTy w' b nul ty (q+o)
  | nul,.prim _,_,_,_=>by simp [FrTy]
  | nul,.list _ _ _ _,o,h,hf=>by
    simp only [outTy,List.all_eq_true,bne_iff_ne,ne_eq] at h
    simp only [FrTy] at hf ⊢
    rw [hc o h]
    exact hf
  | nul,.struct _ _ _ _ fs,o,h,hf=>by
    simp only [outTy] at h
    simp only [FrTy] at hf ⊢
    cases nul with
    | true =>
      simp only [if_true,List.all_eq_true,bne_iff_ne,ne_eq] at h hf ⊢
      rw [hc o h]
      exact hf
    | false =>
      simp only [Bool.false_eq_true,if_false] at h hf ⊢
      exact outFs_ok hc fs o h hf
theorem outFs_ok {w w':World} {b q:Nat} {out:List (Nat × Value)} (hc:∀ j,(∀ x ∈ out,x.1 ≠ j)→w'.cell? ⟨b,q+j,none⟩=w.cell? ⟨b,q+j,none⟩):∀ (fs:Fs) (o:Nat),outFs out fs o=true→FrFs w b fs (q+o)→FrFs w' b fs (q+o)
  | .nil,_,_,_=>by simp [FrFs]
  | .cons h ty r,o,hh,hf=>by
    simp only [outFs,Bool.and_eq_true] at hh
    simp only [FrFs] at hf ⊢
    refine ⟨?_,outFs_ok hc r o hh.2 hf.2⟩
    rw [Nat.add_assoc]
    exact outTy_ok hc (nuOf h) ty _ hh.1 (by rw [← Nat.add_assoc];exact hf.1)
end
end Go.Proofs.YtecdefhecaeclaaDoor.K
namespace Go.Proofs.YtecdefhecaeclaaDoor.K
open Go Go.RowKit Go.Proofs.YtecdefhecaeclaaDoor.T
set_option linter.unusedVariables false
set_option linter.unusedSimpArgs false
structure RX where
  P:Program
  I:RIds
  TR:Nat
  S:Option Nat
  rb:Nat
  G:List (Nat × Bytes)→Prop
  c:Ctx
  w0:World
  B:Nat
  ver:Int
  flex:Bool
  T0:Nat
  N:Nat
  err:Value
  Gl:World→Prop
  gb:Nat
structure RX.ok (X:RX):Prop where
  kr:KR X.P X.I X.TR X.gb X.err X.Gl
  hgb:X.gb < X.B
  cver:X.c.ver=8
  ten:9 < X.T0
  never:X.c.never=true→X.flex=false
  hB:X.B≤X.rb
  hver:0≤X.ver
  G:∀ u,X.G u
  gl:∀ w,Below X.B X.w0 w→X.Gl w
structure RInv (X:RX) (a:Act) (w:World) (st:Option Bytes):Prop where
  size:a.tmps.size=X.N
  defers:a.defers=[]
  uns:getT a 2=.bool false
  rd:getT a 7=.pointer (some ⟨X.rb,0,none⟩)
  ver:getT a 8=.int .i16 X.ver
  flex:X.c.never=false→getT a 9=.bool X.flex
  at_:RdAt X.TR w X.S X.rb st
  src:∀ sb,X.S=some sb→sb ≠ X.rb∧sb < w.heap.size
  below:Below X.B X.w0 w
  heap:X.B≤w.heap.size
theorem RdAt.lt {TR rb:Nat} {w:World} {S:Option Nat} {st:Option Bytes} (h:RdAt TR w S rb st):rb < w.heap.size:=by
  cases st with
  | none=>exact (Array.getElem?_eq_some_iff.1 h).1
  | some rest =>
    obtain ⟨base,cap,h1,_⟩:=h
    exact (Array.getElem?_eq_some_iff.1 h1).1
theorem RdAt.frame {TR rb:Nat} {w w':World} {S:Option Nat} {st:Option Bytes} (h:RdAt TR w S rb st) (h1:w'.heap[rb]?=w.heap[rb]?) (h2:∀ sb,S=some sb→w'.heap[sb]?=w.heap[sb]?):RdAt TR w' S rb st:=by
  cases st with
  | none =>
    simp only [RdAt] at h ⊢
    rw [h1]
    exact h
  | some rest =>
    simp only [RdAt] at h ⊢
    obtain ⟨base,cap,q1,q2,q3⟩:=h
    refine ⟨base,cap,by rw [h1];exact q1,q2,?_⟩
    cases S with
    | none=>exact q3
    | some sb =>
      obtain ⟨o,k1,k2⟩:=q3
      exact ⟨o,k1,fun j u hu=>by rw [World.cell?_of_block (h2 sb rfl)];exact k2 j u hu⟩
def RSame (X:RX) (a a':Act) (lo t:Nat):Prop:=∀ s,(s < lo∨(X.T0≤s∧s < t))→getT a' s=getT a s
theorem RSame.refl (X:RX) (a:Act) (lo t:Nat):RSame X a a lo t:=fun _ _=>rfl
theorem RSame.trans {X:RX} {a b c:Act} {lo t lo' t':Nat} (h:RSame X a b lo t) (h':RSame X b c lo' t') (hl:lo≤lo') (ht:t≤t'):RSame X a c lo t :=
  fun s h1=>(h' s (by omega)).trans (h s h1)
theorem RSame.mono {X:RX} {a b:Act} {lo t lo' t':Nat} (h:RSame X a b lo' t') (hl:lo≤lo') (ht:t≤t'):RSame X a b lo t :=
  fun s h1=>h s (by omega)
structure Foot (rb b lo hi:Nat) (w w':World):Prop where
  size:w.heap.size≤w'.heap.size
  block:∀ k,k < w.heap.size→k ≠ rb→k ≠ b→w'.heap[k]?=w.heap[k]?
  row:∀ cs T,w.heap[b]?=some (.cells cs T (0,0))→∃ cs',w'.heap[b]?=some (.cells cs' T (0,0))∧cs'.size=cs.size∧∀ j,(j < lo∨hi≤j)→cs'[j]?=cs[j]?
theorem Foot.refl (rb b lo hi:Nat) (w:World):Foot rb b lo hi w w:=⟨Nat.le_refl _,fun _ _ _ _=>rfl,fun cs T h=>⟨cs,h,rfl,fun _ _=>rfl⟩⟩
theorem Foot.mono {rb b lo hi lo' hi':Nat} {w w':World} (h:Foot rb b lo hi w w') (h1:lo'≤lo) (h2:hi≤hi'):Foot rb b lo' hi' w w' :=
  ⟨h.size,h.block,fun cs T hc=>by
    obtain ⟨cs',q1,q2,q3⟩:=h.row cs T hc
    exact ⟨cs',q1,q2,fun j hj=>q3 j (by omega)⟩⟩
theorem Foot.trans {rb b lo hi:Nat} {w w1 w2:World} (h:Foot rb b lo hi w w1) (h':Foot rb b lo hi w1 w2):Foot rb b lo hi w w2 :=
  ⟨Nat.le_trans h.size h'.size,fun k k1 k2 k3=>(h'.block k (Nat.lt_of_lt_of_le k1 h.size) k2 k3).trans (h.block k k1 k2 k3),fun cs T hc=>by
    obtain ⟨cs',q1,q2,q3⟩:=h.row cs T hc
    obtain ⟨cs2,r1,r2,r3⟩:=h'.row cs' T q1
    exact ⟨cs2,r1,r2.trans q2,fun j hj=>(r3 j hj).trans (q3 j hj)⟩⟩
theorem Foot.of_only {rb b lo hi:Nat} {w w':World} (h:Only rb w w') (hn:b ≠ rb):Foot rb b lo hi w w' :=
  ⟨h.size,fun k k1 k2 _=>h.block k k1 k2,fun cs T hc=>⟨cs,by rw [h.block b (Array.getElem?_eq_some_iff.1 hc).1 hn];exact hc,rfl,fun _ _=>rfl⟩⟩
theorem Foot.other {rb b lo hi b' lo' hi':Nat} {w w1 w2:World} (h:Foot rb b lo hi w w1) (h':Foot rb b' lo' hi' w1 w2) (hb':w.heap.size≤b') (hb:b < w.heap.size) (hn:b ≠ rb):Foot rb b lo hi w w2 :=
  ⟨Nat.le_trans h.size h'.size,fun k k1 k2 k3=>(h'.block k (Nat.lt_of_lt_of_le k1 h.size) k2 (by omega)).trans (h.block k k1 k2 k3),fun cs T hc=>by
    obtain ⟨cs',q1,q2,q3⟩:=h.row cs T hc
    exact ⟨cs',by rw [h'.block b (Nat.lt_of_lt_of_le hb h.size) hn (by omega)];exact q1,q2,q3⟩⟩
def RowAt (w:World) (b q n:Nat):Prop:=∃ cs T,w.heap[b]?=some (.cells cs T (0,0))∧q+n≤cs.size
theorem RowAt.mono {w:World} {b q n q' n':Nat} (h:RowAt w b q n) (h1:q'+n'≤q+n):RowAt w b q' n':=by
  obtain ⟨cs,T,q1,q2⟩:=h
  exact ⟨cs,T,q1,by omega⟩
theorem RowAt.lt {w:World} {b q n:Nat} (h:RowAt w b q n):b < w.heap.size:=by
  obtain ⟨cs,T,q1,q2⟩:=h
  exact (Array.getElem?_eq_some_iff.1 q1).1
theorem Foot.rowAt {rb b lo hi q n:Nat} {w w':World} (h:Foot rb b lo hi w w') (hr:RowAt w b q n):RowAt w' b q n:=by
  obtain ⟨cs,T,q1,q2⟩:=hr
  obtain ⟨cs',r1,r2,_⟩:=h.row cs T q1
  exact ⟨cs',T,r1,by omega⟩
theorem Foot.cell {rb b lo hi q n:Nat} {w w':World} (h:Foot rb b lo hi w w') (hr:RowAt w b q n) {j:Nat} (hj:j < lo∨hi≤j):w'.cell? ⟨b,j,none⟩=w.cell? ⟨b,j,none⟩:=by
  obtain ⟨cs,T,q1,q2⟩:=hr
  obtain ⟨cs',r1,r2,r3⟩:=h.row cs T q1
  rw [cell_of_row _ _ _ _ _ _ q1,cell_of_row _ _ _ _ _ _ r1]
  exact r3 j hj
structure Opn (X:RX) (O:Nat→Prop) (b:Nat) (w:World):Prop where
  orb:O X.rb
  ob:O b
  lt:∀ k,O k→k < w.heap.size
  src:∀ sb,X.S=some sb→¬ O sb
  ne:b ≠ X.rb
  hB:X.B≤b
theorem Opn.mono {X:RX} {O:Nat→Prop} {b:Nat} {w w':World} (h:Opn X O b w) (hs:w.heap.size≤w'.heap.size):Opn X O b w' :=
  ⟨h.orb,h.ob,fun k hk=>Nat.lt_of_lt_of_le (h.lt k hk) hs,h.src,h.ne,h.hB⟩
def FO (O:Nat→Prop) (w:World):Nat→Prop:=fun k=>k < w.heap.size∧¬ O k
theorem Foot.fo {X:RX} {O:Nat→Prop} {b lo hi:Nat} {w w':World} (h:Foot X.rb b lo hi w w') (ho:Opn X O b w):∀ k,FO O w k→FO O w' k∧w'.heap[k]?=w.heap[k]? :=
  fun k ⟨h1,h2⟩=>⟨⟨Nat.lt_of_lt_of_le h1 h.size,h2⟩,h.block k h1 (fun e=>h2 (e ▸ ho.orb)) (fun e=>h2 (e ▸ ho.ob))⟩
theorem newF_fo {X:RX} {O:Nat→Prop} {b:Nat} {w w':World} (ho:Opn X O b w) (hs:w.heap.size≤w'.heap.size) (hsrc:∀ sb,X.S=some sb→sb < w.heap.size):∀ k,NewF X.S w w' k→FO O w' k:=by
  rintro k (h | ⟨h1,h2⟩)
  · exact ⟨Nat.lt_of_lt_of_le (hsrc k h) hs,ho.src k h⟩
  · exact ⟨h2,fun hk=>by have:=ho.lt k hk;omega⟩
section
variable {X:RX} {a a':Act} {w w':World} {st:Option Bytes} {Q:Exit→Act→World→Prop}
theorem RInv.act (h:RInv X a w st) (hs:a'.tmps.size=a.tmps.size) (hd:a'.defers=a.defers) (hk:∀ s,s < 10→getT a' s=getT a s):RInv X a' w st :=
  ⟨hs.trans h.size,hd.trans h.defers,(hk 2 (by omega)).trans h.uns,(hk 7 (by omega)).trans h.rd,(hk 8 (by omega)).trans h.ver,fun hn=>(hk 9 (by omega)).trans (h.flex hn),h.at_,h.src,h.below,h.heap⟩
theorem RInv.foot (h:RInv X a w st) {b lo hi:Nat} (hf:Foot X.rb b lo hi w w') (ho:w'.os=w.os) (ht:w'.tape=w.tape) (hu:w'.output=w.output) (hrb:w'.heap[X.rb]?=w.heap[X.rb]?) (hS:X.S ≠ some b) (hB:X.B≤b) (hX:X.B≤X.rb):RInv X a w' st :=
  ⟨h.size,h.defers,h.uns,h.rd,h.ver,h.flex,
    h.at_.frame hrb (fun sb hsb=>hf.block sb (h.src sb hsb).2 (h.src sb hsb).1 (fun e=>hS (by rw [hsb,e]))),
    fun sb hsb=>⟨(h.src sb hsb).1,Nat.lt_of_lt_of_le (h.src sb hsb).2 hf.size⟩,
    h.below.trans ⟨ho,ht,hu,hf.size,fun k hk=>hf.block k (Nat.lt_of_lt_of_le hk h.heap) (by omega) (by omega)⟩,Nat.le_trans h.heap hf.size⟩
theorem RInv.alloc (h:RInv X a w st) (o:Obj):RInv X a (w.alloc o) st:=by
  have hlt:=h.at_.lt
  exact ⟨h.size,h.defers,h.uns,h.rd,h.ver,h.flex,
    h.at_.frame (Below.heap_alloc _ _ _ hlt) (fun sb hsb=>Below.heap_alloc _ _ _ (h.src sb hsb).2),
    fun sb hsb=>⟨(h.src sb hsb).1,by simp;have:=(h.src sb hsb).2;omega⟩,h.below.alloc h.heap o,by simp;have:=h.heap;omega⟩
theorem RInv.drew (h:RInv X a w st):RInv X a w.drew st:=by
  refine ⟨h.size,h.defers,h.uns,h.rd,h.ver,h.flex,h.at_.frame rfl (fun _ _=>rfl),h.src,h.below.drew,h.heap⟩
theorem RInv.setRow (h:RInv X a w st) {b:Nat} (hn:b ≠ X.rb) (hS:X.S ≠ some b) (hB:X.B≤b) (cs:Array Value):RInv X a (w.setRow b cs) st :=
  ⟨h.size,h.defers,h.uns,h.rd,h.ver,h.flex,
    h.at_.frame (setRow_other _ _ _ _ (Ne.symm hn)) (fun sb hsb=>setRow_other _ _ _ _ (fun e=>hS (by rw [hsb,e]))),
    fun sb hsb=>⟨(h.src sb hsb).1,by simpa using (h.src sb hsb).2⟩,h.below.trans ⟨rfl,rfl,rfl,by simp,fun k hk=>setRow_other _ _ _ _ (by omega)⟩,by simpa using h.heap⟩
theorem foot_setRow {rb b q n:Nat} {cs cs':Array Value} {T:TypeId} (hc:w.heap[b]?=some (.cells cs T (0,0))) (hs:cs'.size=cs.size) (hj:∀ j,(j < q∨q+n≤j)→cs'[j]?=cs[j]?):Foot rb b q (q+n) w (w.setRow b cs') :=
  ⟨by simp,fun k _ _ hb=>setRow_other _ _ _ _ hb,fun c2 T2 h2=>by
    rw [hc] at h2
    simp only [Option.some.injEq,Obj.cells.injEq,and_true] at h2
    obtain ⟨rfl,rfl⟩:=h2
    exact ⟨cs',setRow_heap _ _ _ _ _ _ hc,hs,hj⟩⟩
theorem foot_alloc {rb b lo hi:Nat} (o:Obj):Foot rb b lo hi w (w.alloc o) :=
  ⟨by simp,fun k hk _ _=>Below.heap_alloc _ _ _ hk,fun cs T hc=>⟨cs,by rw [Below.heap_alloc _ _ _ (Array.getElem?_eq_some_iff.1 hc).1];exact hc,rfl,fun _ _=>rfl⟩⟩
theorem foot_drew {rb b lo hi:Nat}:Foot rb b lo hi w w.drew:=⟨Nat.le_refl _,fun _ _ _ _=>rfl,fun cs T hc=>⟨cs,hc,rfl,fun _ _=>rfl⟩⟩
theorem opw_slice00 {T E n:Nat} {d:Option Tmp} {g:Option (Nat × Bool)} {K:Act→World→Prop} (hT:sliceB X.P T E n=true) (hz:∃ i z,X.P.info? E=some i∧i.zero=some z) (h:K (a.put d (.slice (some ⟨w.heap.size,0,none⟩) 0 0)) (w.alloc (.cells #[] E))) :
    opw X.P ⟨d,.buildSlice T 0 #[],g⟩ a w K:=by
  obtain ⟨hu,i,hi,hs⟩:=slice_of hT
  obtain ⟨i',z,hi',hz⟩:=hz
  rw [hi] at hi'
  cases hi'
  refine oVa (w':=w.alloc (.cells #[] E)) (by simp) (fun p hp=>?_) h
  have hr1:Array.range 0=#[]:=by decide
  simp [execOp,hp,Instr.buildSlice,run_underlying hu,sizeOf,typeInfo,zeroValue,hi,hz,newRow,hr1,Instr.fill]
theorem opw_makeN {T E n TN:Nat} {x y:Operand} {d:Option Tmp} {g:Option (Nat × Bool)} {K:Act→World→Prop} {i:TypeInfo} {z:Value} {m:Nat} (hT:sliceB X.P T E n=true) (hN:intK X.P TN=some .i32) (hi:X.P.info? E=some i) (hz:i.zero=some z) (h0:0 < i.size) (hb:i.bytes≤131072)
    (hx:a.eval x=.slice none 0 0) (hy:a.eval y=.int .i32 (m:Int)) (hm:0 < m) (hm2:m < 2147483648)
    (h:∀ cap,m≤cap→K (a.put d (.slice (some ⟨w.heap.size,0,none⟩) m cap)) (w.drew.alloc (.cells (Builtin.zeroCells z.cells m ++ Builtin.zeroCells z.cells (cap - m)) E))) :
    opw X.P ⟨d,.call ⟨.builtin .append,#[x,y],#[T,TN]⟩,g⟩ a w K:=by
  obtain ⟨hu,_⟩:=slice_of hT
  have hu2:=intB_of hN
  unfold intB at hu2
  split at hu2 <;> try (simp at hu2;done)
  rename_i k hk
  have h48:m * i.bytes≤281474976710656:=by
    have:m * i.bytes≤2147483648 * 131072:=Nat.mul_le_mul (by omega) hb
    omega
  refine oVa (v:=.slice (some ⟨w.heap.size,0,none⟩) m (grownCap w m 0 E)) (w':=w.drew.alloc (.cells (Builtin.zeroCells z.cells m ++ Builtin.zeroCells z.cells (grownCap w m 0 E - m)) E)) (by simp) (fun p hp=>?_) (h _ (grownCap_ge w m 0 E))
  have hr:=Lib.run_append_nil_zeros (P:=X.P) w T TN p.type E i z .i32 k hu hk hi hz m hm h0 (by omega) h48
  simp [execOp,hp,hx,hy,resolve,invoke,builtin,hr]
theorem opw_store_aggAt {T b o:Nat} {E:TypeId} {x y:Operand} {cur:Array Value} {cs:List Value} {d:Option Tmp} {g:Option (Nat × Bool)} {K:Act→World→Prop} (hT:aggB X.P T cs.length=true) (hx:a.eval x=.pointer (some ⟨b,o,none⟩)) (hy:a.eval y=.agg cs.toArray)
    (hb:w.heap[b]?=some (.cells cur E (0,0))) (hc:o+cs.length≤cur.size) (h1:∀ v ∈ cs,v.oneCell'=true) (h:K (a.put d undef) (w.setRow b (cur.toList.take o ++ cs ++ cur.toList.drop (o+cs.length)).toArray)) :
    opw X.P ⟨d,.store T x y,g⟩ a w K:=by
  obtain ⟨i,hi,hs,_⟩:=agg_of (w:=w) hT
  refine opw_skip (w':=w.setRow b (cur.toList.take o ++ cs ++ cur.toList.drop (o+cs.length)).toArray) (by simp) (fun p hp=>?_) h
  have hst:=run_storeCells_at X.P b o E cs 0 cur w hb (by omega) h1
  simp only [Nat.add_zero] at hst
  simp only [execOp,hp,hx,hy,Instr.storeAt,Instr.sureAddr,storeVar,sizeOf,typeInfo,hi,hs,Value.cells]
  simp [hst,hi,hs]
end
end Go.Proofs.YtecdefhecaeclaaDoor.K
namespace Go.Proofs.YtecdefhecaeclaaDoor.K
open Go Go.RowKit Go.Proofs.YtecdefhecaeclaaDoor.T
set_option linter.unusedVariables false
set_option linter.unusedSimpArgs false
section
variable {X:RX} {a a':Act} {w w':World} {st:Option Bytes} {Q:Exit→Act→World→Prop}
theorem RInv.only {st':Option Bytes} (hX:X.ok) (h:RInv X a w st) (ho:Only X.rb w w') (hr:RdAt X.TR w' X.S X.rb st'):RInv X a w' st' :=
  ⟨h.size,h.defers,h.uns,h.rd,h.ver,h.flex,hr,fun sb hsb=>⟨(h.src sb hsb).1,Nat.lt_of_lt_of_le (h.src sb hsb).2 ho.size⟩,h.below.trans (ho.below hX.hB h.heap),Nat.le_trans h.heap ho.size⟩
theorem rGet_ok {α:Type} {f v t:Nat} {p:Rd α} {ty:Value→Prop} {ok:World→(Nat→Prop)→α→Value→Prop} (hX:X.ok) (hf:RC X.P X.TR X.gb f p ty ok) (hi:RInv X a w st) (hv:10≤v) (hvN:v < X.N) (ht:10≤t) (htN:t < X.N)
    (hQ:∀ a' w' y,RInv X a' w' (after st p)→getT a' v=y→(∀ s,s ≠ v→s ≠ t→getT a' s=getT a s)→Only X.rb w w'→ty y→(∀ b x r,st=some b→p b=some (x,r)→ok w' (NewF X.S w w') x y)→Q .normal a' w') :
    (rGet f v t).wp X.P Q a w:=by
  have hsz:=hi.size
  refine SC.wp_reg (ops_cal hf.1 (R:=fun e w'=>∃ y,e=.returned y∧RdAt X.TR w' X.S X.rb (after st p)∧Only X.rb w w'∧ty y∧∀ b x r,st=some b→p b=some (x,r)→ok w' (NewF X.S w w') x y) ?_ ?_)
  · have:=hf.2 w X.S X.rb st (Nat.lt_of_lt_of_le hX.hgb hi.heap) hi.at_ hi.src
    rw [show (([7].map (getT a)).toArray:Array Value)=#[.pointer (some ⟨X.rb,0,none⟩)] by simp [hi.rd]]
    exact this
  · rintro e w' ⟨y,rfl,h1,h2,h3,h4⟩
    refine ⟨y,rfl,ops_asg (oNi ?_)⟩
    refine hQ _ w' y ((hi.only hX h2 h1).act (by simp [sPu]) (by simp [dPu]) fun s hs=>?_) ?_ ?_ h2 h3 h4
    · rw [gTn (by omega),gTn (by omega)]
    · rw [gTp (by rw [sPu];omega),gTp (by omega)]
    · intro s h1 h2
      rw [gTn h1,gTn h2]
theorem rStore_ok {p x t S f T b o off:Nat} {y:Value} {cs:Array Value} {E:TypeId} (hX:X.ok) (hi:RInv X a w st) (hp:getT a p=.pointer (some ⟨b,o,none⟩)) (hx:getT a x=y) (hy:y.oneCell'=true) (hpt:p < t) (hxt:x < t) (ht:10≤t) (htN:t+4≤X.N)
    (hS:fieldB X.P S f off=true) (hT:oneB X.P T=true) (hrow:w.heap[b]?=some (.cells cs E (0,0))) (hlt:o+off < cs.size) (hb:b ≠ X.rb) (hbS:X.S ≠ some b) (hB:X.B≤b)
    (hQ:∀ a',RInv X a' (w.setRow b (cs.setIfInBounds (o+off) y)) st→(∀ s,s < t→getT a' s=getT a s)→Q .normal a' (w.setRow b (cs.setIfInBounds (o+off) y))) :
    (rStore p x t S f T).wp X.P Q a w:=by
  have hsz:=hi.size
  refine SC.wp_reg (ops_mv (ops_mv (ops_nilc (ad:=⟨b,o,none⟩) ?_ (ops_fa hS (b:=b) (o:=o) ?_ (oNo rfl (opw_store_one (ad:=⟨b,o+off,none⟩) (v:=y) (v0:=cs[o+off]) hT ?_ ?_ hy ?_ ?_ (oNi ?_)))))))
  · rw [gTn (by omega),gTp (by omega)]
    exact hp
  · rw [gTp (by simp only [sPu];omega)]
  · rw [eTm,gTp (by simp only [sPu];omega)]
  · rw [eTm,gTn (by omega),gTn (by omega),gTp (by simp only [sPu];omega),gTn (by omega)]
    exact hx
  · rw [cell_of_row _ _ _ _ _ _ hrow]
    exact Array.getElem?_eq_getElem hlt
  · simp [World.frozen?,hrow]
  · rw [pNo,setCell_eq_setRow _ _ _ _ _ _ _ hrow]
    refine hQ _ ((hi.setRow hb hbS hB _).act (by simp [sPu]) (by simp [dPu]) fun s hs=>?_) fun s hs=>?_
    · rw [gTn (by omega),gTn (by omega),gTn (by omega),gTn (by omega)]
    · rw [gTn (by omega),gTn (by omega),gTn (by omega),gTn (by omega)]
theorem cset_ok {v:Nat} {x:Value} (hi:RInv X a w st) (hv:10≤v) (hvN:v < X.N) (hQ:∀ a',RInv X a' w st→getT a' v=x→(∀ s,s ≠ v→getT a' s=getT a s)→Q .normal a' w):(cset v x).wp X.P Q a w:=by
  have hsz:=hi.size
  refine SC.wp_reg (oNo rfl (opw_assign (oNi ?_)))
  rw [eCo]
  refine hQ _ (hi.act (by simp [sPu]) (by simp [dPu]) fun s hs=>?_) ?_ ?_
  · rw [gTn (by omega)]
  · rw [gTp (by omega)]
  · intro s h1
    rw [gTn h1]
theorem mvCond_ok {x t:Nat} {b:Bool} {y z:SC} (hi:RInv X a w st) (ht:10≤t) (htN:t < X.N) (hx:getT a x=.bool b)
    (hQ:∀ a',RInv X a' w st→(∀ s,s ≠ t→getT a' s=getT a s)→(if b then y else z).wp X.P Q a' w):(SC.seq (.reg [mv t x]) (.cond (.tmp t) y z)).wp X.P Q a w:=by
  have hsz:=hi.size
  refine SC.wp_seq (SC.wp_reg (ops_mv (oNi ?_)))
  refine SC.wp_cond (t:=b) (by rw [eTm,gTp (by omega)];exact hx) ?_
  refine hQ _ (hi.act (by simp [sPu]) (by simp [dPu]) fun s hs=>?_) fun s h1=>?_
  · rw [gTn (by omega)]
  · rw [gTn h1]
def okRP (I:RIds) (c:Ctx) (nul:Bool) (k:PK):Bool :=
  match k with
  | .str=>if nul then (c.never || I.rCNStr != 0) && I.rNStr != 0 else (c.never || I.rCStr != 0) && I.rStr != 0
  | .bytes=>if nul then c.never && I.rNBytes != 0 else (c.never || I.rCBytes != 0) && I.rBytes != 0
  | .uuid=>!nul && I.rUuid != 0
  | k=>!nul && rNum I k != 0
theorem rPrim_ok {k:PK} {nul:Bool} {v t:Nat} {rest:SC} (hX:X.ok) (hk:k ≠ .uuid) (hok:okRP X.I X.c nul k=true) (hi:RInv X a w st) (hv:10≤v) (hvT:v < X.T0) (ht:X.T0≤t) (htN:t+rPrimT X.c nul k≤X.N)
    (hQ:∀ a' w' y,RInv X a' w' (after st (pPrim X.flex nul k))→getT a' v=y→(∀ s,s ≠ v→s < t→getT a' s=getT a s)→Only X.rb w w'→tyP nul k y →
      (∀ b x r,st=some b→pPrim X.flex nul k b=some (x,r)→okP nul k w' (NewF X.S w w') x y)→rest.wp X.P Q a' w'):(rPrim X.I X.c nul k v t rest).wp X.P Q a w:=by
  have hten:=hX.ten
  have kr:=hX.kr
  have get:∀ {f:Nat} {p:Rd Tree} (a1:Act) (t':Nat) (Q':Exit→Act→World→Prop),p=pPrim X.flex nul k→RC X.P X.TR X.gb f p (tyP nul k) (okP nul k)→RInv X a1 w st→(∀ s,s ≠ v→s < t→getT a1 s=getT a s)→t≤t'→t' < X.N →
      (∀ a' w',rest.wp X.P Q a' w'→Q' .normal a' w')→(rGet f v t').wp X.P Q' a1 w:=by
    intro f p a1 t' Q' hp hf hi1 hs1 ht1 ht2 hQ'
    subst hp
    refine rGet_ok hX hf hi1 hv (by omega) (by omega) ht2 fun a' w' y h1 h2 h3 h4 h5 h6=>hQ' _ _ (hQ a' w' y h1 h2 (fun s hs1' hs2=>?_) h4 h5 h6)
    rw [h3 s hs1' (by omega)]
    exact hs1 s hs1' hs2
  have flex9:X.c.never=false→∀ a1,(∀ s,s ≠ v→s < t→getT a1 s=getT a s)→getT a1 9=.bool X.flex:=fun hn a1 h=>(h 9 (by omega) (by omega)).trans (hi.flex hn)
  have uns2:∀ a1,(∀ s,s ≠ v→s < t→getT a1 s=getT a s)→getT a1 2=.bool false:=fun a1 h=>(h 2 (by omega) (by omega)).trans hi.uns
  unfold rPrim
  unfold rPrimT at htN
  by_cases hs:k=.str
  · subst hs
    rw [if_pos rfl] at htN ⊢
    unfold rTextT at htN
    refine SC.wp_seq (cset_ok hi hv (by omega) fun a1 hi1 _ hs1=>?_)
    have hs1':∀ s,s ≠ v→s < t→getT a1 s=getT a s:=fun s h1 _=>hs1 s h1
    refine SC.wp_seq ?_
    unfold rText okRP at *
    cases hn:X.c.never with
    | true =>
      have hfl:=hX.never hn
      simp only [hn,if_true] at htN hok ⊢
      cases nul with
      | true =>
        simp only [if_true,Bool.true_or,Bool.true_and,bne_iff_ne,ne_eq] at hok ⊢
        refine mvCond_ok hi1 (by omega) (by omega) (uns2 a1 hs1') fun a2 hi2 hs2=>?_
        rw [if_neg (by simp)]
        exact get a2 (t+2) _ (by rw [hfl]) (kr.nstr hok) hi2 (fun s h1 h2=>(hs2 s (by omega)).trans (hs1' s h1 h2)) (by omega) (by omega) fun _ _ h=>h
      | false =>
        simp only [Bool.false_eq_true,if_false,Bool.true_or,Bool.true_and,bne_iff_ne,ne_eq] at hok ⊢
        refine mvCond_ok hi1 (by omega) (by omega) (uns2 a1 hs1') fun a2 hi2 hs2=>?_
        rw [if_neg (by simp)]
        exact get a2 (t+2) _ (by rw [hfl]) (kr.str hok) hi2 (fun s h1 h2=>(hs2 s (by omega)).trans (hs1' s h1 h2)) (by omega) (by omega) fun _ _ h=>h
    | false =>
      simp only [hn,Bool.false_eq_true,if_false,Bool.false_or,Bool.and_eq_true,bne_iff_ne,ne_eq] at htN hok ⊢
      cases nul with
      | true =>
        simp only [if_true,Bool.and_eq_true,bne_iff_ne,ne_eq] at hok ⊢
        refine mvCond_ok hi1 (by omega) (by omega) (flex9 hn a1 hs1') fun a2 hi2 hs2=>?_
        have hs2':∀ s,s ≠ v→s < t→getT a2 s=getT a s:=fun s h1 h2=>(hs2 s (by omega)).trans (hs1' s h1 h2)
        cases hfl:X.flex with
        | true =>
          rw [if_pos rfl]
          refine mvCond_ok hi2 (by omega) (by omega) (uns2 a2 hs2') fun a3 hi3 hs3=>?_
          rw [if_neg (by simp)]
          exact get a3 (t+3) _ (by rw [hfl]) (kr.cnstr hok.1) hi3 (fun s h1 h2=>(hs3 s (by omega)).trans (hs2' s h1 h2)) (by omega) (by omega) fun _ _ h=>h
        | false =>
          rw [if_neg (by simp)]
          refine mvCond_ok hi2 (by omega) (by omega) (uns2 a2 hs2') fun a3 hi3 hs3=>?_
          rw [if_neg (by simp)]
          exact get a3 (t+6) _ (by rw [hfl]) (kr.nstr hok.2) hi3 (fun s h1 h2=>(hs3 s (by omega)).trans (hs2' s h1 h2)) (by omega) (by omega) fun _ _ h=>h
      | false =>
        simp only [Bool.false_eq_true,if_false,Bool.and_eq_true,bne_iff_ne,ne_eq] at hok ⊢
        refine mvCond_ok hi1 (by omega) (by omega) (uns2 a1 hs1') fun a2 hi2 hs2=>?_
        have hs2':∀ s,s ≠ v→s < t→getT a2 s=getT a s:=fun s h1 h2=>(hs2 s (by omega)).trans (hs1' s h1 h2)
        rw [if_neg (by simp)]
        refine mvCond_ok hi2 (by omega) (by omega) (flex9 hn a2 hs2') fun a3 hi3 hs3=>?_
        cases hfl:X.flex with
        | true =>
          rw [if_pos rfl]
          exact get a3 (t+5) _ (by rw [hfl]) (kr.cstr hok.1) hi3 (fun s h1 h2=>(hs3 s (by omega)).trans (hs2' s h1 h2)) (by omega) (by omega) fun _ _ h=>h
        | false =>
          rw [if_neg (by simp)]
          exact get a3 (t+6) _ (by rw [hfl]) (kr.str hok.2) hi3 (fun s h1 h2=>(hs3 s (by omega)).trans (hs2' s h1 h2)) (by omega) (by omega) fun _ _ h=>h
  · rw [if_neg hs] at htN ⊢
    by_cases hb:k=.bytes∧X.c.never=false
    · obtain ⟨rfl,hn⟩:=hb
      rw [if_pos ⟨rfl,hn⟩] at htN ⊢
      unfold okRP at hok
      rw [hn] at hok
      cases nul with
      | true=>simp at hok
      | false =>
        simp only [Bool.false_eq_true,if_false,Bool.false_or,Bool.and_eq_true,bne_iff_ne,ne_eq] at hok
        refine SC.wp_seq (cset_ok hi hv (by omega) fun a1 hi1 _ hs1=>?_)
        have hs1':∀ s,s ≠ v→s < t→getT a1 s=getT a s:=fun s h1 _=>hs1 s h1
        refine SC.wp_seq ?_
        refine mvCond_ok hi1 (by omega) (by omega) (flex9 hn a1 hs1') fun a2 hi2 hs2=>?_
        have hs2':∀ s,s ≠ v→s < t→getT a2 s=getT a s:=fun s h1 h2=>(hs2 s (by omega)).trans (hs1' s h1 h2)
        cases hfl:X.flex with
        | true =>
          rw [if_pos rfl]
          exact get a2 (t+1) _ (by rw [hfl]) (kr.cbytes hok.1) hi2 hs2' (by omega) (by omega) fun _ _ h=>h
        | false =>
          rw [if_neg (by simp)]
          exact get a2 (t+2) _ (by rw [hfl]) (kr.bytes hok.2) hi2 hs2' (by omega) (by omega) fun _ _ h=>h
    · rw [if_neg hb] at htN ⊢
      by_cases hb2:k=.bytes∧nul=false
      · obtain ⟨rfl,rfl⟩:=hb2
        rw [if_pos ⟨rfl,rfl⟩]
        have hn:X.c.never=true:=by simpa using hb
        have hfl:=hX.never hn
        unfold okRP at hok
        simp only [hn,Bool.false_eq_true,if_false,Bool.true_or,Bool.true_and,bne_iff_ne,ne_eq] at hok
        exact SC.wp_seq (get a t _ (by rw [hfl]) (kr.bytes hok) hi (fun _ _ _=>rfl) (by omega) (by omega) fun _ _ h=>h)
      · rw [if_neg hb2]
        refine SC.wp_seq ?_
        have hnum:RC X.P X.TR X.gb (rNum X.I k) (pPrim X.flex nul k) (tyP nul k) (okP nul k):=by
          unfold okRP at hok
          cases k <;> simp only [Bool.and_eq_true,bne_iff_ne,ne_eq,Bool.not_eq_true'] at hok
          case str=>exact absurd rfl hs
          case uuid=>exact absurd rfl hk
          case bytes =>
            have hnn:nul=true:=by simpa using hb2
            subst hnn
            have hn:X.c.never=true:=by simpa using hb
            have hfl:=hX.never hn
            simp only [hn,if_true,Bool.true_and,bne_iff_ne,ne_eq] at hok
            rw [hfl]
            exact kr.nbytes hok
          all_goals
            obtain ⟨rfl,h2⟩:=hok
            exact kr.num _ rfl h2
        exact get a t _ rfl hnum hi (fun _ _ _=>rfl) (by omega) (by omega) fun _ _ h=>h
end
end Go.Proofs.YtecdefhecaeclaaDoor.K
namespace Go.Proofs.YtecdefhecaeclaaDoor.K
open Go Go.RowKit Go.Proofs.YtecdefhecaeclaaDoor.T
set_option linter.unusedVariables false
set_option linter.unusedSimpArgs false
def zOK (P:Program) (E size:Nat) (chk:(Nat→Option Value)→Bool):Bool :=
  match P.info? E with
  | some i=>match i.zero with
    | some z=>z.cells.size == size && i.size == size && decide (0 < size) && decide (i.bytes≤131072) && chk (fun j=>z.cells[j]?)
    | none=>false
  | none=>false
theorem zOK_of {P:Program} {E size:Nat} {chk:(Nat→Option Value)→Bool} (h:zOK P E size chk=true) :
    ∃ i z,P.info? E=some i∧i.zero=some z∧z.cells.size=size∧i.size=size∧0 < size∧i.bytes≤131072∧chk (fun j=>z.cells[j]?)=true:=by
  unfold zOK at h
  split at h <;> try (simp at h;done)
  rename_i i hi
  split at h <;> try (simp at h;done)
  rename_i z hz
  simp only [Bool.and_eq_true,beq_iff_eq,decide_eq_true_eq] at h
  obtain ⟨⟨⟨⟨h1,h2⟩,h3⟩,h4⟩,h5⟩:=h
  exact ⟨i,z,hi,hz,h1,h2,h3,h4,h5⟩
def okRTags (P:Program) (I:RIds) (c:Ctx) (S:Nat):Option (Nat × Nat)→Bool
  | none=>c.never
  | some (f,off)=>!c.never && fieldB P S f off && aggB P I.tTags 1 && I.rTags != 0
mutual
def okRElem (P:Program) (I:RIds) (c:Ctx) (T E size:Nat):Ty→Bool
  | .prim k=>if k=.uuid then size == 16 && arrB P E 16 && I.rUuid != 0 && zOK P E size (fun _=>true) else size == 1 && oneB P E && okRP I c false k && zOK P E size (fun _=>true)
  | .list _ _ _ _=>false
  | .struct S sz _ tags fs=>sz == size && zOK P E size (fun g=>frFsB g fs 0) && okRTags P I c S tags && okRFs P I c S fs
def okRVal (P:Program) (I:RIds) (c:Ctx) (h:Hd):Ty→Bool
  | .prim k =>
    if k=.uuid then !h.enum && !nuOf h && arrB P h.typ 16 && I.rUuid != 0
    else if h.enum then k == .i8 && !nuOf h && oneB P h.typ && I.rI8 != 0
    else oneB P h.typ && okRP I c (nuOf h) k
  | .list T E size of=>!h.enum && oneB P T && sliceB P T E size && (c.never || I.rCArr != 0) && I.rArr != 0 && I.rOk != 0 && (intK P I.tI32 == some .i32) && okRElem P I c T E size of
  | .struct S size _ tags fs=>!h.enum && (!nuOf h || (oneB P h.typ && I.rI8 != 0 && I.rOk != 0 && zOK P S size (fun g=>frFsB g fs 0))) && okRTags P I c S tags && okRFs P I c S fs
def okRFs (P:Program) (I:RIds) (c:Ctx) (S:Nat):Fs→Bool
  | .nil=>true
  | .cons h ty r=>fieldB P S h.idx h.off && (decide (h.null < 0) || decide (h.null≤h.from_)) && okRVal P I c h ty && okRFs P I c S r
end
mutual
def DefTy (P:Program):Ty→Prop
  | .prim _=>True
  | .list _ _ _ of=>DefTy P of
  | .struct _ size d _ fs=>(∃ out,DefAt P d size out∧outFs out fs 0=true∧(out.all fun x=>decide (x.1 < size))=true)∧DefFs P fs
def DefFs (P:Program):Fs→Prop
  | .nil=>True
  | .cons _ ty r=>DefTy P ty∧DefFs P r
end
abbrev RetOK (X:RX) (Q:Exit→Act→World→Prop) (C:Prop):Prop:=∀ (a':Act) (w':World),a'.defers=[]→getT a' 6=X.err→Below X.B X.w0 w'→C→Q .ret a' w'
def ValOK (X:RX) (ty:Ty):Prop:=∀ (S p:Nat) (h:Hd) (v t bk b o:Nat) (O:Nat→Prop) (a:Act) (w:World) (st:Option Bytes) (Q:Exit→Act→World→Prop),
  okRVal X.P X.I X.c h ty=true→layTy (nuOf h) ty=true→DefTy X.P ty→fieldB X.P S h.idx h.off=true→(h.null < 0∨h.null≤X.ver) →
  RInv X a w st→getT a p=.pointer (some ⟨b,o,none⟩)→Opn X O b w→RowAt w b (o+h.off) (szTy (nuOf h) ty)→FrTy w b (nuOf h) ty (o+h.off) →
  p < v→10≤v→v+rV h ty≤X.T0→X.T0≤t→t+rVT X.c h ty≤X.N →
  (∀ a' w',RInv X a' w' (after st (pTy X.ver X.flex ty (nuOf h)))→RSame X a a' v t→Foot X.rb b (o+h.off) (o+h.off+szTy (nuOf h) ty) w w' →
    (∀ r x r',st=some r→pTy X.ver X.flex ty (nuOf h) r=some (x,r')→FitTy X.ver ty x→HTy X.G w' (FO O w') X.ver X.flex ty (nuOf h) b (o+h.off) x)→Q .normal a' w') →
  RetOK X Q (after st (pTy X.ver X.flex ty (nuOf h))=none) →
  (rVal X.I X.c S p h v t bk ty).wp X.P Q a w
def ElemOK (X:RX) (ty:Ty):Prop:=∀ (T E size sa si v t bk bl l cap idx:Nat) (O:Nat→Prop) (a:Act) (w:World) (st:Option Bytes) (Q:Exit→Act→World→Prop),
  okRElem X.P X.I X.c T E size ty=true→sliceB X.P T E size=true→layTy false ty=true→DefTy X.P ty →
  RInv X a w st→getT a sa=.slice (some ⟨bl,0,none⟩) l cap→getT a si=.int .i32 (idx:Int)→idx < l→Opn X O bl w→RowAt w bl (idx * size) size→FrTy w bl false ty (idx * size) →
  sa < v→si < v→10≤v→v+rVE ty≤X.T0→X.T0≤t→t+rET X.c ty≤X.N →
  (∀ a' w',RInv X a' w' (after st (pTy X.ver X.flex ty false))→RSame X a a' v t→Foot X.rb bl (idx * size) (idx * size+size) w w' →
    (∀ r x r',st=some r→pTy X.ver X.flex ty false r=some (x,r')→FitTy X.ver ty x→HTy X.G w' (FO O w') X.ver X.flex ty false bl (idx * size) x)→Q .normal a' w') →
  RetOK X Q (after st (pTy X.ver X.flex ty false)=none) →
  wpL X.P Q (rElem X.I X.c T E sa si v t bk ty) a w
def FsOK (X:RX) (fs:Fs):Prop:=∀ (S p v t bk b o lo n:Nat) (O:Nat→Prop) (a:Act) (w:World) (st:Option Bytes) (Q:Exit→Act→World→Prop) (rest:List SC),
  okRFs X.P X.I X.c S fs=true→layFs lo n fs=true→DefFs X.P fs →
  RInv X a w st→getT a p=.pointer (some ⟨b,o,none⟩)→Opn X O b w→RowAt w b o n→FrFs w b fs o →
  p < v→10≤v→v+rVs fs≤X.T0→X.T0≤t→t+rFT X.c fs≤X.N →
  (∀ a' w',RInv X a' w' (after st (pFs X.ver X.flex fs))→RSame X a a' v t→Foot X.rb b (o+lo) (o+n) w w' →
    (∀ r xs r',st=some r→pFs X.ver X.flex fs r=some (xs,r')→FitFs X.ver fs xs→HFs X.G w' (FO O w') X.ver X.flex fs b o xs)→wpL X.P Q rest a' w') →
  RetOK X Q (after st (pFs X.ver X.flex fs)=none) →
  wpL X.P Q (rFs X.I X.c S p v t bk fs ++ rest) a w
section
variable {X:RX}
theorem hPrim_put {O:Nat→Prop} {b o:Nat} {w w1:World} {cs:Array Value} {E:TypeId} {nul:Bool} {k:PK} {x:Tree} {y:Value} (hk:k ≠ .uuid) (ho:Opn X O b w) (hs:w.heap.size≤w1.heap.size) (hsrc:∀ sb,X.S=some sb→sb < w.heap.size)
    (hrow:w1.heap[b]?=some (.cells cs E (0,0))) (hlt:o < cs.size) (hok:okP nul k w1 (NewF X.S w w1) x y) (hfit:x.s.length≤most):HPrim (w1.setRow b (cs.setIfInBounds o y)) (FO O (w1.setRow b (cs.setIfInBounds o y))) nul b o x k:=by
  unfold HPrim
  rw [if_neg hk]
  refine ⟨y,?_,?_⟩
  · rw [cell_setRow_same _ _ _ _ _ _ _ hrow]
    simp [Array.getElem?_setIfInBounds,hlt]
  · have:=hok hfit
    rw [if_neg hk] at this
    refine pVal_frame (fun k hk=>⟨?_,?_⟩) this
    · have:=newF_fo ho hs hsrc k hk
      exact ⟨by simpa using this.1,this.2⟩
    · refine setRow_other _ _ _ _ fun e=>?_
      have:=(newF_fo ho hs hsrc k hk).2
      exact this (e ▸ ho.ob)
theorem valOK_prim (hX:X.ok) (k:PK):ValOK X (.prim k):=by
  intro S p h v t bk b o O a w st Q hok hlay hdef hS hnull hi hp ho hrow hfr hpv hv hvT ht htN hQ hR
  have hten:=hX.ten
  have hbS:X.S ≠ some b:=fun e=>ho.src b e ho.ob
  unfold rVal
  simp only [rVT,rV] at htN hvT
  simp only [okRVal] at hok
  simp only [szTy] at hrow hQ
  obtain ⟨cs,E,hcs,hlen⟩:=hrow
  by_cases hk:k=.uuid
  · subst hk
    rw [if_pos rfl] at htN hok ⊢
    rw [if_pos rfl] at hlen
    simp only [Bool.and_eq_true,Bool.not_eq_true',bne_iff_ne,ne_eq] at hok
    obtain ⟨⟨⟨hen,hnu⟩,harr⟩,hfn⟩:=hok
    rw [hen] at hvT
    simp only [Bool.false_eq_true,if_false] at hvT
    have hsz:=hi.size
    have hrc:=hX.kr.uuid hfn
    obtain ⟨hagg,i,z,hii,hiz,hzc⟩:=arr_of harr
    refine SC.wp_seq (SC.wp_reg (ops_cal hrc.1 (R:=fun e w'=>∃ y,e=.returned y∧RdAt X.TR w' X.S X.rb (after st (pPrim false false .uuid))∧Only X.rb w w'∧tyP false .uuid y∧∀ b x r,st=some b→pPrim false false .uuid b=some (x,r)→okP false .uuid w' (NewF X.S w w') x y) ?_ ?_))
    · have:=hrc.2 w X.S X.rb st (Nat.lt_of_lt_of_le hX.hgb hi.heap) hi.at_ hi.src
      rw [show (([7].map (getT a)).toArray:Array Value)=#[.pointer (some ⟨X.rb,0,none⟩)] by simp [hi.rd]]
      exact this
    rintro e w1 ⟨y,rfl,hrd,honly,⟨bs,hbs,rfl⟩,hokv⟩
    refine ⟨_,rfl,?_⟩
    have hi1:RInv X a w1 (after st (pPrim false false .uuid)):=hi.only hX honly hrd
    have hl16:(cellsOf bs).length=16:=by rw [cLen];exact hbs
    refine oNo rfl (opw_alloc hii hiz ?_)
    have hnew:=heap_alloc_new w1 (.cells z.cells h.typ)
    refine oNo rfl (opw_store_agg (cs:=cellsOf bs) (cur:=z.cells) (b:=w1.heap.size) (E:=h.typ) (by rw [hl16];exact hagg) ?_ ?_ hnew (by rw [hzc,hl16]) (by intro v hv;simp [cellsOf] at hv;obtain ⟨u,_,rfl⟩:=hv;rfl) (oNi ?_))
    · rw [eTm,gTp (by rw [sPu];omega)]
    · rw [eTm,gTn (by omega),gTp (by omega)]
    rw [pNo]
    simp only [Exit.then]
    have hb1:w.heap.size≤w1.heap.size:=honly.size
    have hbw:b < w.heap.size:=ho.lt b ho.ob
    have hrow1:w1.heap[b]?=some (.cells cs E (0,0)):=by rw [honly.block b hbw ho.ne];exact hcs
    have hne:b ≠ w1.heap.size:=by omega
    generalize hw2:((w1.alloc (.cells z.cells h.typ)).setRow w1.heap.size (cellsOf bs).toArray)=w2
    have hi2:RInv X a w2 (after st (pPrim false false .uuid)):=by
      rw [← hw2]
      refine (hi1.alloc _).setRow (by have:=hi1.at_.lt;omega) (fun e=>?_) (by have:=hi1.heap;omega) _
      have:=(hi1.src _ e).2
      omega
    have hrow2:w2.heap[b]?=some (.cells cs E (0,0)):=by
      rw [← hw2,setRow_other _ _ _ _ hne,Below.heap_alloc _ _ _ (by omega)]
      exact hrow1
    have hval:∀ j v,(cellsOf bs)[j]?=some v→w2.cell? ⟨w1.heap.size,0+j,none⟩=some v:=by
      intro j v hv
      rw [← hw2,cell_setRow_same _ _ _ _ _ _ _ hnew]
      simpa using hv
    have hf2:Foot X.rb b (o+h.off) (o+h.off+16) w w2:=by
      refine (Foot.of_only honly ho.ne).trans ?_
      rw [← hw2]
      exact (foot_alloc _).other (foot_setRow (q:=0) (n:=16) (heap_alloc_new _ _) (by simp [hl16,hzc]) (fun j hj=>by
        rw [Array.getElem?_eq_none (by simp [hl16];omega),Array.getElem?_eq_none (by omega)])) (by omega) (by omega) ho.ne
    generalize ha1:((a.put (some t) (Value.agg (cellsOf bs).toArray)).put (some v) (Value.pointer (some ⟨w1.heap.size,0,none⟩)))=a1
    have hs1:a1.tmps.size=X.N:=by rw [← ha1];simp only [sPu];exact hsz
    have hg1:∀ s,s ≠ v→s ≠ t→getT a1 s=getT a s:=by
      intro s h1 h2
      rw [← ha1,gTn h1,gTn h2]
    have hgv:getT a1 v=.pointer (some ⟨w1.heap.size,0,none⟩):=by rw [← ha1,gTp (by rw [sPu];omega)]
    have hd1:a1.defers=[]:=by rw [← ha1];simp only [dPu];exact hi.defers
    refine SC.wp_reg (ops_mv (oNo rfl (opw_load_agg (cs:=cellsOf bs) (b:=w1.heap.size) (o:=0) (by rw [hl16];exact hagg) ?_ hval (ops_nilc (ad:=⟨b,o,none⟩) ?_ (ops_fa hS (b:=b) (o:=o) ?_ (oNo rfl (opw_store_aggAt (b:=b) (o:=o+h.off) (E:=E) (cur:=cs) (cs:=cellsOf bs) (by rw [hl16];exact hagg) ?_ ?_ hrow2 (by rw [hl16];omega) (by intro v hv;simp [cellsOf] at hv;obtain ⟨u,_,rfl⟩:=hv;rfl) (oNi ?_))))))))
    · rw [eTm,gTn (by omega)]
      exact hgv
    · rw [gTn (by omega),gTp (by omega)]
      rw [hg1 p (by omega) (by omega)]
      exact hp
    · rw [gTp (by simp only [sPu];omega)]
    · rw [eTm,gTp (by simp only [sPu];omega)]
    · rw [eTm,gTn (by omega),gTn (by omega),gTp (by simp only [sPu];omega)]
    rw [pNo]
    have hcl:(cs.toList.take (o+h.off) ++ cellsOf bs ++ cs.toList.drop (o+h.off+(cellsOf bs).length)).length=cs.size:=by
      simp only [List.length_append,List.length_take,List.length_drop,Array.length_toList,hl16]
      omega
    have hget:∀ j,(j < o+h.off∨o+h.off+16≤j)→((cs.toList.take (o+h.off) ++ cellsOf bs ++ cs.toList.drop (o+h.off+(cellsOf bs).length)).toArray)[j]?=cs[j]?:=by
      intro j hj
      rw [List.getElem?_toArray,hl16]
      rcases hj with hj | hj
      · rw [List.append_assoc,List.getElem?_append_left (by simp;omega),List.getElem?_take,if_pos hj,Array.getElem?_toList]
      · rw [List.getElem?_append_right (by simp [hl16];omega),List.getElem?_drop]
        simp only [List.length_append,List.length_take,Array.length_toList,hl16]
        rw [show o+h.off+16+(j - (min (o+h.off) cs.size+16))=j by omega,Array.getElem?_toList]
    refine hQ _ _ ?_ ?_ ?_ ?_
    · refine ((hi2.setRow ho.ne hbS ho.hB _).act (a:=a) ?_ ?_ fun s hs=>?_)
      · simp only [sPu];rw [hs1,hsz]
      · simp only [dPu];rw [hd1,hi.defers]
      · rw [gTn (by omega),gTn (by omega),gTn (by omega),gTn (by omega)]
        exact hg1 s (by omega) (by omega)
    · intro s hs
      rw [gTn (by omega),gTn (by omega),gTn (by omega),gTn (by omega)]
      exact hg1 s (by omega) (by omega)
    · refine hf2.trans (foot_setRow hrow2 (by simpa using hcl) hget)
    · intro r x r' hst hpx hfit
      simp only [HTy,HPrim,if_pos]
      have hkv:=hokv r x r' hst hpx (by simpa [FitTy] using hfit)
      rw [if_pos rfl] at hkv
      simp only [Value.agg.injEq] at hkv
      intro j u hu
      have hj:j < 16:=by
        have:=(List.getElem?_eq_some_iff.1 hu).1
        rw [uuidOf_length] at this
        exact this
      have hcu:(cellsOf bs)[j]?=some (cell u):=by
        have:cellsOf bs=cellsOf (uuidOf x):=by simpa using congrArg Array.toList hkv
        rw [this]
        simp [cellsOf,hu]
      rw [cell_setRow_same _ _ _ _ _ _ _ hrow2]
      have hlt:o+h.off≤cs.size:=by omega
      rw [List.getElem?_toArray,List.append_assoc,List.getElem?_append_right (by simp;omega),List.getElem?_append_left (by simp [hl16];omega)]
      simp only [List.length_take,Array.length_toList]
      rw [show o+h.off+j - min (o+h.off) cs.size=j by omega]
      exact hcu
  · rw [if_neg hk] at htN hok ⊢
    rw [if_neg hk] at hlen
    have key:∀ (a1:Act) (w1:World) (x t':Nat) (y:Value) (st':Option Bytes),RInv X a1 w1 st'→st'=after st (pPrim X.flex (nuOf h) k)→getT a1 p=.pointer (some ⟨b,o,none⟩)→getT a1 x=y→y.oneCell'=true→x < t'→t≤t'→t'+4≤X.N→oneB X.P h.typ=true →
        (∀ s,(s < v∨(X.T0≤s∧s < t))→getT a1 s=getT a s)→Only X.rb w w1→(∀ b x r,st=some b→pPrim X.flex (nuOf h) k b=some (x,r)→okP (nuOf h) k w1 (NewF X.S w w1) x y)→(rStore p x t' S h.idx h.typ).wp X.P Q a1 w1:=by
      intro a1 w1 x t' y st' hi1 hst1 hp1 hx1 hy hxt htt htN' hT hs1 honly hokv
      have hbw:b < w.heap.size:=ho.lt b ho.ob
      have hrow1:w1.heap[b]?=some (.cells cs E (0,0)):=by rw [honly.block b hbw ho.ne];exact hcs
      refine rStore_ok hX hi1 hp1 hx1 hy (by omega) hxt (by omega) htN' hS hT hrow1 (by omega) ho.ne hbS ho.hB fun a2 hi2 hs2=>?_
      refine hQ a2 _ ?_ ?_ ?_ ?_
      · simp only [pTy]
        rw [← hst1]
        exact hi2
      · intro s hs
        rw [hs2 s (by omega)]
        exact hs1 s hs
      · rw [if_neg hk]
        refine (Foot.of_only honly ho.ne).trans (foot_setRow hrow1 (by simp) fun j hj=>?_)
        rw [Array.getElem?_setIfInBounds_ne (by omega)]
      · intro r x r' hst hpx hfit
        simp only [HTy]
        simp only [pTy] at hpx
        exact hPrim_put hk ho honly.size (fun sb hsb=>(hi.src sb hsb).2) hrow1 (by omega) (hokv r x r' hst hpx) (by simpa [FitTy] using hfit)
    by_cases he:h.enum=true
    · rw [if_pos he] at hok htN hvT ⊢
      simp only [Bool.and_eq_true,Bool.not_eq_true',bne_iff_ne,ne_eq,beq_iff_eq] at hok
      obtain ⟨⟨⟨rfl,hnu⟩,hT⟩,hfn⟩:=hok
      refine SC.wp_seq (cset_ok hi (by omega) (by omega) fun a1 hi1 _ hs1=>SC.wp_seq (SC.wp_seq ?_))
      have hrc:=hX.kr.num .i8 rfl hfn
      refine rGet_ok hX hrc hi1 (by omega) (by omega) (by omega) (by omega) fun a2 w2 y hi2 hy2 hs2 honly hty hokv=>?_
      have hsz2:=hi2.size
      simp only [Exit.then]
      refine SC.wp_reg (ops_mv (ops_asg (oNi ?_)))
      simp only [Exit.then]
      generalize ha3:((a2.put (some (t+1)) (getT a2 (v+1))).put (some v) (getT (a2.put (some (t+1)) (getT a2 (v+1))) (t+1)))=a3
      have hs3:a3.tmps.size=X.N:=by rw [← ha3];simp only [sPu];exact hsz2
      have hg3:∀ s,s ≠ v→s ≠ t+1→getT a3 s=getT a2 s:=fun s h1 h2=>by rw [← ha3,gTn h1,gTn h2]
      have hv3:getT a3 v=y:=by rw [← ha3,gTp (by rw [sPu];omega),gTp (by omega)];exact hy2
      have hi3:RInv X a3 w2 (after st (pPrim false false .i8)):=hi2.act (by rw [hs3,hsz2]) (by rw [← ha3];simp [dPu]) fun s hs=>hg3 s (by omega) (by omega)
      refine SC.wp_seq (SC.wp_reg (ops_mv (ops_asg (oNi ?_))))
      simp only [Exit.then]
      generalize ha4:((a3.put (some (t+2)) (getT a3 v)).put (some (v+2)) (getT (a3.put (some (t+2)) (getT a3 v)) (t+2)))=a4
      have hs4:a4.tmps.size=X.N:=by rw [← ha4];simp only [sPu];exact hs3
      have hg4:∀ s,s ≠ v+2→s ≠ t+2→getT a4 s=getT a3 s:=fun s h1 h2=>by rw [← ha4,gTn h1,gTn h2]
      have hv4:getT a4 (v+2)=y:=by rw [← ha4,gTp (by rw [sPu];omega),gTp (by omega)];exact hv3
      have hi4:RInv X a4 w2 (after st (pPrim false false .i8)):=hi3.act (by rw [hs4,hs3]) (by rw [← ha4];simp [dPu]) fun s hs=>hg4 s (by omega) (by omega)
      have hall:∀ s,(s < v∨(X.T0≤s∧s < t))→getT a4 s=getT a s:=fun s hs=>by
        rw [hg4 s (by omega) (by omega),hg3 s (by omega) (by omega),hs2 s (by omega) (by omega),hs1 s (by omega)]
      exact key a4 w2 (v+2) (t+3) y _ hi4 rfl (by rw [hall p (by omega)];exact hp) hv4 (tyP_one (nul:=false) (k:=.i8) (by decide) hty) (by omega) (by omega) (by omega) hT hall honly hokv
    · rw [if_neg he] at hok htN hvT ⊢
      simp only [Bool.and_eq_true] at hok
      refine rPrim_ok hX hk hok.2 hi hv (by omega) ht (by change t+rPrimT X.c (decide (0≤h.null)) k≤X.N;omega) fun a1 w1 y hi1 hy1 hs1 honly hty hokv=>?_
      have hall:∀ s,(s < v∨(X.T0≤s∧s < t))→getT a1 s=getT a s:=fun s hs=>hs1 s (by omega) (by omega)
      exact key a1 w1 v _ y _ hi1 rfl (by rw [hall p (by omega)];exact hp) hy1 (tyP_one hk hty) (by omega) (by omega) (by omega) hok.1 hall honly hokv
end
end Go.Proofs.YtecdefhecaeclaaDoor.K
namespace Go.Proofs.YtecdefhecaeclaaDoor.K
open Go Go.RowKit Go.Proofs.YtecdefhecaeclaaDoor.T
set_option linter.unusedVariables false
set_option linter.unusedSimpArgs false
section
variable {X:RX}
theorem rUuid_ok {E v t b lo hi:Nat} {a:Act} {w:World} {st:Option Bytes} {Q:Exit→Act→World→Prop} (hX:X.ok) (hfn:X.I.rUuid ≠ 0) (harr:arrB X.P E 16=true) (hi_:RInv X a w st) (hv:10≤v) (hvT:v < X.T0) (ht:X.T0≤t) (htN:t < X.N)
    (hb:b < w.heap.size) (hn:b ≠ X.rb)
    (hQ:∀ a1 w2 n1 bs,RInv X a1 w2 (after st (pPrim X.flex false .uuid))→(∀ s,s ≠ v→s ≠ t→getT a1 s=getT a s)→getT a1 v=.pointer (some ⟨n1,0,none⟩)→bs.length=16→(∀ j u,(cellsOf bs)[j]?=some u→w2.cell? ⟨n1,0+j,none⟩=some u) →
      Foot X.rb b lo hi w w2→w2.heap[b]?=w.heap[b]?→(∀ r x r',st=some r→pPrim X.flex false .uuid r=some (x,r')→x.s.length≤most→bs=uuidOf x)→Q .normal a1 w2) :
    (SC.reg [cal t X.I.rUuid [7],⟨some v,.alloc E,none⟩,⟨none,.store E (.tmp v) (.tmp t),none⟩]).wp X.P Q a w:=by
  have hten:=hX.ten
  have hsz:=hi_.size
  have hrc:=hX.kr.uuid hfn
  obtain ⟨hagg,i,z,hii,hiz,hzc⟩:=arr_of harr
  refine SC.wp_reg (ops_cal hrc.1 (R:=fun e w'=>∃ y,e=.returned y∧RdAt X.TR w' X.S X.rb (after st (pPrim false false .uuid))∧Only X.rb w w'∧tyP false .uuid y∧∀ b x r,st=some b→pPrim false false .uuid b=some (x,r)→okP false .uuid w' (NewF X.S w w') x y) ?_ ?_)
  · have:=hrc.2 w X.S X.rb st (Nat.lt_of_lt_of_le hX.hgb hi_.heap) hi_.at_ hi_.src
    rw [show (([7].map (getT a)).toArray:Array Value)=#[.pointer (some ⟨X.rb,0,none⟩)] by simp [hi_.rd]]
    exact this
  rintro e w1 ⟨y,rfl,hrd,honly,⟨bs,hbs,rfl⟩,hokv⟩
  refine ⟨_,rfl,?_⟩
  have hi1:RInv X a w1 (after st (pPrim false false .uuid)):=hi_.only hX honly hrd
  have hl16:(cellsOf bs).length=16:=by rw [cLen];exact hbs
  refine oNo rfl (opw_alloc hii hiz ?_)
  have hnew:=heap_alloc_new w1 (.cells z.cells E)
  refine oNo rfl (opw_store_agg (cs:=cellsOf bs) (cur:=z.cells) (b:=w1.heap.size) (E:=E) (by rw [hl16];exact hagg) ?_ ?_ hnew (by rw [hzc,hl16]) (by intro v hv;simp [cellsOf] at hv;obtain ⟨u,_,rfl⟩:=hv;rfl) (oNi ?_))
  · rw [eTm,gTp (by rw [sPu];omega)]
  · rw [eTm,gTn (by omega),gTp (by omega)]
  rw [pNo]
  have hb1:w.heap.size≤w1.heap.size:=honly.size
  have hne:b ≠ w1.heap.size:=by omega
  refine hQ _ _ w1.heap.size bs (RInv.act (a:=a) ?_ ?_ ?_ ?_) ?_ ?_ hbs ?_ ?_ ?_ ?_
  · refine (hi1.alloc _).setRow (by have:=hi1.at_.lt;omega) (fun e=>?_) (by have:=hi1.heap;omega) _
    have:=(hi1.src _ e).2
    omega
  · simp only [sPu]
  · simp only [dPu]
  · intro s hs
    rw [gTn (by omega),gTn (by omega)]
  · intro s h1 h2
    rw [gTn h1,gTn h2]
  · rw [gTp (by rw [sPu];omega)]
  · intro j u hu
    rw [cell_setRow_same _ _ _ _ _ _ _ hnew]
    simpa using hu
  · refine (Foot.of_only honly hn).trans ?_
    exact (foot_alloc _).other (foot_setRow (q:=0) (n:=16) hnew (by simp [hl16,hzc]) (fun j hj=>by
      rw [Array.getElem?_eq_none (by simp [hl16];omega),Array.getElem?_eq_none (by omega)])) (by omega) (by omega) hn
  · rw [setRow_other _ _ _ _ hne,Below.heap_alloc _ _ _ (by omega),honly.block b hb hn]
  · intro r x r' hst hpx hfit
    have hkv:=hokv r x r' hst hpx hfit
    rw [if_pos rfl] at hkv
    simp only [Value.agg.injEq] at hkv
    have hc:cellsOf bs=cellsOf (uuidOf x):=by simpa using congrArg Array.toList hkv
    have hinj:∀ (l l':Bytes),cellsOf l=cellsOf l'→l=l':=by
      intro l
      induction l with
      | nil=>intro l' h;cases l' with | nil=>rfl | cons y l'=>simp [cellsOf] at h
      | cons y l ih =>
        intro l' h
        cases l' with
        | nil=>simp [cellsOf] at h
        | cons z l' =>
          simp only [cellsOf,List.map_cons,List.cons.injEq] at h
          have h1:y=z:=by
            have:=h.1
            simp only [cell,Value.int.injEq,true_and] at this
            exact UInt8.toNat_inj.1 (by omega)
          rw [h1,ih l' h.2]
    exact hinj _ _ hc
theorem cells16 {q:Nat} {cs:Array Value} {xs:List Value} (hl:xs.length=16) (hq:q+16≤cs.size) :
    ((cs.toList.take q ++ xs ++ cs.toList.drop (q+xs.length)).toArray).size=cs.size∧(∀ j,(j < q∨q+16≤j)→((cs.toList.take q ++ xs ++ cs.toList.drop (q+xs.length)).toArray)[j]?=cs[j]?) ∧
      ∀ j u,xs[j]?=some u→((cs.toList.take q ++ xs ++ cs.toList.drop (q+xs.length)).toArray)[q+j]?=some u:=by
  refine ⟨?_,?_,?_⟩
  · simp only [List.size_toArray,List.length_append,List.length_take,List.length_drop,Array.length_toList,hl]
    omega
  · intro j hj
    rw [List.getElem?_toArray,hl]
    rcases hj with hj | hj
    · rw [List.append_assoc,List.getElem?_append_left (by simp;omega),List.getElem?_take,if_pos hj,Array.getElem?_toList]
    · rw [List.getElem?_append_right (by simp [hl];omega),List.getElem?_drop]
      simp only [List.length_append,List.length_take,Array.length_toList,hl]
      rw [show q+16+(j - (min q cs.size+16))=j by omega,Array.getElem?_toList]
  · intro j u hu
    have hj:j < xs.length:=(List.getElem?_eq_some_iff.1 hu).1
    rw [List.getElem?_toArray,List.append_assoc,List.getElem?_append_right (by simp;omega),List.getElem?_append_left (by simp;omega)]
    simp only [List.length_take,Array.length_toList]
    rw [show q+j - min q cs.size=j by omega]
    exact hu
theorem elemOK_prim (hX:X.ok) (k:PK):ElemOK X (.prim k):=by
  intro T E size sa si v t bk bl l cap idx O a w st Q hok hsl hlay hdef hi ha_ hidx hlt ho hrow hfr hsav hsiv hv hvT ht htN hQ hR
  have hten:=hX.ten
  have hbS:X.S ≠ some bl:=fun e=>ho.src bl e ho.ob
  have hbw:bl < w.heap.size:=ho.lt bl ho.ob
  unfold rElem
  simp only [rET,rVE] at htN hvT
  simp only [okRElem] at hok
  obtain ⟨cs,E',hcs,hlen⟩:=hrow
  by_cases hk:k=.uuid
  · subst hk
    rw [if_pos rfl] at htN hok ⊢
    simp only [Bool.and_eq_true,bne_iff_ne,ne_eq,beq_iff_eq] at hok
    obtain ⟨⟨⟨rfl,harr⟩,hfn⟩,_⟩:=hok
    obtain ⟨hagg,_⟩:=arr_of harr
    have hsz:=hi.size
    refine rUuid_ok (b:=bl) (lo:=idx * 16) (hi:=idx * 16+16) hX hfn harr hi hv (by omega) ht (by omega) hbw ho.ne fun a1 w2 n1 bs hi2 hs1 hv1 hbs hcell hf2 hrow2 hval=>?_
    have hl16:(cellsOf bs).length=16:=by rw [cLen];exact hbs
    have hs2:=hi2.size
    rw [hcs] at hrow2
    simp only [Exit.then,wpL]
    obtain ⟨k1,k2,k3⟩:=cells16 (cs:=cs) (xs:=cellsOf bs) (q:=idx * 16) hl16 (by omega)
    refine SC.wp_reg (ops_mv (ops_mv (oNo rfl (opw_load_agg (cs:=cellsOf bs) (b:=n1) (o:=0) (by rw [hl16];exact hagg) ?_ hcell (oNo rfl (opw_index (E:=E) (n:=16) (b:=bl) (o:=0) (len:=l) (cap:=cap) (j:=idx) (k:=.i32) hsl ?_ ?_ hlt (oNo rfl (opw_store_aggAt (b:=bl) (o:=idx * 16) (E:=E') (cur:=cs) (cs:=cellsOf bs) (by rw [hl16];exact hagg) ?_ ?_ hrow2 (by rw [hl16];omega) (by intro v hv;simp [cellsOf] at hv;obtain ⟨u,_,rfl⟩:=hv;rfl) (oNi ?_)))))))))
    · rw [eTm,gTn (by omega),gTn (by omega)]
      exact hv1
    · rw [eTm,gTn (by omega),gTn (by omega),gTp (by omega),hs1 sa (by omega) (by omega)]
      exact ha_
    · rw [eTm,gTn (by omega),gTp (by rw [sPu];omega),gTn (by omega),hs1 si (by omega) (by omega)]
      exact hidx
    · rw [eTm,gTp (by simp only [sPu];omega),Nat.zero_add]
    · rw [eTm,gTn (by omega),gTp (by simp only [sPu];omega)]
    rw [pNo]
    have hg:∀ s,s ≠ v→s < t→getT ((((a1.put (some (t+1)) (getT a1 sa)).put (some (t+2)) (getT (a1.put (some (t+1)) (getT a1 sa)) si)).put (some (t+3)) (Value.agg (cellsOf bs).toArray)).put (some (t+4)) (Value.pointer (some ⟨bl,0+idx * 16,none⟩))) s=getT a s:=by
      intro s h1 h2
      rw [gTn (by omega),gTn (by omega),gTn (by omega),gTn (by omega)]
      exact hs1 s h1 (by omega)
    refine hQ _ _ ?_ ?_ ?_ ?_
    · refine ((hi2.setRow ho.ne hbS ho.hB _).act (a:=a1) ?_ ?_ fun s hs=>?_)
      · simp only [sPu]
      · simp only [dPu]
      · rw [gTn (by omega),gTn (by omega),gTn (by omega),gTn (by omega)]
    · intro s hs
      exact hg s (by omega) (by omega)
    · exact hf2.trans (foot_setRow hrow2 k1 k2)
    · intro r x r' hst hpx hfit
      simp only [HTy,HPrim,if_pos]
      simp only [pTy] at hpx
      have:=hval r x r' hst hpx (by simpa [FitTy] using hfit)
      subst this
      intro j u hu
      rw [cell_setRow_same _ _ _ _ _ _ _ hrow2]
      exact k3 j _ (by simp [cellsOf,hu])
  · rw [if_neg hk] at htN hok ⊢
    simp only [Bool.and_eq_true,beq_iff_eq] at hok
    obtain ⟨⟨⟨rfl,hT⟩,hrp⟩,_⟩:=hok
    simp only [wpL]
    refine rPrim_ok hX hk hrp hi hv (by omega) ht (by omega) fun a1 w1 y hi1 hy1 hs1 honly hty hokv=>?_
    have hsz:=hi1.size
    have hrow1:w1.heap[bl]?=some (.cells cs E' (0,0)):=by rw [honly.block bl hbw ho.ne];exact hcs
    have hy:=tyP_one hk hty
    have hgt:∀ s,s < v→getT a1 s=getT a s:=fun s hs=>hs1 s (by omega) (by omega)
    generalize hu:t+rPrimT X.c false k=u at htN
    have htu:t≤u:=by omega
    refine SC.wp_reg (ops_mv (ops_mv (ops_mv (oNo rfl (opw_index (E:=E) (n:=1) (b:=bl) (o:=0) (len:=l) (cap:=cap) (j:=idx) (k:=.i32) hsl ?_ ?_ hlt (oNo rfl (opw_store_one (ad:=⟨bl,idx * 1,none⟩) (v:=y) (v0:=cs[idx * 1]'(by omega)) hT ?_ ?_ hy ?_ ?_ (oNi ?_))))))))
    · rw [eTm,gTn (by omega),gTn (by omega),gTp (by omega),hgt sa hsav]
      exact ha_
    · rw [eTm,gTn (by omega),gTp (by rw [sPu];omega),gTn (by omega),hgt si hsiv]
      exact hidx
    · rw [eTm,gTp (by simp only [sPu];omega),Nat.zero_add]
    · rw [eTm,gTn (by omega),gTp (by simp only [sPu];omega),gTn (by omega),gTn (by omega)]
      exact hy1
    · rw [cell_of_row _ _ _ _ _ _ hrow1]
      exact Array.getElem?_eq_getElem _
    · simp [World.frozen?,hrow1]
    rw [pNo,setCell_eq_setRow _ _ _ _ _ _ _ hrow1]
    simp only [Exit.then,wpL]
    refine hQ _ _ ?_ ?_ ?_ ?_
    · refine ((hi1.setRow ho.ne hbS ho.hB _).act (a:=a1) ?_ ?_ fun s hs=>?_)
      · simp only [sPu]
      · simp only [dPu]
      · rw [gTn (by omega),gTn (by omega),gTn (by omega),gTn (by omega)]
    · intro s hs
      rw [gTn (by omega),gTn (by omega),gTn (by omega),gTn (by omega)]
      exact hs1 s (by omega) (by omega)
    · refine (Foot.of_only honly ho.ne).trans (foot_setRow hrow1 (by simp) fun j hj=>?_)
      rw [Array.getElem?_setIfInBounds_ne (by omega)]
    · intro r x r' hst hpx hfit
      simp only [HTy]
      simp only [pTy] at hpx
      exact hPrim_put hk ho honly.size (fun sb hsb=>(hi.src sb hsb).2) hrow1 (by omega) (hokv r x r' hst hpx) (by simpa [FitTy] using hfit)
theorem fsOK_nil:FsOK X .nil:=by
  intro S p v t bk b o lo n O a w st Q rest hok hlay hdef hi hp ho hrow hfr hpv hv hvT ht htN hQ hR
  simp only [rFs,List.nil_append]
  have e:after st (pFs X.ver X.flex .nil)=st:=by simp only [pFs];exact after_rOk _ _
  refine hQ a w (by rw [e];exact hi) (RSame.refl _ _ _ _) (Foot.refl _ _ _ _ _) fun r xs r' _ _ _=>?_
  simp [HFs]
theorem rvCond_ok {h:Hd} {t:Nat} {body:SC} {a:Act} {w:World} {st:Option Bytes} {Q:Exit→Act→World→Prop} (hX:X.ok) (hi:RInv X a w st) (ht:X.T0≤t) (htN:t+vTmps h≤X.N)
    (hQ:∀ a',RInv X a' w st→(∀ s,s < t→getT a' s=getT a s)→(if h.has X.ver then body.wp X.P Q a' w else Q .normal a' w)):(rvCond X.I X.c h t body).wp X.P Q a w:=by
  have hten:=hX.ten
  have hcv:=hX.cver
  unfold rvCond
  by_cases c1:h.from_=0∧h.to < 0
  · rw [if_pos c1]
    have hh:h.has X.ver=true:=by simp [Hd.has,c1.1,c1.2,hX.hver]
    have:=hQ a hi (fun _ _=>rfl)
    rw [if_pos hh] at this
    exact this
  · rw [if_neg c1]
    unfold vTmps at htN
    rw [if_neg c1] at htN
    have hsz:=hi.size
    have hver:=hi.ver
    by_cases c2:h.to < 0
    · rw [if_pos c2] at htN ⊢
      refine SC.wp_seq (SC.wp_reg (ops_mv (oNo rfl (opw_cmp (op:=.geq) (k:=.i16) (m:=X.ver) (n:=h.from_) (r:=decide (X.ver ≥ h.from_)) ?_ rfl (by simp) (oNi ?_)))))
      · rw [eTm,gTp (by omega),hcv]
        exact hver
      refine SC.wp_cond (t:=decide (X.ver ≥ h.from_)) (by rw [eTm,gTp (by rw [sPu];omega)]) ?_
      have hh:h.has X.ver=decide (X.ver ≥ h.from_):=by simp [Hd.has,c2]
      have:=hQ ((a.put (some t) (getT a X.c.ver)).put (some (t+1)) (.bool (decide (X.ver ≥ h.from_)))) (hi.act (by simp [sPu]) (by simp [dPu]) fun s hs=>by rw [gTn (by omega),gTn (by omega)]) fun s hs=>by rw [gTn (by omega),gTn (by omega)]
      rw [hh] at this
      cases hd:decide (X.ver ≥ h.from_) with
      | true=>rw [hd] at this;simpa using this
      | false=>rw [hd] at this;exact SC.wp_skip (by simpa using this)
    · rw [if_neg c2] at htN ⊢
      have hh:h.has X.ver=(decide (h.from_≤X.ver) && decide (X.ver≤h.to)):=by simp [Hd.has,c2]
      have fin:∀ (a':Act),a'.tmps.size=X.N→a'.defers=a.defers→(∀ s,s < t→getT a' s=getT a s)→getT a' (t+5)=.bool (h.has X.ver)→(SC.cond (.tmp (t+5)) body .skip).wp X.P Q a' w:=by
        intro a' h1 h2 h3 h4
        refine SC.wp_cond (t:=h.has X.ver) (by rw [eTm];exact h4) ?_
        have:=hQ a' (hi.act (h1.trans hsz.symm) h2 fun s hs=>h3 s (by omega)) h3
        cases hd:h.has X.ver with
        | true=>rw [hd] at this;simpa using this
        | false=>rw [hd] at this;exact SC.wp_skip (by simpa using this)
      refine SC.wp_seq (SC.wp_reg (ops_mv (oNo rfl (opw_cmp (op:=.geq) (k:=.i16) (m:=X.ver) (n:=h.from_) (r:=decide (X.ver ≥ h.from_)) ?_ rfl (by simp) (ops_mv ?_)))))
      · rw [eTm,gTp (by omega),hcv]
        exact hver
      generalize ha1:(((a.put (some t) (getT a X.c.ver)).put (some (t+1)) (.bool (decide (X.ver ≥ h.from_)))).put (some (t+2)) (getT ((a.put (some t) (getT a X.c.ver)).put (some (t+1)) (.bool (decide (X.ver ≥ h.from_)))) (t+1)))=a1
      have s1:a1.tmps.size=X.N:=by rw [← ha1];simp only [sPu];exact hsz
      have d1:a1.defers=a.defers:=by rw [← ha1];simp [dPu]
      have g1:∀ s,s < t→getT a1 s=getT a s:=fun s hs=>by rw [← ha1,gTn (by omega),gTn (by omega),gTn (by omega)]
      have v1:getT a1 (t+2)=.bool (decide (X.ver ≥ h.from_)):=by rw [← ha1,gTp (by simp only [sPu];omega),gTp (by rw [sPu];omega)]
      by_cases hge:h.from_≤X.ver
      · have hd:decide (X.ver ≥ h.from_)=true:=by simpa using hge
        unfold opsw
        refine ⟨t+2,true,rfl,by omega,.inl (by rw [v1,hd]),?_⟩
        rw [if_pos rfl]
        refine opw_move ?_
        unfold opsw
        refine ⟨t+2,true,rfl,by rw [sPu];omega,.inl (by rw [gTn (by omega),v1,hd]),?_⟩
        rw [if_pos rfl]
        refine opw_cmp (op:=.leq) (k:=.i16) (m:=X.ver) (n:=h.to) (r:=decide (X.ver≤h.to)) ?_ rfl (by simp) ?_
        · rw [eTm,gTp (by omega),eTm,hcv,g1 8 (by omega)]
          exact hver
        refine oNo rfl (opw_pick (b:=true) ?_ (oNi ?_))
        · rw [eTm,gTn (by omega),gTn (by omega),v1,hd]
        rw [if_pos rfl]
        refine fin _ (by simp only [sPu];exact s1) (by simp only [dPu];exact d1) (fun s hs=>by rw [gTn (by omega),gTn (by omega),gTn (by omega)];exact g1 s hs) ?_
        rw [gTp (by simp only [sPu];omega),eTm,gTp (by rw [sPu];omega),hh]
        simp [hge]
      · have hd:decide (X.ver ≥ h.from_)=false:=by simpa using hge
        unfold opsw
        refine ⟨t+2,false,rfl,by omega,.inl (by rw [v1,hd]),?_⟩
        rw [if_neg (by simp)]
        unfold opsw
        refine ⟨t+2,false,rfl,by rw [sPu];omega,.inl (by rw [gTn (by omega),v1,hd]),?_⟩
        rw [if_neg (by simp)]
        refine oNo rfl (opw_pick (b:=false) ?_ (oNi ?_))
        · rw [eTm,gTn (by omega),gTn (by omega),v1,hd]
        rw [if_neg (by simp)]
        refine fin _ (by simp only [sPu];exact s1) (by simp only [dPu];exact d1) (fun s hs=>by rw [gTn (by omega),gTn (by omega),gTn (by omega)];exact g1 s hs) ?_
        rw [gTp (by simp only [sPu];omega),eCo,hh]
        simp [hge]
theorem fsOK_cons (hX:X.ok) {h:Hd} {ty:Ty} {r:Fs} (hV:ValOK X ty) (hF:FsOK X r):FsOK X (.cons h ty r):=by
  intro S p v t bk b o lo n O a w st Q rest hok hlay hdef hi hp ho hrow hfr hpv hv hvT ht htN hQ hR
  simp only [okRFs,Bool.and_eq_true,Bool.or_eq_true,decide_eq_true_eq] at hok
  obtain ⟨⟨⟨hS,hnul⟩,hval⟩,hrest⟩:=hok
  have hlay0:=hlay
  simp only [layFs,Bool.and_eq_true,decide_eq_true_eq] at hlay
  obtain ⟨⟨⟨l1,l2⟩,l3⟩,l4⟩:=hlay
  simp only [DefFs] at hdef
  simp only [FrFs] at hfr
  simp only [rVs] at hvT
  simp only [rFT] at htN
  simp only [rFs,List.cons_append,wpL]
  refine rvCond_ok hX hi ht (by omega) fun a1 hi1 hs1=>?_
  by_cases hh:h.has X.ver=true
  · rw [if_pos hh]
    have hver:h.null < 0∨h.null≤X.ver:=by
      rcases hnul with e | e
      · exact .inl e
      · right
        have:h.from_≤X.ver:=by
          simp only [Hd.has,Bool.and_eq_true,decide_eq_true_eq] at hh
          exact hh.1
        omega
    have hnat:nulAt X.ver h ty=nuOf h:=by
      unfold nuOf
      rcases hver with e | e
      · cases ty <;> simp [nulAt,show ¬ (0≤h.null) by omega]
      · cases ty <;> simp [nulAt,e]
    have hpf:pFs X.ver X.flex (.cons h ty r)=rThen (pTy X.ver X.flex ty (nuOf h)) fun x=>rThen (pFs X.ver X.flex r) fun xs=>rOk (x :: xs):=by
      simp only [pFs]
      rw [if_pos hh,hnat]
    refine hV S p h v (t+vTmps h) bk b o O a1 w st _ hval l3 hdef.1 hS hver hi1 ((hs1 p (by omega)).trans hp) ho (hrow.mono (by omega)) hfr.1 hpv hv (by omega) (by omega) (by omega) ?_ ?_
    · intro a2 w2 hi2 hs2 hf2 hv2
      have hs12:RSame X a a2 v t:=fun s hs=>(hs2 s (by omega)).trans (hs1 s (by omega))
      refine hF S p (v+rV h ty) _ _ b o (h.off+szTy (nuOf h) ty) n O a2 w2 _ Q rest hrest l4 hdef.2 hi2 ((hs12 p (.inl hpv)).trans hp) (ho.mono hf2.size) (hf2.rowAt hrow) ?_ (by omega) (by omega) (by omega) (by omega) (by omega) ?_ ?_
      · exact frFs_frame r _ n o l4 (fun j h1 h2=>hf2.cell hrow (by omega)) hfr.2
      · intro a3 w3 hi3 hs3 hf3 hv3
        have hle:h.off+szTy (nuOf h) ty≤n:=l2
        refine hQ a3 w3 ?_ (hs12.trans hs3 (by omega) (by omega)) ((hf2.mono (by omega) (by omega)).trans (hf3.mono (by omega) (Nat.le_refl _))) ?_
        · rw [hpf]
          have e:after st (rThen (pTy X.ver X.flex ty (nuOf h)) fun x=>rThen (pFs X.ver X.flex r) fun xs=>rOk (x :: xs))=after (after st (pTy X.ver X.flex ty (nuOf h))) (pFs X.ver X.flex r):=by
            cases st with
            | none=>rfl
            | some bb =>
              cases hp1:pTy X.ver X.flex ty (nuOf h) bb with
              | none=>simp [after,rThen,hp1]
              | some z =>
                rw [after_then _ _ _ rfl hp1,after_ok hp1]
                cases hp2:pFs X.ver X.flex r z.2 with
                | none=>simp [after,rThen,hp2]
                | some y=>rw [after_then _ _ _ rfl hp2,after_ok hp2];exact after_rOk _ _
          rw [e]
          exact hi3
        · intro bb xs rr hst hpx hfit
          rw [hpf] at hpx
          obtain ⟨x,r1,q1,q2⟩:=rThen_some hpx
          obtain ⟨ys,r2,q3,q4⟩:=rThen_some q2
          obtain ⟨rfl,rfl⟩:=rOk_some q4
          simp only [FitFs,List.headD_cons,List.tail_cons] at hfit
          simp only [HFs,List.headD_cons,List.tail_cons]
          have hst2:after st (pTy X.ver X.flex ty (nuOf h))=some r1:=by rw [hst];exact after_ok q1
          refine ⟨fun _=>?_,hv3 r1 ys _ hst2 q3 hfit.2⟩
          have:=hv2 bb x r1 hst q1 (hfit.1 hh)
          exact hTy_frame (hf3.fo (ho.mono hf2.size)) X.ver X.flex ty _ b (o+h.off) x l3 (fun j h1 h2=>hf3.cell (hf2.rowAt hrow) (by unfold nuOf at *;omega)) this
      · intro a' w' h1 h2 h3 h4
        refine hR a' w' h1 h2 h3 ?_
        rw [hpf]
        cases st with
        | none=>rfl
        | some bb =>
          cases hp1:pTy X.ver X.flex ty (nuOf h) bb with
          | none=>simp [after,rThen,hp1]
          | some z =>
            rw [after_ok hp1] at h4
            rw [after_then _ _ _ rfl hp1]
            exact after_then_none h4
    · intro a' w' h1 h2 h3 h4
      refine hR a' w' h1 h2 h3 ?_
      rw [hpf]
      exact after_then_none h4
  · rw [if_neg hh]
    have hpf:pFs X.ver X.flex (.cons h ty r)=rThen (rOk Tree.zero) fun x=>rThen (pFs X.ver X.flex r) fun xs=>rOk (x :: xs):=by
      simp only [pFs]
      rw [if_neg hh]
    have e:after st (pFs X.ver X.flex (.cons h ty r))=after st (pFs X.ver X.flex r):=by
      rw [hpf]
      cases st with
      | none=>rfl
      | some bb =>
        rw [after_then (x:=Tree.zero) (r:=bb) _ _ _ rfl rfl]
        cases hp2:pFs X.ver X.flex r bb with
        | none=>simp [after,rThen,hp2]
        | some y=>rw [after_then _ _ _ rfl hp2,after_ok hp2];exact after_rOk _ _
    simp only [Exit.then]
    refine hF S p (v+rV h ty) _ _ b o (h.off+szTy (nuOf h) ty) n O a1 w st Q rest hrest l4 hdef.2 hi1 ((hs1 p (by omega)).trans hp) ho hrow hfr.2 (by omega) (by omega) (by omega) (by omega) (by omega) ?_ ?_
    · intro a3 w3 hi3 hs3 hf3 hv3
      refine hQ a3 w3 (by rw [e];exact hi3) (RSame.trans (fun s hs=>hs1 s (by omega)) hs3 (by omega) (by omega)) (hf3.mono (by omega) (Nat.le_refl _)) ?_
      intro bb xs rr hst hpx hfit
      rw [hpf] at hpx
      obtain ⟨x,r1,q1,q2⟩:=rThen_some hpx
      obtain ⟨rfl,rfl⟩:=rOk_some q1
      obtain ⟨ys,r2,q3,q4⟩:=rThen_some q2
      obtain ⟨rfl,rfl⟩:=rOk_some q4
      simp only [FitFs,List.headD_cons,List.tail_cons] at hfit
      simp only [HFs,List.headD_cons,List.tail_cons]
      exact ⟨fun h=>absurd h hh,hv3 bb ys _ hst q3 hfit.2⟩
    · intro a' w' h1 h2 h3 h4
      exact hR a' w' h1 h2 h3 (by rw [e];exact h4)
end
end Go.Proofs.YtecdefhecaeclaaDoor.K
