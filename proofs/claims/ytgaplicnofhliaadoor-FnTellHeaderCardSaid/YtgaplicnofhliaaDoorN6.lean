/- Generic texts: R5 R6 R7 R8 R9 R10. No condition. -/
import Derived.Test.YtgaplicnofhliaaDoorN5
namespace Go.Proofs.YtgaplicnofhliaaDoor.K
open Go Go.RowKit Go.Proofs.YtgaplicnofhliaaDoor.T
set_option linter.unusedVariables false
set_option linter.unusedSimpArgs false
section
variable {X:RX} {a a':Act} {w w':World} {st:Option Bytes} {Q:Exit→Act→World→Prop}
theorem RInv.only {st':Option Bytes} (hX:X.ok) (h:RInv X a w st) (ho:Only X.rb w w') (hr:RdAt X.TR w' X.S X.rb st'):RInv X a w' st' :=
  ⟨h.size,h.defers,h.uns,h.rd,h.ver,h.flex,hr,fun sb hsb=>⟨(h.src sb hsb).1,Nat.lt_of_lt_of_le (h.src sb hsb).2 ho.size⟩,h.below.trans (ho.below hX.hB h.heap),Nat.le_trans h.heap ho.size⟩
theorem rGet_ok {α:Type} {f v t:Nat} {p:Rd α} {ty:Value→Prop} {ok:World→(Nat→Prop)→α→Value→Prop} (hX:X.ok) (hf:RC X.P X.TR X.gb f p ty ok) (hi:RInv X a w st) (hv:10≤v) (hvN:v < X.N) (ht:10≤t) (htN:t < X.N)
    (hQ:∀ a' w' y,RInv X a' w' (after st p)→getT a' v=y→(∀ s,s ≠ v→s ≠ t→getT a' s=getT a s)→Only X.rb w w'→ty y→(∀ b x r,st=some b→p b=some (x,r)→ok w' (NewF X.S w w') x y)→Q .normal a' w') :
    (rGet f v t).wp X.P Q a w:=by
  have hsz:=hi.size
  refine SC.wp_reg (ops_cal hf.1 (R:=fun e w'=>∃ y,e=.returned y∧RdAt X.TR w' X.S X.rb (after st p)∧Only X.rb w w'∧ty y∧∀ b x r,st=some b→p b=some (x,r)→ok w' (NewF X.S w w') x y) ?_ ?_)
  · have:=hf.2 w X.S X.rb st (Nat.lt_of_lt_of_le hX.hgb hi.heap) hi.at_ hi.src
    rw [show (([7].map (getT a)).toArray:Array Value)=#[.pointer (some ⟨X.rb,0,none⟩)] by simp [hi.rd]]
    exact this
  · rintro e w' ⟨y,rfl,h1,h2,h3,h4⟩
    refine ⟨y,rfl,ops_asg (oNi ?_)⟩
    refine hQ _ w' y ((hi.only hX h2 h1).act (by simp [sPu]) (by simp [dPu]) fun s hs=>?_) ?_ ?_ h2 h3 h4
    · rw [gTn (by omega),gTn (by omega)]
    · rw [gTp (by rw [sPu];omega),gTp (by omega)]
    · intro s h1 h2
      rw [gTn h1,gTn h2]
theorem rStore_ok {p x t S f T b o off:Nat} {y:Value} {cs:Array Value} {E:TypeId} (hX:X.ok) (hi:RInv X a w st) (hp:getT a p=.pointer (some ⟨b,o,none⟩)) (hx:getT a x=y) (hy:y.oneCell'=true) (hpt:p < t) (hxt:x < t) (ht:10≤t) (htN:t+4≤X.N)
    (hS:fieldB X.P S f off=true) (hT:oneB X.P T=true) (hrow:w.heap[b]?=some (.cells cs E (0,0))) (hlt:o+off < cs.size) (hb:b ≠ X.rb) (hbS:X.S ≠ some b) (hB:X.B≤b)
    (hQ:∀ a',RInv X a' (w.setRow b (cs.setIfInBounds (o+off) y)) st→(∀ s,s < t→getT a' s=getT a s)→Q .normal a' (w.setRow b (cs.setIfInBounds (o+off) y))) :
    (rStore p x t S f T).wp X.P Q a w:=by
  have hsz:=hi.size
  refine SC.wp_reg (ops_mv (ops_mv (ops_nilc (ad:=⟨b,o,none⟩) ?_ (ops_fa hS (b:=b) (o:=o) ?_ (oNo rfl (opw_store_one (ad:=⟨b,o+off,none⟩) (v:=y) (v0:=cs[o+off]) hT ?_ ?_ hy ?_ ?_ (oNi ?_)))))))
  · rw [gTn (by omega),gTp (by omega)]
    exact hp
  · rw [gTp (by simp only [sPu];omega)]
  · rw [eTm,gTp (by simp only [sPu];omega)]
  · rw [eTm,gTn (by omega),gTn (by omega),gTp (by simp only [sPu];omega),gTn (by omega)]
    exact hx
  · rw [cell_of_row _ _ _ _ _ _ hrow]
    exact Array.getElem?_eq_getElem hlt
  · simp [World.frozen?,hrow]
  · rw [pNo,setCell_eq_setRow _ _ _ _ _ _ _ hrow]
    refine hQ _ ((hi.setRow hb hbS hB _).act (by simp [sPu]) (by simp [dPu]) fun s hs=>?_) fun s hs=>?_
    · rw [gTn (by omega),gTn (by omega),gTn (by omega),gTn (by omega)]
    · rw [gTn (by omega),gTn (by omega),gTn (by omega),gTn (by omega)]
theorem cset_ok {v:Nat} {x:Value} (hi:RInv X a w st) (hv:10≤v) (hvN:v < X.N) (hQ:∀ a',RInv X a' w st→getT a' v=x→(∀ s,s ≠ v→getT a' s=getT a s)→Q .normal a' w):(cset v x).wp X.P Q a w:=by
  have hsz:=hi.size
  refine SC.wp_reg (oNo rfl (opw_assign (oNi ?_)))
  rw [eCo]
  refine hQ _ (hi.act (by simp [sPu]) (by simp [dPu]) fun s hs=>?_) ?_ ?_
  · rw [gTn (by omega)]
  · rw [gTp (by omega)]
  · intro s h1
    rw [gTn h1]
theorem mvCond_ok {x t:Nat} {b:Bool} {y z:SC} (hi:RInv X a w st) (ht:10≤t) (htN:t < X.N) (hx:getT a x=.bool b)
    (hQ:∀ a',RInv X a' w st→(∀ s,s ≠ t→getT a' s=getT a s)→(if b then y else z).wp X.P Q a' w):(SC.seq (.reg [mv t x]) (.cond (.tmp t) y z)).wp X.P Q a w:=by
  have hsz:=hi.size
  refine SC.wp_seq (SC.wp_reg (ops_mv (oNi ?_)))
  refine SC.wp_cond (t:=b) (by rw [eTm,gTp (by omega)];exact hx) ?_
  refine hQ _ (hi.act (by simp [sPu]) (by simp [dPu]) fun s hs=>?_) fun s h1=>?_
  · rw [gTn (by omega)]
  · rw [gTn h1]
def okRP (I:RIds) (c:Ctx) (nul:Bool) (k:PK):Bool :=
  match k with
  | .str=>if nul then (c.never || I.rCNStr != 0) && I.rNStr != 0 else (c.never || I.rCStr != 0) && I.rStr != 0
  | .bytes=>if nul then c.never && I.rNBytes != 0 else (c.never || I.rCBytes != 0) && I.rBytes != 0
  | .uuid=>!nul && I.rUuid != 0
  | k=>!nul && rNum I k != 0
theorem rPrim_ok {k:PK} {nul:Bool} {v t:Nat} {rest:SC} (hX:X.ok) (hk:k ≠ .uuid) (hok:okRP X.I X.c nul k=true) (hi:RInv X a w st) (hv:10≤v) (hvT:v < X.T0) (ht:X.T0≤t) (htN:t+rPrimT X.c nul k≤X.N)
    (hQ:∀ a' w' y,RInv X a' w' (after st (pPrim X.flex nul k))→getT a' v=y→(∀ s,s ≠ v→s < t→getT a' s=getT a s)→Only X.rb w w'→tyP nul k y →
      (∀ b x r,st=some b→pPrim X.flex nul k b=some (x,r)→okP nul k w' (NewF X.S w w') x y)→rest.wp X.P Q a' w'):(rPrim X.I X.c nul k v t rest).wp X.P Q a w:=by
  have hten:=hX.ten
  have kr:=hX.kr
  have get:∀ {f:Nat} {p:Rd Tree} (a1:Act) (t':Nat) (Q':Exit→Act→World→Prop),p=pPrim X.flex nul k→RC X.P X.TR X.gb f p (tyP nul k) (okP nul k)→RInv X a1 w st→(∀ s,s ≠ v→s < t→getT a1 s=getT a s)→t≤t'→t' < X.N →
      (∀ a' w',rest.wp X.P Q a' w'→Q' .normal a' w')→(rGet f v t').wp X.P Q' a1 w:=by
    intro f p a1 t' Q' hp hf hi1 hs1 ht1 ht2 hQ'
    subst hp
    refine rGet_ok hX hf hi1 hv (by omega) (by omega) ht2 fun a' w' y h1 h2 h3 h4 h5 h6=>hQ' _ _ (hQ a' w' y h1 h2 (fun s hs1' hs2=>?_) h4 h5 h6)
    rw [h3 s hs1' (by omega)]
    exact hs1 s hs1' hs2
  have flex9:X.c.never=false→∀ a1,(∀ s,s ≠ v→s < t→getT a1 s=getT a s)→getT a1 9=.bool X.flex:=fun hn a1 h=>(h 9 (by omega) (by omega)).trans (hi.flex hn)
  have uns2:∀ a1,(∀ s,s ≠ v→s < t→getT a1 s=getT a s)→getT a1 2=.bool false:=fun a1 h=>(h 2 (by omega) (by omega)).trans hi.uns
  unfold rPrim
  unfold rPrimT at htN
  by_cases hs:k=.str
  · subst hs
    rw [if_pos rfl] at htN ⊢
    unfold rTextT at htN
    refine SC.wp_seq (cset_ok hi hv (by omega) fun a1 hi1 _ hs1=>?_)
    have hs1':∀ s,s ≠ v→s < t→getT a1 s=getT a s:=fun s h1 _=>hs1 s h1
    refine SC.wp_seq ?_
    unfold rText okRP at *
    cases hn:X.c.never with
    | true =>
      have hfl:=hX.never hn
      simp only [hn,if_true] at htN hok ⊢
      cases nul with
      | true =>
        simp only [if_true,Bool.true_or,Bool.true_and,bne_iff_ne,ne_eq] at hok ⊢
        refine mvCond_ok hi1 (by omega) (by omega) (uns2 a1 hs1') fun a2 hi2 hs2=>?_
        rw [if_neg (by simp)]
        exact get a2 (t+2) _ (by rw [hfl]) (kr.nstr hok) hi2 (fun s h1 h2=>(hs2 s (by omega)).trans (hs1' s h1 h2)) (by omega) (by omega) fun _ _ h=>h
      | false =>
        simp only [Bool.false_eq_true,if_false,Bool.true_or,Bool.true_and,bne_iff_ne,ne_eq] at hok ⊢
        refine mvCond_ok hi1 (by omega) (by omega) (uns2 a1 hs1') fun a2 hi2 hs2=>?_
        rw [if_neg (by simp)]
        exact get a2 (t+2) _ (by rw [hfl]) (kr.str hok) hi2 (fun s h1 h2=>(hs2 s (by omega)).trans (hs1' s h1 h2)) (by omega) (by omega) fun _ _ h=>h
    | false =>
      simp only [hn,Bool.false_eq_true,if_false,Bool.false_or,Bool.and_eq_true,bne_iff_ne,ne_eq] at htN hok ⊢
      cases nul with
      | true =>
        simp only [if_true,Bool.and_eq_true,bne_iff_ne,ne_eq] at hok ⊢
        refine mvCond_ok hi1 (by omega) (by omega) (flex9 hn a1 hs1') fun a2 hi2 hs2=>?_
        have hs2':∀ s,s ≠ v→s < t→getT a2 s=getT a s:=fun s h1 h2=>(hs2 s (by omega)).trans (hs1' s h1 h2)
        cases hfl:X.flex with
        | true =>
          rw [if_pos rfl]
          refine mvCond_ok hi2 (by omega) (by omega) (uns2 a2 hs2') fun a3 hi3 hs3=>?_
          rw [if_neg (by simp)]
          exact get a3 (t+3) _ (by rw [hfl]) (kr.cnstr hok.1) hi3 (fun s h1 h2=>(hs3 s (by omega)).trans (hs2' s h1 h2)) (by omega) (by omega) fun _ _ h=>h
        | false =>
          rw [if_neg (by simp)]
          refine mvCond_ok hi2 (by omega) (by omega) (uns2 a2 hs2') fun a3 hi3 hs3=>?_
          rw [if_neg (by simp)]
          exact get a3 (t+6) _ (by rw [hfl]) (kr.nstr hok.2) hi3 (fun s h1 h2=>(hs3 s (by omega)).trans (hs2' s h1 h2)) (by omega) (by omega) fun _ _ h=>h
      | false =>
        simp only [Bool.false_eq_true,if_false,Bool.and_eq_true,bne_iff_ne,ne_eq] at hok ⊢
        refine mvCond_ok hi1 (by omega) (by omega) (uns2 a1 hs1') fun a2 hi2 hs2=>?_
        have hs2':∀ s,s ≠ v→s < t→getT a2 s=getT a s:=fun s h1 h2=>(hs2 s (by omega)).trans (hs1' s h1 h2)
        rw [if_neg (by simp)]
        refine mvCond_ok hi2 (by omega) (by omega) (flex9 hn a2 hs2') fun a3 hi3 hs3=>?_
        cases hfl:X.flex with
        | true =>
          rw [if_pos rfl]
          exact get a3 (t+5) _ (by rw [hfl]) (kr.cstr hok.1) hi3 (fun s h1 h2=>(hs3 s (by omega)).trans (hs2' s h1 h2)) (by omega) (by omega) fun _ _ h=>h
        | false =>
          rw [if_neg (by simp)]
          exact get a3 (t+6) _ (by rw [hfl]) (kr.str hok.2) hi3 (fun s h1 h2=>(hs3 s (by omega)).trans (hs2' s h1 h2)) (by omega) (by omega) fun _ _ h=>h
  · rw [if_neg hs] at htN ⊢
    by_cases hb:k=.bytes∧X.c.never=false
    · obtain ⟨rfl,hn⟩:=hb
      rw [if_pos ⟨rfl,hn⟩] at htN ⊢
      unfold okRP at hok
      rw [hn] at hok
      cases nul with
      | true=>simp at hok
      | false =>
        simp only [Bool.false_eq_true,if_false,Bool.false_or,Bool.and_eq_true,bne_iff_ne,ne_eq] at hok
        refine SC.wp_seq (cset_ok hi hv (by omega) fun a1 hi1 _ hs1=>?_)
        have hs1':∀ s,s ≠ v→s < t→getT a1 s=getT a s:=fun s h1 _=>hs1 s h1
        refine SC.wp_seq ?_
        refine mvCond_ok hi1 (by omega) (by omega) (flex9 hn a1 hs1') fun a2 hi2 hs2=>?_
        have hs2':∀ s,s ≠ v→s < t→getT a2 s=getT a s:=fun s h1 h2=>(hs2 s (by omega)).trans (hs1' s h1 h2)
        cases hfl:X.flex with
        | true =>
          rw [if_pos rfl]
          exact get a2 (t+1) _ (by rw [hfl]) (kr.cbytes hok.1) hi2 hs2' (by omega) (by omega) fun _ _ h=>h
        | false =>
          rw [if_neg (by simp)]
          exact get a2 (t+2) _ (by rw [hfl]) (kr.bytes hok.2) hi2 hs2' (by omega) (by omega) fun _ _ h=>h
    · rw [if_neg hb] at htN ⊢
      by_cases hb2:k=.bytes∧nul=false
      · obtain ⟨rfl,rfl⟩:=hb2
        rw [if_pos ⟨rfl,rfl⟩]
        have hn:X.c.never=true:=by simpa using hb
        have hfl:=hX.never hn
        unfold okRP at hok
        simp only [hn,Bool.false_eq_true,if_false,Bool.true_or,Bool.true_and,bne_iff_ne,ne_eq] at hok
        exact SC.wp_seq (get a t _ (by rw [hfl]) (kr.bytes hok) hi (fun _ _ _=>rfl) (by omega) (by omega) fun _ _ h=>h)
      · rw [if_neg hb2]
        refine SC.wp_seq ?_
        have hnum:RC X.P X.TR X.gb (rNum X.I k) (pPrim X.flex nul k) (tyP nul k) (okP nul k):=by
          unfold okRP at hok
          cases k <;> simp only [Bool.and_eq_true,bne_iff_ne,ne_eq,Bool.not_eq_true'] at hok
          case str=>exact absurd rfl hs
          case uuid=>exact absurd rfl hk
          case bytes =>
            have hnn:nul=true:=by simpa using hb2
            subst hnn
            have hn:X.c.never=true:=by simpa using hb
            have hfl:=hX.never hn
            simp only [hn,if_true,Bool.true_and,bne_iff_ne,ne_eq] at hok
            rw [hfl]
            exact kr.nbytes hok
          all_goals
            obtain ⟨rfl,h2⟩:=hok
            exact kr.num _ rfl h2
        exact get a t _ rfl hnum hi (fun _ _ _=>rfl) (by omega) (by omega) fun _ _ h=>h
end
end Go.Proofs.YtgaplicnofhliaaDoor.K
namespace Go.Proofs.YtgaplicnofhliaaDoor.K
open Go Go.RowKit Go.Proofs.YtgaplicnofhliaaDoor.T
set_option linter.unusedVariables false
set_option linter.unusedSimpArgs false
def zOK (P:Program) (E size:Nat) (chk:(Nat→Option Value)→Bool):Bool :=
  match P.info? E with
  | some i=>match i.zero with
    | some z=>z.cells.size == size && i.size == size && decide (0 < size) && decide (i.bytes≤131072) && chk (fun j=>z.cells[j]?)
    | none=>false
  | none=>false
theorem zOK_of {P:Program} {E size:Nat} {chk:(Nat→Option Value)→Bool} (h:zOK P E size chk=true) :
    ∃ i z,P.info? E=some i∧i.zero=some z∧z.cells.size=size∧i.size=size∧0 < size∧i.bytes≤131072∧chk (fun j=>z.cells[j]?)=true:=by
  unfold zOK at h
  split at h <;> try (simp at h;done)
  rename_i i hi
  split at h <;> try (simp at h;done)
  rename_i z hz
  simp only [Bool.and_eq_true,beq_iff_eq,decide_eq_true_eq] at h
  obtain ⟨⟨⟨⟨h1,h2⟩,h3⟩,h4⟩,h5⟩:=h
  exact ⟨i,z,hi,hz,h1,h2,h3,h4,h5⟩
def okRTags (P:Program) (I:RIds) (c:Ctx) (S:Nat):Option (Nat × Nat)→Bool
  | none=>c.never
  | some (f,off)=>!c.never && fieldB P S f off && aggB P I.tTags 1 && I.rTags != 0
mutual
def okRElem (P:Program) (I:RIds) (c:Ctx) (T E size:Nat):Ty→Bool
  | .prim k=>if k=.uuid then size == 16 && arrB P E 16 && I.rUuid != 0 && zOK P E size (fun _=>true) else size == 1 && oneB P E && okRP I c false k && zOK P E size (fun _=>true)
  | .list _ _ _ _=>false
  | .struct S sz _ tags fs=>sz == size && zOK P E size (fun g=>frFsB g fs 0) && okRTags P I c S tags && okRFs P I c S fs
def okRVal (P:Program) (I:RIds) (c:Ctx) (h:Hd):Ty→Bool
  | .prim k =>
    if k=.uuid then !h.enum && !nuOf h && arrB P h.typ 16 && I.rUuid != 0
    else if h.enum then k == .i8 && !nuOf h && oneB P h.typ && I.rI8 != 0
    else oneB P h.typ && okRP I c (nuOf h) k
  | .list T E size of=>!h.enum && oneB P T && sliceB P T E size && (c.never || I.rCArr != 0) && I.rArr != 0 && I.rOk != 0 && (intK P I.tI32 == some .i32) && okRElem P I c T E size of
  | .struct S size _ tags fs=>!h.enum && (!nuOf h || (oneB P h.typ && I.rI8 != 0 && I.rOk != 0 && zOK P S size (fun g=>frFsB g fs 0))) && okRTags P I c S tags && okRFs P I c S fs
def okRFs (P:Program) (I:RIds) (c:Ctx) (S:Nat):Fs→Bool
  | .nil=>true
  | .cons h ty r=>fieldB P S h.idx h.off && (decide (h.null < 0) || decide (h.null≤h.from_)) && okRVal P I c h ty && okRFs P I c S r
end
mutual
def DefTy (P:Program):Ty→Prop
  | .prim _=>True
  | .list _ _ _ of=>DefTy P of
  | .struct _ size d _ fs=>(∃ out,DefAt P d size out∧outFs out fs 0=true∧(out.all fun x=>decide (x.1 < size))=true)∧DefFs P fs
def DefFs (P:Program):Fs→Prop
  | .nil=>True
  | .cons _ ty r=>DefTy P ty∧DefFs P r
end
abbrev RetOK (X:RX) (Q:Exit→Act→World→Prop) (C:Prop):Prop:=∀ (a':Act) (w':World),a'.defers=[]→getT a' 6=X.err→Below X.B X.w0 w'→C→Q .ret a' w'
def ValOK (X:RX) (ty:Ty):Prop:=∀ (S p:Nat) (h:Hd) (v t bk b o:Nat) (O:Nat→Prop) (a:Act) (w:World) (st:Option Bytes) (Q:Exit→Act→World→Prop),
  okRVal X.P X.I X.c h ty=true→layTy (nuOf h) ty=true→DefTy X.P ty→fieldB X.P S h.idx h.off=true→(h.null < 0∨h.null≤X.ver) →
  RInv X a w st→getT a p=.pointer (some ⟨b,o,none⟩)→Opn X O b w→RowAt w b (o+h.off) (szTy (nuOf h) ty)→FrTy w b (nuOf h) ty (o+h.off) →
  p < v→10≤v→v+rV h ty≤X.T0→X.T0≤t→t+rVT X.c h ty≤X.N →
  (∀ a' w',RInv X a' w' (after st (pTy X.ver X.flex ty (nuOf h)))→RSame X a a' v t→Foot X.rb b (o+h.off) (o+h.off+szTy (nuOf h) ty) w w' →
    (∀ r x r',st=some r→pTy X.ver X.flex ty (nuOf h) r=some (x,r')→FitTy X.ver ty x→HTy X.G w' (FO O w') X.ver X.flex ty (nuOf h) b (o+h.off) x)→Q .normal a' w') →
  RetOK X Q (after st (pTy X.ver X.flex ty (nuOf h))=none) →
  (rVal X.I X.c S p h v t bk ty).wp X.P Q a w
def ElemOK (X:RX) (ty:Ty):Prop:=∀ (T E size sa si v t bk bl l cap idx:Nat) (O:Nat→Prop) (a:Act) (w:World) (st:Option Bytes) (Q:Exit→Act→World→Prop),
  okRElem X.P X.I X.c T E size ty=true→sliceB X.P T E size=true→layTy false ty=true→DefTy X.P ty →
  RInv X a w st→getT a sa=.slice (some ⟨bl,0,none⟩) l cap→getT a si=.int .i32 (idx:Int)→idx < l→Opn X O bl w→RowAt w bl (idx * size) size→FrTy w bl false ty (idx * size) →
  sa < v→si < v→10≤v→v+rVE ty≤X.T0→X.T0≤t→t+rET X.c ty≤X.N →
  (∀ a' w',RInv X a' w' (after st (pTy X.ver X.flex ty false))→RSame X a a' v t→Foot X.rb bl (idx * size) (idx * size+size) w w' →
    (∀ r x r',st=some r→pTy X.ver X.flex ty false r=some (x,r')→FitTy X.ver ty x→HTy X.G w' (FO O w') X.ver X.flex ty false bl (idx * size) x)→Q .normal a' w') →
  RetOK X Q (after st (pTy X.ver X.flex ty false)=none) →
  wpL X.P Q (rElem X.I X.c T E sa si v t bk ty) a w
def FsOK (X:RX) (fs:Fs):Prop:=∀ (S p v t bk b o lo n:Nat) (O:Nat→Prop) (a:Act) (w:World) (st:Option Bytes) (Q:Exit→Act→World→Prop) (rest:List SC),
  okRFs X.P X.I X.c S fs=true→layFs lo n fs=true→DefFs X.P fs →
  RInv X a w st→getT a p=.pointer (some ⟨b,o,none⟩)→Opn X O b w→RowAt w b o n→FrFs w b fs o →
  p < v→10≤v→v+rVs fs≤X.T0→X.T0≤t→t+rFT X.c fs≤X.N →
  (∀ a' w',RInv X a' w' (after st (pFs X.ver X.flex fs))→RSame X a a' v t→Foot X.rb b (o+lo) (o+n) w w' →
    (∀ r xs r',st=some r→pFs X.ver X.flex fs r=some (xs,r')→FitFs X.ver fs xs→HFs X.G w' (FO O w') X.ver X.flex fs b o xs)→wpL X.P Q rest a' w') →
  RetOK X Q (after st (pFs X.ver X.flex fs)=none) →
  wpL X.P Q (rFs X.I X.c S p v t bk fs ++ rest) a w
section
variable {X:RX}
theorem hPrim_put {O:Nat→Prop} {b o:Nat} {w w1:World} {cs:Array Value} {E:TypeId} {nul:Bool} {k:PK} {x:Tree} {y:Value} (hk:k ≠ .uuid) (ho:Opn X O b w) (hs:w.heap.size≤w1.heap.size) (hsrc:∀ sb,X.S=some sb→sb < w.heap.size)
    (hrow:w1.heap[b]?=some (.cells cs E (0,0))) (hlt:o < cs.size) (hok:okP nul k w1 (NewF X.S w w1) x y) (hfit:x.s.length≤most):HPrim (w1.setRow b (cs.setIfInBounds o y)) (FO O (w1.setRow b (cs.setIfInBounds o y))) nul b o x k:=by
  unfold HPrim
  rw [if_neg hk]
  refine ⟨y,?_,?_⟩
  · rw [cell_setRow_same _ _ _ _ _ _ _ hrow]
    simp [Array.getElem?_setIfInBounds,hlt]
  · have:=hok hfit
    rw [if_neg hk] at this
    refine pVal_frame (fun k hk=>⟨?_,?_⟩) this
    · have:=newF_fo ho hs hsrc k hk
      exact ⟨by simpa using this.1,this.2⟩
    · refine setRow_other _ _ _ _ fun e=>?_
      have:=(newF_fo ho hs hsrc k hk).2
      exact this (e ▸ ho.ob)
theorem valOK_prim (hX:X.ok) (k:PK):ValOK X (.prim k):=by
  intro S p h v t bk b o O a w st Q hok hlay hdef hS hnull hi hp ho hrow hfr hpv hv hvT ht htN hQ hR
  have hten:=hX.ten
  have hbS:X.S ≠ some b:=fun e=>ho.src b e ho.ob
  unfold rVal
  simp only [rVT,rV] at htN hvT
  simp only [okRVal] at hok
  simp only [szTy] at hrow hQ
  obtain ⟨cs,E,hcs,hlen⟩:=hrow
  by_cases hk:k=.uuid
  · subst hk
    rw [if_pos rfl] at htN hok ⊢
    rw [if_pos rfl] at hlen
    simp only [Bool.and_eq_true,Bool.not_eq_true',bne_iff_ne,ne_eq] at hok
    obtain ⟨⟨⟨hen,hnu⟩,harr⟩,hfn⟩:=hok
    rw [hen] at hvT
    simp only [Bool.false_eq_true,if_false] at hvT
    have hsz:=hi.size
    have hrc:=hX.kr.uuid hfn
    obtain ⟨hagg,i,z,hii,hiz,hzc⟩:=arr_of harr
    refine SC.wp_seq (SC.wp_reg (ops_cal hrc.1 (R:=fun e w'=>∃ y,e=.returned y∧RdAt X.TR w' X.S X.rb (after st (pPrim false false .uuid))∧Only X.rb w w'∧tyP false .uuid y∧∀ b x r,st=some b→pPrim false false .uuid b=some (x,r)→okP false .uuid w' (NewF X.S w w') x y) ?_ ?_))
    · have:=hrc.2 w X.S X.rb st (Nat.lt_of_lt_of_le hX.hgb hi.heap) hi.at_ hi.src
      rw [show (([7].map (getT a)).toArray:Array Value)=#[.pointer (some ⟨X.rb,0,none⟩)] by simp [hi.rd]]
      exact this
    rintro e w1 ⟨y,rfl,hrd,honly,⟨bs,hbs,rfl⟩,hokv⟩
    refine ⟨_,rfl,?_⟩
    have hi1:RInv X a w1 (after st (pPrim false false .uuid)):=hi.only hX honly hrd
    have hl16:(cellsOf bs).length=16:=by rw [cLen];exact hbs
    refine oNo rfl (opw_alloc hii hiz ?_)
    have hnew:=heap_alloc_new w1 (.cells z.cells h.typ)
    refine oNo rfl (opw_store_agg (cs:=cellsOf bs) (cur:=z.cells) (b:=w1.heap.size) (E:=h.typ) (by rw [hl16];exact hagg) ?_ ?_ hnew (by rw [hzc,hl16]) (by intro v hv;simp [cellsOf] at hv;obtain ⟨u,_,rfl⟩:=hv;rfl) (oNi ?_))
    · rw [eTm,gTp (by rw [sPu];omega)]
    · rw [eTm,gTn (by omega),gTp (by omega)]
    rw [pNo]
    simp only [Exit.then]
    have hb1:w.heap.size≤w1.heap.size:=honly.size
    have hbw:b < w.heap.size:=ho.lt b ho.ob
    have hrow1:w1.heap[b]?=some (.cells cs E (0,0)):=by rw [honly.block b hbw ho.ne];exact hcs
    have hne:b ≠ w1.heap.size:=by omega
    generalize hw2:((w1.alloc (.cells z.cells h.typ)).setRow w1.heap.size (cellsOf bs).toArray)=w2
    have hi2:RInv X a w2 (after st (pPrim false false .uuid)):=by
      rw [← hw2]
      refine (hi1.alloc _).setRow (by have:=hi1.at_.lt;omega) (fun e=>?_) (by have:=hi1.heap;omega) _
      have:=(hi1.src _ e).2
      omega
    have hrow2:w2.heap[b]?=some (.cells cs E (0,0)):=by
      rw [← hw2,setRow_other _ _ _ _ hne,Below.heap_alloc _ _ _ (by omega)]
      exact hrow1
    have hval:∀ j v,(cellsOf bs)[j]?=some v→w2.cell? ⟨w1.heap.size,0+j,none⟩=some v:=by
      intro j v hv
      rw [← hw2,cell_setRow_same _ _ _ _ _ _ _ hnew]
      simpa using hv
    have hf2:Foot X.rb b (o+h.off) (o+h.off+16) w w2:=by
      refine (Foot.of_only honly ho.ne).trans ?_
      rw [← hw2]
      exact (foot_alloc _).other (foot_setRow (q:=0) (n:=16) (heap_alloc_new _ _) (by simp [hl16,hzc]) (fun j hj=>by
        rw [Array.getElem?_eq_none (by simp [hl16];omega),Array.getElem?_eq_none (by omega)])) (by omega) (by omega) ho.ne
    generalize ha1:((a.put (some t) (Value.agg (cellsOf bs).toArray)).put (some v) (Value.pointer (some ⟨w1.heap.size,0,none⟩)))=a1
    have hs1:a1.tmps.size=X.N:=by rw [← ha1];simp only [sPu];exact hsz
    have hg1:∀ s,s ≠ v→s ≠ t→getT a1 s=getT a s:=by
      intro s h1 h2
      rw [← ha1,gTn h1,gTn h2]
    have hgv:getT a1 v=.pointer (some ⟨w1.heap.size,0,none⟩):=by rw [← ha1,gTp (by rw [sPu];omega)]
    have hd1:a1.defers=[]:=by rw [← ha1];simp only [dPu];exact hi.defers
    refine SC.wp_reg (ops_mv (oNo rfl (opw_load_agg (cs:=cellsOf bs) (b:=w1.heap.size) (o:=0) (by rw [hl16];exact hagg) ?_ hval (ops_nilc (ad:=⟨b,o,none⟩) ?_ (ops_fa hS (b:=b) (o:=o) ?_ (oNo rfl (opw_store_aggAt (b:=b) (o:=o+h.off) (E:=E) (cur:=cs) (cs:=cellsOf bs) (by rw [hl16];exact hagg) ?_ ?_ hrow2 (by rw [hl16];omega) (by intro v hv;simp [cellsOf] at hv;obtain ⟨u,_,rfl⟩:=hv;rfl) (oNi ?_))))))))
    · rw [eTm,gTn (by omega)]
      exact hgv
    · rw [gTn (by omega),gTp (by omega)]
      rw [hg1 p (by omega) (by omega)]
      exact hp
    · rw [gTp (by simp only [sPu];omega)]
    · rw [eTm,gTp (by simp only [sPu];omega)]
    · rw [eTm,gTn (by omega),gTn (by omega),gTp (by simp only [sPu];omega)]
    rw [pNo]
    have hcl:(cs.toList.take (o+h.off) ++ cellsOf bs ++ cs.toList.drop (o+h.off+(cellsOf bs).length)).length=cs.size:=by
      simp only [List.length_append,List.length_take,List.length_drop,Array.length_toList,hl16]
      omega
    have hget:∀ j,(j < o+h.off∨o+h.off+16≤j)→((cs.toList.take (o+h.off) ++ cellsOf bs ++ cs.toList.drop (o+h.off+(cellsOf bs).length)).toArray)[j]?=cs[j]?:=by
      intro j hj
      rw [List.getElem?_toArray,hl16]
      rcases hj with hj | hj
      · rw [List.append_assoc,List.getElem?_append_left (by simp;omega),List.getElem?_take,if_pos hj,Array.getElem?_toList]
      · rw [List.getElem?_append_right (by simp [hl16];omega),List.getElem?_drop]
        simp only [List.length_append,List.length_take,Array.length_toList,hl16]
        rw [show o+h.off+16+(j - (min (o+h.off) cs.size+16))=j by omega,Array.getElem?_toList]
    refine hQ _ _ ?_ ?_ ?_ ?_
    · refine ((hi2.setRow ho.ne hbS ho.hB _).act (a:=a) ?_ ?_ fun s hs=>?_)
      · simp only [sPu];rw [hs1,hsz]
      · simp only [dPu];rw [hd1,hi.defers]
      · rw [gTn (by omega),gTn (by omega),gTn (by omega),gTn (by omega)]
        exact hg1 s (by omega) (by omega)
    · intro s hs
      rw [gTn (by omega),gTn (by omega),gTn (by omega),gTn (by omega)]
      exact hg1 s (by omega) (by omega)
    · refine hf2.trans (foot_setRow hrow2 (by simpa using hcl) hget)
    · intro r x r' hst hpx hfit
      simp only [HTy,HPrim,if_pos]
      have hkv:=hokv r x r' hst hpx (by simpa [FitTy] using hfit)
      rw [if_pos rfl] at hkv
      simp only [Value.agg.injEq] at hkv
      intro j u hu
      have hj:j < 16:=by
        have:=(List.getElem?_eq_some_iff.1 hu).1
        rw [uuidOf_length] at this
        exact this
      have hcu:(cellsOf bs)[j]?=some (cell u):=by
        have:cellsOf bs=cellsOf (uuidOf x):=by simpa using congrArg Array.toList hkv
        rw [this]
        simp [cellsOf,hu]
      rw [cell_setRow_same _ _ _ _ _ _ _ hrow2]
      have hlt:o+h.off≤cs.size:=by omega
      rw [List.getElem?_toArray,List.append_assoc,List.getElem?_append_right (by simp;omega),List.getElem?_append_left (by simp [hl16];omega)]
      simp only [List.length_take,Array.length_toList]
      rw [show o+h.off+j - min (o+h.off) cs.size=j by omega]
      exact hcu
  · rw [if_neg hk] at htN hok ⊢
    rw [if_neg hk] at hlen
    have key:∀ (a1:Act) (w1:World) (x t':Nat) (y:Value) (st':Option Bytes),RInv X a1 w1 st'→st'=after st (pPrim X.flex (nuOf h) k)→getT a1 p=.pointer (some ⟨b,o,none⟩)→getT a1 x=y→y.oneCell'=true→x < t'→t≤t'→t'+4≤X.N→oneB X.P h.typ=true →
        (∀ s,(s < v∨(X.T0≤s∧s < t))→getT a1 s=getT a s)→Only X.rb w w1→(∀ b x r,st=some b→pPrim X.flex (nuOf h) k b=some (x,r)→okP (nuOf h) k w1 (NewF X.S w w1) x y)→(rStore p x t' S h.idx h.typ).wp X.P Q a1 w1:=by
      intro a1 w1 x t' y st' hi1 hst1 hp1 hx1 hy hxt htt htN' hT hs1 honly hokv
      have hbw:b < w.heap.size:=ho.lt b ho.ob
      have hrow1:w1.heap[b]?=some (.cells cs E (0,0)):=by rw [honly.block b hbw ho.ne];exact hcs
      refine rStore_ok hX hi1 hp1 hx1 hy (by omega) hxt (by omega) htN' hS hT hrow1 (by omega) ho.ne hbS ho.hB fun a2 hi2 hs2=>?_
      refine hQ a2 _ ?_ ?_ ?_ ?_
      · simp only [pTy]
        rw [← hst1]
        exact hi2
      · intro s hs
        rw [hs2 s (by omega)]
        exact hs1 s hs
      · rw [if_neg hk]
        refine (Foot.of_only honly ho.ne).trans (foot_setRow hrow1 (by simp) fun j hj=>?_)
        rw [Array.getElem?_setIfInBounds_ne (by omega)]
      · intro r x r' hst hpx hfit
        simp only [HTy]
        simp only [pTy] at hpx
        exact hPrim_put hk ho honly.size (fun sb hsb=>(hi.src sb hsb).2) hrow1 (by omega) (hokv r x r' hst hpx) (by simpa [FitTy] using hfit)
    by_cases he:h.enum=true
    · rw [if_pos he] at hok htN hvT ⊢
      simp only [Bool.and_eq_true,Bool.not_eq_true',bne_iff_ne,ne_eq,beq_iff_eq] at hok
      obtain ⟨⟨⟨rfl,hnu⟩,hT⟩,hfn⟩:=hok
      refine SC.wp_seq (cset_ok hi (by omega) (by omega) fun a1 hi1 _ hs1=>SC.wp_seq (SC.wp_seq ?_))
      have hrc:=hX.kr.num .i8 rfl hfn
      refine rGet_ok hX hrc hi1 (by omega) (by omega) (by omega) (by omega) fun a2 w2 y hi2 hy2 hs2 honly hty hokv=>?_
      have hsz2:=hi2.size
      simp only [Exit.then]
      refine SC.wp_reg (ops_mv (ops_asg (oNi ?_)))
      simp only [Exit.then]
      generalize ha3:((a2.put (some (t+1)) (getT a2 (v+1))).put (some v) (getT (a2.put (some (t+1)) (getT a2 (v+1))) (t+1)))=a3
      have hs3:a3.tmps.size=X.N:=by rw [← ha3];simp only [sPu];exact hsz2
      have hg3:∀ s,s ≠ v→s ≠ t+1→getT a3 s=getT a2 s:=fun s h1 h2=>by rw [← ha3,gTn h1,gTn h2]
      have hv3:getT a3 v=y:=by rw [← ha3,gTp (by rw [sPu];omega),gTp (by omega)];exact hy2
      have hi3:RInv X a3 w2 (after st (pPrim false false .i8)):=hi2.act (by rw [hs3,hsz2]) (by rw [← ha3];simp [dPu]) fun s hs=>hg3 s (by omega) (by omega)
      refine SC.wp_seq (SC.wp_reg (ops_mv (ops_asg (oNi ?_))))
      simp only [Exit.then]
      generalize ha4:((a3.put (some (t+2)) (getT a3 v)).put (some (v+2)) (getT (a3.put (some (t+2)) (getT a3 v)) (t+2)))=a4
      have hs4:a4.tmps.size=X.N:=by rw [← ha4];simp only [sPu];exact hs3
      have hg4:∀ s,s ≠ v+2→s ≠ t+2→getT a4 s=getT a3 s:=fun s h1 h2=>by rw [← ha4,gTn h1,gTn h2]
      have hv4:getT a4 (v+2)=y:=by rw [← ha4,gTp (by rw [sPu];omega),gTp (by omega)];exact hv3
      have hi4:RInv X a4 w2 (after st (pPrim false false .i8)):=hi3.act (by rw [hs4,hs3]) (by rw [← ha4];simp [dPu]) fun s hs=>hg4 s (by omega) (by omega)
      have hall:∀ s,(s < v∨(X.T0≤s∧s < t))→getT a4 s=getT a s:=fun s hs=>by
        rw [hg4 s (by omega) (by omega),hg3 s (by omega) (by omega),hs2 s (by omega) (by omega),hs1 s (by omega)]
      exact key a4 w2 (v+2) (t+3) y _ hi4 rfl (by rw [hall p (by omega)];exact hp) hv4 (tyP_one (nul:=false) (k:=.i8) (by decide) hty) (by omega) (by omega) (by omega) hT hall honly hokv
    · rw [if_neg he] at hok htN hvT ⊢
      simp only [Bool.and_eq_true] at hok
      refine rPrim_ok hX hk hok.2 hi hv (by omega) ht (by change t+rPrimT X.c (decide (0≤h.null)) k≤X.N;omega) fun a1 w1 y hi1 hy1 hs1 honly hty hokv=>?_
      have hall:∀ s,(s < v∨(X.T0≤s∧s < t))→getT a1 s=getT a s:=fun s hs=>hs1 s (by omega) (by omega)
      exact key a1 w1 v _ y _ hi1 rfl (by rw [hall p (by omega)];exact hp) hy1 (tyP_one hk hty) (by omega) (by omega) (by omega) hok.1 hall honly hokv
end
end Go.Proofs.YtgaplicnofhliaaDoor.K
namespace Go.Proofs.YtgaplicnofhliaaDoor.K
open Go Go.RowKit Go.Proofs.YtgaplicnofhliaaDoor.T
set_option linter.unusedVariables false
set_option linter.unusedSimpArgs false
section
variable {X:RX}
theorem rUuid_ok {E v t b lo hi:Nat} {a:Act} {w:World} {st:Option Bytes} {Q:Exit→Act→World→Prop} (hX:X.ok) (hfn:X.I.rUuid ≠ 0) (harr:arrB X.P E 16=true) (hi_:RInv X a w st) (hv:10≤v) (hvT:v < X.T0) (ht:X.T0≤t) (htN:t < X.N)
    (hb:b < w.heap.size) (hn:b ≠ X.rb)
    (hQ:∀ a1 w2 n1 bs,RInv X a1 w2 (after st (pPrim X.flex false .uuid))→(∀ s,s ≠ v→s ≠ t→getT a1 s=getT a s)→getT a1 v=.pointer (some ⟨n1,0,none⟩)→bs.length=16→(∀ j u,(cellsOf bs)[j]?=some u→w2.cell? ⟨n1,0+j,none⟩=some u) →
      Foot X.rb b lo hi w w2→w2.heap[b]?=w.heap[b]?→(∀ r x r',st=some r→pPrim X.flex false .uuid r=some (x,r')→x.s.length≤most→bs=uuidOf x)→Q .normal a1 w2) :
    (SC.reg [cal t X.I.rUuid [7],⟨some v,.alloc E,none⟩,⟨none,.store E (.tmp v) (.tmp t),none⟩]).wp X.P Q a w:=by
  have hten:=hX.ten
  have hsz:=hi_.size
  have hrc:=hX.kr.uuid hfn
  obtain ⟨hagg,i,z,hii,hiz,hzc⟩:=arr_of harr
  refine SC.wp_reg (ops_cal hrc.1 (R:=fun e w'=>∃ y,e=.returned y∧RdAt X.TR w' X.S X.rb (after st (pPrim false false .uuid))∧Only X.rb w w'∧tyP false .uuid y∧∀ b x r,st=some b→pPrim false false .uuid b=some (x,r)→okP false .uuid w' (NewF X.S w w') x y) ?_ ?_)
  · have:=hrc.2 w X.S X.rb st (Nat.lt_of_lt_of_le hX.hgb hi_.heap) hi_.at_ hi_.src
    rw [show (([7].map (getT a)).toArray:Array Value)=#[.pointer (some ⟨X.rb,0,none⟩)] by simp [hi_.rd]]
    exact this
  rintro e w1 ⟨y,rfl,hrd,honly,⟨bs,hbs,rfl⟩,hokv⟩
  refine ⟨_,rfl,?_⟩
  have hi1:RInv X a w1 (after st (pPrim false false .uuid)):=hi_.only hX honly hrd
  have hl16:(cellsOf bs).length=16:=by rw [cLen];exact hbs
  refine oNo rfl (opw_alloc hii hiz ?_)
  have hnew:=heap_alloc_new w1 (.cells z.cells E)
  refine oNo rfl (opw_store_agg (cs:=cellsOf bs) (cur:=z.cells) (b:=w1.heap.size) (E:=E) (by rw [hl16];exact hagg) ?_ ?_ hnew (by rw [hzc,hl16]) (by intro v hv;simp [cellsOf] at hv;obtain ⟨u,_,rfl⟩:=hv;rfl) (oNi ?_))
  · rw [eTm,gTp (by rw [sPu];omega)]
  · rw [eTm,gTn (by omega),gTp (by omega)]
  rw [pNo]
  have hb1:w.heap.size≤w1.heap.size:=honly.size
  have hne:b ≠ w1.heap.size:=by omega
  refine hQ _ _ w1.heap.size bs (RInv.act (a:=a) ?_ ?_ ?_ ?_) ?_ ?_ hbs ?_ ?_ ?_ ?_
  · refine (hi1.alloc _).setRow (by have:=hi1.at_.lt;omega) (fun e=>?_) (by have:=hi1.heap;omega) _
    have:=(hi1.src _ e).2
    omega
  · simp only [sPu]
  · simp only [dPu]
  · intro s hs
    rw [gTn (by omega),gTn (by omega)]
  · intro s h1 h2
    rw [gTn h1,gTn h2]
  · rw [gTp (by rw [sPu];omega)]
  · intro j u hu
    rw [cell_setRow_same _ _ _ _ _ _ _ hnew]
    simpa using hu
  · refine (Foot.of_only honly hn).trans ?_
    exact (foot_alloc _).other (foot_setRow (q:=0) (n:=16) hnew (by simp [hl16,hzc]) (fun j hj=>by
      rw [Array.getElem?_eq_none (by simp [hl16];omega),Array.getElem?_eq_none (by omega)])) (by omega) (by omega) hn
  · rw [setRow_other _ _ _ _ hne,Below.heap_alloc _ _ _ (by omega),honly.block b hb hn]
  · intro r x r' hst hpx hfit
    have hkv:=hokv r x r' hst hpx hfit
    rw [if_pos rfl] at hkv
    simp only [Value.agg.injEq] at hkv
    have hc:cellsOf bs=cellsOf (uuidOf x):=by simpa using congrArg Array.toList hkv
    have hinj:∀ (l l':Bytes),cellsOf l=cellsOf l'→l=l':=by
      intro l
      induction l with
      | nil=>intro l' h;cases l' with | nil=>rfl | cons y l'=>simp [cellsOf] at h
      | cons y l ih =>
        intro l' h
        cases l' with
        | nil=>simp [cellsOf] at h
        | cons z l' =>
          simp only [cellsOf,List.map_cons,List.cons.injEq] at h
          have h1:y=z:=by
            have:=h.1
            simp only [cell,Value.int.injEq,true_and] at this
            exact UInt8.toNat_inj.1 (by omega)
          rw [h1,ih l' h.2]
    exact hinj _ _ hc
theorem cells16 {q:Nat} {cs:Array Value} {xs:List Value} (hl:xs.length=16) (hq:q+16≤cs.size) :
    ((cs.toList.take q ++ xs ++ cs.toList.drop (q+xs.length)).toArray).size=cs.size∧(∀ j,(j < q∨q+16≤j)→((cs.toList.take q ++ xs ++ cs.toList.drop (q+xs.length)).toArray)[j]?=cs[j]?) ∧
      ∀ j u,xs[j]?=some u→((cs.toList.take q ++ xs ++ cs.toList.drop (q+xs.length)).toArray)[q+j]?=some u:=by
  refine ⟨?_,?_,?_⟩
  · simp only [List.size_toArray,List.length_append,List.length_take,List.length_drop,Array.length_toList,hl]
    omega
  · intro j hj
    rw [List.getElem?_toArray,hl]
    rcases hj with hj | hj
    · rw [List.append_assoc,List.getElem?_append_left (by simp;omega),List.getElem?_take,if_pos hj,Array.getElem?_toList]
    · rw [List.getElem?_append_right (by simp [hl];omega),List.getElem?_drop]
      simp only [List.length_append,List.length_take,Array.length_toList,hl]
      rw [show q+16+(j - (min q cs.size+16))=j by omega,Array.getElem?_toList]
  · intro j u hu
    have hj:j < xs.length:=(List.getElem?_eq_some_iff.1 hu).1
    rw [List.getElem?_toArray,List.append_assoc,List.getElem?_append_right (by simp;omega),List.getElem?_append_left (by simp;omega)]
    simp only [List.length_take,Array.length_toList]
    rw [show q+j - min q cs.size=j by omega]
    exact hu
theorem elemOK_prim (hX:X.ok) (k:PK):ElemOK X (.prim k):=by
  intro T E size sa si v t bk bl l cap idx O a w st Q hok hsl hlay hdef hi ha_ hidx hlt ho hrow hfr hsav hsiv hv hvT ht htN hQ hR
  have hten:=hX.ten
  have hbS:X.S ≠ some bl:=fun e=>ho.src bl e ho.ob
  have hbw:bl < w.heap.size:=ho.lt bl ho.ob
  unfold rElem
  simp only [rET,rVE] at htN hvT
  simp only [okRElem] at hok
  obtain ⟨cs,E',hcs,hlen⟩:=hrow
  by_cases hk:k=.uuid
  · subst hk
    rw [if_pos rfl] at htN hok ⊢
    simp only [Bool.and_eq_true,bne_iff_ne,ne_eq,beq_iff_eq] at hok
    obtain ⟨⟨⟨rfl,harr⟩,hfn⟩,_⟩:=hok
    obtain ⟨hagg,_⟩:=arr_of harr
    have hsz:=hi.size
    refine rUuid_ok (b:=bl) (lo:=idx * 16) (hi:=idx * 16+16) hX hfn harr hi hv (by omega) ht (by omega) hbw ho.ne fun a1 w2 n1 bs hi2 hs1 hv1 hbs hcell hf2 hrow2 hval=>?_
    have hl16:(cellsOf bs).length=16:=by rw [cLen];exact hbs
    have hs2:=hi2.size
    rw [hcs] at hrow2
    simp only [Exit.then,wpL]
    obtain ⟨k1,k2,k3⟩:=cells16 (cs:=cs) (xs:=cellsOf bs) (q:=idx * 16) hl16 (by omega)
    refine SC.wp_reg (ops_mv (ops_mv (oNo rfl (opw_load_agg (cs:=cellsOf bs) (b:=n1) (o:=0) (by rw [hl16];exact hagg) ?_ hcell (oNo rfl (opw_index (E:=E) (n:=16) (b:=bl) (o:=0) (len:=l) (cap:=cap) (j:=idx) (k:=.i32) hsl ?_ ?_ hlt (oNo rfl (opw_store_aggAt (b:=bl) (o:=idx * 16) (E:=E') (cur:=cs) (cs:=cellsOf bs) (by rw [hl16];exact hagg) ?_ ?_ hrow2 (by rw [hl16];omega) (by intro v hv;simp [cellsOf] at hv;obtain ⟨u,_,rfl⟩:=hv;rfl) (oNi ?_)))))))))
    · rw [eTm,gTn (by omega),gTn (by omega)]
      exact hv1
    · rw [eTm,gTn (by omega),gTn (by omega),gTp (by omega),hs1 sa (by omega) (by omega)]
      exact ha_
    · rw [eTm,gTn (by omega),gTp (by rw [sPu];omega),gTn (by omega),hs1 si (by omega) (by omega)]
      exact hidx
    · rw [eTm,gTp (by simp only [sPu];omega),Nat.zero_add]
    · rw [eTm,gTn (by omega),gTp (by simp only [sPu];omega)]
    rw [pNo]
    have hg:∀ s,s ≠ v→s < t→getT ((((a1.put (some (t+1)) (getT a1 sa)).put (some (t+2)) (getT (a1.put (some (t+1)) (getT a1 sa)) si)).put (some (t+3)) (Value.agg (cellsOf bs).toArray)).put (some (t+4)) (Value.pointer (some ⟨bl,0+idx * 16,none⟩))) s=getT a s:=by
      intro s h1 h2
      rw [gTn (by omega),gTn (by omega),gTn (by omega),gTn (by omega)]
      exact hs1 s h1 (by omega)
    refine hQ _ _ ?_ ?_ ?_ ?_
    · refine ((hi2.setRow ho.ne hbS ho.hB _).act (a:=a1) ?_ ?_ fun s hs=>?_)
      · simp only [sPu]
      · simp only [dPu]
      · rw [gTn (by omega),gTn (by omega),gTn (by omega),gTn (by omega)]
    · intro s hs
      exact hg s (by omega) (by omega)
    · exact hf2.trans (foot_setRow hrow2 k1 k2)
    · intro r x r' hst hpx hfit
      simp only [HTy,HPrim,if_pos]
      simp only [pTy] at hpx
      have:=hval r x r' hst hpx (by simpa [FitTy] using hfit)
      subst this
      intro j u hu
      rw [cell_setRow_same _ _ _ _ _ _ _ hrow2]
      exact k3 j _ (by simp [cellsOf,hu])
  · rw [if_neg hk] at htN hok ⊢
    simp only [Bool.and_eq_true,beq_iff_eq] at hok
    obtain ⟨⟨⟨rfl,hT⟩,hrp⟩,_⟩:=hok
    simp only [wpL]
    refine rPrim_ok hX hk hrp hi hv (by omega) ht (by omega) fun a1 w1 y hi1 hy1 hs1 honly hty hokv=>?_
    have hsz:=hi1.size
    have hrow1:w1.heap[bl]?=some (.cells cs E' (0,0)):=by rw [honly.block bl hbw ho.ne];exact hcs
    have hy:=tyP_one hk hty
    have hgt:∀ s,s < v→getT a1 s=getT a s:=fun s hs=>hs1 s (by omega) (by omega)
    generalize hu:t+rPrimT X.c false k=u at htN
    have htu:t≤u:=by omega
    refine SC.wp_reg (ops_mv (ops_mv (ops_mv (oNo rfl (opw_index (E:=E) (n:=1) (b:=bl) (o:=0) (len:=l) (cap:=cap) (j:=idx) (k:=.i32) hsl ?_ ?_ hlt (oNo rfl (opw_store_one (ad:=⟨bl,idx * 1,none⟩) (v:=y) (v0:=cs[idx * 1]'(by omega)) hT ?_ ?_ hy ?_ ?_ (oNi ?_))))))))
    · rw [eTm,gTn (by omega),gTn (by omega),gTp (by omega),hgt sa hsav]
      exact ha_
    · rw [eTm,gTn (by omega),gTp (by rw [sPu];omega),gTn (by omega),hgt si hsiv]
      exact hidx
    · rw [eTm,gTp (by simp only [sPu];omega),Nat.zero_add]
    · rw [eTm,gTn (by omega),gTp (by simp only [sPu];omega),gTn (by omega),gTn (by omega)]
      exact hy1
    · rw [cell_of_row _ _ _ _ _ _ hrow1]
      exact Array.getElem?_eq_getElem _
    · simp [World.frozen?,hrow1]
    rw [pNo,setCell_eq_setRow _ _ _ _ _ _ _ hrow1]
    simp only [Exit.then,wpL]
    refine hQ _ _ ?_ ?_ ?_ ?_
    · refine ((hi1.setRow ho.ne hbS ho.hB _).act (a:=a1) ?_ ?_ fun s hs=>?_)
      · simp only [sPu]
      · simp only [dPu]
      · rw [gTn (by omega),gTn (by omega),gTn (by omega),gTn (by omega)]
    · intro s hs
      rw [gTn (by omega),gTn (by omega),gTn (by omega),gTn (by omega)]
      exact hs1 s (by omega) (by omega)
    · refine (Foot.of_only honly ho.ne).trans (foot_setRow hrow1 (by simp) fun j hj=>?_)
      rw [Array.getElem?_setIfInBounds_ne (by omega)]
    · intro r x r' hst hpx hfit
      simp only [HTy]
      simp only [pTy] at hpx
      exact hPrim_put hk ho honly.size (fun sb hsb=>(hi.src sb hsb).2) hrow1 (by omega) (hokv r x r' hst hpx) (by simpa [FitTy] using hfit)
theorem fsOK_nil:FsOK X .nil:=by
  intro S p v t bk b o lo n O a w st Q rest hok hlay hdef hi hp ho hrow hfr hpv hv hvT ht htN hQ hR
  simp only [rFs,List.nil_append]
  have e:after st (pFs X.ver X.flex .nil)=st:=by simp only [pFs];exact after_rOk _ _
  refine hQ a w (by rw [e];exact hi) (RSame.refl _ _ _ _) (Foot.refl _ _ _ _ _) fun r xs r' _ _ _=>?_
  simp [HFs]
theorem rvCond_ok {h:Hd} {t:Nat} {body:SC} {a:Act} {w:World} {st:Option Bytes} {Q:Exit→Act→World→Prop} (hX:X.ok) (hi:RInv X a w st) (ht:X.T0≤t) (htN:t+vTmps h≤X.N)
    (hQ:∀ a',RInv X a' w st→(∀ s,s < t→getT a' s=getT a s)→(if h.has X.ver then body.wp X.P Q a' w else Q .normal a' w)):(rvCond X.I X.c h t body).wp X.P Q a w:=by
  have hten:=hX.ten
  have hcv:=hX.cver
  unfold rvCond
  by_cases c1:h.from_=0∧h.to < 0
  · rw [if_pos c1]
    have hh:h.has X.ver=true:=by simp [Hd.has,c1.1,c1.2,hX.hver]
    have:=hQ a hi (fun _ _=>rfl)
    rw [if_pos hh] at this
    exact this
  · rw [if_neg c1]
    unfold vTmps at htN
    rw [if_neg c1] at htN
    have hsz:=hi.size
    have hver:=hi.ver
    by_cases c2:h.to < 0
    · rw [if_pos c2] at htN ⊢
      refine SC.wp_seq (SC.wp_reg (ops_mv (oNo rfl (opw_cmp (op:=.geq) (k:=.i16) (m:=X.ver) (n:=h.from_) (r:=decide (X.ver ≥ h.from_)) ?_ rfl (by simp) (oNi ?_)))))
      · rw [eTm,gTp (by omega),hcv]
        exact hver
      refine SC.wp_cond (t:=decide (X.ver ≥ h.from_)) (by rw [eTm,gTp (by rw [sPu];omega)]) ?_
      have hh:h.has X.ver=decide (X.ver ≥ h.from_):=by simp [Hd.has,c2]
      have:=hQ ((a.put (some t) (getT a X.c.ver)).put (some (t+1)) (.bool (decide (X.ver ≥ h.from_)))) (hi.act (by simp [sPu]) (by simp [dPu]) fun s hs=>by rw [gTn (by omega),gTn (by omega)]) fun s hs=>by rw [gTn (by omega),gTn (by omega)]
      rw [hh] at this
      cases hd:decide (X.ver ≥ h.from_) with
      | true=>rw [hd] at this;simpa using this
      | false=>rw [hd] at this;exact SC.wp_skip (by simpa using this)
    · rw [if_neg c2] at htN ⊢
      have hh:h.has X.ver=(decide (h.from_≤X.ver) && decide (X.ver≤h.to)):=by simp [Hd.has,c2]
      have fin:∀ (a':Act),a'.tmps.size=X.N→a'.defers=a.defers→(∀ s,s < t→getT a' s=getT a s)→getT a' (t+5)=.bool (h.has X.ver)→(SC.cond (.tmp (t+5)) body .skip).wp X.P Q a' w:=by
        intro a' h1 h2 h3 h4
        refine SC.wp_cond (t:=h.has X.ver) (by rw [eTm];exact h4) ?_
        have:=hQ a' (hi.act (h1.trans hsz.symm) h2 fun s hs=>h3 s (by omega)) h3
        cases hd:h.has X.ver with
        | true=>rw [hd] at this;simpa using this
        | false=>rw [hd] at this;exact SC.wp_skip (by simpa using this)
      refine SC.wp_seq (SC.wp_reg (ops_mv (oNo rfl (opw_cmp (op:=.geq) (k:=.i16) (m:=X.ver) (n:=h.from_) (r:=decide (X.ver ≥ h.from_)) ?_ rfl (by simp) (ops_mv ?_)))))
      · rw [eTm,gTp (by omega),hcv]
        exact hver
      generalize ha1:(((a.put (some t) (getT a X.c.ver)).put (some (t+1)) (.bool (decide (X.ver ≥ h.from_)))).put (some (t+2)) (getT ((a.put (some t) (getT a X.c.ver)).put (some (t+1)) (.bool (decide (X.ver ≥ h.from_)))) (t+1)))=a1
      have s1:a1.tmps.size=X.N:=by rw [← ha1];simp only [sPu];exact hsz
      have d1:a1.defers=a.defers:=by rw [← ha1];simp [dPu]
      have g1:∀ s,s < t→getT a1 s=getT a s:=fun s hs=>by rw [← ha1,gTn (by omega),gTn (by omega),gTn (by omega)]
      have v1:getT a1 (t+2)=.bool (decide (X.ver ≥ h.from_)):=by rw [← ha1,gTp (by simp only [sPu];omega),gTp (by rw [sPu];omega)]
      by_cases hge:h.from_≤X.ver
      · have hd:decide (X.ver ≥ h.from_)=true:=by simpa using hge
        unfold opsw
        refine ⟨t+2,true,rfl,by omega,.inl (by rw [v1,hd]),?_⟩
        rw [if_pos rfl]
        refine opw_move ?_
        unfold opsw
        refine ⟨t+2,true,rfl,by rw [sPu];omega,.inl (by rw [gTn (by omega),v1,hd]),?_⟩
        rw [if_pos rfl]
        refine opw_cmp (op:=.leq) (k:=.i16) (m:=X.ver) (n:=h.to) (r:=decide (X.ver≤h.to)) ?_ rfl (by simp) ?_
        · rw [eTm,gTp (by omega),eTm,hcv,g1 8 (by omega)]
          exact hver
        refine oNo rfl (opw_pick (b:=true) ?_ (oNi ?_))
        · rw [eTm,gTn (by omega),gTn (by omega),v1,hd]
        rw [if_pos rfl]
        refine fin _ (by simp only [sPu];exact s1) (by simp only [dPu];exact d1) (fun s hs=>by rw [gTn (by omega),gTn (by omega),gTn (by omega)];exact g1 s hs) ?_
        rw [gTp (by simp only [sPu];omega),eTm,gTp (by rw [sPu];omega),hh]
        simp [hge]
      · have hd:decide (X.ver ≥ h.from_)=false:=by simpa using hge
        unfold opsw
        refine ⟨t+2,false,rfl,by omega,.inl (by rw [v1,hd]),?_⟩
        rw [if_neg (by simp)]
        unfold opsw
        refine ⟨t+2,false,rfl,by rw [sPu];omega,.inl (by rw [gTn (by omega),v1,hd]),?_⟩
        rw [if_neg (by simp)]
        refine oNo rfl (opw_pick (b:=false) ?_ (oNi ?_))
        · rw [eTm,gTn (by omega),gTn (by omega),v1,hd]
        rw [if_neg (by simp)]
        refine fin _ (by simp only [sPu];exact s1) (by simp only [dPu];exact d1) (fun s hs=>by rw [gTn (by omega),gTn (by omega),gTn (by omega)];exact g1 s hs) ?_
        rw [gTp (by simp only [sPu];omega),eCo,hh]
        simp [hge]
theorem fsOK_cons (hX:X.ok) {h:Hd} {ty:Ty} {r:Fs} (hV:ValOK X ty) (hF:FsOK X r):FsOK X (.cons h ty r):=by
  intro S p v t bk b o lo n O a w st Q rest hok hlay hdef hi hp ho hrow hfr hpv hv hvT ht htN hQ hR
  simp only [okRFs,Bool.and_eq_true,Bool.or_eq_true,decide_eq_true_eq] at hok
  obtain ⟨⟨⟨hS,hnul⟩,hval⟩,hrest⟩:=hok
  have hlay0:=hlay
  simp only [layFs,Bool.and_eq_true,decide_eq_true_eq] at hlay
  obtain ⟨⟨⟨l1,l2⟩,l3⟩,l4⟩:=hlay
  simp only [DefFs] at hdef
  simp only [FrFs] at hfr
  simp only [rVs] at hvT
  simp only [rFT] at htN
  simp only [rFs,List.cons_append,wpL]
  refine rvCond_ok hX hi ht (by omega) fun a1 hi1 hs1=>?_
  by_cases hh:h.has X.ver=true
  · rw [if_pos hh]
    have hver:h.null < 0∨h.null≤X.ver:=by
      rcases hnul with e | e
      · exact .inl e
      · right
        have:h.from_≤X.ver:=by
          simp only [Hd.has,Bool.and_eq_true,decide_eq_true_eq] at hh
          exact hh.1
        omega
    have hnat:nulAt X.ver h ty=nuOf h:=by
      unfold nuOf
      rcases hver with e | e
      · cases ty <;> simp [nulAt,show ¬ (0≤h.null) by omega]
      · cases ty <;> simp [nulAt,e]
    have hpf:pFs X.ver X.flex (.cons h ty r)=rThen (pTy X.ver X.flex ty (nuOf h)) fun x=>rThen (pFs X.ver X.flex r) fun xs=>rOk (x :: xs):=by
      simp only [pFs]
      rw [if_pos hh,hnat]
    refine hV S p h v (t+vTmps h) bk b o O a1 w st _ hval l3 hdef.1 hS hver hi1 ((hs1 p (by omega)).trans hp) ho (hrow.mono (by omega)) hfr.1 hpv hv (by omega) (by omega) (by omega) ?_ ?_
    · intro a2 w2 hi2 hs2 hf2 hv2
      have hs12:RSame X a a2 v t:=fun s hs=>(hs2 s (by omega)).trans (hs1 s (by omega))
      refine hF S p (v+rV h ty) _ _ b o (h.off+szTy (nuOf h) ty) n O a2 w2 _ Q rest hrest l4 hdef.2 hi2 ((hs12 p (.inl hpv)).trans hp) (ho.mono hf2.size) (hf2.rowAt hrow) ?_ (by omega) (by omega) (by omega) (by omega) (by omega) ?_ ?_
      · exact frFs_frame r _ n o l4 (fun j h1 h2=>hf2.cell hrow (by omega)) hfr.2
      · intro a3 w3 hi3 hs3 hf3 hv3
        have hle:h.off+szTy (nuOf h) ty≤n:=l2
        refine hQ a3 w3 ?_ (hs12.trans hs3 (by omega) (by omega)) ((hf2.mono (by omega) (by omega)).trans (hf3.mono (by omega) (Nat.le_refl _))) ?_
        · rw [hpf]
          have e:after st (rThen (pTy X.ver X.flex ty (nuOf h)) fun x=>rThen (pFs X.ver X.flex r) fun xs=>rOk (x :: xs))=after (after st (pTy X.ver X.flex ty (nuOf h))) (pFs X.ver X.flex r):=by
            cases st with
            | none=>rfl
            | some bb =>
              cases hp1:pTy X.ver X.flex ty (nuOf h) bb with
              | none=>simp [after,rThen,hp1]
              | some z =>
                rw [after_then _ _ _ rfl hp1,after_ok hp1]
                cases hp2:pFs X.ver X.flex r z.2 with
                | none=>simp [after,rThen,hp2]
                | some y=>rw [after_then _ _ _ rfl hp2,after_ok hp2];exact after_rOk _ _
          rw [e]
          exact hi3
        · intro bb xs rr hst hpx hfit
          rw [hpf] at hpx
          obtain ⟨x,r1,q1,q2⟩:=rThen_some hpx
          obtain ⟨ys,r2,q3,q4⟩:=rThen_some q2
          obtain ⟨rfl,rfl⟩:=rOk_some q4
          simp only [FitFs,List.headD_cons,List.tail_cons] at hfit
          simp only [HFs,List.headD_cons,List.tail_cons]
          have hst2:after st (pTy X.ver X.flex ty (nuOf h))=some r1:=by rw [hst];exact after_ok q1
          refine ⟨fun _=>?_,hv3 r1 ys _ hst2 q3 hfit.2⟩
          have:=hv2 bb x r1 hst q1 (hfit.1 hh)
          exact hTy_frame (hf3.fo (ho.mono hf2.size)) X.ver X.flex ty _ b (o+h.off) x l3 (fun j h1 h2=>hf3.cell (hf2.rowAt hrow) (by unfold nuOf at *;omega)) this
      · intro a' w' h1 h2 h3 h4
        refine hR a' w' h1 h2 h3 ?_
        rw [hpf]
        cases st with
        | none=>rfl
        | some bb =>
          cases hp1:pTy X.ver X.flex ty (nuOf h) bb with
          | none=>simp [after,rThen,hp1]
          | some z =>
            rw [after_ok hp1] at h4
            rw [after_then _ _ _ rfl hp1]
            exact after_then_none h4
    · intro a' w' h1 h2 h3 h4
      refine hR a' w' h1 h2 h3 ?_
      rw [hpf]
      exact after_then_none h4
  · rw [if_neg hh]
    have hpf:pFs X.ver X.flex (.cons h ty r)=rThen (rOk Tree.zero) fun x=>rThen (pFs X.ver X.flex r) fun xs=>rOk (x :: xs):=by
      simp only [pFs]
      rw [if_neg hh]
    have e:after st (pFs X.ver X.flex (.cons h ty r))=after st (pFs X.ver X.flex r):=by
      rw [hpf]
      cases st with
      | none=>rfl
      | some bb =>
        rw [after_then (x:=Tree.zero) (r:=bb) _ _ _ rfl rfl]
        cases hp2:pFs X.ver X.flex r bb with
        | none=>simp [after,rThen,hp2]
        | some y=>rw [after_then _ _ _ rfl hp2,after_ok hp2];exact after_rOk _ _
    simp only [Exit.then]
    refine hF S p (v+rV h ty) _ _ b o (h.off+szTy (nuOf h) ty) n O a1 w st Q rest hrest l4 hdef.2 hi1 ((hs1 p (by omega)).trans hp) ho hrow hfr.2 (by omega) (by omega) (by omega) (by omega) (by omega) ?_ ?_
    · intro a3 w3 hi3 hs3 hf3 hv3
      refine hQ a3 w3 (by rw [e];exact hi3) (RSame.trans (fun s hs=>hs1 s (by omega)) hs3 (by omega) (by omega)) (hf3.mono (by omega) (Nat.le_refl _)) ?_
      intro bb xs rr hst hpx hfit
      rw [hpf] at hpx
      obtain ⟨x,r1,q1,q2⟩:=rThen_some hpx
      obtain ⟨rfl,rfl⟩:=rOk_some q1
      obtain ⟨ys,r2,q3,q4⟩:=rThen_some q2
      obtain ⟨rfl,rfl⟩:=rOk_some q4
      simp only [FitFs,List.headD_cons,List.tail_cons] at hfit
      simp only [HFs,List.headD_cons,List.tail_cons]
      exact ⟨fun h=>absurd h hh,hv3 bb ys _ hst q3 hfit.2⟩
    · intro a' w' h1 h2 h3 h4
      exact hR a' w' h1 h2 h3 (by rw [e];exact h4)
end
end Go.Proofs.YtgaplicnofhliaaDoor.K
namespace Go.Proofs.YtgaplicnofhliaaDoor.K
open Go Go.RowKit Go.Proofs.YtgaplicnofhliaaDoor.T
set_option linter.unusedVariables false
set_option linter.unusedSimpArgs false
def pBody (ver:Int) (flex:Bool) (fs:Fs):Rd Tree:=rThen (pFs ver flex fs) fun xs=>rThen (pTags flex) fun u=>rOk (.mk 0 [] false xs u)
theorem pTy_struct (ver:Int) (flex:Bool) (S size d:Nat) (tags:Option (Nat × Nat)) (fs:Fs):pTy ver flex (.struct S size d tags fs) false=pBody ver flex fs:=by
  funext b
  simp [pTy,pBody,rThen,rOk]
theorem cellsN {q n:Nat} {cs:Array Value} {xs:List Value} (hl:xs.length=n) (hq:q+n≤cs.size) :
    ((cs.toList.take q ++ xs ++ cs.toList.drop (q+xs.length)).toArray).size=cs.size∧(∀ j,(j < q∨q+n≤j)→((cs.toList.take q ++ xs ++ cs.toList.drop (q+xs.length)).toArray)[j]?=cs[j]?) ∧
      ∀ j u,xs[j]?=some u→((cs.toList.take q ++ xs ++ cs.toList.drop (q+xs.length)).toArray)[q+j]?=some u:=by
  refine ⟨?_,?_,?_⟩
  · simp only [List.size_toArray,List.length_append,List.length_take,List.length_drop,Array.length_toList,hl]
    omega
  · intro j hj
    rw [List.getElem?_toArray,hl]
    rcases hj with hj | hj
    · rw [List.append_assoc,List.getElem?_append_left (by simp;omega),List.getElem?_take,if_pos hj,Array.getElem?_toList]
    · rw [List.getElem?_append_right (by simp [hl];omega),List.getElem?_drop]
      simp only [List.length_append,List.length_take,Array.length_toList,hl]
      rw [show q+n+(j - (min q cs.size+n))=j by omega,Array.getElem?_toList]
  · intro j u hu
    have hj:j < xs.length:=(List.getElem?_eq_some_iff.1 hu).1
    rw [List.getElem?_toArray,List.append_assoc,List.getElem?_append_right (by simp;omega),List.getElem?_append_left (by simp;omega)]
    simp only [List.length_take,Array.length_toList]
    rw [show q+j - min q cs.size=j by omega]
    exact hu
section
variable {X:RX}
theorem rTags_ok {S p t b o size:Nat} {tags:Option (Nat × Nat)} {O:Nat→Prop} {a:Act} {w:World} {st:Option Bytes} {Q:Exit→Act→World→Prop} {rest:List SC} (hX:X.ok)
    (hok:okRTags X.P X.I X.c S tags=true) (hi:RInv X a w st) (hp:getT a p=.pointer (some ⟨b,o,none⟩)) (ho:Opn X O b w) (hrow:RowAt w b o size) (hsz:∀ f off,tags=some (f,off)→off < size) (hpT:p < X.T0) (ht:X.T0≤t) (htN:t+rTagsT tags≤X.N)
    (hQ:∀ a' w',RInv X a' w' (after st (pTags X.flex))→(∀ s,s < t→getT a' s=getT a s)→Foot X.rb b (match tags with | none=>o+size | some (_,off)=>o+off) (o+size) w w' →
      (∀ r u r',st=some r→pTags X.flex r=some (u,r')→FitTags u→TagsAt X.G w' (FO O w') X.flex b o tags u)→wpL X.P Q rest a' w') :
    wpL X.P Q (rTagsL X.I S p tags t ++ rest) a w:=by
  have hten:=hX.ten
  cases tags with
  | none =>
    simp only [rTagsL,List.nil_append]
    have hn:X.c.never=true:=by simpa [okRTags] using hok
    have hfl:=hX.never hn
    have e:pTags X.flex=rOk []:=by rw [hfl];rfl
    refine hQ a w (by rw [e,after_rOk];exact hi) (fun _ _=>rfl) (Foot.refl _ _ _ _ _) fun r u r' _ hu _=>?_
    rw [e] at hu
    obtain ⟨rfl,rfl⟩:=rOk_some hu
    rfl
  | some z =>
    obtain ⟨f,off⟩:=z
    have hoff:=hsz f off rfl
    simp only [okRTags,Bool.and_eq_true,Bool.not_eq_true',bne_iff_ne,ne_eq] at hok
    obtain ⟨⟨⟨hn,hS⟩,hagg⟩,hfn⟩:=hok
    have htN':t+5≤X.N:=by simpa [rTagsT] using htN
    simp only [rTagsL,List.cons_append,List.nil_append,wpL]
    refine mvCond_ok hi (by omega) (by omega) (hi.flex hn) fun a1 hi1 hs1=>?_
    cases hfl:X.flex with
    | false =>
      rw [if_neg (by simp)]
      have e:pTags X.flex=rOk []:=by rw [hfl];rfl
      refine SC.wp_skip ?_
      simp only [Exit.then]
      refine hQ a1 w (by rw [e,after_rOk];exact hi1) (fun s hs=>hs1 s (by omega)) (Foot.refl _ _ _ _ _) fun r u r' _ hu _=>?_
      unfold TagsAt
      intro h
      rw [hfl] at h
      cases h
    | true =>
      rw [if_pos rfl]
      have hsz1:=hi1.size
      have hrc:=hX.kr.tags hfn
      have hp1:getT a1 p=.pointer (some ⟨b,o,none⟩):=(hs1 p (by omega)).trans hp
      have hbw:b < w.heap.size:=ho.lt b ho.ob
      have hbS:X.S ≠ some b:=fun e=>ho.src b e ho.ob
      obtain ⟨cs,E,hcs,hlen⟩:=hrow
      refine SC.wp_reg (ops_mv (ops_cal hrc.1 (R:=fun e w'=>∃ y,e=.returned y∧RdAt X.TR w' X.S X.rb (after st (pTags true))∧Only X.rb w w'∧(∃ m,y=.agg #[m]∧m.oneCell'=true)∧∀ b x r,st=some b→pTags true b=some (x,r)→∃ m,y=.agg #[m]∧TagsV w' (NewF X.S w w') x m) ?_ ?_))
      · have:=hrc.2 w X.S X.rb st (Nat.lt_of_lt_of_le hX.hgb hi.heap) hi.at_ hi.src
        rw [show (([7].map (getT (a1.put (some (t+1)) (getT a1 p)))).toArray:Array Value)=#[.pointer (some ⟨X.rb,0,none⟩)] by simp only [List.map_cons,List.map_nil];rw [gTn (by omega),hi1.rd]]
        exact this
      rintro e w1 ⟨y,rfl,hrd,honly,⟨m,rfl,hm⟩,hokv⟩
      refine ⟨_,rfl,?_⟩
      have hi2:RInv X a1 w1 (after st (pTags true)):=hi1.only hX honly hrd
      have hrow1:w1.heap[b]?=some (.cells cs E (0,0)):=by rw [honly.block b hbw ho.ne];exact hcs
      obtain ⟨k1,k2,k3⟩:=cellsN (cs:=cs) (xs:=[m]) (q:=o+off) (n:=1) rfl (by omega)
      refine ops_nilc (ad:=⟨b,o,none⟩) ?_ (ops_fa hS (b:=b) (o:=o) ?_ (oNo rfl (opw_store_aggAt (b:=b) (o:=o+off) (E:=E) (cur:=cs) (cs:=[m]) hagg ?_ ?_ hrow1 (by simp;omega) (by intro v hv;simp at hv;subst hv;exact hm) (oNi ?_))))
      · rw [gTn (by omega),gTp (by omega)]
        exact hp1
      · rw [gTp (by simp only [sPu];omega)]
      · rw [eTm,gTp (by simp only [sPu];omega)]
      · rw [eTm,gTn (by omega),gTn (by omega),gTp (by simp only [sPu];omega)]
      rw [pNo]
      simp only [Exit.then]
      refine hQ _ _ ?_ ?_ ?_ ?_
      · rw [hfl]
        refine ((hi2.setRow ho.ne hbS ho.hB _).act (a:=a1) ?_ ?_ fun s hs=>?_)
        · simp only [sPu]
        · simp only [dPu]
        · rw [gTn (by omega),gTn (by omega),gTn (by omega),gTn (by omega)]
      · intro s hs
        rw [gTn (by omega),gTn (by omega),gTn (by omega),gTn (by omega)]
        exact hs1 s (by omega)
      · refine (Foot.of_only honly ho.ne).trans ((foot_setRow hrow1 k1 k2).mono (Nat.le_refl _) (by omega))
      · intro r u r' hst hu hfit
        unfold TagsAt
        intro _
        rw [hfl] at hu
        obtain ⟨m',h1,h2⟩:=hokv r u r' hst hu
        simp only [Value.agg.injEq,Array.mk.injEq,List.cons.injEq,and_true] at h1
        subst h1
        have hFr:∀ k,NewF X.S w w1 k→FO O (w1.setRow b (cs.toList.take (o+off) ++ [m] ++ cs.toList.drop (o+off+[m].length)).toArray) k∧(w1.setRow b (cs.toList.take (o+off) ++ [m] ++ cs.toList.drop (o+off+[m].length)).toArray).heap[k]?=w1.heap[k]?:=fun k hk=>by
          have:=newF_fo ho honly.size (fun sb hsb=>(hi.src sb hsb).2) k hk
          exact ⟨⟨by simpa using this.1,this.2⟩,setRow_other _ _ _ _ fun e=>this.2 (e ▸ ho.ob)⟩
        have h3:=tagsV_frame hFr h2
        refine ⟨hX.G u,hfit.1,hfit.2.1,hfit.2.2,?_⟩
        have hc:(w1.setRow b (cs.toList.take (o+off) ++ [m] ++ cs.toList.drop (o+off+[m].length)).toArray).cell? ⟨b,o+off,none⟩=some m:=by
          rw [cell_setRow_same _ _ _ _ _ _ _ hrow1]
          exact k3 0 m rfl
        rw [hc]
        rcases h3 with ⟨rfl,rfl⟩ | ⟨r1,es,clock,rfl,q2,q3,q4⟩
        · exact .inl ⟨rfl,rfl⟩
        · exact .inr ⟨r1,es,clock,rfl,q2,q3,q4⟩
theorem after_body (ver:Int) (flex:Bool) (fs:Fs) (st:Option Bytes):after st (pBody ver flex fs)=after (after st (pFs ver flex fs)) (pTags flex):=by
  unfold pBody
  cases st with
  | none=>rfl
  | some bb =>
    cases hp1:pFs ver flex fs bb with
    | none=>simp [after,rThen,hp1]
    | some z =>
      rw [after_then _ _ _ rfl hp1,after_ok hp1]
      cases hp2:pTags flex z.2 with
      | none=>simp [after,rThen,hp2]
      | some y=>rw [after_then _ _ _ rfl hp2,after_ok hp2];exact after_rOk _ _
theorem body_ok {fs:Fs} {S size d p v t bk b o:Nat} {tags:Option (Nat × Nat)} {O:Nat→Prop} {a:Act} {w:World} {st:Option Bytes} {Q:Exit→Act→World→Prop} {rest:List SC} (hX:X.ok) (hF:FsOK X fs)
    (hok:okRFs X.P X.I X.c S fs=true) (hokt:okRTags X.P X.I X.c S tags=true) (hlay:layTy false (.struct S size d tags fs)=true) (hdef:DefFs X.P fs) (hi:RInv X a w st) (hp:getT a p=.pointer (some ⟨b,o,none⟩)) (ho:Opn X O b w) (hrow:RowAt w b o size) (hfr:FrFs w b fs o)
    (hpv:p < v) (hv:10≤v) (hvT:v+rVs fs≤X.T0) (ht:X.T0≤t) (htN:t+rFT X.c fs+rTagsT tags≤X.N)
    (hQ:∀ a' w',RInv X a' w' (after st (pBody X.ver X.flex fs))→RSame X a a' v t→Foot X.rb b o (o+size) w w' →
      (∀ r x r',st=some r→pBody X.ver X.flex fs r=some (x,r')→FitTy X.ver (.struct S size d tags fs) x→HFs X.G w' (FO O w') X.ver X.flex fs b o x.l∧TagsAt X.G w' (FO O w') X.flex b o tags x.u)→wpL X.P Q rest a' w')
    (hR:RetOK X Q (after st (pBody X.ver X.flex fs)=none)) :
    wpL X.P Q (rFs X.I X.c S p v t bk fs ++ (rTagsL X.I S p tags (t+rFT X.c fs) ++ rest)) a w:=by
  simp only [layTy,Bool.and_eq_true] at hlay
  have hszt:∀ f off,tags=some (f,off)→off < size:=fun f off e=>by
    subst e
    simpa using hlay.2
  obtain ⟨n,hlf,hns,hn⟩:∃ n,layFs 0 n fs=true∧n≤size∧(tags=none∧n=size∨∃ f,tags=some (f,n)):=by
    cases tags with
    | none=>exact ⟨size,hlay.1,Nat.le_refl _,.inl ⟨rfl,rfl⟩⟩
    | some z=>exact ⟨z.2,hlay.1,Nat.le_of_lt (hszt z.1 z.2 rfl),.inr ⟨z.1,rfl⟩⟩
  refine hF S p v t bk b o 0 n O a w st Q _ hok hlf hdef hi hp ho (hrow.mono (by omega)) hfr hpv hv hvT ht (by omega) ?_ ?_
  · intro a1 w1 hi1 hs1 hf1 hv1
    refine rTags_ok hX hokt hi1 ((hs1 p (.inl hpv)).trans hp) (ho.mono hf1.size) (hf1.rowAt hrow) hszt (by omega) (by omega) htN ?_
    intro a2 w2 hi2 hs2 hf2 hv2
    refine hQ a2 w2 (by rw [after_body];exact hi2) (fun s hs=>(hs2 s (by omega)).trans (hs1 s hs)) ?_ ?_
    · refine (hf1.mono (by omega) (by omega)).trans (hf2.mono ?_ (Nat.le_refl _))
      rcases hn with ⟨rfl,rfl⟩ | ⟨f,rfl⟩ <;> simp
    · intro r x r' hst hpx hfit
      unfold pBody at hpx
      obtain ⟨xs,r1,q1,q2⟩:=rThen_some hpx
      obtain ⟨u,r2,q3,q4⟩:=rThen_some q2
      obtain ⟨rfl,rfl⟩:=rOk_some q4
      simp only [FitTy] at hfit
      have hfit':FitFs X.ver fs xs∧FitTags u:=by
        rcases hfit with h | h
        · simp [tNull] at h
        · exact h
      have hst2:after st (pFs X.ver X.flex fs)=some r1:=by rw [hst];exact after_ok q1
      refine ⟨?_,hv2 r1 u _ hst2 q3 hfit'.2⟩
      have h1:=hv1 r xs r1 hst q1 hfit'.1
      refine hFs_frame (hf2.fo (ho.mono hf1.size)) X.ver X.flex fs 0 n b o xs hlf (fun j h1 h2=>hf2.cell (hf1.rowAt hrow) ?_) h1
      rcases hn with ⟨rfl,rfl⟩ | ⟨f,rfl⟩
      · left;simp only;omega
      · left;simp only;omega
  · intro a' w' h1 h2 h3 h4
    refine hR a' w' h1 h2 h3 ?_
    rw [after_body,h4]
    rfl
theorem defBody_ok {fs:Fs} {S size d v t bk b o:Nat} {tags:Option (Nat × Nat)} {O:Nat→Prop} {a:Act} {w:World} {st:Option Bytes} {Q:Exit→Act→World→Prop} (hX:X.ok) (hF:FsOK X fs)
    (hok:okRFs X.P X.I X.c S fs=true) (hokt:okRTags X.P X.I X.c S tags=true) (hlay:layTy false (.struct S size d tags fs)=true) (hdef:DefTy X.P (.struct S size d tags fs)) (hi:RInv X a w st) (hp:getT a v=.pointer (some ⟨b,o,none⟩)) (ho:Opn X O b w) (hrow:RowAt w b o size) (hfr:FrFs w b fs o)
    (hv:10≤v) (hvT:v+2+rVs fs≤X.T0) (ht:X.T0≤t) (htN:t+3+rFT X.c fs+rTagsT tags≤X.N)
    (hQ:∀ a' w',RInv X a' w' (after st (pBody X.ver X.flex fs))→RSame X a a' (v+1) t→Foot X.rb b o (o+size) w w' →
      (∀ r x r',st=some r→pBody X.ver X.flex fs r=some (x,r')→FitTy X.ver (.struct S size d tags fs) x→HFs X.G w' (FO O w') X.ver X.flex fs b o x.l∧TagsAt X.G w' (FO O w') X.flex b o tags x.u)→Q .normal a' w')
    (hR:RetOK X Q (after st (pBody X.ver X.flex fs)=none)) :
    wpL X.P Q ([.reg [mv t v,cal (t+1) d [t]],.reg [mv (t+2) v,asg (v+1) (t+2)]] ++ (rFs X.I X.c S (v+1) (v+2) (t+3) bk fs ++ rTagsL X.I S (v+1) tags (t+3+rFT X.c fs))) a w:=by
  have hsz:=hi.size
  have hten:=hX.ten
  obtain ⟨⟨out,hD,hout,hall⟩,hdfs⟩:=(by simpa only [DefTy] using hdef:(∃ out,DefAt X.P d size out∧outFs out fs 0=true∧(out.all fun x=>decide (x.1 < size))=true)∧DefFs X.P fs)
  obtain ⟨cs,E,hcs,hlen⟩:=hrow
  have hbS:X.S ≠ some b:=fun e=>ho.src b e ho.ob
  simp only [List.cons_append,List.nil_append,wpL]
  refine SC.wp_reg (ops_mv (ops_cal hD.1 (R:=fun e w'=>e=.returned (.tuple #[])∧w'=w.setRow b (dSetAll o out cs)) ?_ ?_))
  · have:=hD.2 w b o cs E hcs hlen
    rw [show (([t].map (getT (a.put (some t) (getT a v)))).toArray:Array Value)=#[.pointer (some ⟨b,o,none⟩)] by simp only [List.map_cons,List.map_nil];rw [gTp (by omega),hp]]
    exact this
  rintro e w1 ⟨rfl,hw1⟩
  refine ⟨_,rfl,oNi ?_⟩
  simp only [Exit.then]
  refine SC.wp_reg (ops_mv (ops_asg (oNi ?_)))
  generalize ha1:((((a.put (some t) (getT a v)).put (some (t+1)) (.tuple #[])).put (some (t+2)) (getT ((a.put (some t) (getT a v)).put (some (t+1)) (.tuple #[])) v)).put (some (v+1)) (getT (((a.put (some t) (getT a v)).put (some (t+1)) (.tuple #[])).put (some (t+2)) (getT ((a.put (some t) (getT a v)).put (some (t+1)) (.tuple #[])) v)) (t+2)))=a1
  have hs1:a1.tmps.size=X.N:=by rw [← ha1];simp only [sPu];exact hsz
  have hg1:∀ s,s ≠ v+1→s < t→getT a1 s=getT a s:=fun s h1 h2=>by rw [← ha1,gTn h1,gTn (by omega),gTn (by omega),gTn (by omega)]
  have hp1:getT a1 (v+1)=.pointer (some ⟨b,o,none⟩):=by
    rw [← ha1,gTp (by simp only [sPu];omega),gTp (by simp only [sPu];omega),gTn (by omega),gTn (by omega)]
    exact hp
  have hds:(dSetAll o out cs).size=cs.size:=dSetAll_size _ _ _
  have hother:∀ j,(∀ x ∈ out,x.1 ≠ j)→(dSetAll o out cs)[o+j]?=cs[o+j]?:=fun j hj=>dSetAll_other out cs fun x hx=>by have:=hj x hx;omega
  have hall':∀ x ∈ out,x.1 < size:=fun x hx=>by simpa using (List.all_eq_true.1 hall) x hx
  have hf1:Foot X.rb b o (o+size) w w1:=by
    rw [hw1]
    refine foot_setRow hcs hds fun j hj=>dSetAll_other out cs fun x hx=>?_
    have:=hall' x hx
    omega
  have hi1:RInv X a1 w1 st:=by
    rw [hw1]
    refine ((hi.setRow ho.ne hbS ho.hB _).act (a:=a) (by rw [hs1,hsz]) (by rw [← ha1];simp [dPu]) fun s hs=>hg1 s (by omega) (by omega))
  have hfr1:FrFs w1 b fs o:=by
    have:=outFs_ok (w:=w) (w':=w1) (b:=b) (q:=o) (out:=out) (fun j hj=>by
      rw [hw1,cell_setRow_same _ _ _ _ _ _ _ hcs,cell_of_row _ _ _ _ _ _ hcs]
      exact hother j hj) fs 0 hout (by simpa using hfr)
    simpa using this
  have hb:=body_ok (rest:=[]) (p:=v+1) (v:=v+2) (t:=t+3) (bk:=bk) (O:=O) (Q:=Q) hX hF hok hokt hlay hdfs hi1 hp1 (ho.mono hf1.size) (hf1.rowAt ⟨cs,E,hcs,hlen⟩) hfr1 (by omega) (by omega) (by omega) (by omega) htN ?_ hR
  · simpa only [List.append_nil,Exit.then] using hb
  · intro a' w' h1 h2 h3 h4
    simp only [wpL]
    refine hQ a' w' h1 (fun s hs=>(h2 s (by omega)).trans (hg1 s (by omega) (by omega))) (hf1.trans h3) h4
theorem elemOK_struct (hX:X.ok) {S size d:Nat} {tags:Option (Nat × Nat)} {fs:Fs} (hF:FsOK X fs):ElemOK X (.struct S size d tags fs):=by
  intro T E sz sa si v t bk bl l cap idx O a w st Q hok hsl hlay hdef hi ha_ hidx hlt ho hrow hfr hsav hsiv hv hvT ht htN hQ hR
  have hten:=hX.ten
  have hsz:=hi.size
  simp only [okRElem,Bool.and_eq_true,beq_iff_eq] at hok
  obtain ⟨⟨⟨rfl,hz⟩,hokt⟩,hokf⟩:=hok
  simp only [rVE] at hvT
  simp only [rET] at htN
  simp only [FrTy,Bool.false_eq_true,if_false] at hfr
  simp only [rElem,List.cons_append,List.nil_append,wpL]
  refine SC.wp_reg (ops_mv (ops_mv (oNo rfl (opw_index (E:=E) (n:=size) (b:=bl) (o:=0) (len:=l) (cap:=cap) (j:=idx) (k:=.i32) hsl ?_ ?_ hlt (ops_asg (oNi ?_))))))
  · rw [eTm,gTn (by omega),gTp (by omega)]
    exact ha_
  · rw [eTm,gTp (by rw [sPu];omega),gTn (by omega)]
    exact hidx
  generalize ha1:((((a.put (some t) (getT a sa)).put (some (t+1)) (getT (a.put (some t) (getT a sa)) si)).put (some (t+2)) (Value.pointer (some ⟨bl,0+idx * size,none⟩))).put (some v) (getT (((a.put (some t) (getT a sa)).put (some (t+1)) (getT (a.put (some t) (getT a sa)) si)).put (some (t+2)) (Value.pointer (some ⟨bl,0+idx * size,none⟩))) (t+2)))=a1
  have hs1:a1.tmps.size=X.N:=by rw [← ha1];simp only [sPu];exact hsz
  have hg1:∀ s,s ≠ v→(s < t∨t+3≤s)→getT a1 s=getT a s:=fun s h1 h2=>by rw [← ha1,gTn h1,gTn (by omega),gTn (by omega),gTn (by omega)]
  have hp1:getT a1 v=.pointer (some ⟨bl,idx * size,none⟩):=by
    rw [← ha1,gTp (by simp only [sPu];omega),gTp (by simp only [sPu];omega),Nat.zero_add]
  have hi1:RInv X a1 w st:=hi.act (by rw [hs1,hsz]) (by rw [← ha1];simp [dPu]) fun s hs=>hg1 s (by omega) (by omega)
  simp only [Exit.then]
  have hb:=defBody_ok (v:=v) (t:=t+3) (bk:=bk) (Q:=Q) hX hF hokf hokt hlay hdef hi1 hp1 ho hrow hfr hv (by omega) (by omega) (by omega) ?_ ?_
  · simpa only [List.cons_append,List.nil_append,wpL,Exit.then,Nat.add_assoc,Nat.reduceAdd] using hb
  · intro a' w' h1 h2 h3 h4
    refine hQ a' w' (by rw [pTy_struct];exact h1) (fun s hs=>(h2 s (by omega)).trans (hg1 s (by omega) (by omega))) h3 ?_
    intro r x r' hst hpx hfit
    rw [pTy_struct] at hpx
    simp only [HTy,Bool.false_eq_true,if_false]
    exact h4 r x r' hst hpx hfit
  · intro a' w' h1 h2 h3 h4
    exact hR a' w' h1 h2 h3 (by rw [pTy_struct];exact h4)
end
end Go.Proofs.YtgaplicnofhliaaDoor.K
namespace Go.Proofs.YtgaplicnofhliaaDoor.K
open Go Go.RowKit Go.Proofs.YtgaplicnofhliaaDoor.T
set_option linter.unusedVariables false
set_option linter.unusedSimpArgs false
theorem pI8_after (st:Option Bytes):after st (pPrim false false .i8)=after st (pInt 1):=by
  cases st with
  | none=>rfl
  | some b =>
    simp only [after,pPrim,PK.width]
    cases h:pInt 1 b with
    | none=>simp [rThen,h]
    | some z=>simp [rThen,h,rOk]
theorem pI8_val {b r:Bytes} {n:Int} (h:pInt 1 b=some (n,r)):pPrim false false .i8 b=some (tN n,r):=by
  simp [pPrim,PK.width,rThen,h,rOk]
section
variable {X:RX}
theorem fo_sub {O O':Nat→Prop} {w:World} (h:∀ k,O k→O' k):∀ k,FO O' w k→FO O w k∧w.heap[k]?=w.heap[k]?:=fun k ⟨h1,h2⟩=>⟨⟨h1,fun hk=>h2 (h k hk)⟩,rfl⟩
theorem str_frame {G:List (Nat × Bytes)→Prop} {F F':Nat→Prop} {w w':World} {ver:Int} {flex:Bool} {S size d b o:Nat} {tags:Option (Nat × Nat)} {fs:Fs} {x:Tree} (hlay:layTy false (.struct S size d tags fs)=true) (hF:∀ k,F k→F' k∧w'.heap[k]?=w.heap[k]?)
    (hc:∀ j,o≤j→j < o+size→w'.cell? ⟨b,j,none⟩=w.cell? ⟨b,j,none⟩) (h:HFs G w F ver flex fs b o x.l∧TagsAt G w F flex b o tags x.u):HFs G w' F' ver flex fs b o x.l∧TagsAt G w' F' flex b o tags x.u:=by
  have:=hTy_frame (G:=G) hF ver flex (.struct S size d tags fs) false b o x hlay (by simpa [szTy] using hc)
  simp only [HTy,Bool.false_eq_true,if_false] at this
  exact this h
theorem valOK_struct (hX:X.ok) {S' size d:Nat} {tags:Option (Nat × Nat)} {fs:Fs} (hF:FsOK X fs):ValOK X (.struct S' size d tags fs):=by
  intro S p h v t bk b o O a w st Q hok hlay hdef hS hnull hi hp ho hrow hfr hpv hv hvT ht htN hQ hR
  have hten:=hX.ten
  have hsz:=hi.size
  simp only [okRVal,Bool.and_eq_true,Bool.or_eq_true,Bool.not_eq_true',bne_iff_ne,ne_eq] at hok
  obtain ⟨⟨⟨hen,hnu⟩,hokt⟩,hokf⟩:=hok
  have hlay':layTy false (.struct S' size d tags fs)=true:=by simpa only [layTy] using hlay
  simp only [rV] at hvT
  simp only [rVT] at htN
  simp only [szTy] at hrow hQ
  simp only [FrTy] at hfr
  have hbw:b < w.heap.size:=ho.lt b ho.ob
  have hbS:X.S ≠ some b:=fun e=>ho.src b e ho.ob
  unfold rVal
  by_cases hn:0≤h.null
  ·
    have hnb:nuOf h=true:=by simp [nuOf,hn]
    rw [if_pos hn] at hvT htN ⊢
    rw [hnb] at hrow hfr hQ hR
    simp only [if_true] at hrow hfr hQ
    rcases hnu with hnu | ⟨⟨⟨hT,hfn⟩,hro⟩,hz⟩
    · rw [hnb] at hnu;cases hnu
    obtain ⟨i,z,hii,hiz,hzc,hzs,h0,hby,hfrz⟩:=zOK_of hz
    have hpt:pTy X.ver X.flex (.struct S' size d tags fs) true=rThen (pInt 1) fun p=>if p=-1 then rOk tNull else pBody X.ver X.flex fs:=by
      simp only [pTy,if_true,Bool.true_and,decide_eq_true_eq]
      rfl
    obtain ⟨cs,E,hcs,hlen⟩:=hrow
    have hrc:=hX.kr.num .i8 rfl hfn
    refine SC.wp_seq (rGet_ok hX hrc hi hv (by omega) (by omega) (by omega) fun a1 w1 y hi1 hy1 hs1 honly hty hokv=>?_)
    simp only [Exit.then]
    rw [pI8_after] at hi1
    obtain ⟨m,rfl⟩:=hty
    have hsz1:=hi1.size
    have hrow1:w1.heap[b]?=some (.cells cs E (0,0)):=by rw [honly.block b hbw ho.ne];exact hcs
    have hg1:∀ s,(s < v∨(X.T0≤s∧s < t))→getT a1 s=getT a s:=fun s hs=>hs1 s (by omega) (by omega)
    have hm:∀ r n r',st=some r→pInt 1 r=some (n,r')→m=n:=by
      intro r n r' hst hp1
      have:=hokv r (tN n) r' hst (pI8_val hp1) (by simp [tN,Tree.s])
      simpa [PVal,tN,Tree.n] using this
    have skip:∀ (a2:Act),RInv X a2 w1 (after st (pInt 1))→(∀ s,(s < v∨(X.T0≤s∧s < t))→getT a2 s=getT a s)→(m=-1∨after st (pInt 1)=none)→Q .normal a2 w1:=by
      intro a2 hi2 hs2 hm1
      have e:after st (pTy X.ver X.flex (.struct S' size d tags fs) true)=after st (pInt 1):=by
        rw [hpt]
        cases st with
        | none=>rfl
        | some bb =>
          cases hp1:pInt 1 bb with
          | none=>simp [after,rThen,hp1]
          | some zz =>
            rw [after_then _ _ _ rfl hp1,after_ok hp1]
            rcases hm1 with hm1 | hm1
            · rw [if_pos ((hm bb zz.1 zz.2 rfl hp1).symm.trans hm1)]
              exact after_rOk _ _
            · rw [after_ok hp1] at hm1
              cases hm1
      refine hQ a2 w1 (by rw [e];exact hi2) hs2 (Foot.of_only honly ho.ne) fun r x r' hst hpx hfit=>?_
      rw [hpt] at hpx
      obtain ⟨n,r1,q1,q2⟩:=rThen_some hpx
      have hmn:=hm r n r1 hst q1
      have hm2:n=-1:=by
        rcases hm1 with hm1 | hm1
        · omega
        · rw [hst,after_ok q1] at hm1
          cases hm1
      rw [if_pos hm2] at q2
      obtain ⟨rfl,rfl⟩:=rOk_some q2
      simp only [HTy,if_true,tNull,Tree.null]
      rw [honly.cell (show (⟨b,o+h.off,none⟩:Addr).block < w.heap.size from hbw) ho.ne]
      exact hfr
    refine SC.wp_seq (SC.wp_reg (ops_mv (oNo rfl (opw_cmp (op:=.neq) (k:=.i8) (m:=m) (n:=-1) (r:=(m != -1)) ?_ rfl (by simp) (ops_mv ?_)))))
    · rw [eTm,gTp (by omega)]
      exact hy1
    generalize ha2:(((a1.put (some (t+1)) (getT a1 v)).put (some (t+2)) (.bool (m != -1))).put (some (t+3)) (getT ((a1.put (some (t+1)) (getT a1 v)).put (some (t+2)) (.bool (m != -1))) (t+2)))=a2
    have s2:a2.tmps.size=X.N:=by rw [← ha2];simp only [sPu];exact hsz1
    have d2:a2.defers=a1.defers:=by rw [← ha2];simp [dPu]
    have g2:∀ s,s≤t→getT a2 s=getT a1 s:=fun s hs=>by rw [← ha2,gTn (by omega),gTn (by omega),gTn (by omega)]
    have v22:getT a2 (t+2)=.bool (m != -1):=by rw [← ha2,gTn (by omega),gTp (by rw [sPu];omega)]
    have v23:getT a2 (t+3)=.bool (m != -1):=by rw [← ha2,gTp (by simp only [sPu];omega),gTp (by rw [sPu];omega)]
    by_cases hm1:m=-1
    · have hb:(m != -1)=false:=by simp [hm1]
      unfold opsw
      refine ⟨t+3,false,rfl,by omega,.inl (by rw [v23,hb]),?_⟩
      rw [if_neg (by simp)]
      refine oNo rfl (opw_pick (b:=false) ?_ (oNi ?_))
      · rw [eTm,gTn (by omega),v23,hb]
      rw [if_neg (by simp),eCo]
      refine SC.wp_cond (t:=false) (by rw [eTm,gTp (by rw [sPu];omega)]) ?_
      rw [if_neg (by simp)]
      refine SC.wp_skip (skip _ (hi1.act (by simp only [sPu];rw [s2,hsz1]) (by simp only [dPu];exact d2) fun s hs=>?_) (fun s hs=>?_) (.inl hm1))
      · rw [gTn (by omega),gTn (by omega)]
        exact g2 s (by omega)
      · rw [gTn (by omega),gTn (by omega),g2 s (by omega)]
        exact hg1 s hs
    · have hb:(m != -1)=true:=by simp [hm1]
      unfold opsw
      refine ⟨t+3,true,rfl,by omega,.inl (by rw [v23,hb]),?_⟩
      rw [if_pos rfl]
      obtain ⟨fn,f1,f2,f3⟩:=hX.kr.okF hro
      refine opw_call (R:=fun e w'=>e=.returned (.bool (after st (pInt 1)).isSome)∧w'=w1) f1 f2 f3 ?_ ?_
      · have:=hX.kr.ok hro w1 X.S X.rb _ hi1.at_
        rw [show ((#[Operand.tmp 7].map a2.eval):Array Value)=#[.pointer (some ⟨X.rb,0,none⟩)] by simp [eTm,g2 7 (by omega),hi1.rd]]
        exact this
      rintro e w2 ⟨rfl,rfl⟩
      refine ⟨_,rfl,?_⟩
      refine oNo rfl (opw_pick (b:=true) ?_ (oNi ?_))
      · rw [eTm,gTn (by omega),v23,hb]
      rw [if_pos rfl]
      generalize ha3:((a2.put (some (t+4)) (.bool (after st (pInt 1)).isSome)).put (some (t+5)) ((a2.put (some (t+4)) (.bool (after st (pInt 1)).isSome)).eval (.tmp (t+4))))=a3
      have s3:a3.tmps.size=X.N:=by rw [← ha3];simp only [sPu];exact s2
      have d3:a3.defers=a1.defers:=by rw [← ha3];simp only [dPu];exact d2
      have g3:∀ s,s≤t→getT a3 s=getT a1 s:=fun s hs=>by rw [← ha3,gTn (by omega),gTn (by omega)];exact g2 s hs
      have v3:getT a3 (t+5)=.bool (after st (pInt 1)).isSome:=by rw [← ha3,gTp (by rw [sPu];omega),eTm,gTp (by omega)]
      have hi3:RInv X a3 w2 (after st (pInt 1)):=hi1.act (by rw [s3,hsz1]) d3 fun s hs=>g3 s (by omega)
      refine SC.wp_cond (t:=(after st (pInt 1)).isSome) (by rw [eTm,v3]) ?_
      cases hst1:after st (pInt 1) with
      | none =>
        rw [hst1] at skip hi3
        simp only [Option.isSome_none,Bool.false_eq_true,if_false]
        exact SC.wp_skip (skip a3 hi3 (fun s hs=>(g3 s (by omega)).trans (hg1 s hs)) (.inr rfl))
      | some r1 =>
        simp only [Option.isSome_some,if_true]
        obtain ⟨r0,rfl⟩:∃ r0,st=some r0:=by
          cases st with
          | none=>simp [after] at hst1
          | some r0=>exact ⟨r0,rfl⟩
        obtain ⟨n,hp1⟩:∃ n,pInt 1 r0=some (n,r1):=by
          cases hp1:pInt 1 r0 with
          | none=>rw [after_no hp1] at hst1;cases hst1
          | some zz =>
            rw [after_ok hp1] at hst1
            cases hst1
            exact ⟨zz.1,rfl⟩
        have hmn:=hm r0 n r1 rfl hp1
        have hn1:¬ n=-1:=by omega
        have e:after (some r0) (pTy X.ver X.flex (.struct S' size d tags fs) true)=after (some r1) (pBody X.ver X.flex fs):=by
          rw [hpt,after_then _ _ _ rfl hp1,if_neg hn1]
        rw [hst1] at hi3
        refine wpL_seqs _ _ _ ?_
        simp only [List.cons_append,List.nil_append,wpL]
        have hp3:getT a3 p=.pointer (some ⟨b,o,none⟩):=((g3 p (by omega)).trans (hg1 p (.inl hpv))).trans hp
        have hnew:=heap_alloc_new w2 (.cells z.cells S')
        have hb2:b < w2.heap.size:=Nat.lt_of_lt_of_le hbw honly.size
        have hrowA:(w2.alloc (.cells z.cells S')).heap[b]?=some (.cells cs E (0,0)):=by rw [Below.heap_alloc _ _ _ hb2];exact hrow1
        refine SC.wp_reg (ops_mv (oNo rfl (opw_alloc hii hiz (ops_nilc (ad:=⟨b,o,none⟩) ?_ (ops_fa hS (b:=b) (o:=o) ?_ (oNo rfl (opw_store_one (ad:=⟨b,o+h.off,none⟩) (v:=.pointer (some ⟨w2.heap.size,0,none⟩)) (v0:=cs[o+h.off]'(by omega)) hT ?_ ?_ rfl ?_ ?_ (oNi ?_))))))))
        · rw [gTn (by omega),gTp (by omega)]
          exact hp3
        · rw [gTp (by simp only [sPu];omega)]
        · rw [eTm,gTp (by simp only [sPu];omega)]
        · rw [eTm,gTn (by omega),gTn (by omega),gTp (by simp only [sPu];omega)]
        · rw [cell_of_row _ _ _ _ _ _ hrowA]
          exact Array.getElem?_eq_getElem _
        · simp [World.frozen?,hrowA]
        rw [pNo,setCell_eq_setRow _ _ _ _ _ _ _ hrowA]
        generalize ha4:((((a3.put (some (t+6)) (getT a3 p)).put (some (t+7)) (.pointer (some ⟨w2.heap.size,0,none⟩))).put (some (t+8)) (.pointer (some ⟨b,o,none⟩))).put (some (t+9)) (.pointer (some ⟨b,o+h.off,none⟩)))=a4
        have s4:a4.tmps.size=X.N:=by rw [← ha4];simp only [sPu];exact s3
        have d4:a4.defers=a1.defers:=by rw [← ha4];simp only [dPu];exact d3
        have g4:∀ s,s≤t→getT a4 s=getT a1 s:=fun s hs=>by rw [← ha4,gTn (by omega),gTn (by omega),gTn (by omega),gTn (by omega)];exact g3 s hs
        generalize hw3:(w2.alloc (.cells z.cells S')).setRow b (cs.setIfInBounds (o+h.off) (.pointer (some ⟨w2.heap.size,0,none⟩)))=w3
        have hne:b ≠ w2.heap.size:=by omega
        have hi4:RInv X a4 w3 (some r1):=by
          rw [← hw3]
          refine ((hi3.alloc _).setRow ho.ne hbS ho.hB _).act (a:=a3) (by rw [s4,s3]) (by rw [d4,d3]) fun s hs=>?_
          rw [g4 s (by omega),g3 s (by omega)]
        have hcell3:w3.cell? ⟨b,o+h.off,none⟩=some (.pointer (some ⟨w2.heap.size,0,none⟩)):=by
          rw [← hw3,cell_setRow_same _ _ _ _ _ _ _ hrowA]
          simp [Array.getElem?_setIfInBounds]
          omega
        have hbn3:w3.heap[w2.heap.size]?=some (.cells z.cells S' (0,0)):=by
          rw [← hw3,setRow_other _ _ _ _ (Ne.symm hne)]
          exact hnew
        have hsz3:w3.heap.size=w2.heap.size+1:=by rw [← hw3];simp
        have hf3:Foot X.rb b (o+h.off) (o+h.off+1) w w3:=by
          rw [← hw3]
          refine ((Foot.of_only honly ho.ne).trans (foot_alloc _)).trans (foot_setRow hrowA (by simp) fun j hj=>?_)
          rw [Array.getElem?_setIfInBounds_ne (by omega)]
        simp only [Exit.then]
        have hp4:getT a4 p=.pointer (some ⟨b,o,none⟩):=((g4 p (by omega)).trans (hg1 p (.inl hpv))).trans hp
        refine SC.wp_reg (ops_mv (ops_nilc (ad:=⟨b,o,none⟩) ?_ (ops_fa hS (b:=b) (o:=o) ?_ (ops_ld hT (ad:=⟨b,o+h.off,none⟩) ?_ hcell3 (ops_asg (oNi ?_))))))
        · rw [gTp (by omega)]
          exact hp4
        · rw [gTp (by rw [sPu];omega)]
        · rw [gTp (by simp only [sPu];omega)]
        generalize ha5:(((((a4.put (some (t+10)) (getT a4 p)).put (some (t+11)) (.pointer (some ⟨b,o,none⟩))).put (some (t+12)) (.pointer (some ⟨b,o+h.off,none⟩))).put (some (t+13)) (.pointer (some ⟨w2.heap.size,0,none⟩))).put (some (v+1)) (getT ((((a4.put (some (t+10)) (getT a4 p)).put (some (t+11)) (.pointer (some ⟨b,o,none⟩))).put (some (t+12)) (.pointer (some ⟨b,o+h.off,none⟩))).put (some (t+13)) (.pointer (some ⟨w2.heap.size,0,none⟩))) (t+13)))=a5
        have s5:a5.tmps.size=X.N:=by rw [← ha5];simp only [sPu];exact s4
        have d5:a5.defers=a1.defers:=by rw [← ha5];simp only [dPu];exact d4
        have g5:∀ s,s ≠ v+1→s≤t→getT a5 s=getT a1 s:=fun s h1 hs=>by rw [← ha5,gTn h1,gTn (by omega),gTn (by omega),gTn (by omega),gTn (by omega)];exact g4 s hs
        have v5:getT a5 (v+1)=.pointer (some ⟨w2.heap.size,0,none⟩):=by rw [← ha5,gTp (by simp only [sPu];omega),gTp (by simp only [sPu];omega)]
        have hi5:RInv X a5 w3 (some r1):=hi4.act (by rw [s5,s4]) (by rw [d5,d4]) fun s hs=>by rw [g5 s (by omega) (by omega),g4 s (by omega)]
        have hOl:∀ k,O k→k < w2.heap.size:=fun k hk=>Nat.lt_of_lt_of_le (ho.lt k hk) honly.size
        have ho5:Opn X (fun k=>O k∨k=w2.heap.size) w2.heap.size w3:=by
          refine ⟨.inl ho.orb,.inr rfl,fun k hk=>?_,fun sb hsb hk=>?_,?_,?_⟩
          · rw [hsz3]
            rcases hk with hk | hk
            · have:=hOl k hk
              omega
            · omega
          · rcases hk with hk | hk
            · exact ho.src sb hsb hk
            · have:=(hi1.src sb hsb).2
              omega
          · have:=hi1.at_.lt
            omega
          · exact hi1.heap
        have hfr5:FrFs w3 w2.heap.size fs 0:=by
          have:=frFsB_ok (w:=w3) (b:=w2.heap.size) (q:=0) (get:=fun j=>z.cells[j]?) (fun j v hv=>by
            rw [Nat.zero_add,cell_of_row _ _ _ _ _ _ hbn3]
            exact hv) fs 0 hfrz
          simpa using this
        simp only [Exit.then]
        have hb:=defBody_ok (v:=v+1) (t:=t+14) (bk:=bk) (b:=w2.heap.size) (o:=0) (O:=fun k=>O k∨k=w2.heap.size) (Q:=Q) hX hF hokf hokt hlay' hdef hi5 v5 ho5 ⟨z.cells,S',hbn3,by omega⟩ hfr5 (by omega) (by omega) (by omega) (by omega) ?_ ?_
        · simpa only [List.cons_append,List.nil_append,wpL,Exit.then,Nat.add_assoc,Nat.reduceAdd] using hb
        · intro a' w' h1 h2 h3 h4
          have hf':Foot X.rb b (o+h.off) (o+h.off+1) w w':=hf3.other h3 (Nat.le_trans (Nat.le_refl _) honly.size) hbw ho.ne
          refine hQ a' w' (by rw [e];exact h1) (fun s hs=>?_) hf' ?_
          · rw [h2 s (by omega),g5 s (by omega) (by omega)]
            exact hg1 s hs
          · intro r x r' hst hpx hfit
            cases hst
            rw [hpt] at hpx
            obtain ⟨n',r1',q1,q2⟩:=rThen_some hpx
            rw [hp1] at q1
            cases q1
            rw [if_neg hn1] at q2
            have hx:=h4 r1 x r' rfl q2 hfit
            have hxn:x.null=false:=by
              unfold pBody at q2
              obtain ⟨xs,r2,k1,k2⟩:=rThen_some q2
              obtain ⟨u,r3,k3,k4⟩:=rThen_some k2
              obtain ⟨rfl,rfl⟩:=rOk_some k4
              rfl
            have hbnw:w2.heap.size < w'.heap.size:=by have:=h3.size;omega
            simp only [HTy,if_true,hxn,Bool.false_eq_true,if_false]
            refine ⟨w2.heap.size,0,?_,⟨hbnw,fun hk=>by have:=hOl _ hk;omega⟩,?_⟩
            · rw [show w'.cell? ⟨b,o+h.off,none⟩=w3.cell? ⟨b,o+h.off,none⟩ from World.cell?_of_block (h3.block b (by omega) ho.ne hne)]
              exact hcell3
            · exact str_frame hlay' (fo_sub (fun k hk=>.inl hk)) (fun _ _ _=>rfl) hx
        · intro a' w' h1 h2 h3 h4
          exact hR a' w' h1 h2 h3 (by rw [e];exact h4)
  ·
    have hnb:nuOf h=false:=by simp [nuOf,hn]
    rw [if_neg hn] at hvT htN ⊢
    rw [hnb] at hrow hfr hQ hR
    simp only [Bool.false_eq_true,if_false] at hrow hfr hQ
    refine wpL_seqs _ _ _ ?_
    simp only [List.cons_append,List.nil_append,wpL]
    refine SC.wp_reg (ops_mv (ops_nilc (ad:=⟨b,o,none⟩) ?_ (ops_fa hS (b:=b) (o:=o) ?_ (ops_asg (oNi ?_)))))
    · rw [gTp (by omega)]
      exact hp
    · rw [gTp (by rw [sPu];omega)]
    generalize ha1:((((a.put (some t) (getT a p)).put (some (t+1)) (.pointer (some ⟨b,o,none⟩))).put (some (t+2)) (.pointer (some ⟨b,o+h.off,none⟩))).put (some v) (getT (((a.put (some t) (getT a p)).put (some (t+1)) (.pointer (some ⟨b,o,none⟩))).put (some (t+2)) (.pointer (some ⟨b,o+h.off,none⟩))) (t+2)))=a1
    have s1:a1.tmps.size=X.N:=by rw [← ha1];simp only [sPu];exact hsz
    have g1:∀ s,s ≠ v→s < t→getT a1 s=getT a s:=fun s h1 h2=>by rw [← ha1,gTn h1,gTn (by omega),gTn (by omega),gTn (by omega)]
    have v1:getT a1 v=.pointer (some ⟨b,o+h.off,none⟩):=by rw [← ha1,gTp (by simp only [sPu];omega),gTp (by simp only [sPu];omega)]
    have hi1:RInv X a1 w st:=hi.act (by rw [s1,hsz]) (by rw [← ha1];simp [dPu]) fun s hs=>g1 s (by omega) (by omega)
    simp only [Exit.then]
    have hb:=defBody_ok (v:=v) (t:=t+3) (bk:=bk) (b:=b) (o:=o+h.off) (O:=O) (Q:=Q) hX hF hokf hokt hlay' hdef hi1 v1 ho hrow hfr hv (by omega) (by omega) (by omega) ?_ ?_
    · simpa only [List.cons_append,List.nil_append,wpL,Exit.then,Nat.add_assoc,Nat.reduceAdd] using hb
    · intro a' w' h1 h2 h3 h4
      refine hQ a' w' (by rw [pTy_struct];exact h1) (fun s hs=>(h2 s (by omega)).trans (g1 s (by omega) (by omega))) h3 ?_
      intro r x r' hst hpx hfit
      rw [pTy_struct] at hpx
      simp only [HTy,Bool.false_eq_true,if_false]
      exact h4 r x r' hst hpx hfit
    · intro a' w' h1 h2 h3 h4
      exact hR a' w' h1 h2 h3 (by rw [pTy_struct];exact h4)
end
end Go.Proofs.YtgaplicnofhliaaDoor.K
namespace Go.Proofs.YtgaplicnofhliaaDoor.K
open Go Go.RowKit Go.Proofs.YtgaplicnofhliaaDoor.T
set_option linter.unusedVariables false
set_option linter.unusedSimpArgs false
theorem pMany_succ {α:Type} (p:Rd α):∀ (k:Nat) (b:Bytes),pMany p (k+1) b=(pMany p k b).bind fun z=>(p z.2).map fun y=>(z.1 ++ [y.1],y.2)
  | 0,b=>by
    simp only [pMany,rThen,rOk,Option.bind_some,List.nil_append]
    cases p b <;> rfl
  | k+1,b=>by
    rw [pMany]
    simp only [rThen]
    cases hp:p b with
    | none=>simp [pMany,rThen,hp]
    | some z =>
      have ih:=pMany_succ p k z.2
      simp only [Option.bind_some]
      rw [ih]
      rw [show pMany p (k+1) b=(pMany p k z.2).bind fun y=>some (z.1 :: y.1,y.2) by simp only [pMany,rThen,hp,Option.bind_some,rOk]]
      cases pMany p k z.2 with
      | none=>rfl
      | some y =>
        simp only [Option.bind_some,rOk]
        cases p y.2 <;> rfl
theorem pMany_length {α:Type} (p:Rd α):∀ (k:Nat) (b r:Bytes) (xs:List α),pMany p k b=some (xs,r)→xs.length=k
  | 0,b,r,xs,h=>by
    obtain ⟨rfl,_⟩:=rOk_some h
    rfl
  | k+1,b,r,xs,h=>by
    obtain ⟨x,r1,h1,h⟩:=rThen_some h
    obtain ⟨ys,r2,h2,h⟩:=rThen_some h
    obtain ⟨rfl,_⟩:=rOk_some h
    simp [pMany_length p k r1 r2 ys h2]
theorem after_many_succ {α:Type} (p:Rd α) (k:Nat) (st:Option Bytes):after st (pMany p (k+1))=after (after st (pMany p k)) p:=by
  cases st with
  | none=>rfl
  | some b =>
    simp only [after,Option.bind_some]
    rw [pMany_succ]
    cases pMany p k b with
    | none=>rfl
    | some z =>
      simp only [Option.bind_some,Option.map_some]
      cases p z.2 <;> rfl
theorem many_bad {α:Type} (p:Rd α) (k:Nat) (st:Option Bytes) (h:after st (pMany p k)=none):∀ m,k≤m→after st (pMany p m)=none:=by
  intro m hm
  induction m with
  | zero=>rw [show k=0 by omega] at h;exact h
  | succ m ih =>
    by_cases e:k=m+1
    · rw [← e];exact h
    · rw [after_many_succ,ih (by omega)]
      rfl
theorem pLen_lt {flex:Bool} {b r:Bytes} {n:Int} (h:pLen flex b=some (n,r)):n < 2147483648:=by
  unfold pLen at h
  obtain ⟨x,r1,h1,h2⟩:=rThen_some h
  split at h2
  · simp at h2
  · simp only [Option.some.injEq,Prod.mk.injEq] at h2
    obtain ⟨rfl,rfl⟩:=h2
    cases flex with
    | true =>
      rw [if_pos rfl] at h1
      obtain ⟨m,r2,q1,q2⟩:=rThen_some h1
      obtain ⟨rfl,_⟩:=rOk_some q2
      have:=(pUv_facts q1).1
      split
      · decide
      · split <;> omega
    | false =>
      rw [if_neg (by simp)] at h1
      unfold pInt at h1
      obtain ⟨m,r2,q1,q2⟩:=rThen_some h1
      obtain ⟨rfl,_⟩:=rOk_some q2
      have hlt:∀ (l:Bytes),unfix l < 256 ^ l.length:=by
        intro l
        induction l with
        | nil=>simp [unfix]
        | cons u l ih =>
          simp only [unfix,List.length_cons,Nat.pow_succ]
          have hu:u.toNat≤255:=by have:=u.toNat_lt;omega
          have:u.toNat * 256 ^ l.length≤255 * 256 ^ l.length:=Nat.mul_le_mul_right _ hu
          omega
      obtain ⟨e1,e2,e3⟩:=pFix_facts q1
      have h4:m < 256 ^ 4:=by
        have:=hlt (b.take 4)
        rw [show (b.take 4).length=4 by simp;omega] at this
        rw [e2]
        exact this
      simp only [sgn]
      split <;> simp at * <;> omega
theorem zeroCells_get {z:Array Value} {n j r:Nat} (hj:j < n) (hr:r < z.size) (rest:Array Value):(Builtin.zeroCells z n ++ rest)[j * z.size+r]?=z[r]?:=by
  have hlt:j * z.size+r < n * z.size:=by
    have:(j+1) * z.size≤n * z.size:=Nat.mul_le_mul_right _ hj
    rw [Nat.add_mul] at this
    omega
  rw [Array.getElem?_append_left (by simp [Builtin.zeroCells];exact hlt)]
  unfold Builtin.zeroCells
  rw [Array.getElem?_map,Array.getElem?_range,if_pos hlt]
  simp only [Option.map_some]
  rw [show (j * z.size+r) % z.size=r by rw [Nat.mul_comm,Nat.mul_add_mod];exact Nat.mod_eq_of_lt hr]
  rw [getElem!_pos z r hr,Array.getElem?_eq_getElem hr]
section
variable {X:RX}
theorem elem_fresh {T E size:Nat} {of:Ty} (hok:okRElem X.P X.I X.c T E size of=true):∃ i z,X.P.info? E=some i∧i.zero=some z∧z.cells.size=size∧i.size=size∧0 < size∧i.bytes≤131072∧szTy false of≤size ∧
    ∀ (w:World) (b q:Nat),(∀ r v,z.cells[r]?=some v→w.cell? ⟨b,q+r,none⟩=some v)→FrTy w b false of q:=by
  cases of with
  | prim k =>
    simp only [okRElem] at hok
    split at hok
    · rename_i hk
      simp only [Bool.and_eq_true,beq_iff_eq] at hok
      obtain ⟨i,z,h1,h2,h3,h4,h5,h6,_⟩:=zOK_of hok.2
      exact ⟨i,z,h1,h2,h3,h4,h5,h6,by simp [szTy,hk,hok.1.1.1],fun w b q _=>by simp [FrTy]⟩
    · rename_i hk
      simp only [Bool.and_eq_true,beq_iff_eq] at hok
      obtain ⟨i,z,h1,h2,h3,h4,h5,h6,_⟩:=zOK_of hok.2
      exact ⟨i,z,h1,h2,h3,h4,h5,h6,by simp [szTy,hk,hok.1.1.1],fun w b q _=>by simp [FrTy]⟩
  | list a b c of=>simp [okRElem] at hok
  | struct S sz d tags fs =>
    simp only [okRElem,Bool.and_eq_true,beq_iff_eq] at hok
    obtain ⟨⟨⟨rfl,hz⟩,_⟩,_⟩:=hok
    obtain ⟨i,z,h1,h2,h3,h4,h5,h6,h7⟩:=zOK_of hz
    refine ⟨i,z,h1,h2,h3,h4,h5,h6,by simp [szTy],fun w b q hc=>?_⟩
    simp only [FrTy,Bool.false_eq_true,if_false]
    have:=frFsB_ok (w:=w) (b:=b) (q:=q) (get:=fun j=>z.cells[j]?) hc fs 0 h7
    simpa using this
theorem rLen_ok {l t:Nat} {a:Act} {w:World} {st:Option Bytes} {Q:Exit→Act→World→Prop} (hX:X.ok) (hok:(X.c.never=true∨X.I.rCArr ≠ 0)∧X.I.rArr ≠ 0) (hi:RInv X a w st) (hl:10≤l) (hlT:l < X.T0) (ht:X.T0≤t) (htN:t+rLenT X.c≤X.N)
    (hQ:∀ a' w' n,RInv X a' w' (after st (pLen X.flex))→getT a' l=.int .i32 n→(∀ s,s ≠ l→s < t→getT a' s=getT a s)→Only X.rb w w'→(∀ b x r,st=some b→pLen X.flex b=some (x,r)→n=x)→Q .normal a' w') :
    (rLen X.I X.c l t).wp X.P Q a w:=by
  have hten:=hX.ten
  have kr:=hX.kr
  unfold rLen
  unfold rLenT at htN
  have fin:∀ (fl:Bool) (f t':Nat) (a1:Act),X.flex=fl→RC X.P X.TR X.gb f (pLen fl) (fun v=>∃ n,v=.int .i32 n) (fun _ _ n v=>v=.int .i32 n)→RInv X a1 w st→(∀ s,s ≠ l→s < t→getT a1 s=getT a s)→t≤t'→t' < X.N→(rGet f l t').wp X.P Q a1 w:=by
    intro fl f t' a1 hfl hrc hi1 hs1 h1 h2
    subst hfl
    refine rGet_ok hX hrc hi1 hl (by omega) (by omega) h2 fun a' w' y q1 q2 q3 q4 q5 q6=>?_
    obtain ⟨n,rfl⟩:=q5
    refine hQ a' w' n q1 q2 (fun s k1 k2=>(q3 s k1 (by omega)).trans (hs1 s k1 k2)) q4 fun b x r k1 k2=>?_
    have:=q6 b x r k1 k2
    simpa using this
  cases hn:X.c.never with
  | true =>
    rw [hn] at htN
    simp only [if_true] at htN ⊢
    exact fin false _ t a (hX.never hn) (kr.arr hok.2) hi (fun _ _ _=>rfl) (Nat.le_refl _) (by omega)
  | false =>
    rw [hn] at htN hok
    simp only [Bool.false_eq_true,if_false,false_or] at htN hok ⊢
    refine mvCond_ok hi (by omega) (by omega) (hi.flex hn) fun a1 hi1 hs1=>?_
    cases hfl:X.flex with
    | true =>
      rw [if_pos rfl]
      exact fin true _ (t+1) a1 hfl (kr.carr hok.1) hi1 (fun s h1 h2=>hs1 s (by omega)) (by omega) (by omega)
    | false =>
      rw [if_neg (by simp)]
      exact fin false _ (t+2) a1 hfl (kr.arr hok.2) hi1 (fun s h1 h2=>hs1 s (by omega)) (by omega) (by omega)
theorem rNil_ok {h:Hd} {T E size sa l t:Nat} {n:Int} {a:Act} {w:World} {st:Option Bytes} {Q:Exit→Act→World→Prop} {rest:List SC} (hX:X.ok) (hsl:sliceB X.P T E size=true) (hz:∃ i z,X.P.info? E=some i∧i.zero=some z) (hnull:h.null < 0∨h.null≤X.ver)
    (hi:RInv X a w st) (hsa:10≤sa) (hsaT:sa < X.T0) (hlT:l < X.T0) (hne:sa ≠ l) (ht:X.T0≤t) (htN:t+rNilT h≤X.N) (ha_:getT a sa=.slice none 0 0) (hl:getT a l=.int .i32 n)
    (hQ:∀ a' w' base,RInv X a' w' st→getT a' sa=.slice base 0 0→(∀ s,s ≠ sa→s < t→getT a' s=getT a s)→(w'=w∨w'=w.alloc (.cells #[] E))→((base=none∧(nuOf h=true→n ≠ 0))∨(w.heap.size < w'.heap.size∧base=some ⟨w.heap.size,0,none⟩∧nuOf h=true∧n=0))→wpL X.P Q rest a' w') :
    wpL X.P Q (rNilL X.I X.c h T sa l t ++ rest) a w:=by
  have hten:=hX.ten
  have hcv:=hX.cver
  have hsz:=hi.size
  unfold rNilL
  unfold rNilT at htN
  by_cases hn:0≤h.null
  · rw [if_pos hn] at htN ⊢
    have hnb:nuOf h=true:=by simp [nuOf,hn]
    have hv:h.null≤X.ver:=by omega
    simp only [List.cons_append,List.nil_append,wpL]
    refine SC.wp_seq (SC.wp_reg (ops_mv (oNo rfl (opw_cmp (op:=.lss) (k:=.i16) (m:=X.ver) (n:=h.null) (r:=decide (X.ver < h.null)) ?_ rfl (by simp) (ops_mv ?_)))))
    · rw [eTm,gTp (by omega),hcv]
      exact hi.ver
    have hd:decide (X.ver < h.null)=false:=by simp;omega
    rw [hd]
    generalize ha1:(((a.put (some t) (getT a X.c.ver)).put (some (t+1)) (.bool false)).put (some (t+2)) (getT ((a.put (some t) (getT a X.c.ver)).put (some (t+1)) (.bool false)) (t+1)))=a1
    have s1:a1.tmps.size=X.N:=by rw [← ha1];simp only [sPu];exact hsz
    have d1:a1.defers=a.defers:=by rw [← ha1];simp [dPu]
    have g1:∀ s,s < t→getT a1 s=getT a s:=fun s hs=>by rw [← ha1,gTn (by omega),gTn (by omega),gTn (by omega)]
    have v1:getT a1 (t+2)=.bool false:=by rw [← ha1,gTp (by simp only [sPu];omega),gTp (by rw [sPu];omega)]
    unfold opsw
    refine ⟨t+2,false,rfl,by omega,.inl v1,?_⟩
    rw [if_pos rfl]
    refine opw_move ?_
    unfold opsw
    refine ⟨t+2,false,rfl,by rw [sPu];omega,.inl (by rw [gTn (by omega),v1]),?_⟩
    rw [if_pos rfl]
    refine opw_cmp (op:=.eql) (k:=.i32) (m:=n) (n:=0) (r:=(n == 0)) ?_ rfl (by simp) ?_
    · rw [eTm,gTp (by omega),eTm,g1 l (by omega)]
      exact hl
    refine oNo rfl (opw_pick (b:=false) ?_ (oNi ?_))
    · rw [eTm,gTn (by omega),gTn (by omega),v1]
    rw [if_neg (by simp)]
    generalize ha2:(((a1.put (some (t+3)) (a1.eval (.tmp l))).put (some (t+4)) (.bool (n == 0))).put (some (t+5)) (((a1.put (some (t+3)) (a1.eval (.tmp l))).put (some (t+4)) (.bool (n == 0))).eval (.tmp (t+4))))=a2
    have s2:a2.tmps.size=X.N:=by rw [← ha2];simp only [sPu];exact s1
    have d2:a2.defers=a.defers:=by rw [← ha2];simp only [dPu];exact d1
    have g2:∀ s,s < t→getT a2 s=getT a s:=fun s hs=>by rw [← ha2,gTn (by omega),gTn (by omega),gTn (by omega)];exact g1 s hs
    have v2:getT a2 (t+5)=.bool (n == 0):=by rw [← ha2,gTp (by simp only [sPu];omega),eTm,gTp (by rw [sPu];omega)]
    have hi2:RInv X a2 w st:=hi.act (by rw [s2,hsz]) d2 fun s hs=>g2 s (by omega)
    refine SC.wp_cond (t:=(n == 0)) (by rw [eTm,v2]) ?_
    by_cases h0:n=0
    · rw [if_pos (by simpa using h0)]
      refine SC.wp_reg (oNo rfl (opw_slice00 hsl hz (ops_asg (oNi ?_))))
      simp only [Exit.then]
      refine hQ _ _ (some ⟨w.heap.size,0,none⟩) ((hi2.alloc _).act (by simp [sPu]) (by simp [dPu]) fun s hs=>?_) ?_ (fun s h1 h2=>?_) (.inr rfl) (.inr ⟨by simp,rfl,hnb,h0⟩)
      · rw [gTn (by omega),gTn (by omega)]
      · rw [gTp (by rw [sPu];omega),gTp (by omega)]
      · rw [gTn h1,gTn (by omega)]
        exact g2 s h2
    · rw [if_neg (by simpa using h0)]
      refine SC.wp_skip ?_
      simp only [Exit.then]
      exact hQ a2 w none hi2 ((g2 sa (by omega)).trans ha_) (fun s _ h2=>g2 s h2) (.inl rfl) (.inl ⟨rfl,fun _=>h0⟩)
  · rw [if_neg hn,List.nil_append]
    have hnb:nuOf h=false:=by simp [nuOf,hn]
    exact hQ a w none hi ha_ (fun _ _ _=>rfl) (.inl rfl) (.inl ⟨rfl,fun e=>by rw [hnb] at e;cases e⟩)
theorem rOkC_ok {t:Nat} {a:Act} {w:World} {st:Option Bytes} {Q:Exit→Act→World→Prop} (hX:X.ok) (hro:X.I.rOk ≠ 0) (hi:RInv X a w st) (ht:X.T0≤t) (htN:t+3≤X.N)
    (hQ:∀ a' r,st=some r→RInv X a' w st→(∀ s,s < t→getT a' s=getT a s)→Q .normal a' w) (hR:RetOK X Q (st=none)):(rOkC X.I t).wp X.P Q a w:=by
  have hten:=hX.ten
  have hsz:=hi.size
  unfold rOkC
  refine SC.wp_seq (SC.wp_reg (ops_cal (hX.kr.okF hro) (R:=fun e w'=>e=.returned (.bool st.isSome)∧w'=w) ?_ ?_))
  · have:=hX.kr.ok hro w X.S X.rb _ hi.at_
    rw [show (([7].map (getT a)).toArray:Array Value)=#[.pointer (some ⟨X.rb,0,none⟩)] by simp [hi.rd]]
    exact this
  rintro e w' ⟨rfl,rfl⟩
  refine ⟨_,rfl,oNo rfl (opw_not (b:=st.isSome) (by rw [eTm,gTp (by omega)]) (oNi ?_))⟩
  generalize ha1:((a.put (some t) (.bool st.isSome)).put (some (t+1)) (.bool (!st.isSome)))=a1
  have s1:a1.tmps.size=X.N:=by rw [← ha1];simp only [sPu];exact hsz
  have g1:∀ s,s < t→getT a1 s=getT a s:=fun s hs=>by rw [← ha1,gTn (by omega),gTn (by omega)]
  have v1:getT a1 (t+1)=.bool (!st.isSome):=by rw [← ha1,gTp (by rw [sPu];omega)]
  have hi1:RInv X a1 w' st:=hi.act (by rw [s1,hsz]) (by rw [← ha1];simp [dPu]) fun s hs=>g1 s (by omega)
  refine SC.wp_cond (t:=!st.isSome) (by rw [eTm,v1]) ?_
  cases hst:st with
  | some r =>
    subst hst
    simp only [Option.isSome_some,Bool.not_true,Bool.false_eq_true,if_false]
    exact SC.wp_skip (hQ a1 r rfl hi1 g1)
  | none =>
    subst hst
    simp only [Option.isSome_none,Bool.not_false,if_true]
    refine SC.wp_seq (SC.wp_reg (ops_cal hX.kr.complF (R:=fun e w2=>e=.returned X.err∧w2=w') ?_ ?_))
    · have:=hX.kr.compl w' X.S X.rb none (hX.gl w' hi.below) hi1.at_
      rw [show (([7].map (getT a1)).toArray:Array Value)=#[.pointer (some ⟨X.rb,0,none⟩)] by simp [hi1.rd]]
      simpa using this
    rintro e w2 ⟨rfl,rfl⟩
    refine ⟨_,rfl,ops_asg (oNi ?_)⟩
    simp only [Exit.then]
    refine SC.wp_ret (hR _ _ (by simp only [dPu];exact hi1.defers) ?_ hi.below rfl)
    rw [gTp (by rw [sPu];omega),gTp (by omega)]
theorem rLoop_ok {l i t et b:Nat} {body:List SC} {n:Int} {a:Act} {w:World} {Q:Exit→Act→World→Prop} {R:Act→World→Prop} (Inv InvB:Nat→Act→World→Prop)
    (hinv:∀ k a w,Inv k a w→a.tmps.size=X.N∧getT a i=.int .i32 (k:Int)∧getT a l=.int .i32 n)
    (htmp:∀ k a a' w,Inv k a w→a'.tmps.size=a.tmps.size→a'.defers=a.defers→(∀ s,(s < t∨t+5≤s)→getT a' s=getT a s)→Inv k a' w)
    (hstep:∀ k a w Q',Inv k a w→(k:Int) < n→(∀ a' w',InvB k a' w'→Q' .normal a' w')→(∀ a' w',R a' w'→Q' .ret a' w')→wpL X.P Q' body a w)
    (hB:∀ k a w,InvB k a w→a.tmps.size=X.N∧getT a i=.int .i32 (k:Int))
    (hnext:∀ k a a' w,InvB k a w→a'.tmps.size=a.tmps.size→a'.defers=a.defers→getT a' i=.int .i32 ((k+1:Nat):Int)→(∀ s,s ≠ i→(s < t∨t+5≤s)→getT a' s=getT a s)→Inv (k+1) a' w)
    (hn:n < 2147483648) (hit:i < t) (hlt:l < t) (htN:t+5≤X.N) (hsz:a.tmps.size=X.N)
    (h0:∀ a',a'.tmps.size=a.tmps.size→a'.defers=a.defers→getT a' i=.int .i32 0→(∀ s,s ≠ i→getT a' s=getT a s)→Inv 0 a' w)
    (hend:∀ k a w,Inv k a w→¬ (k:Int) < n→Q .normal a w) (hret:∀ a w,R a w→Q .ret a w) :
    (rLoop X.I l i t et b body).wp X.P Q a w:=by
  unfold rLoop
  refine SC.wp_seq (SC.wp_reg (oNo rfl (opw_assign (oNi ?_))))
  rw [eCo]
  simp only [Exit.then]
  refine SC.wp_block (SC.wp_loop (fun a w=>∃ k,Inv k a w) (fun a w=>(n - intOf (getT a i)).toNat) ⟨0,h0 _ (by simp [sPu]) (by simp [dPu]) (by rw [gTp (by omega)]) fun s hs=>by rw [gTn hs]⟩ ?_)
  rintro a w ⟨k,hk⟩
  obtain ⟨hsz,hki,hkl⟩:=hinv k a w hk
  refine SC.wp_seq (SC.wp_seq (SC.wp_reg (ops_mv (ops_mv (oNo rfl (opw_cmp (op:=.lss) (k:=.i32) (m:=(k:Int)) (n:=n) (r:=decide ((k:Int) < n)) ?_ ?_ (by simp) (oNi ?_)))))))
  · rw [eTm,gTn (by omega),gTp (by omega)]
    exact hki
  · rw [eTm,gTp (by rw [sPu];omega),gTn (by omega)]
    exact hkl
  generalize ha1:(((a.put (some t) (getT a i)).put (some (t+1)) (getT (a.put (some t) (getT a i)) l)).put (some (t+2)) (.bool (decide ((k:Int) < n))))=a1
  have s1:a1.tmps.size=a.tmps.size:=by rw [← ha1];simp only [sPu]
  have hk1:Inv k a1 w:=htmp k a a1 w hk s1 (by rw [← ha1];simp [dPu]) fun s hs=>by rw [← ha1,gTn (by omega),gTn (by omega),gTn (by omega)]
  have v1:getT a1 (t+2)=.bool (decide ((k:Int) < n)):=by rw [← ha1,gTp (by simp only [sPu];omega)]
  have m1:getT a1 i=getT a i:=by rw [← ha1,gTn (by omega),gTn (by omega),gTn (by omega)]
  simp only [Exit.then]
  refine SC.wp_cond (t:=decide ((k:Int) < n)) (by rw [eTm,v1]) ?_
  by_cases hkn:(k:Int) < n
  · rw [if_pos (by simpa using hkn)]
    refine SC.wp_skip ?_
    simp only [Exit.then]
    refine SC.wp_seq (SC.wp_block (wpL_seqs _ _ _ (hstep k a1 w _ hk1 hkn ?_ ?_)))
    · intro a2 w2 h2
      obtain ⟨z1,z2⟩:=hB k a2 w2 h2
      simp only [Exit.inBlock,Exit.then]
      refine SC.wp_reg (ops_mv (oNo rfl (opw_arith (op:=.add) (k:=.i32) (m:=(k:Int)) (n:=1) (r:=((k+1:Nat):Int)) ?_ rfl ?_ (ops_asg (oNi ?_)))))
      · rw [eTm,gTp (by omega)]
        exact z2
      · left
        refine ⟨rfl,?_⟩
        have:((k:Int)+1) < 2147483648:=by omega
        simp only [IntKind.wrap,IntKind.bits,IntKind.signed]
        simp
        omega
      generalize ha3:(((a2.put (some (t+3)) (getT a2 i)).put (some (t+4)) (.int .i32 ((k+1:Nat):Int))).put (some i) (getT ((a2.put (some (t+3)) (getT a2 i)).put (some (t+4)) (.int .i32 ((k+1:Nat):Int))) (t+4)))=a3
      have v3:getT a3 i=.int .i32 ((k+1:Nat):Int):=by rw [← ha3,gTp (by simp only [sPu];omega),gTp (by rw [sPu];omega)]
      refine ⟨⟨k+1,hnext k a2 a3 w2 h2 (by rw [← ha3];simp only [sPu]) (by rw [← ha3];simp only [dPu]) v3 fun s h1 h2=>by rw [← ha3,gTn h1,gTn (by omega),gTn (by omega)]⟩,?_⟩
      rw [v3,hki]
      simp only [intOf]
      omega
    · intro a2 w2 h2
      simp only [Exit.inBlock,Exit.then]
      exact hret a2 w2 h2
  · rw [if_neg (by simpa using hkn)]
    refine SC.wp_exit ?_
    simp only [Exit.inBlock,Exit.then,if_true]
    exact hend k a1 w hk1 hkn
end
end Go.Proofs.YtgaplicnofhliaaDoor.K
