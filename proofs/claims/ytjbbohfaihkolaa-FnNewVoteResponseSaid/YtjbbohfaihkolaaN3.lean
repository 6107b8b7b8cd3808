/- Generic texts: S7 S8 S9 S10. No condition. -/
import Derived.Test.YtjbbohfaihkolaaN2
namespace Go.Proofs.Ytjbbohfaihkolaa.K
open Go Go.RowKit Go.Proofs.Ytjbbohfaihkolaa.T
attribute [local simp] eTm eCo pNo gTp gTn qv qcall vop iop
set_option linter.unusedSimpArgs false
set_option linter.unusedVariables false
set_option maxHeartbeats 2000000
def PartC (G:List (Nat × Bytes)→Prop) (P:Program) (X:STy) (f:FuncId) (fs:Fs):Prop :=
  ∀ (w:World) (fv:Value) (ver:Int) (flex:Bool) (tv:Value) (t:Tree),FsV w (· < w.heap.size) fs fv→TV G w (· < w.heap.size) t tv→(wFs ver flex fs t.l ++ wTags flex t.u).length≤lim →
    Calls P f #[fv,.int .i64 ver,.bool flex,tv] w (RetOwn X.U8 w (wFs ver flex fs t.l ++ wTags flex t.u))
def SubC (C:Fs→Prop):Ty→Prop
  | .struct _ _ _ _ fs=>C fs
  | .list _ _ _ of=>SubC C of
  | .prim _=>True
structure SmallC (P:Program) (X:STy) (fW fTh fC fWi fF fU fHas fNull fAt:FuncId) (G:List (Nat × Bytes)→Prop):Prop where
  oW:FnOK P fW
  cW:∀ (w:World) (base:Option Addr) (len cap:Nat),len≤cap→Calls P fW #[.slice base len cap] w fun e w'=>e=.returned (.slice base (min len most) cap)∧w=w'
  oTh:FnOK P fTh
  cTh:∀ (w:World) (base:Option Addr) (len cap:Nat),len≤cap→Calls P fTh #[.slice base len cap] w fun e w'=>e=.returned (.slice base (min len most) cap)∧w=w'
  oC:FnOK P fC
  cC:∀ (w:World) (flex null:Bool) (n size:Nat),n < 9223372036854775807→size≤8→Calls P fC #[.bool flex,.bool null,.int .i64 (n:Int),.int .i64 (size:Int)] w (RetOwn X.U8 w (counted flex null n size))
  oWi:FnOK P fWi
  cWi:∀ (w:World) (kind:Int),Calls P fWi #[.int .i64 kind] w fun e w'=>e=.returned (.int .i64 (widthOf kind:Int))∧w=w'
  oF:FnOK P fF
  cF:∀ (w:World) (n:Int) (size:Nat),size≤8→Calls P fF #[.int .i64 n,.int .i64 (size:Int)] w (RetOwn X.U8 w (fixed n size))
  oU:FnOK P fU
  cU:∀ (w:World) (n:Nat),n < 18446744073709551616→Calls P fU #[.int .u64 (n:Int)] w (RetOwn X.U8 w (uvarint n))
  oH:FnOK P fHas
  cH:∀ (w:World) (k fr to nu tg df of_:Int) (sub:Value) (ver:Int),Calls P fHas #[fldV k fr to nu tg df of_ sub,.int .i64 ver] w fun e w'=>e=.returned (.bool (decide (fr≤ver) && (decide (to < 0) || decide (ver≤to))))∧Below w.heap.size w w'
  oN:FnOK P fNull
  cN:∀ (w:World) (k fr to nu tg df of_:Int) (sub:Value) (ver:Int) (n:Int) (s l u:Value) (null:Bool),Calls P fNull #[fldV k fr to nu tg df of_ sub,.int .i64 ver,treV n s null l u] w fun e w'=>e=.returned (.bool (null && (decide (0≤nu) && decide (nu≤ver))))∧Below w.heap.size w w'
  oA:FnOK P fAt
  cA:∀ (w:World) (t:Tree) (tv:Value) (i:Nat),TV G w (· < w.heap.size) t tv→Calls P fAt #[tv,.int .i64 (i:Int)] w fun e w'=>∃ v,e=.returned v∧TV G w (· < w.heap.size) ((t.l.drop i).headD Tree.zero) v∧Below w.heap.size w w'
section
variable {G:List (Nat × Bytes)→Prop} {P:Program} {X:STy} {f:FuncId} {fn:Func} {fW fTh fC fWi fF fU fHas fNull fAt fPart:FuncId}
theorem setCells_row (P:Program) {w:World} {g o:Nat} {t:TypeId} {vs:List Value} {cur:Array Value} (hg:w.heap[g]?=some (.cells cur t (0,0))) (hl:o+vs.length≤cur.size) (h1:∀ v ∈ vs,v.oneCell'=true) :
    w.setCells g o vs=w.setRow g (cur.toList.take o ++ vs ++ cur.toList.drop (o+vs.length)).toArray:=by
  have e1:=run_storeCells_at P g o t vs 0 cur w hg (by simpa using hl) h1
  have e2:=run_storeCells_cells (P:=P) g o vs 0 w (fun j hj=>by
      rw [cell_of_row _ _ _ _ _ _ hg]
      simp only [Nat.add_zero]
      rw [Array.getElem?_eq_getElem (by omega)]
      rfl) (fun j hj=>by simp [World.frozen?,hg]) h1
  rw [e1] at e2
  simp only [Nat.add_zero,Result.ok.injEq,true_and] at e2
  exact e2.symm
theorem bytesAt_whole {w:World} {F:Nat→Prop} {base:Option Addr} {bs:Bytes} (h:BytesAt w F base bs) (n:Nat):BytesAt w F base (bs.take n):=by
  rcases h with h2 | ⟨b,o,h1,h2,h3⟩
  · exact .inl (by rw [h2];simp)
  · refine .inr ⟨b,o,h1,h2,fun j u hu=>h3 j u ?_⟩
    rw [List.getElem?_take] at hu
    split at hu
    · exact hu
    · cases hu
theorem own_down {tU8:Nat} {w:World} {B B':Nat} {v:Value} {xs:Bytes} (h:Own tU8 w B v xs) (hB:B'≤B):Own tU8 w B' v xs:=by
  refine ⟨h.1,h.2.imp id ?_⟩
  rintro ⟨g,cap,cur,h1,h2,h3⟩
  exact ⟨g,cap,cur,h1,Nat.le_trans hB h2,h3⟩
theorem text_tail (hX:stOK P X=true) (S:SmallC P X fW fTh fC fWi fF fU fHas fNull fAt G) {a:Act} {w w1:World} {Q:Exit→Act→World→Prop} (s d size:Nat) (hs8:size≤8) (h12:12 < s) (hsd:s < d) (hd70:d+6 < a.tmps.size)
    (bs:Bytes) (base:Option Addr) (cap:Nat) (flex null:Bool) (h4:getT a 4=.bool flex) (h2:getT a 2=.bool null) (hsv:getT a s=.slice base bs.length cap) (hb:BytesAt w1 (· < w1.heap.size) base bs) (hbw:Below w.heap.size w w1) (hsz:w.heap.size≤w1.heap.size)
    (hl:(counted flex null bs.length size ++ bs).length≤lim)
    (hQ:∀ (a':Act) (w':World) (v:Value),a'.defers=a.defers→getT a' 12=v→Own X.U8 w' w.heap.size v (counted flex null bs.length size ++ bs)→Below w.heap.size w w'→Q .ret a' w') :
    SC.wp P (.seq (.reg [mv d 4,mv (d+1) 2,mv (d+2) s,lenOp (d+3) X.Bs (d+2),⟨some (d+4),.call ⟨.value (.func fC),#[.tmp d,.tmp (d+1),.tmp (d+3),.const (.int .i64 (size:Int))],#[]⟩,none⟩,mv (d+5) s,⟨some (d+6),.call ⟨.builtin .append,#[.tmp (d+4),.tmp (d+5)],#[X.Bs,X.Bs]⟩,none⟩,asg 12 (d+6)]) .ret) Q a w1:=by
  have hst:=st_facts hX
  have hU8s:=hst.2.2.1.1
  have hlim:lim=70368744177664:=rfl
  have hbl:bs.length < 9223372036854775807:=by rw [List.length_append] at hl;omega
  refine SC.wp_seq (SC.wp_reg ?_)
  iterate 4 (apply ops_1;(focus (simp (disch:=(try simp only [sPu]);omega) [hst,h4,h2,hsv];try rfl)))
  refine ops_call S.oC (S.cC w1 flex null bs.length size hbl hs8) (by simp (disch:=(try simp only [sPu]);omega)) ?_
  rintro e w2 ⟨v,rfl,r1,r2⟩
  refine ⟨v,rfl,?_⟩
  iterate 1 (apply ops_1;(focus (simp (disch:=(try simp only [sPu]);omega) [hsv];try rfl)))
  refine oNo rfl (opw_appendU8 (B:=w.heap.size) (dv:=v) (xv:=.slice base bs.length cap) (xs:=counted flex null bs.length size) (bs:=bs) hU8s (by simp (disch:=(try simp only [sPu]);omega)) (by simp (disch:=(try simp only [sPu]);omega)) rfl (own_down r1 hsz) (Nat.le_trans hsz r2.size) (src_bytes hU8s (bytesAt_mono (F':=fun _=>True) hb (fun _ _=>trivial) (fun k hk=>r2.block k hk)) cap) (by rw [List.length_append] at hl;exact hl) ?_)
  intro v2 w3 p1 p2 p3 _
  repeat (apply ops_1;(focus (simp (disch:=(try simp only [sPu]);omega) ;try rfl)))
  refine oNi (SC.wp_ret (hQ _ _ v2 (by simp [dPu]) (by simp (disch:=(try simp only [sPu]);omega)) p1 ((hbw.trans (r2.mono hsz)).trans p2)))
theorem value_ok (hX:stOK P X=true) (S:SmallC P X fW fTh fC fWi fF fU fHas fNull fAt G) (hm:P.follows .mixedOrders=true) (oP:FnOK P fPart)
    (hf:P.funcs[f]?=some fn) (hb:fn.body.map strip=some (sc_value X.T X.I X.I64 X.U8 X.Bs fW fC fPart fWi fF)) (hn:fn.ntmps=70) (hr:fn.results=#[.tmp 12])
    (w:World) (ty:Ty) (hty:isList ty=false) (sub:Value) (null:Bool) (ver:Int) (flex:Bool) (t:Tree) (tv:Value) (hsub:SubV w (· < w.heap.size) ty sub) (cP:SubC (PartC G P X fPart) ty)
    (ht:TV G w (· < w.heap.size) t tv) (hl:(wTy ver flex ty null t).length≤lim) :
    Calls P f #[.int .i64 (kindOf ty),sub,.bool null,.int .i64 ver,.bool flex,tv] w (RetOwn X.U8 w (wTy ver flex ty null t)):=by
  have hst:=st_facts hX
  have hU8s:=hst.2.2.1.1
  refine fCa hf hb hn (by simp) fun a0 hs hd ha=>?_
  have h0:=ha 0 _ rfl
  have h1:=ha 1 _ rfl
  have h2:=ha 2 _ rfl
  have h3:=ha 3 _ rfl
  have h4:=ha 4 _ rfl
  have h5:=ha 5 _ rfl
  simp only [List.getElem_toArray,List.getElem_cons_zero,List.getElem_cons_succ] at h0 h1 h2 h3 h4 h5
  have ht0:=ht
  cases ht with
  | mk n s tnull l u sb lb ub sc lc uc b o cs hs1 hsc hlc huc hll hrr htt hG hu =>
  refine SC.wp_seq (SC.wp_reg (ops_box (B:=w.heap.size) (w0:=w) (by rw [eTm,h5];rfl) (Nat.le_refl _) (Below.refl _ _) fun w1 q1 q2 q3 hc q5=>?_))
  repeat (apply ops_1;(focus (simp (disch:=(try simp only [sPu]);omega) ;try rfl)))
  refine oNi (SC.wp_seq (SC.wp_seq (SC.wp_reg ?_)))
  repeat (apply ops_1;(focus (simp (disch:=(try simp only [sPu]);omega) [h0];try rfl)))
  refine oNi (SC.wp_block ?_)
  have hsz1:w.heap.size≤w1.heap.size:=by omega
  clear q1 q5
  have fin:∀ (out:Bytes) (a:Act) (w':World) (v:Value),a.defers=[]→getT a 12=v→Own X.U8 w' w.heap.size v out→Below w.heap.size w w'→out=wTy ver flex ty null (.mk n s tnull l u)→bodyPost P fn (RetOwn X.U8 w (wTy ver flex ty null (.mk n s tnull l u))) .ret a w':=by
    intro out a w' v q2 q3 q4 q5 q6
    subst q6
    exact ret_tmp hr q2 ⟨v,by rw [q3],q4,q5⟩
  cases ty with
  | list _ _ _ _=>simp [isList] at hty
  | struct typ size dflt tags fs =>
    simp only [SubC] at cP
    simp only [SubV] at hsub
    simp only [kindOf] at h0 ⊢
    iterate 4 (refine SC.wp_seq (SC.wp_reg ?_);(repeat (apply ops_1;(focus (simp (disch:=(try simp only [sPu]);omega) ;try rfl))));refine oNi (SC.wp_cond (t:=false) (by simp (disch:=(try simp only [sPu]);omega)) ?_);rw [if_neg (by simp)])
    (refine SC.wp_seq (SC.wp_reg ?_);(repeat (apply ops_1;(focus (simp (disch:=(try simp only [sPu]);omega) ;try rfl))));refine oNi (SC.wp_cond (t:=true) (by simp (disch:=(try simp only [sPu]);omega)) ?_);rw [if_pos rfl])
    refine SC.wp_seq (SC.wp_reg ?_)
    have hr5:rangeV w1 w.heap.size 0 5=some [.int .i64 n,.slice sb s.length sc,.bool tnull,.slice lb l.length lc,.slice ub u.length uc]:=by simp [rangeV,hc]
    iterate 4 (apply ops_1;(focus (simp (disch:=(try simp only [sPu]);omega) [hst,h1,h3,h4,hr5];try rfl)))
    have hfv:FsV w1 (· < w1.heap.size) fs sub:=FsV.down q2 hsz1 hsub
    have htv:=TV.down q2 hsz1 ht0
    refine ops_call oP (cP w1 sub ver flex _ _ hfv htv (by simpa [wTy] using hl)) (by simp (disch:=(try simp only [sPu]);omega) [h1,h3,h4];rfl) ?_
    rintro e w2 ⟨v,rfl,r1,r2⟩
    refine ⟨v,rfl,?_⟩
    repeat (apply ops_1;(focus (simp (disch:=(try simp only [sPu]);omega) ;try rfl)))
    refine oNi (SC.wp_ret ?_)
    simp only [Exit.then,Exit.inBlock]
    refine fin _ _ _ v (by simp [dPu,hd]) (by simp (disch:=(try simp only [sPu]);omega)) (own_down r1 hsz1) (q2.trans (r2.mono hsz1)) (by simp [wTy,Tree.l,Tree.u])
  | prim k =>
    have hBs:BytesAt w1 (· < w1.heap.size) sb s:=bytesAt_mono hs1 (fun k hk=>Nat.lt_of_lt_of_le hk hsz1) (fun k hk=>q2.block k hk)
    have nums:∀ (a:Act) (kd:Int),a.tmps.size=70→a.defers=[]→getT a 11=.pointer (some ⟨w.heap.size,0,none⟩)→getT a 0=.int .i64 kd→widthOf kd≤8→fixed n (widthOf kd)=wTy ver flex (.prim k) null (.mk n s tnull l u) →
        SC.wp P (.seq (.dreg [fa 65 X.T 11 0,ld 66 X.I64 65,mv 67 0,cal 68 fWi [67],cal 69 fF [66,68],asg 12 69] [[],[0],[],[2],[1,3,3],[4,4,0,1,2,3,4]]) .ret) (bodyPost P fn (RetOwn X.U8 w (wTy ver flex (.prim k) null (.mk n s tnull l u)))) a w1:=by
      intro a kd p1 p2 p3 p4 p5 p6
      refine SC.wp_seq (SC.wp_dreg hm (Below w1.heap.size w1.drew) [(0,true),(1,true),(2,true),(3,false),(4,false),(5,true)] (by rfl) (by rfl) (by decide) (Below.refl _ _) ?_)
      have hlt:w.heap.size < w1.heap.size:=by omega
      have hcd:∀ j,w1.drew.cell? ⟨w.heap.size,j,none⟩=#[Value.int .i64 n,.slice sb s.length sc,.bool tnull,.slice lb l.length lc,.slice ub u.length uc][j]?:=hc
      repeat (apply dr_1;(focus rfl);(focus (simp (disch:=(try simp only [sPu]);omega) [hst,p3,p4,hlt,hcd];try rfl)))
      refine dreg_n rfl rfl ?_
      obtain ⟨fn1,g1,g2,g3⟩:=S.oWi
      refine opw_call g1 g2 g3 (R:=fun e w'=>e=.returned (.int .i64 (widthOf kd:Int))∧w1.drew=w') ?_ ?_
      · refine Eq.mp (congrArg (fun z=>Calls P fWi z w1.drew _) ?_) (S.cWi w1.drew kd)
        simp (disch:=(try simp only [sPu]);omega) [p4]
      rintro e w2 ⟨rfl,rfl⟩
      refine ⟨_,rfl,Below.refl _ _,?_⟩
      refine dreg_n rfl rfl ?_
      obtain ⟨fn1,g1,g2,g3⟩:=S.oF
      refine opw_call g1 g2 g3 (R:=RetOwn X.U8 w1.drew (fixed n (widthOf kd))) ?_ ?_
      · refine Eq.mp (congrArg (fun z=>Calls P fF z w1.drew _) ?_) (S.cF w1.drew n (widthOf kd) p5)
        simp (disch:=(try simp only [sPu]);omega)
      rintro e w2 ⟨v,rfl,r1,r2⟩
      refine ⟨v,rfl,r2,?_⟩
      repeat (apply dr_1;(focus rfl);(focus (simp (disch:=(try simp only [sPu]);omega) ;try rfl)))
      refine dreg_nil ?_
      simp only [Exit.then]
      refine SC.wp_ret ?_
      refine fin _ _ _ v (by simp [dPu,p2]) (by simp (disch:=(try simp only [sPu]);omega)) (own_down r1 hsz1) (q2.drew.trans (r2.mono hsz1)) p6
    cases k with
    | i8 =>
      simp only [kindOf] at h0 ⊢
      iterate 4 (refine SC.wp_seq (SC.wp_reg ?_);(repeat (apply ops_1;(focus (simp (disch:=(try simp only [sPu]);omega) ;try rfl))));refine oNi (SC.wp_cond (t:=false) (by simp (disch:=(try simp only [sPu]);omega)) ?_);rw [if_neg (by simp)])
      refine SC.wp_seq (SC.wp_reg ?_)
      repeat (apply ops_1;(focus (simp (disch:=(try simp only [sPu]);omega) ;try rfl)))
      refine oNi (SC.wp_cond (t:=false) (by simp (disch:=(try simp only [sPu]);omega)) ?_)
      rw [if_neg (by simp)]
      refine SC.wp_skip ?_
      simp only [Exit.then,Exit.inBlock]
      exact nums _ 1 (by simp [sPu,hs]) (by simp [dPu,hd]) (by simp (disch:=(try simp only [sPu]);omega)) (by simp (disch:=(try simp only [sPu]);omega) [h0]) (by decide) (by simp only [wTy,wPrim];rfl)
    | i16 =>
      simp only [kindOf] at h0 ⊢
      iterate 4 (refine SC.wp_seq (SC.wp_reg ?_);(repeat (apply ops_1;(focus (simp (disch:=(try simp only [sPu]);omega) ;try rfl))));refine oNi (SC.wp_cond (t:=false) (by simp (disch:=(try simp only [sPu]);omega)) ?_);rw [if_neg (by simp)])
      refine SC.wp_seq (SC.wp_reg ?_)
      repeat (apply ops_1;(focus (simp (disch:=(try simp only [sPu]);omega) ;try rfl)))
      refine oNi (SC.wp_cond (t:=false) (by simp (disch:=(try simp only [sPu]);omega)) ?_)
      rw [if_neg (by simp)]
      refine SC.wp_skip ?_
      simp only [Exit.then,Exit.inBlock]
      exact nums _ 2 (by simp [sPu,hs]) (by simp [dPu,hd]) (by simp (disch:=(try simp only [sPu]);omega)) (by simp (disch:=(try simp only [sPu]);omega) [h0]) (by decide) (by simp only [wTy,wPrim];rfl)
    | i32 =>
      simp only [kindOf] at h0 ⊢
      iterate 4 (refine SC.wp_seq (SC.wp_reg ?_);(repeat (apply ops_1;(focus (simp (disch:=(try simp only [sPu]);omega) ;try rfl))));refine oNi (SC.wp_cond (t:=false) (by simp (disch:=(try simp only [sPu]);omega)) ?_);rw [if_neg (by simp)])
      refine SC.wp_seq (SC.wp_reg ?_)
      repeat (apply ops_1;(focus (simp (disch:=(try simp only [sPu]);omega) ;try rfl)))
      refine oNi (SC.wp_cond (t:=false) (by simp (disch:=(try simp only [sPu]);omega)) ?_)
      rw [if_neg (by simp)]
      refine SC.wp_skip ?_
      simp only [Exit.then,Exit.inBlock]
      exact nums _ 3 (by simp [sPu,hs]) (by simp [dPu,hd]) (by simp (disch:=(try simp only [sPu]);omega)) (by simp (disch:=(try simp only [sPu]);omega) [h0]) (by decide) (by simp only [wTy,wPrim];rfl)
    | i64 =>
      simp only [kindOf] at h0 ⊢
      iterate 4 (refine SC.wp_seq (SC.wp_reg ?_);(repeat (apply ops_1;(focus (simp (disch:=(try simp only [sPu]);omega) ;try rfl))));refine oNi (SC.wp_cond (t:=false) (by simp (disch:=(try simp only [sPu]);omega)) ?_);rw [if_neg (by simp)])
      refine SC.wp_seq (SC.wp_reg ?_)
      repeat (apply ops_1;(focus (simp (disch:=(try simp only [sPu]);omega) ;try rfl)))
      refine oNi (SC.wp_cond (t:=false) (by simp (disch:=(try simp only [sPu]);omega)) ?_)
      rw [if_neg (by simp)]
      refine SC.wp_skip ?_
      simp only [Exit.then,Exit.inBlock]
      exact nums _ 4 (by simp [sPu,hs]) (by simp [dPu,hd]) (by simp (disch:=(try simp only [sPu]);omega)) (by simp (disch:=(try simp only [sPu]);omega) [h0]) (by decide) (by simp only [wTy,wPrim];rfl)
    | u16 =>
      simp only [kindOf] at h0 ⊢
      iterate 4 (refine SC.wp_seq (SC.wp_reg ?_);(repeat (apply ops_1;(focus (simp (disch:=(try simp only [sPu]);omega) ;try rfl))));refine oNi (SC.wp_cond (t:=false) (by simp (disch:=(try simp only [sPu]);omega)) ?_);rw [if_neg (by simp)])
      refine SC.wp_seq (SC.wp_reg ?_)
      repeat (apply ops_1;(focus (simp (disch:=(try simp only [sPu]);omega) ;try rfl)))
      refine oNi (SC.wp_cond (t:=false) (by simp (disch:=(try simp only [sPu]);omega)) ?_)
      rw [if_neg (by simp)]
      refine SC.wp_skip ?_
      simp only [Exit.then,Exit.inBlock]
      exact nums _ 5 (by simp [sPu,hs]) (by simp [dPu,hd]) (by simp (disch:=(try simp only [sPu]);omega)) (by simp (disch:=(try simp only [sPu]);omega) [h0]) (by decide) (by simp only [wTy,wPrim];rfl)
    | bool =>
      simp only [kindOf] at h0 ⊢
      (refine SC.wp_seq (SC.wp_reg ?_);(repeat (apply ops_1;(focus (simp (disch:=(try simp only [sPu]);omega) ;try rfl))));refine oNi (SC.wp_cond (t:=true) (by simp (disch:=(try simp only [sPu]);omega)) ?_);rw [if_pos rfl])
      refine SC.wp_seq (SC.wp_reg ?_)
      iterate 2 (apply ops_1;(focus (simp (disch:=(try simp only [sPu]);omega) [hst,hc];try rfl)))
      refine oNo rfl (opw_andOne (m:=n) (by simp (disch:=(try simp only [sPu]);omega)) ?_)
      have e2:(n % 2) % 256=n % 2:=by omega
      iterate 1 (apply ops_1;(focus (simp (disch:=(try simp only [sPu]);omega) [hst,wrap_u8,e2];try rfl)))
      refine ops_u8lit (B:=w.heap.size) (bs:=[T.byteOf (n % 2)]) hU8s rfl (by decide) (by decide) ?_ hsz1 ?_
      · simp only [cellsOf,List.map_cons,List.map_nil]
        rw [byteOf_cell,e2]
        simp (disch:=(try simp only [sPu]);omega) [List.range']
      intro v w2 r1 r2
      repeat (apply ops_1;(focus (simp (disch:=(try simp only [sPu]);omega) ;try rfl)))
      refine oNi (SC.wp_ret ?_)
      simp only [Exit.then,Exit.inBlock]
      exact fin _ _ _ v (by simp [dPu,hd]) (by simp (disch:=(try simp only [sPu]);omega)) r1 (q2.trans r2) (by simp [wTy,wPrim,Tree.n])
    | uuid =>
      simp only [kindOf] at h0 ⊢
      iterate 1 (refine SC.wp_seq (SC.wp_reg ?_);(repeat (apply ops_1;(focus (simp (disch:=(try simp only [sPu]);omega) ;try rfl))));refine oNi (SC.wp_cond (t:=false) (by simp (disch:=(try simp only [sPu]);omega)) ?_);rw [if_neg (by simp)])
      (refine SC.wp_seq (SC.wp_reg ?_);(repeat (apply ops_1;(focus (simp (disch:=(try simp only [sPu]);omega) ;try rfl))));refine oNi (SC.wp_cond (t:=true) (by simp (disch:=(try simp only [sPu]);omega)) ?_);rw [if_pos rfl])
      refine SC.wp_seq (SC.wp_reg ?_)
      refine oNo rfl (opw_mkU8s (n:=16) hU8s rfl rfl (by decide) fun w2 hw2=>?_)
      repeat (apply ops_1;(focus (simp (disch:=(try simp only [sPu]);omega) ;try rfl)))
      refine oNi (SC.wp_seq (SC.wp_reg ?_))
      have hnew:w2.heap[w1.heap.size]?=some (.cells (madeCells #[.int .u8 0] (16 * 1)) X.U8 (0,0)):=by rw [hw2];exact heap_alloc_new w1 _
      have hb2:Below w.heap.size w w2:=by rw [hw2];exact q2.alloc hsz1 _
      have hold:∀ k,k < w1.heap.size→w2.heap[k]?=w1.heap[k]?:=fun k hk=>by rw [hw2];exact Below.heap_alloc w1 _ k hk
      have hc2:∀ j,w2.cell? ⟨w.heap.size,j,none⟩=#[Value.int .i64 n,.slice sb s.length sc,.bool tnull,.slice lb l.length lc,.slice ub u.length uc][j]?:=fun j=>by
        rw [World.cell?_of_block (a:=⟨w.heap.size,j,none⟩) (hold w.heap.size (by omega))];exact hc j
      clear hw2
      iterate 3 (apply ops_1;(focus (simp (disch:=(try simp only [sPu]);omega) [hst,hc2];try rfl)))
      have hB2:BytesAt w2 (· < w1.heap.size) sb s:=bytesAt_mono hBs (fun _ h=>h) hold
      obtain ⟨hu8,i8,hi8,hz8,hs8,hby8⟩:=u8s_of hU8s
      have hsize8:(P.info? X.U8).map (·.size)=some 1:=by rw [hi8];simp [hs8]
      have hmade:(madeCells #[Value.int .u8 0] (16 * 1)).toList=List.replicate 16 (Value.int .u8 0):=by simp [madeCells,List.range,List.range.loop,Array.range,List.replicate]
      have hcopy:∃ (k:Int) (w3:World),(∀ ty,(Builtin.copy_ #[X.Bs,X.Bs] ty #[.slice (some ⟨w1.heap.size,0,none⟩) 16 16,.slice sb s.length sc]).run P w2=.ok (.int .i64 k) w3)∧Below w.heap.size w w3∧Own X.U8 w3 w.heap.size (.slice (some ⟨w1.heap.size,0,none⟩) 16 16) (uuidOf (.mk n s tnull l u)):=by
        have own:∀ (w3:World) (cells:List Value),w3.heap[w1.heap.size]?=some (.cells cells.toArray X.U8 (0,0))→cells=cellsOf (uuidOf (.mk n s tnull l u))→Own X.U8 w3 w.heap.size (.slice (some ⟨w1.heap.size,0,none⟩) 16 16) (uuidOf (.mk n s tnull l u)):=by
          intro w3 cells p1 p2
          subst p2
          have hlen:=uuidOf_length (.mk n s tnull l u)
          refine ⟨by rw [cLen,hlen],.inr ⟨w1.heap.size,16,_,by rw [hlen],hsz1,p1,by rw [hlen];exact Nat.le_refl _,by decide,by simp [cLen,hlen],?_⟩⟩
          rw [hlen]
          simp
          rw [List.take_of_length_le (by rw [cLen,hlen];exact Nat.le_refl _)]
        by_cases hmin:min s.length 16=0
        · have hs0:s=[]:=List.eq_nil_of_length_eq_zero (by omega)
          refine ⟨0,w2,fun ty=>?_,hb2,own w2 (List.replicate 16 (Value.int .u8 0)) (by rw [hnew,← hmade]) ?_⟩
          · exact run_copy_none w2 X.Bs X.Bs ty X.U8 _ _ 16 16 s.length sc hu8 hsize8 hmin
          · subst hs0
            simp [uuidOf,Tree.s,cellsOf,cell]
        · rcases hB2 with e | ⟨sb',so',rfl,_,hcells⟩
          · subst e;simp at hmin
          · have hcl:(cellsOf (s.take 16)).length=min s.length 16:=by rw [cLen,List.length_take];omega
            have hone:∀ v ∈ cellsOf (s.take 16),v.oneCell'=true:=by
              intro v hv
              simp only [cellsOf,List.mem_map] at hv
              obtain ⟨c,_,rfl⟩:=hv
              rfl
            have hrow:=setCells_row P (w:=w2) (g:=w1.heap.size) (o:=0) (vs:=cellsOf (s.take 16)) hnew (by rw [hcl];simp [madeCells];omega) hone
            refine ⟨(cellsOf (s.take 16)).length,w2.setCells w1.heap.size 0 (cellsOf (s.take 16)),fun ty=>?_,?_,?_⟩
            · refine run_copy_cells w2 X.Bs X.Bs ty X.U8 w1.heap.size 0 16 16 ⟨sb',so',none⟩ s.length sc _ hu8 hsize8 hcl ?_ ?_ ?_ hone
              · intro j v hj
                rw [add_none]
                refine cells_cell (bs:=s) hcells j v ?_
                simp only [cellsOf,List.getElem?_map] at hj ⊢
                rw [List.getElem?_take] at hj
                split at hj
                · exact hj
                · simp at hj
              · intro j hj
                rw [cell_of_row _ _ _ _ _ _ hnew,Array.getElem?_eq_getElem (by rw [hcl] at hj;simp [madeCells];omega)]
                rfl
              · intro j hj
                simp [World.frozen?,hnew]
            · rw [hrow]
              exact below_setRow hb2 (by omega) _
            · rw [hrow]
              refine own _ _ (setRow_heap w2 _ _ _ _ _ hnew) ?_
              rw [hmade,hcl]
              simp only [List.take_zero,List.nil_append,Nat.zero_add]
              unfold uuidOf
              simp only [Tree.s]
              rw [List.take_append,cellsOf_append]
              congr 1
              simp only [List.drop_replicate,List.take_replicate,cellsOf,List.map_replicate]
              congr 1
              omega
      obtain ⟨k,w3,hrun,hb3,ho3⟩:=hcopy
      refine oNo rfl (opw_of fun o next Q hdd ho hnn=>?_)
      have hop:=stripOp_eq (by simp) ho
      have hr':∀ av:Operand→Value,av (.tmp 27)=.slice (some ⟨w1.heap.size,0,none⟩) 16 16→av (.tmp 29)=.slice sb s.length sc→(execOp av o).run P w2=.ok (.value (.int .i64 k)) w3:=by
        intro av e1 e2
        simp [execOp,hop,resolve,invoke,builtin,e1,e2,hrun]
      rw [hr' _ (by simp (disch:=(try simp only [sPu]);omega)) (by simp (disch:=(try simp only [sPu]);omega)),Oper.upon_value,hdd]
      refine hnn _ _ (oNi ?_)
      simp only [Exit.then]
      refine SC.wp_seq (SC.wp_reg ?_)
      repeat (apply ops_1;(focus (simp (disch:=(try simp only [sPu]);omega) ;try rfl)))
      refine oNi (SC.wp_ret ?_)
      simp only [Exit.then,Exit.inBlock]
      exact fin _ _ _ _ (by simp [dPu,hd]) (by simp (disch:=(try simp only [sPu]);omega)) ho3 hb3 (by simp [wTy,wPrim,uuidOf,Tree.s])
    | str =>
      simp only [kindOf] at h0 ⊢
      iterate 2 (refine SC.wp_seq (SC.wp_reg ?_);(repeat (apply ops_1;(focus (simp (disch:=(try simp only [sPu]);omega) ;try rfl))));refine oNi (SC.wp_cond (t:=false) (by simp (disch:=(try simp only [sPu]);omega)) ?_);rw [if_neg (by simp)])
      (refine SC.wp_seq (SC.wp_reg ?_);(repeat (apply ops_1;(focus (simp (disch:=(try simp only [sPu]);omega) ;try rfl))));refine oNi (SC.wp_cond (t:=true) (by simp (disch:=(try simp only [sPu]);omega)) ?_);rw [if_pos rfl])
      refine SC.wp_seq (SC.wp_reg ?_)
      iterate 2 (apply ops_1;(focus (simp (disch:=(try simp only [sPu]);omega) [hst,hc];try rfl)))
      refine ops_call S.oW (S.cW w1 sb s.length sc hsc) (by simp (disch:=(try simp only [sPu]);omega)) ?_
      rintro e w2 ⟨rfl,rfl⟩
      refine ⟨_,rfl,?_⟩
      repeat (apply ops_1;(focus (simp (disch:=(try simp only [sPu]);omega) ;try rfl)))
      refine oNi (SC.wp_seq (SC.wp_seq (SC.wp_reg ?_)))
      repeat (apply ops_1;(focus (simp (disch:=(try simp only [sPu]);omega) [h2];try rfl)))
      refine oNi (SC.wp_cond (t:=null) (by simp (disch:=(try simp only [sPu]);omega)) ?_)
      have ew:(whole s).length=min s.length most:=by simp [whole,Nat.min_comm]
      cases null
      · rw [if_neg (by simp)]
        refine SC.wp_skip ?_
        simp only [Exit.then]
        refine text_tail hX S 14 38 2 (by decide) (by decide) (by decide) (by simp only [sPu];omega) (whole s) sb sc flex false (by simp (disch:=(try simp only [sPu]);omega) [h4]) (by simp (disch:=(try simp only [sPu]);omega) [h2]) (by simp (disch:=(try simp only [sPu]);omega) [ew]) (bytesAt_whole hBs most) q2 hsz1 (by simpa [wTy,wPrim,Tree.s] using hl) ?_
        intro a' w' v p1 p2 p3 p4
        simp only [Exit.inBlock]
        exact fin _ _ _ v (by rw [p1];simp [dPu,hd]) p2 p3 p4 (by simp [wTy,wPrim,Tree.s])
      · rw [if_pos rfl]
        refine SC.wp_reg ?_
        repeat (apply ops_1;(focus (simp (disch:=(try simp only [sPu]);omega) ;try rfl)))
        refine oNi ?_
        simp only [Exit.then]
        refine text_tail hX S 14 38 2 (by decide) (by decide) (by decide) (by simp only [sPu];omega) [] none 0 flex true (by simp (disch:=(try simp only [sPu]);omega) [h4]) (by simp (disch:=(try simp only [sPu]);omega) [h2]) (by simp (disch:=(try simp only [sPu]);omega)) (.inl rfl) q2 hsz1 (by simpa [wTy,wPrim,Tree.s] using hl) ?_
        intro a' w' v p1 p2 p3 p4
        simp only [Exit.inBlock]
        exact fin _ _ _ v (by rw [p1];simp [dPu,hd]) p2 p3 p4 (by simp [wTy,wPrim,Tree.s])
    | bytes =>
      simp only [kindOf] at h0 ⊢
      iterate 3 (refine SC.wp_seq (SC.wp_reg ?_);(repeat (apply ops_1;(focus (simp (disch:=(try simp only [sPu]);omega) ;try rfl))));refine oNi (SC.wp_cond (t:=false) (by simp (disch:=(try simp only [sPu]);omega)) ?_);rw [if_neg (by simp)])
      (refine SC.wp_seq (SC.wp_reg ?_);(repeat (apply ops_1;(focus (simp (disch:=(try simp only [sPu]);omega) ;try rfl))));refine oNi (SC.wp_cond (t:=true) (by simp (disch:=(try simp only [sPu]);omega)) ?_);rw [if_pos rfl])
      refine SC.wp_seq (SC.wp_reg ?_)
      iterate 2 (apply ops_1;(focus (simp (disch:=(try simp only [sPu]);omega) [hst,hc];try rfl)))
      refine ops_call S.oW (S.cW w1 sb s.length sc hsc) (by simp (disch:=(try simp only [sPu]);omega)) ?_
      rintro e w2 ⟨rfl,rfl⟩
      refine ⟨_,rfl,?_⟩
      repeat (apply ops_1;(focus (simp (disch:=(try simp only [sPu]);omega) ;try rfl)))
      refine oNi (SC.wp_seq (SC.wp_seq (SC.wp_reg ?_)))
      repeat (apply ops_1;(focus (simp (disch:=(try simp only [sPu]);omega) [h2];try rfl)))
      refine oNi (SC.wp_cond (t:=null) (by simp (disch:=(try simp only [sPu]);omega)) ?_)
      have ew:(whole s).length=min s.length most:=by simp [whole,Nat.min_comm]
      cases null
      · rw [if_neg (by simp)]
        refine SC.wp_skip ?_
        simp only [Exit.then]
        refine text_tail hX S 15 51 4 (by decide) (by decide) (by decide) (by simp only [sPu];omega) (whole s) sb sc flex false (by simp (disch:=(try simp only [sPu]);omega) [h4]) (by simp (disch:=(try simp only [sPu]);omega) [h2]) (by simp (disch:=(try simp only [sPu]);omega) [ew]) (bytesAt_whole hBs most) q2 hsz1 (by simpa [wTy,wPrim,Tree.s] using hl) ?_
        intro a' w' v p1 p2 p3 p4
        simp only [Exit.inBlock]
        exact fin _ _ _ v (by rw [p1];simp [dPu,hd]) p2 p3 p4 (by simp [wTy,wPrim,Tree.s])
      · rw [if_pos rfl]
        refine SC.wp_reg ?_
        repeat (apply ops_1;(focus (simp (disch:=(try simp only [sPu]);omega) ;try rfl)))
        refine oNi ?_
        simp only [Exit.then]
        refine text_tail hX S 15 51 4 (by decide) (by decide) (by decide) (by simp only [sPu];omega) [] none 0 flex true (by simp (disch:=(try simp only [sPu]);omega) [h4]) (by simp (disch:=(try simp only [sPu]);omega) [h2]) (by simp (disch:=(try simp only [sPu]);omega)) (.inl rfl) q2 hsz1 (by simpa [wTy,wPrim,Tree.s] using hl) ?_
        intro a' w' v p1 p2 p3 p4
        simp only [Exit.inBlock]
        exact fin _ _ _ v (by rw [p1];simp [dPu,hd]) p2 p3 p4 (by simp [wTy,wPrim,Tree.s])
end
end Go.Proofs.Ytjbbohfaihkolaa.K
namespace Go.Proofs.Ytjbbohfaihkolaa.K
open Go Go.RowKit Go.Proofs.Ytjbbohfaihkolaa.T
attribute [local simp] eTm eCo pNo gTp gTn qv qcall vop iop
set_option linter.unusedSimpArgs false
set_option linter.unusedVariables false
set_option maxHeartbeats 4000000
def ValueC (G:List (Nat × Bytes)→Prop) (P:Program) (X:STy) (f:FuncId) (ty:Ty):Prop :=
  ∀ (w:World) (sub:Value) (null:Bool) (ver:Int) (flex:Bool) (t:Tree) (tv:Value),SubV w (· < w.heap.size) ty sub→TV G w (· < w.heap.size) t tv→(wTy ver flex ty null t).length≤lim →
    Calls P f #[.int .i64 (kindOf ty),sub,.bool null,.int .i64 ver,.bool flex,tv] w (RetOwn X.U8 w (wTy ver flex ty null t))
section
variable {G:List (Nat × Bytes)→Prop} {P:Program} {X:STy} {f:FuncId} {fn:Func} {fW fTh fC fWi fF fU fHas fNull fAt fPart fVal:FuncId}
theorem gen_act {s:SC} {Q:Exit→Act→World→Prop} {a:Act} {w:World} (C:Act→Prop) (ha:C a) (h:∀ a,C a→SC.wp P s Q a w):SC.wp P s Q a w:=h a ha
theorem opsw_gen {all r:List SOp} {K:Act→World→Prop} {a:Act} {w:World} (C:Act→Prop) (ha:C a) (h:∀ a,C a→opsw P all r K a w):opsw P all r K a w:=h a ha
theorem dreg_call {S:World→Prop} {ops:List SOp} {i t g:Nat} {args:Array Operand} {argsV:Array Value} {r:List (Nat × Bool)} {a:Act} {w:World} {K:Act→World→Prop} {R:Ending→World→Prop} (hs:ops[i]?=some ⟨some t,.call ⟨.value (.func g),args,#[]⟩,none⟩) (hf:FnOK P g) (hc:Calls P g argsV w R) (hargs:args.map a.eval=argsV)
    (hR:∀ e w',R e w'→∃ v,e=.returned v∧S w'∧dregw P S ops r K (a.put (some t) v) w'):dregw P S ops ((i,false) :: r) K a w:=by
  obtain ⟨fn,h1,h2,h3⟩:=hf
  exact dreg_n hs rfl (opw_call (R:=R) h1 h2 h3 (by rw [hargs];exact hc) hR)
theorem own_keep {tU8:Nat} {w w':World} {B:Nat} {v:Value} {xs:Bytes} (h:Own tU8 w B v xs) (hb:Below w.heap.size w w'):Own tU8 w' B v xs:=by
  refine ⟨h.1,h.2.imp id ?_⟩
  rintro ⟨g,cap,cur,h1,h2,h3,h4⟩
  refine ⟨g,cap,cur,h1,h2,?_,h4⟩
  rw [hb.block g (by rcases Nat.lt_or_ge g w.heap.size with h | h
                     · exact h
                     · rw [Array.getElem?_eq_none h] at h3;cases h3)]
  exact h3
theorem src_own {T tU8:TypeId} (hT:u8sB P T tU8=true) {w:World} {B:Nat} {v:Value} {bs:Bytes} (h:Own tU8 w B v bs):Src P 1 T v bs.length (cellsOf bs) w:=by
  obtain ⟨hu,_⟩:=u8s_of hT
  have hc:=fun g (e:v.ownBlock=some g)=>h.cells e
  rcases h.2 with ⟨rfl,h0⟩ | ⟨g,cap,cur,rfl,_⟩
  · have:bs=[]:=List.eq_nil_of_length_eq_zero h0
    subst this
    exact Src.ofNil w hu 0
  · refine Src.ofSlice w hu ⟨g,0,none⟩ _ cap _ (by rw [cLen,Nat.mul_one]) (hc g rfl) ?_
    intro u hu
    simp only [cellsOf,List.mem_map] at hu
    obtain ⟨c,_,rfl⟩:=hu
    rfl
theorem take_flat {α:Type} (l:List α) (enc:α→Bytes) (j:Nat) (hj:j < l.length):(l.take (j+1)).flatMap enc=(l.take j).flatMap enc ++ enc l[j]∧((l.take j).flatMap enc).length+(enc l[j]).length≤(l.flatMap enc).length:=by
  have e1:l.take (j+1)=l.take j ++ [l[j]]:=by rw [List.take_add_one,List.getElem?_eq_getElem hj];rfl
  refine ⟨by rw [e1];simp only [List.flatMap_append,List.flatMap_cons,List.flatMap_nil,List.append_nil],?_⟩
  have e2:l=l.take j ++ (l[j] :: l.drop (j+1)):=by rw [← List.drop_eq_getElem_cons hj,List.take_append_drop]
  have:(l.flatMap enc).length=((l.take j).flatMap enc).length+((enc l[j]).length+((l.drop (j+1)).flatMap enc).length):=by
    conv=>lhs;rw [e2]
    rw [List.flatMap_append,List.flatMap_cons,List.length_append,List.length_append]
  omega
theorem list_tail (hX:stOK P X=true) (S:SmallC P X fW fTh fC fWi fF fU fHas fNull fAt G) (hm:P.follows .mixedOrders=true) (oV:FnOK P fVal) {of:Ty} (hV:ValueC G P X fVal of) {a:Act} {w w3:World} {Q:Exit→Act→World→Prop}
    (F0:Array Value) (sub:Value) (hF0:F0.size=8) (hF6:F0[6]?=some (.int .i64 (kindOf of))) (hF7:F0[7]?=some sub) (hc3:∀ j,w3.cell? ⟨w.heap.size,j,none⟩=F0[j]?) (hbw:Below w.heap.size w w3) (hsz3:w.heap.size+2≤w3.heap.size) (hsub:SubV w (· < w.heap.size) of sub)
    (ver:Int) (flex nl:Bool) (l:List Tree) (lb:Option Addr) (lc b o:Nat) (cs:Nat→List Value) (hlc:l.length≤lc) (hm63:l.length≤most) (hll:l ≠ []→lb=some ⟨b,o,none⟩∧b < w.heap.size) (hrr:∀ i,i < l.length→rangeV w b (o+i * 5) 5=some (cs i)) (htt:∀ i x,l[i]?=some x→TV G w (· < w.heap.size) x (.agg (cs i).toArray))
    (g:a.tmps.size=76) (g1:getT a 1=.int .i64 ver) (g2:getT a 2=.bool flex) (g4:getT a 4=.pointer (some ⟨w.heap.size,0,none⟩)) (g9:getT a 9=.bool nl) (g10:getT a 10=.slice lb l.length lc)
    (hl:(counted flex nl l.length 4 ++ l.flatMap (fun x=>wTy ver flex of false x)).length≤lim)
    (hQ:∀ (a':Act) (w':World) (v:Value),a'.defers=a.defers→getT a' 8=v→Own X.U8 w' w.heap.size v (counted flex nl l.length 4 ++ l.flatMap (fun x=>wTy ver flex of false x))→Below w.heap.size w w'→Q .ret a' w') :
    SC.wp P (.seq (.reg [mv 24 2,mv 25 9,mv 26 10,lenOp 27 X.Ts 26,⟨some 28,.call ⟨.value (.func fC),#[(.tmp 24),(.tmp 25),(.tmp 27),(.const (.int .i64 4))],#[]⟩,none⟩,asg 11 28]) (.seq (.seq (.reg [mv 29 10,lenOp 30 X.Ts 29,⟨some 31,.move (.const (.int .i64 0)),none⟩]) (.block 0 (.loop (.seq (.reg [⟨some 32,.binOp .lss X.I (.tmp 31) (.tmp 30) X.I,none⟩]) (.seq (.cond (.tmp 32) (.skip) (.exit 0)) (.seq (.block 1 (.seq (.reg [mv 33 31,asg 12 33]) (.dreg [mv 34 11,fa 35 X.F 4 6,ld 36 X.I 35,fa 37 X.F 4 7,ld 38 X.Fs 37,mv 39 1,mv 40 2,mv 41 10,mv 42 12,⟨some 43,.indexAddr X.Ts (.tmp 41) (.tmp 42),none⟩,ld 44 X.T 43,⟨some 45,.call ⟨.value (.func fVal),#[(.tmp 36),(.tmp 38),(.const (.bool false)),(.tmp 39),(.tmp 40),(.tmp 44)],#[]⟩,none⟩,⟨some 46,.call ⟨.builtin .append,#[(.tmp 34),(.tmp 45)],#[X.Bs,X.Bs]⟩,none⟩,asg 11 46] [[],[],[1],[],[3],[],[],[],[],[7,8],[9],[2,4,5,6,10],[0,11,11],[12,12,0,1,2,3,4,5,6,7,8,9,10,11,12]]))) (.reg [⟨some 47,.binOp .add X.I (.tmp 31) (.const (.int .i64 1)) X.I,none⟩,mv 31 47]))))))) (.seq (.reg [mv 48 11,asg 8 48]) (.ret)))) Q a w3:=by
  have hst:=st_facts hX
  have hU8s:=hst.2.2.1.1
  have hlim:lim=70368744177664:=rfl
  have hmost:most=32767:=rfl
  refine SC.wp_seq (SC.wp_reg ?_)
  iterate 4 (apply ops_1;(focus (simp (disch:=(try simp only [sPu]);omega) [hst,g2,g9,g10];try rfl)))
  refine ops_call S.oC (S.cC w3 flex nl l.length 4 (by omega) (by decide)) (by simp (disch:=(try simp only [sPu]);omega)) ?_
  rintro e w4 ⟨v0,rfl,r1,r2⟩
  refine ⟨v0,rfl,?_⟩
  repeat (apply ops_1;(focus (simp (disch:=(try simp only [sPu]);omega) ;try rfl)))
  refine oNi ?_
  simp only [Exit.then]
  refine SC.wp_seq (SC.wp_seq (SC.wp_reg ?_))
  repeat (apply ops_1;(focus (simp (disch:=(try simp only [sPu]);omega) [hst,g10];try rfl)))
  refine oNi ?_
  simp only [Exit.then]
  have hsz4:w3.heap.size≤w4.heap.size:=r2.size
  refine SC.wp_block (SC.wp_loop (fun a4 w5=>∃ (j:Nat) (v:Value),a4.tmps.size=76∧a4.defers=a.defers∧getT a4 1=.int .i64 ver∧getT a4 2=.bool flex∧getT a4 4=.pointer (some ⟨w.heap.size,0,none⟩)∧getT a4 10=.slice lb l.length lc∧getT a4 30=.int .i64 (l.length:Int)∧getT a4 31=.int .i64 (j:Int)∧j≤l.length ∧
      getT a4 11=v∧Own X.U8 w5 (w.heap.size+2) v (counted flex nl l.length 4 ++ (l.take j).flatMap (fun x=>wTy ver flex of false x))∧Below (w.heap.size+2) w3 w5)
    (fun a4 _=>match getT a4 31 with | .int _ m=>(l.length - m).toNat | _=>0) ⟨0,v0,by simp [sPu,g],by simp [dPu],by simp (disch:=(try simp only [sPu]);omega) [g1],by simp (disch:=(try simp only [sPu]);omega) [g2],by simp (disch:=(try simp only [sPu]);omega) [g4],by simp (disch:=(try simp only [sPu]);omega) [g10],by simp (disch:=(try simp only [sPu]);omega),by simp (disch:=(try simp only [sPu]);omega),by omega,by simp (disch:=(try simp only [sPu]);omega),?_,r2.mono hsz3⟩ ?_)
  · simpa using own_down r1 hsz3
  rintro a4 w5 ⟨j,v,q,qd,q1,q2,q4,q10,q30,q31,hj,q11,ho,hb5⟩
  have hsz5:w.heap.size+2≤w5.heap.size:=by have:=hb5.size;omega
  refine SC.wp_seq (SC.wp_reg ?_)
  repeat (apply ops_1;(focus (simp (disch:=(try simp only [sPu]);omega) [hst,q30,q31];try rfl)))
  refine oNi ?_
  simp only [Exit.then]
  refine SC.wp_seq (SC.wp_cond (t:=decide ((j:Int) < (l.length:Int))) (by simp (disch:=(try simp only [sPu]);omega)) ?_)
  cases e1:decide ((j:Int) < (l.length:Int))
  · have hje:j=l.length:=by simp at e1;omega
    subst hje
    rw [if_neg (by simp)]
    refine SC.wp_exit ?_
    simp only [Exit.then,Exit.inBlock,if_true]
    refine SC.wp_seq (SC.wp_reg ?_)
    repeat (apply ops_1;(focus (simp (disch:=(try simp only [sPu]);omega) [q11];try rfl)))
    refine oNi (SC.wp_ret ?_)
    refine hQ _ _ v (by simp [dPu,qd]) (by simp (disch:=(try simp only [sPu]);omega)) ?_ (hbw.trans (hb5.mono (by omega)))
    rw [List.take_length] at ho
    exact own_down ho (by omega)
  · have hjl:j < l.length:=by simp at e1;omega
    rw [if_pos rfl]
    refine SC.wp_skip ?_
    simp only [Exit.then]
    refine SC.wp_seq (SC.wp_block (SC.wp_seq (SC.wp_reg ?_)))
    repeat (apply ops_1;(focus (simp (disch:=(try simp only [sPu]);omega) [q31];try rfl)))
    refine oNi ?_
    simp only [Exit.then]
    have hne:l ≠ []:=by intro e;subst e;simp at hjl
    obtain ⟨hlb,hbF⟩:=hll hne
    subst hlb
    have hri:=hrr j hjl
    have hb5':Below w.heap.size w w5:=hbw.trans (hb5.mono (by omega))
    rw [← rangeV_mono (w:=w5.drew) (hb5'.block b hbF)] at hri
    have hti:=htt j _ (List.getElem?_eq_getElem hjl)
    have hcd:∀ i,w5.drew.cell? ⟨w.heap.size,i,none⟩=F0[i]?:=fun i =>
      (World.cell?_of_block (w:=w3) (w':=w5.drew) (a:=⟨w.heap.size,i,none⟩) (hb5.block w.heap.size (by omega))).trans (hc3 i)
    have hcd6:=(hcd 6).trans hF6
    have hcd7:=(hcd 7).trans hF7
    have hlt:w.heap.size < w.heap.size+2:=by omega
    have hlb2:b < w.heap.size+2:=by omega
    have ej:(0:Int)≤(j:Int)∧(j:Int) < (l.length:Int):=by omega
    obtain ⟨tf1,tf2⟩:=take_flat l (fun x=>wTy ver flex of false x) j hjl
    rw [List.length_append] at hl
    refine SC.wp_dreg hm (Below (w.heap.size+2) w5.drew) [(0,true),(1,true),(2,true),(3,true),(4,true),(5,true),(6,true),(7,true),(8,true),(9,true),(10,true),(11,false),(12,false),(13,true)] (by rfl) (by rfl) (by decide) (Below.refl _ _) ?_
    iterate 11 (apply dr_1;(focus rfl);(focus (simp (disch:=(try simp only [sPu]);omega) [hst,q1,q2,q4,q10,q11,hlt,hlb2,hcd6,hcd7,hri,ej,hjl];try rfl)))
    refine dreg_call rfl oV (hV w5.drew sub false ver flex l[j] _ (SubV.mono (w:=w5.drew) (F':=fun x=>x < w5.drew.heap.size) (fun k hk=>by have:k < w.heap.size:=hk;show k < w5.heap.size;omega) (fun k hk=>hb5'.block k hk) of sub hsub) (TV.down hb5'.drew (by show w.heap.size≤w5.heap.size;omega) hti) (by omega)) (by simp (disch:=(try simp only [sPu]);omega)) ?_
    rintro e w6 ⟨v2,rfl,p3,p4⟩
    have p4:Below w5.heap.size w5.drew w6:=p4
    refine ⟨v2,rfl,p4.mono hsz5,?_⟩
    have hsz6:w5.heap.size≤w6.heap.size:=p4.size
    have ho1:Own X.U8 w6 (w.heap.size+2) v (counted flex nl l.length 4 ++ (l.take j).flatMap (fun x=>wTy ver flex of false x)):=own_keep (w:=w5.drew) ho p4
    refine dreg_n rfl rfl (opw_appendU8 (B:=w.heap.size+2) (dv:=v) (xv:=v2) (xs:=counted flex nl l.length 4 ++ (l.take j).flatMap (fun x=>wTy ver flex of false x)) (bs:=wTy ver flex of false l[j]) hU8s (by simp (disch:=(try simp only [sPu]);omega)) (by simp (disch:=(try simp only [sPu]);omega)) rfl ho1 (by omega) (src_own hU8s p3) (by rw [List.length_append];omega) ?_)
    intro v3 w7 p5 p6 p7 _
    refine ⟨(p4.mono hsz5).trans p6,?_⟩
    repeat (apply dr_1;(focus rfl);(focus (simp (disch:=(try simp only [sPu]);omega) ;try rfl)))
    refine dreg_nil ?_
    simp only [Exit.inBlock,Exit.then]
    have ew:((j:Int)+1)=((j+1:Nat):Int):=by omega
    have eww:IntKind.i64.wrap ((j:Int)+1)=((j+1:Nat):Int):=by rw [wrap_i64'];split <;> omega
    refine SC.wp_reg ?_
    repeat (apply ops_1;(focus (simp (disch:=(try simp only [sPu]);omega) [q31,eww];try rfl)))
    refine oNi ?_
    refine ⟨⟨j+1,v3,by simp [sPu,q],by simp [dPu,qd],by simp (disch:=(try simp only [sPu]);omega) [q1],by simp (disch:=(try simp only [sPu]);omega) [q2],by simp (disch:=(try simp only [sPu]);omega) [q4],by simp (disch:=(try simp only [sPu]);omega) [q10],by simp (disch:=(try simp only [sPu]);omega) [q30],by simp (disch:=(try simp only [sPu]);omega),by omega,by simp (disch:=(try simp only [sPu]);omega),?_,hb5.drew.trans ((p4.mono hsz5).trans p6)⟩,?_⟩
    · rw [tf1,← List.append_assoc];exact p5
    · simp (disch:=(try simp only [sPu]);omega) [q31];omega
theorem field_ok (hX:stOK P X=true) (S:SmallC P X fW fTh fC fWi fF fU fHas fNull fAt G) (hm:P.follows .mixedOrders=true) (oP:FnOK P fPart) (oV:FnOK P fVal) (hV:∀ ty,isList ty=false→SubC (PartC G P X fPart) ty→ValueC G P X fVal ty)
    (hf:P.funcs[f]?=some fn) (hb:fn.body.map strip=some (sc_sfield X.F X.T X.I X.Ts X.Fs X.Bs fNull fTh fC fVal fF fPart)) (hn:fn.ntmps=76) (hr:fn.results=#[.tmp 8])
    (w:World) (h:Hd) (ty:Ty) (of_:Int) (sub:Value) (ver:Int) (flex:Bool) (t:Tree) (tv:Value) (hof:ofOK of_ ty) (hsub:SubV w (· < w.heap.size) ty sub) (hs1c:sub.oneCell'=true) (cP:SubC (PartC G P X fPart) ty)
    (ht:TV G w (· < w.heap.size) t tv) (hl:(wField ver flex h ty t).length≤lim) :
    Calls P f #[fldV (kindOf ty) h.from_ h.to h.null (-1) h.dflt of_ sub,.int .i64 ver,.bool flex,tv] w (RetOwn X.U8 w (wField ver flex h ty t)):=by
  have hst:=st_facts hX
  have hU8s:=hst.2.2.1.1
  have hlim:lim=70368744177664:=rfl
  refine fCa hf hb hn (by simp) fun a0 hs hd ha=>?_
  have h0:=ha 0 _ rfl
  have h1:=ha 1 _ rfl
  have h2:=ha 2 _ rfl
  have h3:=ha 3 _ rfl
  simp only [List.getElem_toArray,List.getElem_cons_zero,List.getElem_cons_succ] at h0 h1 h2 h3
  have ht0:=ht
  cases ht with
  | mk n s tnull l u sb lb ub sc lc uc b o cs hs1 hsc hlc huc hll hrr htt hG hu =>
  refine SC.wp_seq (SC.wp_reg (ops_box (B:=w.heap.size) (w0:=w) (by rw [eTm,h0];rfl) (Nat.le_refl _) (Below.refl _ _) fun w1 q1 q2 q3 hc q5=>?_))
  refine ops_box (B:=w.heap.size) (w0:=w) (cs:=#[.int .i64 n,.slice sb s.length sc,.bool tnull,.slice lb l.length lc,.slice ub u.length uc]) (by simp (disch:=(try simp only [sPu]);omega) [h3,treV]) (by omega) q2 fun w2 r1 r2 r3 hd2 r5=>?_
  repeat (first | (apply ops_1;(focus (simp (disch:=(try simp only [sPu]);omega) ;try rfl))) | (apply ops_y;(focus rfl);(focus ((try simp only [sPu]);omega));(focus (simp (disch:=(try simp only [sPu]);omega);done));(focus (simp (disch:=(try simp only [sPu]);omega) ;try rfl))) | (apply ops_n;(focus rfl);(focus ((try simp only [sPu]);omega));(focus (first | (left;simp (disch:=(try simp only [sPu]);omega);done) | (right;simp (disch:=(try simp only [sPu]);omega);done)))))
  refine oNi ?_
  have hc2:∀ j,w2.cell? ⟨w.heap.size,j,none⟩=#[Value.int .i64 (kindOf ty),.int .i64 h.from_,.int .i64 h.to,.int .i64 h.null,.int .i64 (-1),.int .i64 h.dflt,.int .i64 of_,sub][j]?:=fun j=>by rw [r1.cell (by show w.heap.size < w1.heap.size;omega)];exact hc j
  have hsz2:w2.heap.size=w.heap.size+2:=by omega
  rw [q3] at hd2 ⊢
  clear hc q1 q2 q3 q5 r1 r3 r5 w1
  have hF8:rangeV w2 w.heap.size 0 8=some [.int .i64 (kindOf ty),.int .i64 h.from_,.int .i64 h.to,.int .i64 h.null,.int .i64 (-1),.int .i64 h.dflt,.int .i64 of_,sub]:=by simp [rangeV,hc2]
  have hT5:rangeV w2 (w.heap.size+1) 0 5=some [.int .i64 n,.slice sb s.length sc,.bool tnull,.slice lb l.length lc,.slice ub u.length uc]:=by simp [rangeV,hd2]
  refine SC.wp_seq (SC.wp_reg ?_)
  iterate 3 (first | (apply ops_1;(focus (simp (disch:=(try simp only [sPu]);omega) [hst,hF8,hT5,h1];try rfl))) | (apply ops_y;(focus rfl);(focus ((try simp only [sPu]);omega));(focus (simp (disch:=(try simp only [sPu]);omega) [hst,hF8,hT5,h1];done));(focus (simp (disch:=(try simp only [sPu]);omega) [hst,hF8,hT5,h1];try rfl))) | (apply ops_n;(focus rfl);(focus ((try simp only [sPu]);omega));(focus (first | (left;simp (disch:=(try simp only [sPu]);omega) [hst,hF8,hT5,h1];done) | (right;simp (disch:=(try simp only [sPu]);omega);done)))))
  refine ops_call S.oN (S.cN w2 (kindOf ty) h.from_ h.to h.null (-1) h.dflt of_ sub ver n (.slice sb s.length sc) (.slice lb l.length lc) (.slice ub u.length uc) tnull) (by simp (disch:=(try simp only [sPu]);omega) [fldV,treV]) ?_
  rintro e w3 ⟨rfl,r1⟩
  refine ⟨_,rfl,?_⟩
  have hnull:h.isNull ver (.mk n s tnull l u)=(tnull && (decide (0≤h.null) && decide (h.null≤ver))):=rfl
  rw [← hnull]
  generalize hnl:h.isNull ver (.mk n s tnull l u)=nl at *
  have hc3:∀ j,w3.cell? ⟨w.heap.size,j,none⟩=#[Value.int .i64 (kindOf ty),.int .i64 h.from_,.int .i64 h.to,.int .i64 h.null,.int .i64 (-1),.int .i64 h.dflt,.int .i64 of_,sub][j]?:=fun j=>by rw [r1.cell (by show w.heap.size < w2.heap.size;omega)];exact hc2 j
  have hd3:∀ j,w3.cell? ⟨w.heap.size+1,j,none⟩=#[Value.int .i64 n,.slice sb s.length sc,.bool tnull,.slice lb l.length lc,.slice ub u.length uc][j]?:=fun j=>by rw [r1.cell (by show w.heap.size+1 < w2.heap.size;omega)];exact hd2 j
  have hbw:Below w.heap.size w w3:=r2.trans (r1.mono (by omega))
  have hsz3:w.heap.size+2≤w3.heap.size:=by have:=r1.size;omega
  clear hc2 hd2 hF8 hT5 r1 r2 hsz2
  have hT5:rangeV w3 (w.heap.size+1) 0 5=some [.int .i64 n,.slice sb s.length sc,.bool tnull,.slice lb l.length lc,.slice ub u.length uc]:=by simp [rangeV,hd3]
  repeat (first | (apply ops_1;(focus (simp (disch:=(try simp only [sPu]);omega) ;try rfl))) | (apply ops_y;(focus rfl);(focus ((try simp only [sPu]);omega));(focus (simp (disch:=(try simp only [sPu]);omega);done));(focus (simp (disch:=(try simp only [sPu]);omega) ;try rfl))) | (apply ops_n;(focus rfl);(focus ((try simp only [sPu]);omega));(focus (first | (left;simp (disch:=(try simp only [sPu]);omega);done) | (right;simp (disch:=(try simp only [sPu]);omega);done)))))
  refine oNi ?_
  simp only [Exit.then]
  refine gen_act (fun a=>a.tmps.size=76∧a.defers=[]∧getT a 1=.int .i64 ver∧getT a 2=.bool flex∧getT a 4=.pointer (some ⟨w.heap.size,0,none⟩)∧getT a 7=.pointer (some ⟨w.heap.size+1,0,none⟩)∧getT a 9=.bool nl)
    ⟨by simp [sPu,hs],by simp [dPu,hd],by simp (disch:=(try simp only [sPu]);omega) [h1],by simp (disch:=(try simp only [sPu]);omega) [h2],by simp (disch:=(try simp only [sPu]);omega),by simp (disch:=(try simp only [sPu]);omega),by simp (disch:=(try simp only [sPu]);omega)⟩ ?_
  rintro a ⟨g,gd,g1,g2,g4,g7,g9⟩
  clear h0 h1 h2 h3 ha hs hd
  have fin:∀ (out:Bytes) (a:Act) (w':World) (v:Value),a.defers=[]→getT a 8=v→Own X.U8 w' w.heap.size v out→Below w.heap.size w w'→out=wField ver flex h ty (.mk n s tnull l u)→bodyPost P fn (RetOwn X.U8 w (wField ver flex h ty (.mk n s tnull l u))) .ret a w':=by
    intro out a w' v q2 q3 q4 q5 q6
    subst q6
    exact ret_tmp hr q2 ⟨v,by rw [q3],q4,q5⟩
  have plain:isList ty=false→wField ver flex h ty (.mk n s tnull l u)=wTy ver flex ty nl (.mk n s tnull l u)→∀ (a:Act),a.tmps.size=76→a.defers=[]→getT a 1=.int .i64 ver→getT a 2=.bool flex→getT a 4=.pointer (some ⟨w.heap.size,0,none⟩)→getT a 7=.pointer (some ⟨w.heap.size+1,0,none⟩)→getT a 9=.bool nl →
      SC.wp P (.seq (.reg [fa 67 X.F 4 0,ld 68 X.I 67,fa 69 X.F 4 7,ld 70 X.Fs 69,mv 71 9,mv 72 1,mv 73 2,ld 74 X.T 7,cal 75 fVal [68,70,71,72,73,74],asg 8 75]) .ret) (bodyPost P fn (RetOwn X.U8 w (wField ver flex h ty (.mk n s tnull l u)))) a w3:=by
    intro hty heq a g gd g1 g2 g4 g7 g9
    refine SC.wp_seq (SC.wp_reg ?_)
    iterate 8 (first | (apply ops_1;(focus (simp (disch:=(try simp only [sPu]);omega) [hst,hc3,hd3,hT5,g1,g2,g4,g7,g9];try rfl))) | (apply ops_y;(focus rfl);(focus ((try simp only [sPu]);omega));(focus (simp (disch:=(try simp only [sPu]);omega) [hst,hc3,hd3,hT5,g1,g2,g4,g7,g9];done));(focus (simp (disch:=(try simp only [sPu]);omega) [hst,hc3,hd3,hT5,g1,g2,g4,g7,g9];try rfl))) | (apply ops_n;(focus rfl);(focus ((try simp only [sPu]);omega));(focus (first | (left;simp (disch:=(try simp only [sPu]);omega) [hst,hc3,hd3,hT5,g1,g2,g4,g7,g9];done) | (right;simp (disch:=(try simp only [sPu]);omega);done)))))
    refine ops_call oV (hV ty hty cP w3 sub nl ver flex _ _ (SubV.mono (fun k hk=>by have:k < w.heap.size:=hk;show k < w3.heap.size;omega) (fun k hk=>hbw.block k hk) ty sub hsub) (TV.down hbw (by omega) ht0) (by rw [← heq];exact hl)) (by simp (disch:=(try simp only [sPu]);omega) [fldV,treV]) ?_
    rintro e w4 ⟨v,rfl,r1,r2⟩
    refine ⟨v,rfl,?_⟩
    repeat (first | (apply ops_1;(focus (simp (disch:=(try simp only [sPu]);omega) ;try rfl))) | (apply ops_y;(focus rfl);(focus ((try simp only [sPu]);omega));(focus (simp (disch:=(try simp only [sPu]);omega);done));(focus (simp (disch:=(try simp only [sPu]);omega) ;try rfl))) | (apply ops_n;(focus rfl);(focus ((try simp only [sPu]);omega));(focus (first | (left;simp (disch:=(try simp only [sPu]);omega);done) | (right;simp (disch:=(try simp only [sPu]);omega);done)))))
    refine oNi (SC.wp_ret ?_)
    try simp only [Exit.then]
    exact fin _ _ _ v (by simp [dPu,gd]) (by simp (disch:=(try simp only [sPu]);omega)) (own_down r1 (by omega)) (hbw.trans (r2.mono (by omega))) heq.symm
  have htv3:TV G w3 (· < w3.heap.size) (.mk n s tnull l u) (treV n (.slice sb s.length sc) tnull (.slice lb l.length lc) (.slice ub u.length uc)):=TV.down hbw (by omega) ht0
  have hf1:fixed (-1) 1=[255]:=by decide
  have hf2:fixed 1 1=[1]:=by decide
  cases ty with
  | prim k =>
    have e11:(kindOf (.prim k) == 11)=false:=by cases k <;> rfl
    have e10:(kindOf (.prim k) == 10)=false:=by cases k <;> rfl
    refine SC.wp_seq (SC.wp_seq (SC.wp_reg ?_))
    repeat (first | (apply ops_1;(focus (simp (disch:=(try simp only [sPu]);omega) [hst,hc3,g4,e11];try rfl))) | (apply ops_y;(focus rfl);(focus ((try simp only [sPu]);omega));(focus (simp (disch:=(try simp only [sPu]);omega) [hst,hc3,g4,e11];done));(focus (simp (disch:=(try simp only [sPu]);omega) [hst,hc3,g4,e11];try rfl))) | (apply ops_n;(focus rfl);(focus ((try simp only [sPu]);omega));(focus (first | (left;simp (disch:=(try simp only [sPu]);omega) [hst,hc3,g4,e11];done) | (right;simp (disch:=(try simp only [sPu]);omega);done)))))
    refine oNi (SC.wp_cond (t:=false) (by simp (disch:=(try simp only [sPu]);omega)) ?_)
    rw [if_neg (by simp)]
    refine SC.wp_skip ?_
    simp only [Exit.then]
    refine SC.wp_seq (SC.wp_seq (SC.wp_reg ?_))
    repeat (first | (apply ops_1;(focus (simp (disch:=(try simp only [sPu]);omega) [hst,hc3,g4,e10];try rfl))) | (apply ops_y;(focus rfl);(focus ((try simp only [sPu]);omega));(focus (simp (disch:=(try simp only [sPu]);omega) [hst,hc3,g4,e10];done));(focus (simp (disch:=(try simp only [sPu]);omega) [hst,hc3,g4,e10];try rfl))) | (apply ops_n;(focus rfl);(focus ((try simp only [sPu]);omega));(focus (first | (left;simp (disch:=(try simp only [sPu]);omega) [hst,hc3,g4,e10];done) | (right;simp (disch:=(try simp only [sPu]);omega);done)))))
    refine oNi (SC.wp_cond (t:=false) (by simp (disch:=(try simp only [sPu]);omega)) ?_)
    rw [if_neg (by simp)]
    refine SC.wp_skip ?_
    simp only [Exit.then]
    refine plain rfl (by rw [← hnl];rfl) _ (by simp [sPu,g]) (by simp [dPu,gd]) ?_ ?_ ?_ ?_ ?_
    · simp (disch:=(try simp only [sPu]);omega) [g1]
    · simp (disch:=(try simp only [sPu]);omega) [g2]
    · simp (disch:=(try simp only [sPu]);omega) [g4]
    · simp (disch:=(try simp only [sPu]);omega) [g7]
    · simp (disch:=(try simp only [sPu]);omega) [g9]
  | struct typ size dflt tags fs =>
    have e11:(kindOf (.struct typ size dflt tags fs) == 11)=false:=rfl
    have e10:(kindOf (.struct typ size dflt tags fs) == 10)=true:=rfl
    refine SC.wp_seq (SC.wp_seq (SC.wp_reg ?_))
    repeat (first | (apply ops_1;(focus (simp (disch:=(try simp only [sPu]);omega) [hst,hc3,g4,e11];try rfl))) | (apply ops_y;(focus rfl);(focus ((try simp only [sPu]);omega));(focus (simp (disch:=(try simp only [sPu]);omega) [hst,hc3,g4,e11];done));(focus (simp (disch:=(try simp only [sPu]);omega) [hst,hc3,g4,e11];try rfl))) | (apply ops_n;(focus rfl);(focus ((try simp only [sPu]);omega));(focus (first | (left;simp (disch:=(try simp only [sPu]);omega) [hst,hc3,g4,e11];done) | (right;simp (disch:=(try simp only [sPu]);omega);done)))))
    refine oNi (SC.wp_cond (t:=false) (by simp (disch:=(try simp only [sPu]);omega)) ?_)
    rw [if_neg (by simp)]
    refine SC.wp_skip ?_
    simp only [Exit.then]
    refine SC.wp_seq (SC.wp_seq (SC.wp_reg ?_))
    cases enn:decide (0≤h.null)
    · repeat (first | (apply ops_1;(focus (simp (disch:=(try simp only [sPu]);omega) [hst,hc3,g4,e10,enn];try rfl))) | (apply ops_y;(focus rfl);(focus ((try simp only [sPu]);omega));(focus (simp (disch:=(try simp only [sPu]);omega) [hst,hc3,g4,e10,enn];done));(focus (simp (disch:=(try simp only [sPu]);omega) [hst,hc3,g4,e10,enn];try rfl))) | (apply ops_n;(focus rfl);(focus ((try simp only [sPu]);omega));(focus (first | (left;simp (disch:=(try simp only [sPu]);omega) [hst,hc3,g4,e10,enn];done) | (right;simp (disch:=(try simp only [sPu]);omega);done)))))
      refine oNi (SC.wp_cond (t:=false) (by simp (disch:=(try simp only [sPu]);omega)) ?_)
      rw [if_neg (by simp)]
      refine SC.wp_skip ?_
      simp only [Exit.then]
      refine plain rfl (by have:¬ 0≤h.null:=by simpa using enn
                           simp [wField,this,wTy]) _ (by simp [sPu,g]) (by simp [dPu,gd]) ?_ ?_ ?_ ?_ ?_
      · simp (disch:=(try simp only [sPu]);omega) [g1]
      · simp (disch:=(try simp only [sPu]);omega) [g2]
      · simp (disch:=(try simp only [sPu]);omega) [g4]
      · simp (disch:=(try simp only [sPu]);omega) [g7]
      · simp (disch:=(try simp only [sPu]);omega) [g9]
    · have h0n:0≤h.null:=by simpa using enn
      repeat (first | (apply ops_1;(focus (simp (disch:=(try simp only [sPu]);omega) [hst,hc3,g4,e10,enn];try rfl))) | (apply ops_y;(focus rfl);(focus ((try simp only [sPu]);omega));(focus (simp (disch:=(try simp only [sPu]);omega) [hst,hc3,g4,e10,enn];done));(focus (simp (disch:=(try simp only [sPu]);omega) [hst,hc3,g4,e10,enn];try rfl))) | (apply ops_n;(focus rfl);(focus ((try simp only [sPu]);omega));(focus (first | (left;simp (disch:=(try simp only [sPu]);omega) [hst,hc3,g4,e10,enn];done) | (right;simp (disch:=(try simp only [sPu]);omega);done)))))
      refine oNi (SC.wp_cond (t:=true) (by simp (disch:=(try simp only [sPu]);omega)) ?_)
      rw [if_pos rfl]
      refine SC.wp_seq (SC.wp_seq (SC.wp_reg ?_))
      repeat (first | (apply ops_1;(focus (simp (disch:=(try simp only [sPu]);omega) [g9];try rfl))) | (apply ops_y;(focus rfl);(focus ((try simp only [sPu]);omega));(focus (simp (disch:=(try simp only [sPu]);omega) [g9];done));(focus (simp (disch:=(try simp only [sPu]);omega) [g9];try rfl))) | (apply ops_n;(focus rfl);(focus ((try simp only [sPu]);omega));(focus (first | (left;simp (disch:=(try simp only [sPu]);omega) [g9];done) | (right;simp (disch:=(try simp only [sPu]);omega);done)))))
      refine oNi (SC.wp_cond (t:=nl) (by simp (disch:=(try simp only [sPu]);omega)) ?_)
      cases nl
      · rw [if_neg (by simp)]
        refine SC.wp_skip ?_
        simp only [Exit.then]
        have heq:wField ver flex h (.struct typ size dflt tags fs) (.mk n s tnull l u)=[1] ++ (wFs ver flex fs l ++ wTags flex u):=by simp [wField,h0n,hnl,wTy,Tree.l,Tree.u]
        rw [heq] at hl
        refine SC.wp_seq (SC.wp_dreg hm (Below (w.heap.size+2) w3.drew) [(1,true),(2,true),(3,true),(4,true),(5,true),(0,false),(6,false),(7,false),(8,true)] (by rfl) (by rfl) (by decide) (Below.refl _ _) ?_)
        have hlt:w.heap.size < w.heap.size+2:=by omega
        have hlt1:w.heap.size+1 < w.heap.size+2:=by omega
        have hcd:∀ j,w3.drew.cell? ⟨w.heap.size,j,none⟩=#[Value.int .i64 (kindOf (.struct typ size dflt tags fs)),.int .i64 h.from_,.int .i64 h.to,.int .i64 h.null,.int .i64 (-1),.int .i64 h.dflt,.int .i64 of_,sub][j]?:=hc3
        have hTd:rangeV w3.drew (w.heap.size+1) 0 5=some [.int .i64 n,.slice sb s.length sc,.bool tnull,.slice lb l.length lc,.slice ub u.length uc]:=(rangeV_mono (w:=w3.drew) (w0:=w3) rfl 5 0).trans hT5
        iterate 5 (first | (apply dr_1;(focus rfl);(focus (simp (disch:=(try simp only [sPu]);omega) [hst,g1,g2,g4,g7,hlt,hlt1,hcd,hTd];try rfl))) | (apply dr_y;(focus rfl);(focus rfl);(focus ((try simp only [sPu]);omega));(focus (simp (disch:=(try simp only [sPu]);omega) [hst,g1,g2,g4,g7,hlt,hlt1,hcd,hTd];done));(focus (simp (disch:=(try simp only [sPu]);omega) [hst,g1,g2,g4,g7,hlt,hlt1,hcd,hTd];try rfl))) | (apply dr_n;(focus rfl);(focus rfl);(focus ((try simp only [sPu]);omega));(focus (first | (left;simp (disch:=(try simp only [sPu]);omega) [hst,g1,g2,g4,g7,hlt,hlt1,hcd,hTd];done) | (right;simp (disch:=(try simp only [sPu]);omega);done)))))
        refine dreg_call (argsV:=#[.int .i64 1,.int .i64 ((1:Nat):Int)]) rfl S.oF (S.cF w3.drew 1 1 (by decide)) (by simp [eCo]) ?_
        rintro e w4 ⟨v,rfl,p1,p2⟩
        refine ⟨v,rfl,p2.mono (by exact hsz3),?_⟩
        rw [hf2] at p1
        have hw4:w3.heap.size≤w4.heap.size:=p2.size
        have hb4:Below w.heap.size w w4:=hbw.drew.trans ((show Below w3.heap.size w3.drew w4 from p2).mono (by omega))
        simp only [SubV] at hsub
        refine dreg_call rfl oP (cP w4 sub ver flex _ _ (FsV.down hb4 (by omega) hsub) (TV.down hb4 (by omega) ht0) (by simp only [Tree.l,Tree.u];simp only [List.length_append,List.length_cons,List.length_nil] at hl ⊢;omega)) (by simp (disch:=(try simp only [sPu]);omega) [treV]) ?_
        rintro e w5 ⟨v2,rfl,p3,p4⟩
        refine ⟨v2,rfl,(p2.mono hsz3).trans (p4.mono (by omega)),?_⟩
        have hB5:w.heap.size+2≤w5.heap.size:=by have:=p4.size;omega
        have ho1:Own X.U8 w5 (w.heap.size+2) v [1]:=own_down (own_keep p1 p4) hsz3
        refine dreg_n rfl rfl (opw_appendU8 (B:=w.heap.size+2) (dv:=v) (xv:=v2) (xs:=[1]) (bs:=wFs ver flex fs l ++ wTags flex u) hU8s (by simp (disch:=(try simp only [sPu]);omega)) (by simp (disch:=(try simp only [sPu]);omega)) rfl ho1 hB5 (src_own hU8s p3) (by simp only [List.length_append] at hl ⊢;exact hl) ?_)
        intro v3 w6 p5 p6 p7 _
        refine ⟨((p2.mono hsz3).trans (p4.mono (by omega))).trans p6,?_⟩
        repeat (first | (apply dr_1;(focus rfl);(focus (simp (disch:=(try simp only [sPu]);omega) ;try rfl))) | (apply dr_y;(focus rfl);(focus rfl);(focus ((try simp only [sPu]);omega));(focus (simp (disch:=(try simp only [sPu]);omega);done));(focus (simp (disch:=(try simp only [sPu]);omega) ;try rfl))) | (apply dr_n;(focus rfl);(focus rfl);(focus ((try simp only [sPu]);omega));(focus (first | (left;simp (disch:=(try simp only [sPu]);omega);done) | (right;simp (disch:=(try simp only [sPu]);omega);done)))))
        refine dreg_nil ?_
        simp only [Exit.then]
        refine SC.wp_ret ?_
        try simp only [Exit.then]
        exact fin _ _ _ v3 (by simp [dPu,gd]) (by simp (disch:=(try simp only [sPu]);omega)) (own_down p5 (by omega)) (hb4.trans ((p4.mono (by omega)).trans (p6.mono (by omega)))) heq.symm
      · rw [if_pos rfl]
        refine SC.wp_seq (SC.wp_reg ?_)
        refine ops_call (argsV:=#[.int .i64 (-1),.int .i64 ((1:Nat):Int)]) S.oF (S.cF w3 (-1) 1 (by decide)) (by simp [eCo]) ?_
        rintro e w4 ⟨v,rfl,p1,p2⟩
        refine ⟨v,rfl,?_⟩
        repeat (first | (apply ops_1;(focus (simp (disch:=(try simp only [sPu]);omega) ;try rfl))) | (apply ops_y;(focus rfl);(focus ((try simp only [sPu]);omega));(focus (simp (disch:=(try simp only [sPu]);omega);done));(focus (simp (disch:=(try simp only [sPu]);omega) ;try rfl))) | (apply ops_n;(focus rfl);(focus ((try simp only [sPu]);omega));(focus (first | (left;simp (disch:=(try simp only [sPu]);omega);done) | (right;simp (disch:=(try simp only [sPu]);omega);done)))))
        refine oNi (SC.wp_ret ?_)
        simp only [Exit.then]
        rw [hf1] at p1
        exact fin _ _ _ v (by simp [dPu,gd]) (by simp (disch:=(try simp only [sPu]);omega)) (own_down p1 (by omega)) (hbw.trans (p2.mono (by omega))) (by simp [wField,h0n,hnl])
  | list typ el size of =>
    simp only [ofOK] at hof
    obtain ⟨rfl,hofl⟩:=hof
    simp only [SubV] at hsub
    simp only [SubC] at cP
    have hlcase:∀ l':List Tree,l'=(if nl then [] else l.take most)→wField ver flex h (.list typ el size of) (.mk n s tnull l u)=counted flex nl l'.length 4 ++ l'.flatMap (fun x=>wTy ver flex of false x):=by
      intro l' hl'
      simp only [wField,wTy,hnl,Tree.l]
      rw [← hl']
    refine SC.wp_seq (SC.wp_seq (SC.wp_reg ?_))
    have e11:(kindOf (.list typ el size of) == 11)=true:=rfl
    repeat (first | (apply ops_1;(focus (simp (disch:=(try simp only [sPu]);omega) [hst,hc3,g4,e11];try rfl))) | (apply ops_y;(focus rfl);(focus ((try simp only [sPu]);omega));(focus (simp (disch:=(try simp only [sPu]);omega) [hst,hc3,g4,e11];done));(focus (simp (disch:=(try simp only [sPu]);omega) [hst,hc3,g4,e11];try rfl))) | (apply ops_n;(focus rfl);(focus ((try simp only [sPu]);omega));(focus (first | (left;simp (disch:=(try simp only [sPu]);omega) [hst,hc3,g4,e11];done) | (right;simp (disch:=(try simp only [sPu]);omega);done)))))
    refine oNi (SC.wp_cond (t:=true) (by simp (disch:=(try simp only [sPu]);omega)) ?_)
    rw [if_pos rfl]
    refine SC.wp_seq (SC.wp_reg ?_)
    iterate 2 (first | (apply ops_1;(focus (simp (disch:=(try simp only [sPu]);omega) [hst,hd3,g7];try rfl))) | (apply ops_y;(focus rfl);(focus ((try simp only [sPu]);omega));(focus (simp (disch:=(try simp only [sPu]);omega) [hst,hd3,g7];done));(focus (simp (disch:=(try simp only [sPu]);omega) [hst,hd3,g7];try rfl))) | (apply ops_n;(focus rfl);(focus ((try simp only [sPu]);omega));(focus (first | (left;simp (disch:=(try simp only [sPu]);omega) [hst,hd3,g7];done) | (right;simp (disch:=(try simp only [sPu]);omega);done)))))
    refine ops_call S.oTh (S.cTh w3 lb l.length lc hlc) (by simp (disch:=(try simp only [sPu]);omega)) ?_
    rintro e w4 ⟨rfl,rfl⟩
    refine ⟨_,rfl,?_⟩
    repeat (first | (apply ops_1;(focus (simp (disch:=(try simp only [sPu]);omega) ;try rfl))) | (apply ops_y;(focus rfl);(focus ((try simp only [sPu]);omega));(focus (simp (disch:=(try simp only [sPu]);omega);done));(focus (simp (disch:=(try simp only [sPu]);omega) ;try rfl))) | (apply ops_n;(focus rfl);(focus ((try simp only [sPu]);omega));(focus (first | (left;simp (disch:=(try simp only [sPu]);omega);done) | (right;simp (disch:=(try simp only [sPu]);omega);done)))))
    refine oNi ?_
    simp only [Exit.then]
    refine SC.wp_seq (SC.wp_seq (SC.wp_reg ?_))
    repeat (first | (apply ops_1;(focus (simp (disch:=(try simp only [sPu]);omega) [g9];try rfl))) | (apply ops_y;(focus rfl);(focus ((try simp only [sPu]);omega));(focus (simp (disch:=(try simp only [sPu]);omega) [g9];done));(focus (simp (disch:=(try simp only [sPu]);omega) [g9];try rfl))) | (apply ops_n;(focus rfl);(focus ((try simp only [sPu]);omega));(focus (first | (left;simp (disch:=(try simp only [sPu]);omega) [g9];done) | (right;simp (disch:=(try simp only [sPu]);omega);done)))))
    refine oNi (SC.wp_cond (t:=nl) (by simp (disch:=(try simp only [sPu]);omega)) ?_)
    have elen:(l.take most).length=min l.length most:=by simp [Nat.min_comm]
    cases nl
    · rw [if_neg (by simp)]
      refine SC.wp_skip ?_
      simp only [Exit.then]
      have heq:=hlcase (l.take most) rfl
      rw [heq] at hl
      refine list_tail hX S hm oV (hV of hofl cP) #[Value.int .i64 (kindOf (.list typ el size of)),.int .i64 h.from_,.int .i64 h.to,.int .i64 h.null,.int .i64 (-1),.int .i64 h.dflt,.int .i64 (kindOf of),sub] sub rfl rfl rfl hc3 hbw hsz3 hsub ver flex false (l.take most) lb lc b o cs
        (by rw [elen];omega) (by rw [elen];omega) ?_ ?_ ?_ (by simp [sPu,g]) (by simp (disch:=(try simp only [sPu]);omega) [g1]) (by simp (disch:=(try simp only [sPu]);omega) [g2]) (by simp (disch:=(try simp only [sPu]);omega) [g4]) (by simp (disch:=(try simp only [sPu]);omega) [g9]) (by simp (disch:=(try simp only [sPu]);omega) [elen]) hl ?_
      · intro hne
        exact hll (fun e=>hne (by rw [e];rfl))
      · intro i hi
        exact hrr i (by rw [elen] at hi;omega)
      · intro i x hx
        refine htt i x ?_
        rw [List.getElem?_take] at hx
        split at hx
        · exact hx
        · cases hx
      · intro a' w' v p1 p2 p3 p4
        exact fin _ _ _ v (by rw [p1];simp [dPu,gd]) p2 p3 p4 heq.symm
    · rw [if_pos rfl]
      refine SC.wp_reg ?_
      repeat (first | (apply ops_1;(focus (simp (disch:=(try simp only [sPu]);omega) ;try rfl))) | (apply ops_y;(focus rfl);(focus ((try simp only [sPu]);omega));(focus (simp (disch:=(try simp only [sPu]);omega);done));(focus (simp (disch:=(try simp only [sPu]);omega) ;try rfl))) | (apply ops_n;(focus rfl);(focus ((try simp only [sPu]);omega));(focus (first | (left;simp (disch:=(try simp only [sPu]);omega);done) | (right;simp (disch:=(try simp only [sPu]);omega);done)))))
      refine oNi ?_
      simp only [Exit.then]
      have heq:=hlcase [] rfl
      rw [heq] at hl
      refine list_tail hX S hm oV (hV of hofl cP) #[Value.int .i64 (kindOf (.list typ el size of)),.int .i64 h.from_,.int .i64 h.to,.int .i64 h.null,.int .i64 (-1),.int .i64 h.dflt,.int .i64 (kindOf of),sub] sub rfl rfl rfl hc3 hbw hsz3 hsub ver flex true [] none 0 0 0 (fun _=>[])
        (Nat.le_refl _) (Nat.zero_le _) (fun h=>absurd rfl h) (fun i hi=>by simp at hi) (fun i x hx=>by simp at hx) (by simp [sPu,g]) (by simp (disch:=(try simp only [sPu]);omega) [g1]) (by simp (disch:=(try simp only [sPu]);omega) [g2]) (by simp (disch:=(try simp only [sPu]);omega) [g4]) (by simp (disch:=(try simp only [sPu]);omega) [g9]) (by simp (disch:=(try simp only [sPu]);omega)) hl ?_
      intro a' w' v p1 p2 p3 p4
      exact fin _ _ _ v (by rw [p1];simp [dPu,gd]) p2 p3 p4 heq.symm
end
end Go.Proofs.Ytjbbohfaihkolaa.K
namespace Go.Proofs.Ytjbbohfaihkolaa.K
open Go Go.RowKit Go.Proofs.Ytjbbohfaihkolaa.T
attribute [local simp] eTm eCo pNo gTp gTn qv qcall vop iop
set_option linter.unusedSimpArgs false
set_option linter.unusedVariables false
set_option maxHeartbeats 4000000
def Keeps (ok:Nat→Bool) (w0 w:World):Prop:=∀ b,ok b=true→w.heap[b]?=w0.heap[b]?
def FieldC (G:List (Nat × Bytes)→Prop) (P:Program) (X:STy) (f fPart:FuncId):Prop :=
  ∀ (w:World) (h:Hd) (ty:Ty) (of_:Int) (sub:Value) (ver:Int) (flex:Bool) (t:Tree) (tv:Value),ofOK of_ ty→SubV w (· < w.heap.size) ty sub→sub.oneCell'=true→SubC (PartC G P X fPart) ty →
    TV G w (· < w.heap.size) t tv→(wField ver flex h ty t).length≤lim →
    Calls P f #[fldV (kindOf ty) h.from_ h.to h.null (-1) h.dflt of_ sub,.int .i64 ver,.bool flex,tv] w (RetOwn X.U8 w (wField ver flex h ty t))
def SubsC (C:Fs→Prop):Fs→Prop
  | .nil=>True
  | .cons _ ty r=>SubC C ty∧SubsC C r
section
variable {G:List (Nat × Bytes)→Prop} {P:Program} {X:STy} {f:FuncId} {fn:Func} {fW fTh fC fWi fF fU fHas fNull fAt fPart fVal fFld:FuncId}
variable {a:Act} {w:World} {K:Act→World→Prop}
theorem opqk_of {w0:World} {ok:Nat→Bool} {s:SOp} {v:Value} (h:qv ok P w0 a s.op=some v):opq P (Keeps ok w0) s a v:=fun o ho w' hS' =>
  qv_sound (w0:=w0) (fun b o hb=>World.cell?_of_block (hS' b hb)) h o (congrArg SOp.op ho)
theorem dk_1 {w0:World} {ok:Nat→Bool} {i d:Nat} {op:Op} {ops:List SOp} {v:Value} {r:List (Nat × Bool)} (hs:ops[i]?=some ⟨some d,op,none⟩) (h:qv ok P w0 a op=some v)
    (hk:dregw P (Keeps ok w0) ops r K (a.put (some d) v) w):dregw P (Keeps ok w0) ops ((i,true) :: r) K a w:=by
  unfold dregw
  exact ⟨_,hs,by simpa only [if_true] using ⟨v,opqk_of (s:=⟨some d,op,none⟩) h,hk⟩⟩
theorem dk_y {w0:World} {ok:Nat→Bool} {i d j dj:Nat} {want:Bool} {op:Op} {ops:List SOp} {v:Value} {r:List (Nat × Bool)} (hs:ops[i]?=some ⟨some d,op,some (j,want)⟩) (hj:(ops[j]?).bind (·.dst)=some dj) (hlt:dj < a.tmps.size) (hb:getT a dj=.bool want) (h:qv ok P w0 a op=some v)
    (hk:dregw P (Keeps ok w0) ops r K (a.put (some d) v) w):dregw P (Keeps ok w0) ops ((i,true) :: r) K a w:=by
  unfold dregw
  exact ⟨_,hs,dj,want,hj,hlt,.inl hb,by simpa only [if_true] using ⟨v,opqk_of (s:=⟨some d,op,some (j,want)⟩) h,hk⟩⟩
theorem own_lt {tU8:Nat} {w:World} {B:Nat} {v:Value} {xs:Bytes} (h:Own tU8 w B v xs):∀ k,v.ownBlock=some k→B≤k∧k < w.heap.size:=fun k hk=>h.lt k hk
theorem own_same {tU8:Nat} {w w':World} {B:Nat} {v:Value} {xs:Bytes} (h:Own tU8 w B v xs) (hb:∀ k,v.ownBlock=some k→w'.heap[k]?=w.heap[k]?):Own tU8 w' B v xs:=by
  refine ⟨h.1,h.2.imp id ?_⟩
  rintro ⟨g,cap,cur,h1,h2,h3,h4⟩
  refine ⟨g,cap,cur,h1,h2,?_,h4⟩
  rw [hb g (by rw [h1];rfl)]
  exact h3
theorem fsAt_drop {w:World} {F:Nat→Prop}:∀ (i:Nat) (fs:Fs) (b o:Nat),FsAt w F fs b o→FsAt w F (Fs.drop i fs) b (o+i * 8)
  | 0,fs,b,o,h=>by simpa [Fs.drop] using h
  | i+1,.nil,b,o,_=>by simp [Fs.drop,FsAt]
  | i+1,.cons h ty r,b,o,hh=>by
    simp only [FsAt] at hh
    have:=fsAt_drop i r b (o+8) hh.2
    rwa [show o+8+i * 8=o+(i+1) * 8 by omega] at this
theorem drop_cons:∀ (i:Nat) (fs:Fs),i < Fs.len fs→∃ h ty,Fs.drop i fs=.cons h ty (Fs.drop (i+1) fs)
  | i,.nil,h=>by simp [Fs.len] at h
  | 0,.cons h ty r,_=>⟨h,ty,by simp [Fs.drop]⟩
  | i+1,.cons h ty r,hi=>by
    simp only [Fs.drop]
    exact drop_cons i r (by simp only [Fs.len] at hi;omega)
theorem drop_len:∀ (fs:Fs),Fs.drop (Fs.len fs) fs=.nil
  | .nil=>rfl
  | .cons h ty r=>by simp only [Fs.len,Fs.drop];exact drop_len r
theorem subsC_drop {C:Fs→Prop}:∀ (i:Nat) (fs:Fs),SubsC C fs→SubsC C (Fs.drop i fs)
  | 0,fs,h=>by simpa [Fs.drop] using h
  | i+1,.nil,_=>by simp [Fs.drop,SubsC]
  | i+1,.cons h ty r,hh=>by
    simp only [SubsC] at hh
    simp only [Fs.drop]
    exact subsC_drop i r hh.2
theorem headD_drop (l:List Tree) (i:Nat):(l.drop i).tail=l.drop (i+1):=by simp
theorem fields_loop (hX:stOK P X=true) (hTF:arrB P X.F 8=true) (S:SmallC P X fW fTh fC fWi fF fU fHas fNull fAt G) (hm:P.follows .mixedOrders=true) (oF:FnOK P fFld) (cFd:FieldC G P X fFld fPart)
    {a:Act} {w w1:World} {Q:Exit→Act→World→Prop} (fs:Fs) (fb:Option Addr) (fcap:Nat) (cP:SubsC (PartC G P X fPart) fs)
    (hfs:Fs.len fs=0∨∃ b o,fb=some ⟨b,o,none⟩∧b < w.heap.size∧FsAt w (· < w.heap.size) fs b o) (hlen63:Fs.len fs < 4294967296)
    (ver:Int) (flex:Bool) (t:Tree) (n:Int) (s l u:Value) (tnull:Bool) (ht:TV G w (· < w.heap.size) t (treV n s tnull l u))
    (hbw:Below w.heap.size w w1) (hsz:w.heap.size+1≤w1.heap.size) (hT5:rangeV w1 w.heap.size 0 5=some [.int .i64 n,s,.bool tnull,l,u])
    (g:a.tmps.size=132) (g0:getT a 0=.slice fb (Fs.len fs) fcap) (g1:getT a 1=.int .i64 ver) (g2:getT a 2=.bool flex) (g7:getT a 7=.pointer (some ⟨w.heap.size,0,none⟩)) (g9:getT a 9=.slice none 0 0)
    (hl:(wFs ver flex fs t.l).length≤lim)
    (hQ:∀ (a':Act) (w':World),a'.tmps.size=132→a'.defers=a.defers→(∀ s,s < 12→s ≠ 9→getT a' s=getT a s)→Own X.U8 w' (w.heap.size+1) (getT a' 9) (wFs ver flex fs t.l)→Below (w.heap.size+1) w1 w'→Q .normal a' w') :
    SC.wp P (.seq (.reg [mv 21 0,lenOp 22 X.Fs 21,⟨some 23,.move (.const (.int .i64 0)),none⟩]) (.block 0 (.loop (.seq (.reg [⟨some 24,.binOp .lss X.I (.tmp 23) (.tmp 22) X.I,none⟩]) (.seq (.cond (.tmp 24) (.skip) (.exit 0)) (.seq (.block 1 (.seq (.reg [mv 25 23,⟨some 26,.indexAddr X.Fs (.tmp 21) (.tmp 23),none⟩,ld 27 X.F 26,⟨some 13,.alloc X.F,none⟩,asg 12 25,⟨none,.store X.F (.tmp 13) (.tmp 27),none⟩]) (.seq (.reg [fa 28 X.F 13 4,ld 29 X.I 28,⟨some 30,.binOp .lss X.I (.tmp 29) (.const (.int .i64 0)) X.I,none⟩,mv 31 30,⟨some 32,.load X.F (.tmp 13),some (3,true)⟩,⟨some 33,.move (.tmp 1),some (3,true)⟩,⟨some 34,.call ⟨.value (.func fHas),#[(.tmp 32),(.tmp 33)],#[]⟩,some (3,true)⟩,⟨some 35,.pick (.tmp 31) (.tmp 34) (.const (.bool false)),none⟩]) (.cond (.tmp 35) (.dreg [mv 36 9,ld 37 X.F 13,mv 38 1,mv 39 2,ld 40 X.T 7,mv 41 12,cal 42 fAt [40,41],cal 43 fFld [37,38,39,42],⟨some 44,.call ⟨.builtin .append,#[(.tmp 36),(.tmp 43)],#[X.Bs,X.Bs]⟩,none⟩,asg 9 44] [[],[],[],[],[],[],[4,5],[1,2,3,6,6],[0,7,7],[8,8,0,1,2,3,4,5,6,7,8]]) (.skip))))) (.reg [⟨some 45,.binOp .add X.I (.tmp 23) (.const (.int .i64 1)) X.I,none⟩,mv 23 45]))))))) Q a w1:=by
  have hst:=st_facts hX
  have hU8s:=hst.2.2.1.1
  have hlim:lim=70368744177664:=rfl
  obtain ⟨hTF1,iF,zF,hiF,hzF,hzFs⟩:=arr_of hTF
  refine SC.wp_seq (SC.wp_reg ?_)
  repeat (first | (apply ops_1;(focus (simp (disch:=(try simp only [sPu]);omega) [hst,g0];try rfl))) | (apply ops_y;(focus rfl);(focus ((try simp only [sPu]);omega));(focus (simp (disch:=(try simp only [sPu]);omega) [hst,g0];done));(focus (simp (disch:=(try simp only [sPu]);omega) [hst,g0];try rfl))) | (apply ops_n;(focus rfl);(focus ((try simp only [sPu]);omega));(focus (first | (left;simp (disch:=(try simp only [sPu]);omega) [hst,g0];done) | (right;simp (disch:=(try simp only [sPu]);omega);done)))))
  refine oNi ?_
  simp only [Exit.then]
  refine SC.wp_block (SC.wp_loop (fun a4 w5=>∃ (j:Nat) (xs:Bytes),a4.tmps.size=132∧a4.defers=a.defers∧(∀ s,s < 12→s ≠ 9→getT a4 s=getT a s)∧getT a4 21=.slice fb (Fs.len fs) fcap∧getT a4 22=.int .i64 (Fs.len fs:Int)∧getT a4 23=.int .i64 (j:Int)∧j≤Fs.len fs ∧
      Own X.U8 w5 (w.heap.size+1) (getT a4 9) xs∧xs ++ wFs ver flex (Fs.drop j fs) (t.l.drop j)=wFs ver flex fs t.l∧Below (w.heap.size+1) w1 w5)
    (fun a4 _=>match getT a4 23 with | .int _ m=>(Fs.len fs - m).toNat | _=>0) ⟨0,[],by simp [sPu,g],by simp [dPu],?_,by simp (disch:=(try simp only [sPu]);omega),by simp (disch:=(try simp only [sPu]);omega),by simp (disch:=(try simp only [sPu]);omega),by omega,by simp (disch:=(try simp only [sPu]);omega) [g9];exact own_nil _ _ _,by simp [Fs.drop],Below.refl _ _⟩ ?_)
  · intro s h1 h2
    simp (disch:=omega) [gTn]
  rintro a4 w5 ⟨j,xs,q,qd,qs,q21,q22,q23,hj,ho,hx,hb5⟩
  have hsz5:w.heap.size+1≤w5.heap.size:=by have:=hb5.size;omega
  refine SC.wp_seq (SC.wp_reg ?_)
  repeat (first | (apply ops_1;(focus (simp (disch:=(try simp only [sPu]);omega) [hst,q22,q23];try rfl))) | (apply ops_y;(focus rfl);(focus ((try simp only [sPu]);omega));(focus (simp (disch:=(try simp only [sPu]);omega) [hst,q22,q23];done));(focus (simp (disch:=(try simp only [sPu]);omega) [hst,q22,q23];try rfl))) | (apply ops_n;(focus rfl);(focus ((try simp only [sPu]);omega));(focus (first | (left;simp (disch:=(try simp only [sPu]);omega) [hst,q22,q23];done) | (right;simp (disch:=(try simp only [sPu]);omega);done)))))
  refine oNi ?_
  simp only [Exit.then]
  refine SC.wp_seq (SC.wp_cond (t:=decide ((j:Int) < (Fs.len fs:Int))) (by simp (disch:=(try simp only [sPu]);omega)) ?_)
  cases e1:decide ((j:Int) < (Fs.len fs:Int))
  · have hje:j=Fs.len fs:=by simp at e1;omega
    subst hje
    rw [if_neg (by simp)]
    refine SC.wp_exit ?_
    simp only [Exit.then,Exit.inBlock,if_true]
    rw [drop_len,wFs,List.append_nil] at hx
    refine hQ _ _ (by simp [sPu,q]) (by simp [dPu,qd]) ?_ ?_ hb5
    · intro s h1 h2
      rw [← qs s h1 h2]
      simp (disch:=omega) [gTn]
    · rw [← hx]
      refine own_eq ho ?_
      simp (disch:=(try simp only [sPu]);omega)
  · have hjl:j < Fs.len fs:=by simp at e1;omega
    rw [if_pos rfl]
    refine SC.wp_skip ?_
    simp only [Exit.then]
    obtain ⟨h,ty,hdrop⟩:=drop_cons j fs hjl
    rcases hfs with hfs | ⟨b,o,rfl,hbF,hfs⟩
    · omega
    have hfj:=fsAt_drop j fs b o hfs
    have hcj:=subsC_drop j fs cP
    rw [hdrop] at hfj hcj hx
    simp only [FsAt,SubsC] at hfj hcj
    obtain ⟨⟨of_,sub,hr8,h1c,hof,hsub⟩,_⟩:=hfj
    have hb5':Below w.heap.size w w5:=hbw.trans (hb5.mono (by omega))
    have hr8':=(rangeV_mono (w:=w5) (hb5'.block b hbF) 8 (o+j * 8)).trans hr8
    have ej:(0:Int)≤(j:Int)∧(j:Int) < (Fs.len fs:Int):=by omega
    have k0:=(qs 0 (by decide) (by decide)).trans g0
    have k1:=(qs 1 (by decide) (by decide)).trans g1
    have k2:=(qs 2 (by decide) (by decide)).trans g2
    have k7:=(qs 7 (by decide) (by decide)).trans g7
    refine SC.wp_seq (SC.wp_block (SC.wp_seq (SC.wp_reg ?_)))
    iterate 3 (first | (apply ops_1;(focus (simp (disch:=(try simp only [sPu]);omega) [hst,q21,q23,ej,hr8',hjl];try rfl))) | (apply ops_y;(focus rfl);(focus ((try simp only [sPu]);omega));(focus (simp (disch:=(try simp only [sPu]);omega) [hst,q21,q23,ej,hr8',hjl];done));(focus (simp (disch:=(try simp only [sPu]);omega) [hst,q21,q23,ej,hr8',hjl];try rfl))) | (apply ops_n;(focus rfl);(focus ((try simp only [sPu]);omega));(focus (first | (left;simp (disch:=(try simp only [sPu]);omega) [hst,q21,q23,ej,hr8',hjl];done) | (right;simp (disch:=(try simp only [sPu]);omega);done)))))
    refine oNo rfl (opw_alloc hiF hzF ?_)
    iterate 1 (first | (apply ops_1;(focus (simp (disch:=(try simp only [sPu]);omega) ;try rfl))) | (apply ops_y;(focus rfl);(focus ((try simp only [sPu]);omega));(focus (simp (disch:=(try simp only [sPu]);omega);done));(focus (simp (disch:=(try simp only [sPu]);omega) ;try rfl))) | (apply ops_n;(focus rfl);(focus ((try simp only [sPu]);omega));(focus (first | (left;simp (disch:=(try simp only [sPu]);omega);done) | (right;simp (disch:=(try simp only [sPu]);omega);done)))))
    refine oNo rfl (opw_store_agg (b:=w5.heap.size) (cs:=[.int .i64 (kindOf ty),.int .i64 h.from_,.int .i64 h.to,.int .i64 h.null,.int .i64 (-1),.int .i64 h.dflt,.int .i64 of_,sub]) hTF1 (by simp (disch:=(try simp only [sPu]);omega)) (by simp (disch:=(try simp only [sPu]);omega)) (heap_alloc_new w5 _) (by simp [hzFs]) (by
      intro v hv
      simp only [List.mem_cons,List.not_mem_nil,or_false] at hv
      rcases hv with rfl | rfl | rfl | rfl | rfl | rfl | rfl | rfl <;> first | rfl | exact h1c) (oNi ?_))
    have hnew:((w5.alloc (.cells zF.cells X.F)).setRow w5.heap.size #[.int .i64 (kindOf ty),.int .i64 h.from_,.int .i64 h.to,.int .i64 h.null,.int .i64 (-1),.int .i64 h.dflt,.int .i64 of_,sub]).heap[w5.heap.size]?=some (.cells #[.int .i64 (kindOf ty),.int .i64 h.from_,.int .i64 h.to,.int .i64 h.null,.int .i64 (-1),.int .i64 h.dflt,.int .i64 of_,sub] X.F (0,0)):=setRow_heap _ _ _ _ _ _ (heap_alloc_new w5 _)
    have hb6:Below w5.heap.size w5 ((w5.alloc (.cells zF.cells X.F)).setRow w5.heap.size #[.int .i64 (kindOf ty),.int .i64 h.from_,.int .i64 h.to,.int .i64 h.null,.int .i64 (-1),.int .i64 h.dflt,.int .i64 of_,sub]):=below_setRow ((Below.refl _ _).alloc (Nat.le_refl _) _) (Nat.le_refl _) _
    have hsz6:((w5.alloc (.cells zF.cells X.F)).setRow w5.heap.size #[.int .i64 (kindOf ty),.int .i64 h.from_,.int .i64 h.to,.int .i64 h.null,.int .i64 (-1),.int .i64 h.dflt,.int .i64 of_,sub]).heap.size=w5.heap.size+1:=by simp
    simp only [Exit.then,pNo]
    generalize ((w5.alloc (.cells zF.cells X.F)).setRow w5.heap.size #[.int .i64 (kindOf ty),.int .i64 h.from_,.int .i64 h.to,.int .i64 h.null,.int .i64 (-1),.int .i64 h.dflt,.int .i64 of_,sub])=w6 at *
    have hc6:∀ i,w6.cell? ⟨w5.heap.size,i,none⟩=#[Value.int .i64 (kindOf ty),.int .i64 h.from_,.int .i64 h.to,.int .i64 h.null,.int .i64 (-1),.int .i64 h.dflt,.int .i64 of_,sub][i]?:=fun i=>cell_of_row _ _ _ _ _ _ hnew
    have hF8:rangeV w6 w5.heap.size 0 8=some [.int .i64 (kindOf ty),.int .i64 h.from_,.int .i64 h.to,.int .i64 h.null,.int .i64 (-1),.int .i64 h.dflt,.int .i64 of_,sub]:=by simp [rangeV,hc6]
    refine gen_act (fun a6=>a6.tmps.size=132∧a6.defers=a.defers∧(∀ s,s < 12→s ≠ 9→getT a6 s=getT a s)∧getT a6 9=getT a4 9∧getT a6 21=.slice (some ⟨b,o,none⟩) (Fs.len fs) fcap∧getT a6 22=.int .i64 (Fs.len fs:Int)∧getT a6 23=.int .i64 (j:Int)∧getT a6 12=.int .i64 (j:Int)∧getT a6 13=.pointer (some ⟨w5.heap.size,0,none⟩))
      ⟨by simp [sPu,q],by simp [dPu,qd],?_,by simp (disch:=(try simp only [sPu]);omega),by simp (disch:=(try simp only [sPu]);omega) [q21],by simp (disch:=(try simp only [sPu]);omega) [q22],by simp (disch:=(try simp only [sPu]);omega) [q23],by simp (disch:=(try simp only [sPu]);omega),by simp (disch:=(try simp only [sPu]);omega)⟩ ?_
    · intro s h1 h2
      rw [← qs s h1 h2]
      simp (disch:=omega) [gTn]
    rintro a6 ⟨p,pd,ps,p9,p21,p22,p23,p12,p13⟩
    have k1:=(ps 1 (by decide) (by decide)).trans g1
    have k2:=(ps 2 (by decide) (by decide)).trans g2
    have k7:=(ps 7 (by decide) (by decide)).trans g7
    clear q qd qs q21 q22 k0
    refine SC.wp_seq (SC.wp_reg ?_)
    iterate 6 (first | (apply ops_1;(focus (simp (disch:=(try simp only [sPu]);omega) [hst,hc6,hF8,k1,p13];try rfl))) | (apply ops_y;(focus rfl);(focus ((try simp only [sPu]);omega));(focus (simp (disch:=(try simp only [sPu]);omega) [hst,hc6,hF8,k1,p13];done));(focus (simp (disch:=(try simp only [sPu]);omega) [hst,hc6,hF8,k1,p13];try rfl))) | (apply ops_n;(focus rfl);(focus ((try simp only [sPu]);omega));(focus (first | (left;simp (disch:=(try simp only [sPu]);omega) [hst,hc6,hF8,k1,p13];done) | (right;simp (disch:=(try simp only [sPu]);omega);done)))))
    obtain ⟨fnH,hH1,hH2,hH3⟩:=S.oH
    refine opsw_yes rfl rfl (by (try simp only [sPu]);omega) (by simp (disch:=(try simp only [sPu]);omega)) (opw_call hH1 hH2 hH3 (R:=fun e w'=>e=.returned (.bool (h.has ver))∧Below w6.heap.size w6 w') ?_ ?_)
    · refine Eq.mp (congrArg (fun z=>Calls P fHas z w6 _) ?_) (S.cH w6 (kindOf ty) h.from_ h.to h.null (-1) h.dflt of_ sub ver)
      simp (disch:=(try simp only [sPu]);omega) [fldV]
    rintro e w7 ⟨rfl,hb7⟩
    refine ⟨_,rfl,?_⟩
    repeat (first | (apply ops_1;(focus (simp (disch:=(try simp only [sPu]);omega) ;try rfl))) | (apply ops_y;(focus rfl);(focus ((try simp only [sPu]);omega));(focus (simp (disch:=(try simp only [sPu]);omega);done));(focus (simp (disch:=(try simp only [sPu]);omega) ;try rfl))) | (apply ops_n;(focus rfl);(focus ((try simp only [sPu]);omega));(focus (first | (left;simp (disch:=(try simp only [sPu]);omega);done) | (right;simp (disch:=(try simp only [sPu]);omega);done)))))
    refine oNi ?_
    simp only [Exit.then]
    have hb7':Below w5.heap.size w5 w7:=hb6.trans (hb7.mono (by omega))
    have hsz7:w5.heap.size+1≤w7.heap.size:=by have:=hb7.size;omega
    have hnew7:w7.heap[w5.heap.size]?=w6.heap[w5.heap.size]?:=hb7.block _ (by omega)
    have ew:IntKind.i64.wrap ((j:Int)+1)=((j+1:Nat):Int):=by rw [wrap_i64'];split <;> omega
    have next:∀ (a':Act) (w':World) (ys:Bytes) (Q':Exit→Act→World→Prop),a'.tmps.size=132→a'.defers=a.defers→(∀ s,s < 12→s ≠ 9→getT a' s=getT a s)→getT a' 21=.slice (some ⟨b,o,none⟩) (Fs.len fs) fcap→getT a' 22=.int .i64 (Fs.len fs:Int)→getT a' 23=.int .i64 (j:Int) →
        Own X.U8 w' (w.heap.size+1) (getT a' 9) ys→ys=xs ++ (if h.has ver then wField ver flex h ty ((t.l.drop j).headD Tree.zero) else [])→Below (w.heap.size+1) w5 w' →
        (∀ a'' w'',(∃ (j:Nat) (xs:Bytes),a''.tmps.size=132∧a''.defers=a.defers∧(∀ s,s < 12→s ≠ 9→getT a'' s=getT a s)∧getT a'' 21=.slice (some ⟨b,o,none⟩) (Fs.len fs) fcap∧getT a'' 22=.int .i64 (Fs.len fs:Int)∧getT a'' 23=.int .i64 (j:Int)∧j≤Fs.len fs ∧
          Own X.U8 w'' (w.heap.size+1) (getT a'' 9) xs∧xs ++ wFs ver flex (Fs.drop j fs) (t.l.drop j)=wFs ver flex fs t.l∧Below (w.heap.size+1) w1 w'')→(match getT a'' 23 with | .int _ m=>(Fs.len fs - m).toNat | _=>0) < (Fs.len fs - (j:Int)).toNat→Q' .normal a'' w'') →
        SC.wp P (.reg [⟨some 45,.binOp .add X.I (.tmp 23) (.const (.int .i64 1)) X.I,none⟩,mv 23 45]) Q' a' w':=by
      intro a' w' ys Q' z zd zs z21 z22 z23 zo hy zb hq
      refine SC.wp_reg ?_
      repeat (first | (apply ops_1;(focus (simp (disch:=(try simp only [sPu]);omega) [z23,ew];try rfl))) | (apply ops_y;(focus rfl);(focus ((try simp only [sPu]);omega));(focus (simp (disch:=(try simp only [sPu]);omega) [z23,ew];done));(focus (simp (disch:=(try simp only [sPu]);omega) [z23,ew];try rfl))) | (apply ops_n;(focus rfl);(focus ((try simp only [sPu]);omega));(focus (first | (left;simp (disch:=(try simp only [sPu]);omega) [z23,ew];done) | (right;simp (disch:=(try simp only [sPu]);omega);done)))))
      refine oNi (hq _ _ ⟨j+1,ys,by simp [sPu,z],by simp [dPu,zd],?_,by simp (disch:=(try simp only [sPu]);omega) [z21],by simp (disch:=(try simp only [sPu]);omega) [z22],by simp (disch:=(try simp only [sPu]);omega),by omega,?_,?_,hb5.trans zb⟩ ?_)
      · intro s h1 h2
        rw [← zs s h1 h2]
        simp (disch:=omega) [gTn]
      · refine own_eq zo ?_
        simp (disch:=(try simp only [sPu]);omega)
      · rw [hy,List.append_assoc,← headD_drop,← wFs_cons]
        exact hx
      · simp (disch:=(try simp only [sPu]);omega);omega
    refine SC.wp_cond (t:=h.has ver) (by simp (disch:=(try simp only [sPu]);omega)) ?_
    cases hh:h.has ver
    · rw [if_neg (by simp)]
      refine SC.wp_skip ?_
      simp only [Exit.inBlock,Exit.then]
      refine next _ _ xs _ (by simp [sPu,p]) (by simp [dPu,pd]) ?_ (by simp (disch:=(try simp only [sPu]);omega) [p21]) (by simp (disch:=(try simp only [sPu]);omega) [p22]) (by simp (disch:=(try simp only [sPu]);omega) [p23]) ?_ (by simp [hh]) (hb7'.mono (by omega)) ?_
      · intro s h1 h2
        rw [← ps s h1 h2]
        simp (disch:=omega) [gTn]
      · refine own_eq (own_keep ho hb7') ?_
        simp (disch:=(try simp only [sPu]);omega) [p9]
      · intro a'' w'' hI hlt
        exact ⟨hI,by rw [q23];exact hlt⟩
    · rw [if_pos rfl]
      have hF8d:rangeV w7.drew w5.heap.size 0 8=some [.int .i64 (kindOf ty),.int .i64 h.from_,.int .i64 h.to,.int .i64 h.null,.int .i64 (-1),.int .i64 h.dflt,.int .i64 of_,sub]:=(rangeV_mono (w:=w7.drew) (w0:=w6) hnew7 8 0).trans hF8
      have hT5d:rangeV w7.drew w.heap.size 0 5=some [.int .i64 n,s,.bool tnull,l,u]:=(rangeV_mono (w:=w7.drew) (w0:=w1) ((hb7'.block _ (by omega)).trans (hb5.block _ (by omega))) 5 0).trans hT5
      have hb7w:Below w.heap.size w w7:=hb5'.trans (hb7'.mono (by omega))
      refine SC.wp_dreg hm (Keeps (fun b=>b == w.heap.size || b == w5.heap.size) w7.drew) [(0,true),(1,true),(2,true),(3,true),(4,true),(5,true),(6,false),(7,false),(8,false),(9,true)] (by rfl) (by rfl) (by decide) (fun _ _=>rfl) ?_
      iterate 6 (first | (apply dk_1;(focus rfl);(focus (simp (disch:=(try simp only [sPu]);omega) [hst,k1,k2,k7,p12,p13,hF8d,hT5d];try rfl))) | (apply dk_y;(focus rfl);(focus rfl);(focus ((try simp only [sPu]);omega));(focus (simp (disch:=(try simp only [sPu]);omega) [hst,k1,k2,k7,p12,p13,hF8d,hT5d];done));(focus (simp (disch:=(try simp only [sPu]);omega) [hst,k1,k2,k7,p12,p13,hF8d,hT5d];try rfl))))
      have hkeep:∀ (wa wb:World),w5.heap.size+1≤wa.heap.size→Below wa.heap.size wa wb→Keeps (fun b=>b == w.heap.size || b == w5.heap.size) w7.drew wa→Keeps (fun b=>b == w.heap.size || b == w5.heap.size) w7.drew wb:=by
        intro wa wb z1 z2 z3 bb hbb
        have:bb < wa.heap.size:=by
          simp only [Bool.or_eq_true,beq_iff_eq] at hbb
          omega
        exact (z2.block bb this).trans (z3 bb hbb)
      refine dreg_call rfl S.oA (S.cA w7.drew t (treV n s tnull l u) j (TV.down hb7w.drew (by show w.heap.size≤w7.heap.size;omega) ht)) (by simp (disch:=(try simp only [sPu]);omega) [treV]) ?_
      rintro e w8 ⟨tv,rfl,htv,hb8⟩
      have hb8:Below w7.heap.size w7.drew w8:=hb8
      have hk8:=hkeep w7.drew w8 (by show _≤w7.heap.size;omega) hb8 (fun _ _=>rfl)
      refine ⟨tv,rfl,hk8,?_⟩
      have hsz8:w7.heap.size≤w8.heap.size:=hb8.size
      have hb8w:Below w.heap.size w w8:=hb7w.drew.trans (hb8.mono (by omega))
      have hlf:(wField ver flex h ty ((t.l.drop j).headD Tree.zero)).length≤lim∧xs.length+(wField ver flex h ty ((t.l.drop j).headD Tree.zero)).length≤lim:=by
        rw [wFs_cons,hh,if_pos rfl] at hx
        have:=congrArg List.length hx
        simp only [List.length_append] at this
        omega
      refine dreg_call rfl oF (cFd w8 h ty of_ sub ver flex ((t.l.drop j).headD Tree.zero) tv hof (SubV.mono (w:=w8) (F':=fun x=>x < w8.heap.size) (fun k hk=>by have:k < w.heap.size:=hk;show k < w8.heap.size;omega) (fun k hk=>hb8w.block k hk) ty sub hsub) h1c hcj.1 (TV.down hb8 (by omega) htv) hlf.1) (by simp (disch:=(try simp only [sPu]);omega) [fldV]) ?_
      rintro e w9 ⟨v2,rfl,ho2,hb9⟩
      have hk9:=hkeep w8 w9 (by omega) hb9 hk8
      refine ⟨v2,rfl,hk9,?_⟩
      have hsz9:w8.heap.size≤w9.heap.size:=hb9.size
      have hb59:Below w5.heap.size w5 w9:=hb7'.drew.trans ((hb8.mono (by omega)).trans (hb9.mono (by omega)))
      have ho9:Own X.U8 w9 (w.heap.size+1) (getT a4 9) xs:=own_keep ho hb59
      refine dreg_n rfl rfl (opw_appendU8 (B:=w.heap.size+1) (dv:=getT a4 9) (xv:=v2) (xs:=xs) (bs:=wField ver flex h ty ((t.l.drop j).headD Tree.zero)) hU8s (by simp (disch:=(try simp only [sPu]);omega) [p9]) (by simp (disch:=(try simp only [sPu]);omega)) rfl ho9 (by omega) (src_own hU8s ho2) hlf.2 ?_)
      intro v3 w10 z1 z2 z3 z4
      refine ⟨fun bb hbb=>?_,?_⟩
      · rw [← hk9 bb hbb]
        have hbb':bb=w.heap.size∨bb=w5.heap.size:=by simpa only [Bool.or_eq_true,beq_iff_eq] using hbb
        refine z4.block bb (by omega) (fun e=>?_)
        have:=own_lt ho bb e.symm
        omega
      repeat (first | (apply dk_1;(focus rfl);(focus (simp (disch:=(try simp only [sPu]);omega) ;try rfl))) | (apply dk_y;(focus rfl);(focus rfl);(focus ((try simp only [sPu]);omega));(focus (simp (disch:=(try simp only [sPu]);omega);done));(focus (simp (disch:=(try simp only [sPu]);omega) ;try rfl))))
      refine dreg_nil ?_
      simp only [Exit.inBlock,Exit.then]
      refine next _ _ (xs ++ wField ver flex h ty ((t.l.drop j).headD Tree.zero)) _ (by simp [sPu,p]) (by simp [dPu,pd]) ?_ (by simp (disch:=(try simp only [sPu]);omega) [p21]) (by simp (disch:=(try simp only [sPu]);omega) [p22]) (by simp (disch:=(try simp only [sPu]);omega) [p23]) ?_ (by simp [hh]) ((hb59.mono (by omega)).trans z2) ?_
      · intro s h1 h2
        rw [← ps s h1 h2]
        simp (disch:=omega) [gTn]
      · refine own_eq z1 ?_
        simp (disch:=(try simp only [sPu]);omega)
      · intro a'' w'' hI hlt
        exact ⟨hI,by rw [q23];exact hlt⟩
end
end Go.Proofs.Ytjbbohfaihkolaa.K
namespace Go.Proofs.Ytjbbohfaihkolaa.K
open Go Go.RowKit Go.Proofs.Ytjbbohfaihkolaa.T
attribute [local simp] eTm eCo pNo gTp gTn qv qcall vop iop
set_option linter.unusedSimpArgs false
set_option linter.unusedVariables false
set_option maxHeartbeats 4000000
def UnkC (G:List (Nat × Bytes)→Prop) (P:Program) (f:FuncId):Prop :=
  ∀ (w:World) (fs:Fs) (fv:Value) (ub:Option Addr) (u:List (Nat × Bytes)) (uc:Nat),FsV w (· < w.heap.size) fs fv→Fs.len fs < 4294967296→G u→UTagsAt w (· < w.heap.size) ub u→u.length≤uc →
    Calls P f #[fv,.slice ub u.length uc] w fun e w'=>∃ ub' uc',e=.returned (.slice ub' (unknown u).length uc')∧UTagsAt w' (· < w'.heap.size) ub' (unknown u)∧Below w.heap.size w w'
def KnownC (P:Program) (f:FuncId):Prop :=
  ∀ (w:World) (fs:Fs) (fv:Value),FsV w (· < w.heap.size) fs fv→Fs.len fs < 4294967296→Calls P f #[fv] w fun e w'=>e=.returned (.int .u32 0)∧Below w.heap.size w w'
section
variable {G:List (Nat × Bytes)→Prop} {P:Program} {X:STy} {f:FuncId} {fn:Func} {fW fTh fC fWi fF fU fHas fNull fAt fPart fVal fFld fKn fUs fUnk:FuncId}
theorem tags_loop (hX:stOK P X=true) (hTg:arrB P X.Tg 2=true) (S:SmallC P X fW fTh fC fWi fF fU fHas fNull fAt G) (oUnk:FnOK P fUnk) (cUnk:UnkC G P fUnk)
    {a:Act} {w1:World} {Q:Exit→Act→World→Prop} (fs:Fs) (fv:Value) (hfs:FsV w1 (· < w1.heap.size) fs fv) (hlen63:Fs.len fs < 4294967296) (b7:Nat) (hb7:b7 < w1.heap.size) (n:Int) (s l:Value) (tnull:Bool) (ub:Option Addr) (u:List (Nat × Bytes)) (uc:Nat) (huc:u.length≤uc) (hG:G u) (hu:UTagsAt w1 (· < w1.heap.size) ub u)
    (hc7:∀ i,w1.cell? ⟨b7,i,none⟩=#[Value.int .i64 n,s,.bool tnull,l,.slice ub u.length uc][i]?)
    (g:a.tmps.size=132) (g0:getT a 0=fv) (g7:getT a 7=.pointer (some ⟨b7,0,none⟩)) (g10:getT a 10=.slice none 0 0) (g11:getT a 11=.int .i64 0)
    (hl:((unknown u).flatMap wTag).length≤lim) (hul:(unknown u).length≤most)
    (hQ:∀ (a':Act) (w':World),a'.tmps.size=132→a'.defers=a.defers→(∀ s,s < 10→getT a' s=getT a s)→Own X.U8 w' w1.heap.size (getT a' 10) ((unknown u).flatMap wTag)→getT a' 11=.int .i64 ((unknown u).length:Int)→Below w1.heap.size w1 w'→Q .normal a' w') :
    SC.wp P (.seq (.reg [mv 97 0,fa 98 X.T 7 4,ld 99 X.Tgs 98,cal 100 fUnk [97,99],lenOp 101 X.Tgs 100,⟨some 102,.move (.const (.int .i64 0)),none⟩]) (.block 6 (.loop (.seq (.reg [⟨some 103,.binOp .lss X.I (.tmp 102) (.tmp 101) X.I,none⟩]) (.seq (.cond (.tmp 103) (.skip) (.exit 6)) (.seq (.block 7 (.seq (.reg [⟨some 104,.indexAddr X.Tgs (.tmp 100) (.tmp 102),none⟩,ld 105 X.Tg 104,⟨some 19,.alloc X.Tg,none⟩,⟨none,.store X.Tg (.tmp 19) (.tmp 105),none⟩]) (.seq (.reg [fa 106 X.Tg 19 1,ld 107 X.Bs 106,cal 108 fW [107],asg 20 108]) (.seq (.reg [mv 109 10,fa 110 X.Tg 19 0,ld 111 X.U32 110,⟨some 112,.convert X.U32 X.U64 (.tmp 111),none⟩,cal 113 fU [112],⟨some 114,.call ⟨.builtin .append,#[(.tmp 109),(.tmp 113)],#[X.Bs,X.Bs]⟩,none⟩,mv 115 20,lenOp 116 X.Bs 115,⟨some 117,.convert X.I X.U64 (.tmp 116),none⟩,cal 118 fU [117],⟨some 119,.call ⟨.builtin .append,#[(.tmp 114),(.tmp 118)],#[X.Bs,X.Bs]⟩,none⟩,mv 120 20,⟨some 121,.call ⟨.builtin .append,#[(.tmp 119),(.tmp 120)],#[X.Bs,X.Bs]⟩,none⟩,asg 10 121]) (.reg [mv 122 11,⟨some 123,.binOp .add X.I (.tmp 122) (.const (.int .i64 1)) X.I,none⟩,asg 11 123]))))) (.reg [⟨some 124,.binOp .add X.I (.tmp 102) (.const (.int .i64 1)) X.I,none⟩,mv 102 124]))))))) Q a w1:=by
  have hst:=st_facts hX
  have hU8s:=hst.2.2.1.1
  have hlim:lim=70368744177664:=rfl
  have hmost:most=32767:=rfl
  obtain ⟨hTg1,iF,zF,hiF,hzF,hzFs⟩:=arr_of hTg
  refine SC.wp_seq (SC.wp_reg ?_)
  iterate 3 (apply ops_1;(focus (simp (disch:=(try simp only [sPu]);omega) [hst,g0,g7,hc7];try rfl)))
  refine ops_call oUnk (cUnk w1 fs fv ub u uc hfs hlen63 hG hu huc) (by simp (disch:=(try simp only [sPu]);omega)) ?_
  rintro e w2 ⟨ub',uc',rfl,hu2,hb2⟩
  refine ⟨_,rfl,?_⟩
  generalize unknown u=us at *
  repeat (apply ops_1;(focus (simp (disch:=(try simp only [sPu]);omega) [hst];try rfl)))
  refine oNi ?_
  simp only [Exit.then]
  have hsz2:w1.heap.size≤w2.heap.size:=hb2.size
  refine SC.wp_block (SC.wp_loop (fun a4 w5=>∃ (j:Nat),a4.tmps.size=132∧a4.defers=a.defers∧(∀ s,s < 10→getT a4 s=getT a s)∧getT a4 100=.slice ub' us.length uc'∧getT a4 101=.int .i64 (us.length:Int)∧getT a4 102=.int .i64 (j:Int)∧j≤us.length∧getT a4 11=.int .i64 (j:Int) ∧
      Own X.U8 w5 w2.heap.size (getT a4 10) ((us.take j).flatMap wTag)∧Below w2.heap.size w2 w5)
    (fun a4 _=>match getT a4 102 with | .int _ m=>(us.length - m).toNat | _=>0) ⟨0,by simp [sPu,g],by simp [dPu],?_,by simp (disch:=(try simp only [sPu]);omega),by simp (disch:=(try simp only [sPu]);omega),by simp (disch:=(try simp only [sPu]);omega),by omega,by simp (disch:=(try simp only [sPu]);omega) [g11],by simp (disch:=(try simp only [sPu]);omega) [g10];exact own_nil _ _ _,Below.refl _ _⟩ ?_)
  · intro s h1
    simp (disch:=omega) [gTn]
  rintro a4 w5 ⟨j,q,qd,qs,q100,q101,q102,hj,q11,ho,hb5⟩
  have hsz5:w2.heap.size≤w5.heap.size:=hb5.size
  refine SC.wp_seq (SC.wp_reg ?_)
  repeat (apply ops_1;(focus (simp (disch:=(try simp only [sPu]);omega) [hst,q101,q102];try rfl)))
  refine oNi ?_
  simp only [Exit.then]
  refine SC.wp_seq (SC.wp_cond (t:=decide ((j:Int) < (us.length:Int))) (by simp (disch:=(try simp only [sPu]);omega)) ?_)
  cases e1:decide ((j:Int) < (us.length:Int))
  · have hje:j=us.length:=by simp at e1;omega
    subst hje
    rw [if_neg (by simp)]
    refine SC.wp_exit ?_
    simp only [Exit.then,Exit.inBlock,if_true]
    rw [List.take_length] at ho
    refine hQ _ _ (by simp [sPu,q]) (by simp [dPu,qd]) ?_ ?_ (by simp (disch:=(try simp only [sPu]);omega) [q11]) (hb2.trans (hb5.mono hsz2))
    · intro s h1
      rw [← qs s h1]
      simp (disch:=omega) [gTn]
    · refine own_eq (own_down ho hsz2) ?_
      simp (disch:=(try simp only [sPu]);omega)
  · have hjl:j < us.length:=by simp at e1;omega
    rw [if_pos rfl]
    refine SC.wp_skip ?_
    simp only [Exit.then]
    rcases hu2 with hu2 | ⟨b,o,rfl,hbF,hu2⟩
    · subst hu2;simp at hjl
    obtain ⟨hx32,vb,vc,hr2,hvb,hvc⟩:=hu2 j _ (List.getElem?_eq_getElem hjl)
    have hr2':=(rangeV_mono (w:=w5) (hb5.block b hbF) 2 (o+j * 2)).trans hr2
    have ej:(0:Int)≤(j:Int)∧(j:Int) < (us.length:Int):=by omega
    obtain ⟨tf1,tf2⟩:=take_flat us wTag j hjl
    have hcj:(wTag us[j]).length=(uvarint us[j].1).length+((uvarint (whole us[j].2).length).length+(whole us[j].2).length):=by simp [wTag,Nat.add_assoc]
    have hwt:wTag us[j]=uvarint us[j].1 ++ uvarint (whole us[j].2).length ++ whole us[j].2:=rfl
    generalize us[j]=x at *
    refine SC.wp_seq (SC.wp_block (SC.wp_seq (SC.wp_reg ?_)))
    iterate 2 (apply ops_1;(focus (simp (disch:=(try simp only [sPu]);omega) [hst,q100,q102,ej,hr2',hjl];try rfl)))
    refine oNo rfl (opw_alloc hiF hzF ?_)
    refine oNo rfl (opw_store_agg (b:=w5.heap.size) (cs:=[.int .u32 (x.1:Int),.slice vb x.2.length vc]) hTg1 (by simp (disch:=(try simp only [sPu]);omega)) (by simp (disch:=(try simp only [sPu]);omega)) (heap_alloc_new w5 _) (by simp [hzFs]) (by simp [Value.oneCell']) (oNi ?_))
    have hnew:((w5.alloc (.cells zF.cells X.Tg)).setRow w5.heap.size #[.int .u32 (x.1:Int),.slice vb x.2.length vc]).heap[w5.heap.size]?=some (.cells #[.int .u32 (x.1:Int),.slice vb x.2.length vc] X.Tg (0,0)):=setRow_heap _ _ _ _ _ _ (heap_alloc_new w5 _)
    have hb6:Below w5.heap.size w5 ((w5.alloc (.cells zF.cells X.Tg)).setRow w5.heap.size #[.int .u32 (x.1:Int),.slice vb x.2.length vc]):=below_setRow ((Below.refl _ _).alloc (Nat.le_refl _) _) (Nat.le_refl _) _
    have hsz6:((w5.alloc (.cells zF.cells X.Tg)).setRow w5.heap.size #[.int .u32 (x.1:Int),.slice vb x.2.length vc]).heap.size=w5.heap.size+1:=by simp
    simp only [Exit.then,pNo]
    generalize ((w5.alloc (.cells zF.cells X.Tg)).setRow w5.heap.size #[.int .u32 (x.1:Int),.slice vb x.2.length vc])=w6 at *
    have hc6:∀ i,w6.cell? ⟨w5.heap.size,i,none⟩=#[Value.int .u32 (x.1:Int),.slice vb x.2.length vc][i]?:=fun i=>cell_of_row _ _ _ _ _ _ hnew
    refine SC.wp_seq (SC.wp_reg ?_)
    iterate 2 (apply ops_1;(focus (simp (disch:=(try simp only [sPu]);omega) [hst,hc6];try rfl)))
    refine ops_call S.oW (S.cW w6 vb x.2.length vc hvc) (by simp (disch:=(try simp only [sPu]);omega)) ?_
    rintro e w7 ⟨rfl,rfl⟩
    refine ⟨_,rfl,?_⟩
    repeat (apply ops_1;(focus (simp (disch:=(try simp only [sPu]);omega) ;try rfl)))
    refine oNi ?_
    simp only [Exit.then]
    have ewl:(whole x.2).length=min x.2.length most:=by simp [whole,Nat.min_comm]
    refine gen_act (fun a6=>a6.tmps.size=132∧a6.defers=a.defers∧(∀ s,s < 10→getT a6 s=getT a s)∧getT a6 10=getT a4 10∧getT a6 11=.int .i64 (j:Int)∧getT a6 100=.slice (some ⟨b,o,none⟩) us.length uc'∧getT a6 101=.int .i64 (us.length:Int)∧getT a6 102=.int .i64 (j:Int)∧getT a6 19=.pointer (some ⟨w5.heap.size,0,none⟩)∧getT a6 20=.slice vb (whole x.2).length vc)
      ⟨by simp [sPu,q],by simp [dPu,qd],?_,by simp (disch:=(try simp only [sPu]);omega),by simp (disch:=(try simp only [sPu]);omega) [q11],by simp (disch:=(try simp only [sPu]);omega) [q100],by simp (disch:=(try simp only [sPu]);omega) [q101],by simp (disch:=(try simp only [sPu]);omega) [q102],by simp (disch:=(try simp only [sPu]);omega),by simp (disch:=(try simp only [sPu]);omega) [ewl]⟩ ?_
    · intro s h1
      rw [← qs s h1]
      simp (disch:=omega) [gTn]
    rintro a6 ⟨p,pd,ps,p10,p11,p100,p101,p102,p19,p20⟩
    have hwl:(whole x.2).length≤most:=by rw [ewl];omega
    have ek:(x.1:Int) % 18446744073709551616=(x.1:Int):=by omega
    have el:((whole x.2).length:Int) % 18446744073709551616=((whole x.2).length:Int):=by omega
    have hBv6:BytesAt w6 (fun k=>k < w2.heap.size) vb (whole x.2):=bytesAt_mono (bytesAt_whole hvb most) (fun _ h=>h) (fun k hk=>(hb6.block k (by omega)).trans (hb5.block k hk))
    generalize whole x.2=wx at *
    have hl':((us.take j).flatMap wTag).length+(uvarint x.1).length+(uvarint wx.length).length+wx.length≤lim:=by omega
    have ho6:Own X.U8 w6 w2.heap.size (getT a4 10) ((us.take j).flatMap wTag):=own_keep ho hb6
    refine SC.wp_seq (SC.wp_reg ?_)
    iterate 4 (apply ops_1;(focus (simp (disch:=(try simp only [sPu]);omega) [hst,hc6,p10,p19,wrap_u64,ek];try rfl)))
    refine ops_call S.oU (S.cU w6 x.1 (by omega)) (by simp (disch:=(try simp only [sPu]);omega)) ?_
    rintro e w7 ⟨v1,rfl,o1,b1⟩
    refine ⟨v1,rfl,?_⟩
    have s7:w6.heap.size≤w7.heap.size:=b1.size
    refine oNo rfl (opw_appendU8 (B:=w2.heap.size) (dv:=getT a4 10) (xv:=v1) (xs:=(us.take j).flatMap wTag) (bs:=uvarint x.1) hU8s (by simp (disch:=(try simp only [sPu]);omega) [p10]) (by simp (disch:=(try simp only [sPu]);omega)) rfl (own_keep ho6 b1) (by omega) (src_own hU8s o1) (by omega) ?_)
    intro v2 w8 o2 b2 s8 _
    have e117:True:=trivial
    iterate 3 (apply ops_1;(focus (simp (disch:=(try simp only [sPu]);omega) [hst,p20,wrap_u64,el];try rfl)))
    refine ops_call S.oU (S.cU w8 wx.length (by omega)) (by simp (disch:=(try simp only [sPu]);omega)) ?_
    rintro e w9 ⟨v3,rfl,o3,b3⟩
    refine ⟨v3,rfl,?_⟩
    have s9:w8.heap.size≤w9.heap.size:=b3.size
    refine oNo rfl (opw_appendU8 (B:=w2.heap.size) (dv:=v2) (xv:=v3) (xs:=(us.take j).flatMap wTag ++ uvarint x.1) (bs:=uvarint wx.length) hU8s (by simp (disch:=(try simp only [sPu]);omega)) (by simp (disch:=(try simp only [sPu]);omega)) rfl (own_keep o2 b3) (by omega) (src_own hU8s o3) (by rw [List.length_append];omega) ?_)
    intro v4 w10 o4 b4 s10 _
    have b610:Below w2.heap.size w6 w10:=(b1.mono (by omega)).trans (b2.trans ((b3.mono (by omega)).trans b4))
    iterate 1 (apply ops_1;(focus (simp (disch:=(try simp only [sPu]);omega) [p20];try rfl)))
    refine oNo rfl (opw_appendU8 (B:=w2.heap.size) (dv:=v4) (xv:=.slice vb wx.length vc) (xs:=(us.take j).flatMap wTag ++ uvarint x.1 ++ uvarint wx.length) (bs:=wx) hU8s (by simp (disch:=(try simp only [sPu]);omega)) (by simp (disch:=(try simp only [sPu]);omega)) rfl o4 s10 (src_bytes hU8s (bytesAt_mono (F':=fun _=>True) hBv6 (fun _ _=>trivial) (fun k hk=>b610.block k hk)) vc) (by rw [List.length_append,List.length_append];omega) ?_)
    intro v5 w11 o5 b5 s11 _
    repeat (apply ops_1;(focus (simp (disch:=(try simp only [sPu]);omega) ;try rfl)))
    refine oNi ?_
    simp only [Exit.then]
    have ew:IntKind.i64.wrap ((j:Int)+1)=((j+1:Nat):Int):=by rw [wrap_i64'];split <;> omega
    refine SC.wp_reg ?_
    repeat (apply ops_1;(focus (simp (disch:=(try simp only [sPu]);omega) [p11,ew];try rfl)))
    refine oNi ?_
    simp only [Exit.inBlock,Exit.then]
    refine SC.wp_reg ?_
    repeat (apply ops_1;(focus (simp (disch:=(try simp only [sPu]);omega) [p102,ew];try rfl)))
    refine oNi ?_
    refine ⟨⟨j+1,by simp [sPu,p],by simp [dPu,pd],?_,by simp (disch:=(try simp only [sPu]);omega) [p100],by simp (disch:=(try simp only [sPu]);omega) [p101],by simp (disch:=(try simp only [sPu]);omega),by omega,by simp (disch:=(try simp only [sPu]);omega),?_,hb5.trans ((hb6.mono (by omega)).trans (b610.trans b5))⟩,?_⟩
    · intro s h1
      rw [← ps s h1]
      simp (disch:=omega) [gTn]
    · rw [tf1,hwt,← List.append_assoc,← List.append_assoc]
      refine own_eq o5 ?_
      simp (disch:=(try simp only [sPu]);omega)
    · rw [q102]
      simp (disch:=(try simp only [sPu]);omega);omega
end
end Go.Proofs.Ytjbbohfaihkolaa.K
