/- Generic texts: R17 R18 R19 R20 R21 R22. No condition. -/
import Derived.Test.YtcchakpiemhpeaaDoorN7
import Derived.Laws.BytesArg
namespace Go.Proofs.YtcchakpiemhpeaaDoor.K
open Go Go.RowKit Go.Proofs.YtcchakpiemhpeaaDoor.T
attribute [local simp] eTm eCo pNo gTp gTn qv qcall vop iop
set_option linter.unusedSimpArgs false
set_option linter.unusedVariables false
set_option maxHeartbeats 2000000
def rDropV (R:RTy) (t s:Nat):SC:=.reg [mv t 0,mv (t+1) 0,nilc (t+2) (t+1),fa (t+3) R.TR (t+2) 0,ld (t+4) R.TB (t+3),mv (t+5) s,⟨some (t+6),.slice R.TB (.tmp (t+4)) (some (.tmp (t+5))) none none,none⟩,nilc (t+7) t,fa (t+8) R.TR (t+7) 0,⟨none,.store R.TB (.tmp (t+8)) (.tmp (t+6)),none⟩]
def sc_RSpan (R:RTy):SC:=.seq (.reg [⟨some 4,.assign (.const (.slice none 0 0)),none⟩]) (.seq (.seq (.reg [mv 6 0,nilc 7 6,fa 8 R.TR 7 0,ld 9 R.TB 8,lenOp 10 R.TB 9,mv 11 1,⟨some 12,.binOp .lss R.I (.tmp 10) (.tmp 11) R.I,none⟩,mv 13 12,⟨some 14,.move (.tmp 1),some (7,false)⟩,⟨some 15,.binOp .lss R.I (.tmp 14) (.const (.int .i64 0)) R.I,some (7,false)⟩,⟨some 16,.pick (.tmp 13) (.const (.bool true)) (.tmp 15),none⟩]) (.cond (.tmp 16) (rFail R 17 4 (.slice none 0 0)) (.skip))) (.seq (.reg [mv 23 0,nilc 24 23,fa 25 R.TR 24 0,ld 26 R.TB 25,mv 27 1,mv 28 1,⟨some 29,.slice R.TB (.tmp 26) none (some (.tmp 27)) (some (.tmp 28)),none⟩,asg 5 29]) (.seq (rDropV R 30 1) (.seq (.reg [mv 39 5,asg 4 39]) (.ret)))))
def sc_RUvarint (R:RTy) (F0:Nat):SC:=.seq (.reg [⟨some 2,.assign (.const (.int .u32 0)),none⟩]) (.seq (.reg [mv 6 0,nilc 7 6,fa 8 R.TR 7 0,ld 9 R.TB 8,cal 10 F0 [9],mv 5 10,⟨some 11,.extract (.tmp 5) 0,none⟩,⟨some 12,.extract (.tmp 5) 1,none⟩,asg 3 11,asg 4 12]) (.seq (.seq (.reg [mv 13 4,⟨some 14,.binOp .leq R.I (.tmp 13) (.const (.int .i64 0)) R.I,none⟩]) (.cond (.tmp 14) (rFail R 15 2 (.int .u32 0)) (.skip))) (.seq (rDropV R 21 4) (.seq (.reg [mv 30 3,asg 2 30]) (.ret)))))
def SpC (P:Program) (TR:Nat) (F:FuncId):Prop:=FnOK P F∧∀ (w:World) (S:Option Nat) (rb:Nat) (st:Option Bytes) (l:Int),RdAt TR w S rb st→(∀ sb,S=some sb→sb ≠ rb∧sb < w.heap.size) →
  Calls P F #[.pointer (some ⟨rb,0,none⟩),.int .i64 l] w fun e w'=>∃ (S':Option Nat) (base:Option Addr) (cap:Nat) (x:Bytes),e=.returned (.slice base x.length cap)∧RdAt TR w' S rb (after st (pSpan l))∧Only rb w w'∧SrcAt w' S' base x ∧
    (∀ bs y r,st=some bs→pSpan l bs=some (y,r)→x=y∧S'=S)∧(S'=none∨S'=S)
section
variable {P:Program} {R:RTy} {f:FuncId} {fn:Func}
theorem rDropV_ok {t s n len rb:Nat} {bad:Bool} {a:Act} {w:World} {base:Option Addr} {cap:Nat} {Q:Exit→Act→World→Prop} (hR:rdOK P R=true) (hr:rdRow R.TR w rb (.slice base len cap) bad) (hn:n≤len)
    (h0:getT a 0=.pointer (some ⟨rb,0,none⟩)) (hx:getT a s=.int .i64 (n:Int)) (ht:0 < t) (hst:s < t) (htN:t+9≤a.tmps.size)
    (hQ:∀ a',a'.tmps.size=a.tmps.size→a'.defers=a.defers→(∀ s,s < t→getT a' s=getT a s)→Q .normal a' (w.setRow rb (#[.slice base len cap,.bool bad].setIfInBounds 0 (sliceLo base len cap n)))):(rDropV R t s).wp P Q a w:=by
  have hf:=rd_facts hR
  have hcl:=rdRow_cells hr
  have hrow:w.heap[rb]?=some (.cells #[.slice base len cap,.bool bad] R.TR (0,0)):=hr
  refine SC.wp_reg (ops_mv (ops_mv (ops_nilc (ad:=⟨rb,0,none⟩) ?_ (ops_fa (fieldB_of hf.1) (b:=rb) (o:=0) ?_ (ops_ld hf.2.2.1 (ad:=⟨rb,0,none⟩) (v:=.slice base len cap) ?_ hcl.1 (ops_mv (oNo rfl (opw_sliceLo (n:=n) (k:=.i64) (len:=len) (cap:=cap) (base:=base) hf.2.2.2.1 ?_ ?_ hn (ops_nilc (ad:=⟨rb,0,none⟩) ?_ (ops_fa (fieldB_of hf.1) (b:=rb) (o:=0) ?_ (ops_stR (b:=rb) (i:=0) (v:=sliceLo base len cap n) hf.2.2.1 ?_ ?_ rfl hrow (by simp) (oNi ?_))))))))))))
  · rw [gTp (by simp only [sPu];omega),gTn (by omega)];exact h0
  · rw [gTp (by simp only [sPu];omega)]
  · rw [gTp (by simp only [sPu];omega)]
  · rw [eTm,gTn (by omega),gTp (by simp only [sPu];omega)]
  · rw [eTm,gTp (by simp only [sPu];omega),gTn (by omega),gTn (by omega),gTn (by omega),gTn (by omega),gTn (by omega)];exact hx
  · rw [gTn (by omega),gTn (by omega),gTn (by omega),gTn (by omega),gTn (by omega),gTn (by omega),gTp (by omega)];exact h0
  · rw [gTp (by simp only [sPu];omega)]
  · rw [eTm,gTp (by simp only [sPu];omega)]
  · rw [eTm,gTn (by omega),gTn (by omega),gTp (by simp only [sPu];omega)]
  refine hQ _ (by simp only [sPu]) (by simp only [dPu]) (fun s hs=>?_)
  rw [gTn (by omega),gTn (by omega),gTn (by omega),gTn (by omega),gTn (by omega),gTn (by omega),gTn (by omega),gTn (by omega),gTn (by omega)]
theorem SrcAt.take {w:World} {S:Option Nat} {base:Option Addr} {rest:Bytes} {n:Nat} (h:SrcAt w S base rest):SrcAt w S base (rest.take n):=by
  cases S with
  | none =>
    obtain ⟨rfl,rfl⟩:=h
    exact ⟨rfl,by simp⟩
  | some sb =>
    obtain ⟨o,rfl,h2⟩:=h
    refine ⟨o,rfl,fun j u hu=>h2 j u ?_⟩
    rw [List.getElem?_take] at hu
    split at hu
    · exact hu
    · simp at hu
theorem pSpan_no {l:Int} {b:Bytes} (h:(b.length:Int) < l∨l < 0):pSpan l b=none:=by simp [pSpan,h]
theorem pSpan_yes {n:Nat} {b:Bytes} (h:n≤b.length):pSpan (n:Int) b=some (b.take n,b.drop n):=by
  unfold pSpan
  rw [if_neg (by omega)]
  rfl
theorem rSpan_ok {TR : Nat} (hTR : R.TR = TR) (hR : rdOK P R = true) (hf : P.funcs[f]? = some fn) (hb : fn.body.map strip = some (sc_RSpan R)) (hnm : (fn.name == "runtime.NumGoroutine") = false) (hn : fn.ntmps = 40) (hr : fn.results = #[.tmp 4]) : SpC P TR f := by
  subst hTR
  have hst:=rd_facts hR
  refine ⟨fnOK_of hf hb hnm,fun w S rb st l hrd hsrc=>?_⟩
  refine fCa hf hb hn (by simp) fun a0 hs hd ha=>?_
  have h0:=ha 0 _ rfl
  have h1:=ha 1 _ rfl
  simp only [List.getElem_toArray,List.getElem_cons_zero,List.getElem_cons_succ] at h0 h1
  obtain ⟨bad,len,base,cap,hrow,hlen⟩:∃ bad len base cap,rdRow R.TR w rb (.slice base len cap) bad∧((st=none∧bad=true∧len=0∧base=none∧cap=0)∨∃ rest,st=some rest∧bad=false∧len=rest.length∧len≤cap∧SrcAt w S base rest):=by
    rcases rdAt_row hrd with ⟨rfl,hrow⟩ | ⟨rest,base,cap,rfl,hrow,hcap,hsr⟩
    · exact ⟨_,_,_,_,hrow,.inl ⟨rfl,rfl,rfl,rfl,rfl⟩⟩
    · exact ⟨_,_,_,_,hrow,.inr ⟨_,rfl,rfl,rfl,hcap,hsr⟩⟩
  have hc:=rdRow_cells hrow
  refine SC.wp_seq (SC.wp_reg ?_)
  repeat (first | (apply ops_1;(focus (simp (disch:=(try simp only [sPu]);omega) ;try rfl))) | (apply ops_y;(focus rfl);(focus ((try simp only [sPu]);omega));(focus (simp (disch:=(try simp only [sPu]);omega);done));(focus (simp (disch:=(try simp only [sPu]);omega) ;try rfl))) | (apply ops_n;(focus rfl);(focus ((try simp only [sPu]);omega));(focus (first | (left;simp (disch:=(try simp only [sPu]);omega);done) | (right;simp (disch:=(try simp only [sPu]);omega);done)))))
  refine oNi (SC.wp_seq (SC.wp_seq (SC.wp_reg ?_)))
  refine Decidable.byCases (p:=(len:Int) < l) (fun hl=>?_) (fun hl=>?_)
  · have hl':decide ((len:Int) < l)=true:=decide_eq_true hl
    repeat (first | (apply ops_1;(focus (simp (disch:=(try simp only [sPu]);omega) [hst,h0,h1,hc,hl,hl'];try rfl))) | (apply ops_y;(focus rfl);(focus ((try simp only [sPu]);omega));(focus (simp (disch:=(try simp only [sPu]);omega) [hst,h0,h1,hc,hl,hl'];done));(focus (simp (disch:=(try simp only [sPu]);omega) [hst,h0,h1,hc,hl,hl'];try rfl))) | (apply ops_n;(focus rfl);(focus ((try simp only [sPu]);omega));(focus (first | (left;simp (disch:=(try simp only [sPu]);omega) [hst,h0,h1,hc,hl,hl'];done) | (right;simp (disch:=(try simp only [sPu]);omega);done)))))
    refine oNi (SC.wp_cond (t:=true) (by simp (disch:=(try simp only [sPu]);omega)) ?_)
    rw [if_pos rfl]
    refine rFail_ok (S:=S) hR hrow (by simp (disch:=(try simp only [sPu]);omega) [h0]) (by omega) (by simp [sPu,hs]) (by simp [sPu,hs]) fun a' w' q1 q2 q3 q4=>?_
    simp only [Exit.then]
    refine ret_tmp hr (by rw [q1];simp [dPu,hd]) ⟨none,none,0,[],by rw [q2];rfl,?_,q4,⟨rfl,rfl⟩,fun bs y r h hp=>?_,.inl rfl⟩
    · rcases hlen with ⟨rfl,-⟩ | ⟨rest,rfl,-,rfl,-⟩
      · exact q3
      · rw [after_no (pSpan_no (.inl hl))];exact q3
    · rcases hlen with ⟨rfl,-⟩ | ⟨rest,rfl,-,rfl,-⟩
      · cases h
      · cases h
        rw [pSpan_no (.inl hl)] at hp
        cases hp
  have hl':decide ((len:Int) < l)=false:=decide_eq_false hl
  refine Decidable.byCases (p:=l < 0) (fun hl0=>?_) (fun hl0=>?_)
  · have hl0':decide (l < 0)=true:=decide_eq_true hl0
    repeat (first | (apply ops_1;(focus (simp (disch:=(try simp only [sPu]);omega) [hst,h0,h1,hc,hl,hl',hl0,hl0'];try rfl))) | (apply ops_y;(focus rfl);(focus ((try simp only [sPu]);omega));(focus (simp (disch:=(try simp only [sPu]);omega) [hst,h0,h1,hc,hl,hl',hl0,hl0'];done));(focus (simp (disch:=(try simp only [sPu]);omega) [hst,h0,h1,hc,hl,hl',hl0,hl0'];try rfl))) | (apply ops_n;(focus rfl);(focus ((try simp only [sPu]);omega));(focus (first | (left;simp (disch:=(try simp only [sPu]);omega) [hst,h0,h1,hc,hl,hl',hl0,hl0'];done) | (right;simp (disch:=(try simp only [sPu]);omega);done)))))
    refine oNi (SC.wp_cond (t:=true) (by simp (disch:=(try simp only [sPu]);omega)) ?_)
    rw [if_pos rfl]
    refine rFail_ok (S:=S) hR hrow (by simp (disch:=(try simp only [sPu]);omega) [h0]) (by omega) (by simp [sPu,hs]) (by simp [sPu,hs]) fun a' w' q1 q2 q3 q4=>?_
    simp only [Exit.then]
    refine ret_tmp hr (by rw [q1];simp [dPu,hd]) ⟨none,none,0,[],by rw [q2];rfl,?_,q4,⟨rfl,rfl⟩,fun bs y r h hp=>?_,.inl rfl⟩
    · rcases hlen with ⟨rfl,-⟩ | ⟨rest,rfl,-,rfl,-⟩
      · exact q3
      · rw [after_no (pSpan_no (.inr hl0))];exact q3
    · rcases hlen with ⟨rfl,-⟩ | ⟨rest,rfl,-,rfl,-⟩
      · cases h
      · cases h
        rw [pSpan_no (.inr hl0)] at hp
        cases hp
  have hl0':decide (l < 0)=false:=decide_eq_false hl0
  obtain ⟨n,rfl⟩:∃ n:Nat,l=(n:Int):=⟨l.toNat,by omega⟩
  have hnl:n≤len:=by omega
  have hnc:n≤cap:=by
    rcases hlen with ⟨-,-,rfl,-,rfl⟩ | ⟨rest,-,-,-,h,-⟩ <;> omega
  repeat (first | (apply ops_1;(focus (simp (disch:=(try simp only [sPu]);omega) [hst,h0,h1,hc,hl,hl',hl0,hl0'];try rfl))) | (apply ops_y;(focus rfl);(focus ((try simp only [sPu]);omega));(focus (simp (disch:=(try simp only [sPu]);omega) [hst,h0,h1,hc,hl,hl',hl0,hl0'];done));(focus (simp (disch:=(try simp only [sPu]);omega) [hst,h0,h1,hc,hl,hl',hl0,hl0'];try rfl))) | (apply ops_n;(focus rfl);(focus ((try simp only [sPu]);omega));(focus (first | (left;simp (disch:=(try simp only [sPu]);omega) [hst,h0,h1,hc,hl,hl',hl0,hl0'];done) | (right;simp (disch:=(try simp only [sPu]);omega);done)))))
  refine oNi (SC.wp_cond (t:=false) (by simp (disch:=(try simp only [sPu]);omega)) ?_)
  rw [if_neg (by simp)]
  refine SC.wp_skip ?_
  simp only [Exit.then]
  refine SC.wp_seq (SC.wp_reg ?_)
  iterate 6 (first | (apply ops_1;(focus (simp (disch:=(try simp only [sPu]);omega) [hst,h0,h1,hc];try rfl))) | (apply ops_y;(focus rfl);(focus ((try simp only [sPu]);omega));(focus (simp (disch:=(try simp only [sPu]);omega) [hst,h0,h1,hc];done));(focus (simp (disch:=(try simp only [sPu]);omega) [hst,h0,h1,hc];try rfl))) | (apply ops_n;(focus rfl);(focus ((try simp only [sPu]);omega));(focus (first | (left;simp (disch:=(try simp only [sPu]);omega) [hst,h0,h1,hc];done) | (right;simp (disch:=(try simp only [sPu]);omega);done)))))
  refine oNo rfl (opw_slice3 (n:=n) (k:=.i64) (k':=.i64) (len:=len) (cap:=cap) (base:=base) hst.2.2.2.1 (by simp (disch:=(try simp only [sPu]);omega)) (by simp (disch:=(try simp only [sPu]);omega)) (by simp (disch:=(try simp only [sPu]);omega)) hnc ?_)
  repeat (first | (apply ops_1;(focus (simp (disch:=(try simp only [sPu]);omega) ;try rfl))) | (apply ops_y;(focus rfl);(focus ((try simp only [sPu]);omega));(focus (simp (disch:=(try simp only [sPu]);omega);done));(focus (simp (disch:=(try simp only [sPu]);omega) ;try rfl))) | (apply ops_n;(focus rfl);(focus ((try simp only [sPu]);omega));(focus (first | (left;simp (disch:=(try simp only [sPu]);omega);done) | (right;simp (disch:=(try simp only [sPu]);omega);done)))))
  refine oNi ?_
  simp only [Exit.then]
  refine SC.wp_seq (rDropV_ok (n:=n) hR hrow hnl (by simp (disch:=(try simp only [sPu]);omega) [h0]) (by simp (disch:=(try simp only [sPu]);omega) [h1]) (by omega) (by omega) (by simp [sPu,hs]) fun a1 q1 q2 q3=>?_)
  have hs1:a1.tmps.size=40:=by rw [q1];simp [sPu,hs]
  have hd1:a1.defers=[]:=by rw [q2];simp [dPu,hd]
  have h5:getT a1 5=.slice base n n:=by rw [q3 5 (by omega)];simp (disch:=(try simp only [sPu]);omega)
  simp only [Exit.then]
  refine SC.wp_seq (SC.wp_reg ?_)
  repeat (first | (apply ops_1;(focus (simp (disch:=(try simp only [sPu]);omega) [h5];try rfl))) | (apply ops_y;(focus rfl);(focus ((try simp only [sPu]);omega));(focus (simp (disch:=(try simp only [sPu]);omega) [h5];done));(focus (simp (disch:=(try simp only [sPu]);omega) [h5];try rfl))) | (apply ops_n;(focus rfl);(focus ((try simp only [sPu]);omega));(focus (first | (left;simp (disch:=(try simp only [sPu]);omega) [h5];done) | (right;simp (disch:=(try simp only [sPu]);omega);done)))))
  refine oNi (SC.wp_ret ?_)
  have hon:Only rb w (w.setRow rb (#[.slice base len cap,.bool bad].setIfInBounds 0 (sliceLo base len cap n))):=(Only.refl rb w).setRow _
  have hres:getT ((a1.put (some 39) (Value.slice base n n)).put (some 4) (Value.slice base n n)) 4=.slice base n n:=by simp (disch:=(try simp only [sPu]);omega)
  rcases hlen with ⟨rfl,rfl,rfl,rfl,rfl⟩ | ⟨rest,rfl,rfl,rfl,hcap,hsr⟩
  · obtain rfl:n=0:=by omega
    refine ret_tmp hr (by simp [dPu,hd1]) ⟨none,none,0,[],by rw [hres];rfl,?_,hon,⟨rfl,rfl⟩,fun bs y r h hp=>(by cases h),.inl rfl⟩
    exact rdAt_bad (fr:=(0,0)) hrow (by simp [sliceLo])
  · have hp1:=pSpan_yes hnl
    refine ret_tmp hr (by simp [dPu,hd1]) ⟨S,base,n,rest.take n,by rw [hres,List.length_take,Nat.min_eq_left hnl],?_,hon,?_,fun bs y r h hp=>?_,.inr rfl⟩
    · rw [after_ok hp1]
      exact rdAt_drop hrow hcap hsr (fun s h=>(hsrc s h).1) hnl
    · exact hsr.take.frame fun sb hsb=>setRow_other _ _ _ _ (hsrc sb hsb).1
    · cases h
      rw [hp1] at hp
      cases hp
      exact ⟨rfl,rfl⟩
theorem opw_extract {a:Act} {w:World} {K:Act→World→Prop} {d:Option Tmp} {g:Option (Nat × Bool)} {x:Operand} {i:Nat} {v:Value} {vs:Array Value} (hx:a.eval x=.tuple vs) (hv:vs[i]?=some v) (h:K (a.put d v) w):opw P ⟨d,.extract x i,g⟩ a w K :=
  oVa (by simp) (fun o ho=>by simp [execOp,ho,hx,Instr.extract,hv]) h
theorem RC.ty {α:Type} {TR gb:Nat} {p:Rd α} {ty ty':Value→Prop} {ok:World→(Nat→Prop)→α→Value→Prop} (h:RC P TR gb f p ty ok) (hty:∀ v,ty v→ty' v):RC P TR gb f p ty' ok :=
  ⟨h.1,fun w S rb st h1 h2 h3=>(h.2 w S rb st h1 h2 h3).mono fun e w' ⟨v,q1,q2,q3,q4,q5⟩=>⟨v,q1,q2,q3,hty v q4,q5⟩⟩
theorem rUvarint_ok {TR gb F0 : Nat} (hTR : R.TR = TR) (hR : rdOK P R = true) (hF : UvC P F0) (hf : P.funcs[f]? = some fn) (hb : fn.body.map strip = some (sc_RUvarint R F0)) (hnm : (fn.name == "runtime.NumGoroutine") = false) (hn : fn.ntmps = 31) (hr : fn.results = #[.tmp 2]) :
    RC P TR gb f pUv (fun v=>∃ n:Nat,n < 4294967296∧v=.int .u32 (n:Int)) (fun _ _ n v=>v=.int .u32 (n:Int)):=by
  subst hTR
  have hst:=rd_facts hR
  refine ⟨fnOK_of hf hb hnm,fun w S rb st hgb hrd hsrc=>?_⟩
  refine fCa hf hb hn (by simp) fun a0 hs hd ha=>?_
  have h0:=ha 0 _ rfl
  simp only [List.getElem_toArray,List.getElem_cons_zero,List.getElem_cons_succ] at h0
  obtain ⟨bad,xs,base,cap,S1,hrow,hs1,hlen⟩:∃ bad xs base cap S1,rdRow R.TR w rb (.slice base (List.length xs) cap) bad∧SrcAt w S1 base xs∧((st=none∧bad=true∧xs=[])∨(st=some xs∧bad=false∧S1=S∧xs.length≤cap)):=by
    rcases rdAt_row hrd with ⟨rfl,hrow⟩ | ⟨rest,base,cap,rfl,hrow,hcap,hsr⟩
    · exact ⟨_,[],none,0,none,hrow,⟨rfl,rfl⟩,.inl ⟨rfl,rfl,rfl⟩⟩
    · exact ⟨_,rest,base,cap,S,hrow,hsr,.inr ⟨rfl,rfl,rfl,hcap⟩⟩
  have hc:=rdRow_cells hrow
  refine SC.wp_seq (SC.wp_reg ?_)
  repeat (apply ops_1;(focus (simp (disch:=(try simp only [sPu]);omega) ;try rfl)))
  refine oNi (SC.wp_seq (SC.wp_reg ?_))
  iterate 4 (apply ops_1;(focus (simp (disch:=(try simp only [sPu]);omega) [hst,h0,hc];try rfl)))
  refine ops_call hF.1 (hF.2 w S1 base xs cap hs1) (by simp (disch:=(try simp only [sPu]);omega)) ?_
  rintro e w1 ⟨rfl,x,n,rfl,hxn⟩
  refine ⟨_,rfl,?_⟩
  iterate 1 (apply ops_1;(focus (simp (disch:=(try simp only [sPu]);omega) ;try rfl)))
  refine oNo rfl (opw_extract (vs:=#[.int .u32 (x:Int),.int .i64 n]) (v:=.int .u32 (x:Int)) (by simp (disch:=(try simp only [sPu]);omega)) rfl ?_)
  refine oNo rfl (opw_extract (vs:=#[.int .u32 (x:Int),.int .i64 n]) (v:=.int .i64 n) (by simp (disch:=(try simp only [sPu]);omega)) rfl ?_)
  repeat (apply ops_1;(focus (simp (disch:=(try simp only [sPu]);omega) ;try rfl)))
  refine oNi (SC.wp_seq (SC.wp_seq (SC.wp_reg ?_)))
  repeat (apply ops_1;(focus (simp (disch:=(try simp only [sPu]);omega) ;try rfl)))
  refine oNi (SC.wp_cond (t:=decide (n≤0)) (by simp (disch:=(try simp only [sPu]);omega)) ?_)
  refine Decidable.byCases (p:=n≤0) (fun hn0=>?_) (fun hn0=>?_)
  · have hno:after st pUv=none:=by
      rcases hlen with ⟨rfl,-⟩ | ⟨rfl,-⟩
      · rfl
      · refine after_no ?_
        cases hp:pUv xs with
        | none=>rfl
        | some z=>obtain ⟨y,r⟩:=z;rw [hp] at hxn;exact absurd hxn.2.2.1 (by omega)
    rw [if_pos (decide_eq_true hn0)]
    refine rFail_ok (S:=S) hR hrow (by simp (disch:=(try simp only [sPu]);omega) [h0]) (by omega) (by simp [sPu,hs]) (by simp [sPu,hs]) fun a' w' q1 q2 q3 q4=>?_
    simp only [Exit.then]
    refine ret_tmp hr (by rw [q1];simp [dPu,hd]) ⟨_,rfl,by rw [hno];exact q3,q4,⟨0,by decide,q2⟩,fun b y r h hp=>?_⟩
    subst h
    rw [after_ok hp] at hno
    cases hno
  · rw [if_neg (by simpa using hn0)]
    refine SC.wp_skip ?_
    simp only [Exit.then]
    cases hp:pUv xs with
    | none=>rw [hp] at hxn;exact absurd hxn.2 hn0
    | some z =>
    obtain ⟨y,r⟩:=z
    rw [hp] at hxn
    obtain ⟨rfl,rfl,-,hr2⟩:=hxn
    have hle:xs.length - r.length≤xs.length:=by omega
    refine SC.wp_seq (rDropV_ok (n:=xs.length - r.length) hR hrow hle (by simp (disch:=(try simp only [sPu]);omega) [h0]) (by simp (disch:=(try simp only [sPu]);omega)) (by omega) (by omega) (by simp [sPu,hs]) fun a1 q1 q2 q3=>?_)
    have hs2:a1.tmps.size=31:=by rw [q1];simp [sPu,hs]
    have hd1:a1.defers=[]:=by rw [q2];simp [dPu,hd]
    have h3:getT a1 3=.int .u32 (x:Int):=by rw [q3 3 (by omega)];simp (disch:=(try simp only [sPu]);omega)
    simp only [Exit.then]
    refine SC.wp_seq (SC.wp_reg ?_)
    repeat (apply ops_1;(focus (simp (disch:=(try simp only [sPu]);omega) [h3];try rfl)))
    refine oNi (SC.wp_ret ?_)
    rcases hlen with ⟨rfl,rfl,rfl⟩ | ⟨rfl,rfl,rfl,hcap⟩
    · simp [pUv,pUvGo] at hp
    · refine ret_tmp hr (by simp [dPu,hd1]) ⟨_,rfl,?_,(Only.refl rb _).setRow _,⟨x,(pUv_facts hp).1,by simp (disch:=(try simp only [sPu]);omega)⟩,fun b y r1 h hp1=>?_⟩
      · rw [after_ok hp]
        have hz:=rdAt_drop hrow hcap hs1 (fun s h=>(hsrc s h).1) hle
        rw [← hr2] at hz
        exact hz
      · cases h
        rw [hp] at hp1
        cases hp1
        simp (disch:=(try simp only [sPu]);omega)
end
end Go.Proofs.YtcchakpiemhpeaaDoor.K
namespace Go.Proofs.YtcchakpiemhpeaaDoor.K
open Go Go.RowKit Go.Proofs.YtcchakpiemhpeaaDoor.T
attribute [local simp] eTm eCo pNo gTp gTn qv qcall vop iop
set_option linter.unusedSimpArgs false
set_option linter.unusedVariables false
set_option maxHeartbeats 2000000
def bstrB (P:Program) (TB TS:Nat):Bool :=
  (match P.underlying TB with
  | some (.slice e)=>(match P.underlying e with | some (.int .u8)=>true | _=>false)
  | _=>false) && (match P.underlying TS with | some .string=>true | _=>false)
section
variable {P:Program} {a:Act} {w:World} {K:Act→World→Prop} {d:Option Tmp} {g:Option (Nat × Bool)}
theorem opw_str {T0 T1 cap:Nat} {x:Operand} {base:Option Addr} {S:Option Nat} {bs:Bytes} (hT:bstrB P T0 T1=true) (hx:a.eval x=.slice base bs.length cap) (hs:SrcAt w S base bs) (h:K (a.put d (.string ⟨bs.toArray⟩)) w):opw P ⟨d,.convert T0 T1 x,g⟩ a w K:=by
  simp only [bstrB,Bool.and_eq_true] at hT
  obtain ⟨h1,h2⟩:=hT
  split at h1 <;> try (simp at h1;done)
  rename_i e he
  split at h1 <;> try (simp at h1;done)
  rename_i he2
  split at h2 <;> try (simp at h2;done)
  rename_i h3
  refine oVa (v:=.string ⟨bs.toArray⟩) (by simp) (fun p hp=>?_) h
  have hr:(convert T0 T1 (.slice base bs.length cap)).run P w=.ok (.string ⟨bs.toArray⟩) w:=by
    cases S with
    | none =>
      obtain ⟨rfl,rfl⟩:=hs
      exact run_convert_bytes_nil w T0 e he he2 _ _ T1 h3
    | some sb =>
      obtain ⟨q,rfl,hc⟩:=hs
      have:=run_convert_bytes_arg (P:=P) w T0 e he he2 sb q bs.length cap (bs.map fun u=>(u.toNat:Int)) (by simp) (fun i hi=>by
        rw [hc i bs[i] (List.getElem?_eq_getElem hi)]
        simp [cell,hi]) T1 h3
      rw [this]
      have hfun:((fun n:Int=>UInt8.ofNat n.toNat) ∘ fun u:UInt8=>(u.toNat:Int))=id:=by funext u;simp
      simp only [strOfNums,List.map_map,hfun,List.map_id]
  simp [execOp,hp,hx,hr]
end
theorem after_prim {α β γ:Type} {st:Option Bytes} {pC:Rd α} {g:α→Rd β} {q:Rd γ} (h:∀ b x r,st=some b→pC b=some (x,r)→after (some r) (g x)=after (some r) q):after st (rThen pC g)=after (after st pC) q:=by
  cases st with
  | none=>rfl
  | some b =>
    cases hp:pC b with
    | none=>rw [after_then_none (after_no hp),after_no hp];rfl
    | some z=>rw [after_then _ _ _ rfl hp,after_ok hp];exact h b z.1 z.2 rfl hp
theorem after_map {α β:Type} {st:Option Bytes} {p:Rd α} {g:α→β}:after st (rThen p fun x=>rOk (g x))=after st p:=by
  rw [after_prim (q:=rOk ()) (fun b x r _ _=>by rw [after_rOk,after_rOk]),after_rOk]
theorem after_cnt_uv {st:Option Bytes} {sz:Nat}:after st (pCount true sz)=after st pUv:=by
  simp only [pCount,if_true]
  exact after_map
theorem wrap64 {n:Int} (h1:-9223372036854775808≤n) (h2:n < 9223372036854775808):IntKind.i64.wrap n=n:=by
  simp only [IntKind.wrap,IntKind.bits,IntKind.signed]
  simp
  split <;> omega
theorem pInt_rng {k:Nat} (hk:k=2∨k=4) {b r:Bytes} {x:Int} (h:pInt k b=some (x,r)):-2147483648≤x∧x < 2147483648:=by
  obtain ⟨n,r1,h1,h2⟩:=rThen_some h
  obtain ⟨rfl,-⟩:=rOk_some h2
  have h3:=(pFix_facts h1)
  have h4:=unfix_lt (b.take k)
  rw [← h3.2.1,List.length_take,Nat.min_eq_left (by omega)] at h4
  rcases hk with rfl | rfl
  · simp only [sgn]
    have h4':n < 65536:=h4
    simp
    split <;> omega
  · simp only [sgn]
    have h4':n < 4294967296:=h4
    simp
    split <;> omega
theorem cnt_int {k:Nat} (hk:k=2∨k=4) {n:Int} {ks:IntKind} {st:Option Bytes} (q:∀ b x r,st=some b→pInt k b=some (x,r)→Value.int ks n=.int ks x):∀ b x r,st=some b→pCount false k b=some (x,r)→IntKind.i64.wrap n=x∧n=x:=by
  intro b x r hb hp
  have hp':pInt k b=some (x,r):=hp
  have hv:=q b x r hb hp'
  simp only [Value.int.injEq,true_and] at hv
  subst hv
  have:=pInt_rng hk hp'
  exact ⟨wrap64 (by omega) (by omega),rfl⟩
theorem cnt_uv {sz:Nat} {n:Int} {st:Option Bytes} (q:∀ b x r,st=some b→pUv b=some (x,r)→Value.int .u32 n=.int .u32 (x:Int)):∀ b x r,st=some b→pCount true sz b=some (x,r)→IntKind.i64.wrap (IntKind.i64.wrap n - 1)=x:=by
  intro b x r hb hp
  simp only [pCount,if_true] at hp
  obtain ⟨y,r1,h1,h2⟩:=rThen_some hp
  obtain ⟨rfl,-⟩:=rOk_some h2
  have hv:=q b y r1 hb h1
  simp only [Value.int.injEq,true_and] at hv
  subst hv
  have:=(pUv_facts h1).1
  rw [wrap64 (n:=(y:Int)) (by omega) (by omega),wrap64 (by omega) (by omega)]
theorem bytesAt_src {w:World} {F:Nat→Prop} {S:Option Nat} {base:Option Addr} {bs:Bytes} (h:SrcAt w S base bs) (hF:∀ sb,S=some sb→F sb):BytesAt w F base bs:=by
  cases S with
  | none=>exact .inl h.2
  | some sb =>
    obtain ⟨q,h1,h2⟩:=h
    exact .inr ⟨sb,q,h1,hF sb rfl,h2⟩
section
variable {P:Program} {R:RTy} {f:FuncId} {fn:Func}
def sc_RStr (T0 T1 T2 T3 F0 F1:Nat):SC:=.seq (.reg [⟨some 2,.assign (.const (.string ⟨#[]⟩)),none⟩]) (.seq (.reg [mv 4 0,cal 5 F0 [4],asg 3 5]) (.seq (.reg [mv 6 0,mv 7 3,⟨some 8,.convert T0 T1 (.tmp 7),none⟩,cal 9 F1 [6,8],⟨some 10,.convert T2 T3 (.tmp 9),none⟩,asg 2 10]) (.ret)))
def sc_RCStr (T0 T1 T2 T3 F0 F1:Nat):SC:=.seq (.reg [⟨some 2,.assign (.const (.string ⟨#[]⟩)),none⟩]) (.seq (.reg [mv 4 0,cal 5 F0 [4],⟨some 6,.convert T0 T1 (.tmp 5),none⟩,⟨some 7,.binOp .sub T1 (.tmp 6) (.const (.int .i64 1)) T1,none⟩,asg 3 7]) (.seq (.reg [mv 8 0,mv 9 3,cal 10 F1 [8,9],⟨some 11,.convert T2 T3 (.tmp 10),none⟩,asg 2 11]) (.ret)))
theorem rStr_ok {TR gb F0 F1 T0 T1 T2 T3 : Nat} (hTR : R.TR = TR) (hR : rdOK P R = true) (h0k : intK P T0 = some .i16) (h1k : intK P T1 = some .i64) (hS : bstrB P T2 T3 = true) (hF : RC P TR gb F0 (pInt 2) (fun v => ∃ n, v = .int .i16 n) (fun _ _ n v => v = .int .i16 n)) (hG : SpC P TR F1) (hf : P.funcs[f]? = some fn) (hb : fn.body.map strip = some (sc_RStr T0 T1 T2 T3 F0 F1)) (hnm : (fn.name == "runtime.NumGoroutine") = false) (hn : fn.ntmps = 11) (hr : fn.results = #[.tmp 2]) :
    RC P TR gb f (pPrim false false .str) (tyP false .str) (okP false .str):=by
  subst hTR
  have hst:=rd_facts hR
  refine ⟨fnOK_of hf hb hnm,fun w S rb st hgb hrd hsrc=>?_⟩
  refine fCa hf hb hn (by simp) fun a0 hs hd ha=>?_
  have h0:=ha 0 _ rfl
  simp only [List.getElem_toArray,List.getElem_cons_zero,List.getElem_cons_succ] at h0
  refine SC.wp_seq (SC.wp_reg ?_)
  repeat (apply ops_1;(focus (simp (disch:=(try simp only [sPu]);omega) ;try rfl)))
  refine oNi (SC.wp_seq (SC.wp_reg ?_))
  iterate 1 (apply ops_1;(focus (simp (disch:=(try simp only [sPu]);omega) [h0];try rfl)))
  refine ops_call hF.1 (hF.2 w S rb st hgb hrd hsrc) (by simp (disch:=(try simp only [sPu]);omega) [h0]) ?_
  rintro e w1 ⟨v,rfl,q1,q2,⟨n,rfl⟩,q4⟩
  refine ⟨_,rfl,?_⟩
  repeat (apply ops_1;(focus (simp (disch:=(try simp only [sPu]);omega) [h0k,h1k];try rfl)))
  refine oNi ?_
  simp only [Exit.then]
  have hsrc1:∀ sb,S=some sb→sb ≠ rb∧sb < w1.heap.size:=fun sb h=>⟨(hsrc sb h).1,Nat.lt_of_lt_of_le (hsrc sb h).2 q2.size⟩
  have q1:RdAt R.TR w1 S rb (after st (pCount false 2)):=q1
  have hcnt2:=cnt_int (k:=2) (by omega) q4
  have hcnt:=fun b x r hb hp=>(hcnt2 b x r hb hp).1
  have haft:after st (pPrim false false .str)=after (after st (pCount false 2)) (pSpan (IntKind.i64.wrap n)):=by
    simp only [pPrim]
    refine after_prim fun b x r hb hp=>?_
    simp only [Bool.false_and,Bool.false_eq_true,if_false]
    rw [hcnt b x r hb hp]
    exact after_map
  refine SC.wp_seq (SC.wp_reg ?_)
  iterate 3 (apply ops_1;(focus (simp (disch:=(try simp only [sPu]);omega) [h0,h0k,h1k];try rfl)))
  refine ops_call hG.1 (hG.2 w1 S rb _ (IntKind.i64.wrap n) q1 hsrc1) (by simp (disch:=(try simp only [sPu]);omega) [h0]) ?_
  rintro e w2 ⟨S',base,cap,x,rfl,z1,z2,z3,z4,-⟩
  refine ⟨_,rfl,?_⟩
  refine oNo rfl (opw_str (cap:=cap) (base:=base) hS (by simp (disch:=(try simp only [sPu]);omega)) z3 ?_)
  repeat (apply ops_1;(focus (simp (disch:=(try simp only [sPu]);omega) ;try rfl)))
  refine oNi (SC.wp_ret ?_)
  refine ret_tmp hr (by simp [dPu,hd]) ⟨_,rfl,by rw [haft];exact z1,q2.trans z2,?_,fun b t r hb hp=>?_⟩
  · simp only [tyP,Bool.false_eq_true,if_false]
    exact ⟨_,by simp (disch:=(try simp only [sPu]);omega);rfl⟩
  · simp only [pPrim] at hp
    obtain ⟨l,r1,k1,k2⟩:=rThen_some hp
    simp only [Bool.false_and,Bool.false_eq_true,if_false] at k2
    obtain ⟨s,r2,k3,k4⟩:=rThen_some k2
    obtain ⟨rfl,rfl⟩:=rOk_some k4
    subst hb
    have hx:=z4 r1 s _ (after_ok k1) (by rw [hcnt _ _ _ rfl k1];exact k3)
    intro hm
    refine ⟨⟨x.toArray⟩,by simp (disch:=(try simp only [sPu]);omega),?_,hm⟩
    simp [tS,Tree.s,hx.1]
theorem rCStr_ok {TR gb F0 F1 T0 T1 T2 T3 : Nat} (hTR : R.TR = TR) (hR : rdOK P R = true) (h0k : intK P T0 = some .u32) (h1k : intK P T1 = some .i64) (hS : bstrB P T2 T3 = true) (hF : RC P TR gb F0 pUv (fun v => ∃ n, v = .int .u32 n) (fun _ _ n v => v = .int .u32 (n : Int))) (hG : SpC P TR F1) (hf : P.funcs[f]? = some fn) (hb : fn.body.map strip = some (sc_RCStr T0 T1 T2 T3 F0 F1)) (hnm : (fn.name == "runtime.NumGoroutine") = false) (hn : fn.ntmps = 12) (hr : fn.results = #[.tmp 2]) :
    RC P TR gb f (pPrim true false .str) (tyP false .str) (okP false .str):=by
  subst hTR
  have hst:=rd_facts hR
  refine ⟨fnOK_of hf hb hnm,fun w S rb st hgb hrd hsrc=>?_⟩
  refine fCa hf hb hn (by simp) fun a0 hs hd ha=>?_
  have h0:=ha 0 _ rfl
  simp only [List.getElem_toArray,List.getElem_cons_zero,List.getElem_cons_succ] at h0
  refine SC.wp_seq (SC.wp_reg ?_)
  repeat (apply ops_1;(focus (simp (disch:=(try simp only [sPu]);omega) ;try rfl)))
  refine oNi (SC.wp_seq (SC.wp_reg ?_))
  iterate 1 (apply ops_1;(focus (simp (disch:=(try simp only [sPu]);omega) [h0];try rfl)))
  refine ops_call hF.1 (hF.2 w S rb st hgb hrd hsrc) (by simp (disch:=(try simp only [sPu]);omega) [h0]) ?_
  rintro e w1 ⟨v,rfl,q1,q2,⟨n,rfl⟩,q4⟩
  refine ⟨_,rfl,?_⟩
  repeat (apply ops_1;(focus (simp (disch:=(try simp only [sPu]);omega) [h0k,h1k];try rfl)))
  refine oNi ?_
  simp only [Exit.then]
  have hsrc1:∀ sb,S=some sb→sb ≠ rb∧sb < w1.heap.size:=fun sb h=>⟨(hsrc sb h).1,Nat.lt_of_lt_of_le (hsrc sb h).2 q2.size⟩
  rw [← after_cnt_uv (sz:=2)] at q1
  have hcnt:=cnt_uv (sz:=2) q4
  have haft:after st (pPrim true false .str)=after (after st (pCount true 2)) (pSpan (IntKind.i64.wrap (IntKind.i64.wrap n - 1))):=by
    simp only [pPrim]
    refine after_prim fun b x r hb hp=>?_
    simp only [Bool.false_and,Bool.false_eq_true,if_false]
    rw [hcnt b x r hb hp]
    exact after_map
  refine SC.wp_seq (SC.wp_reg ?_)
  iterate 2 (apply ops_1;(focus (simp (disch:=(try simp only [sPu]);omega) [h0,h0k,h1k];try rfl)))
  refine ops_call hG.1 (hG.2 w1 S rb _ (IntKind.i64.wrap (IntKind.i64.wrap n - 1)) q1 hsrc1) (by simp (disch:=(try simp only [sPu]);omega) [h0]) ?_
  rintro e w2 ⟨S',base,cap,x,rfl,z1,z2,z3,z4,-⟩
  refine ⟨_,rfl,?_⟩
  refine oNo rfl (opw_str (cap:=cap) (base:=base) hS (by simp (disch:=(try simp only [sPu]);omega)) z3 ?_)
  repeat (apply ops_1;(focus (simp (disch:=(try simp only [sPu]);omega) ;try rfl)))
  refine oNi (SC.wp_ret ?_)
  refine ret_tmp hr (by simp [dPu,hd]) ⟨_,rfl,by rw [haft];exact z1,q2.trans z2,?_,fun b t r hb hp=>?_⟩
  · simp only [tyP,Bool.false_eq_true,if_false]
    exact ⟨_,by simp (disch:=(try simp only [sPu]);omega);rfl⟩
  · simp only [pPrim] at hp
    obtain ⟨l,r1,k1,k2⟩:=rThen_some hp
    simp only [Bool.false_and,Bool.false_eq_true,if_false] at k2
    obtain ⟨s,r2,k3,k4⟩:=rThen_some k2
    obtain ⟨rfl,rfl⟩:=rOk_some k4
    subst hb
    have hx:=z4 r1 s _ (after_ok k1) (by rw [hcnt _ _ _ rfl k1];exact k3)
    intro hm
    refine ⟨⟨x.toArray⟩,by simp (disch:=(try simp only [sPu]);omega),?_,hm⟩
    simp [tS,Tree.s,hx.1]
end
end Go.Proofs.YtcchakpiemhpeaaDoor.K
namespace Go.Proofs.YtcchakpiemhpeaaDoor.K
open Go Go.RowKit Go.Proofs.YtcchakpiemhpeaaDoor.T
attribute [local simp] eTm eCo pNo gTp gTn qv qcall vop iop
set_option linter.unusedSimpArgs false
set_option linter.unusedVariables false
set_option maxHeartbeats 2000000
section
variable {P:Program} {R:RTy} {f:FuncId} {fn:Func}
end
section
variable {P:Program} {TR gb:Nat} {f:FuncId}
theorem num_bool (h:RC P TR gb f (pFix 1) (fun v=>∃ x,v=.bool x) (fun _ _ n v=>v=.bool (n != 0))):RC P TR gb f (pPrim false false .bool) (tyP false .bool) (okP false .bool):=by
  refine RC.map (g:=fun n:Nat=>tN (if n=0 then 0 else 1)) h (fun v hv=>hv) fun w F n v hv _=>?_
  refine ⟨n != 0,hv,?_⟩
  by_cases h0:n=0 <;> simp [h0,tN,Tree.n]
theorem num_i16 (h:RC P TR gb f (pInt 2) (fun v=>∃ n,v=.int .i16 n) (fun _ _ n v=>v=.int .i16 n)):RC P TR gb f (pPrim false false .i16) (tyP false .i16) (okP false .i16) :=
  RC.map (g:=tN) h (fun v hv=>hv) fun w F n v hv _=>hv
end
end Go.Proofs.YtcchakpiemhpeaaDoor.K
namespace Go.Proofs.YtcchakpiemhpeaaDoor.K
open Go Go.RowKit Go.Proofs.YtcchakpiemhpeaaDoor.T
attribute [local simp] eTm eCo pNo gTp gTn qv qcall vop iop
set_option linter.unusedVariables false
set_option linter.unusedSimpArgs false
def rdNew (P:Program) (TR:Nat):Bool:=aggB P TR 2 && (match P.info? TR,P.underlying TR with
  | some it,some (.struct fs)=>(match it.zero with | some z=>(match z.cells.toList with | [.slice none 0 0,.bool false]=>true | _=>false) | none=>false) &&
      (match fs.toList.mapM (fun f=>(P.info? f.type).map fun i=>(f.offset,i.size)) with | some [(0,1),(1,1)]=>true | _=>false)
  | _,_=>false)
theorem rdNew_of {P:Program} {TR:Nat} (h:rdNew P TR=true):aggB P TR 2=true∧(∃ it z,P.info? TR=some it∧it.zero=some z∧z.cells=#[.slice none 0 0,.bool false])∧∀ v:Value,v.oneCell'=true→P.built TR [(0,v)]=some #[v,.bool false]:=by
  simp only [rdNew,Bool.and_eq_true] at h
  obtain ⟨h1,h⟩:=h
  split at h <;> try (simp at h;done)
  rename_i it fs hi hu
  simp only [Bool.and_eq_true] at h
  obtain ⟨hz,hp⟩:=h
  split at hz <;> try (simp at hz;done)
  rename_i z hz0
  split at hz <;> try (simp at hz;done)
  rename_i hzl
  have hzc:z.cells=#[.slice none 0 0,.bool false]:=Array.ext' (by simpa using hzl)
  split at hp <;> try (simp at hp;done)
  rename_i hpl
  refine ⟨h1,⟨it,z,hi,hz0,hzc⟩,fun v hv=>?_⟩
  have hvc:=cells_oneCell hv
  simp only [Program.built,hi,hu,hz0,hpl,hzc]
  simp [Instr.fill,hvc]
def topEnd (size:Nat):Option (Nat × Nat)→Nat
  | none=>size
  | some (_,off)=>off
structure RTop where
  S:Nat
  size:Nat
  d:Nat
  t:Nat
  N:Nat
  flex:Option Int
  tags:Option (Nat × Nat)
  fs:Fs
def RTop.chk (P:Program) (I:RIds) (M:RTop):Bool :=
  okRFs P I (rCtx M.flex) M.S M.fs && okRTags P I (rCtx M.flex) M.S M.tags && layFs 1 (topEnd M.size M.tags) M.fs && (match M.tags with | none=>true | some (_,off)=>decide (off < M.size∧1≤off)) &&
  decide (1≤M.size∧rS M.flex+1+rVs M.fs≤M.t∧rT1 M.t M.flex+1+rFT (rCtx M.flex) M.fs+rTagsT M.tags+1≤M.N) && fieldB P M.S 0 0 && intB P I.tI16 .i16 && oneB P I.tI16 && rdNew P I.tRd
section
variable {P:Program} {I:RIds} {M:RTop} {B:Nat} {G:List (Nat × Bytes)→Prop} {err:Value} {Gl:World→Prop} {gb:Nat} {f:FuncId} {fn:Func} {w0:World}
end
end Go.Proofs.YtcchakpiemhpeaaDoor.K
namespace Go.Proofs.YtcchakpiemhpeaaDoor.K
open Go Go.RowKit Go.Proofs.YtcchakpiemhpeaaDoor.T
set_option linter.unusedVariables false
set_option linter.unusedSimpArgs false
set_option maxHeartbeats 1000000
def mapU (P:Program) (T:Nat):Bool:=oneB P T && (match P.underlying T with
  | some (.map k _)=>(match P.underlying k with | some (.int .u32)=>true | _=>false)
  | _=>false)
theorem mapU_of {P:Program} {T:Nat} (h:mapU P T=true):oneB P T=true∧∃ k e,P.underlying T=some (.map k e)∧P.underlying k=some (.int .u32):=by
  simp only [mapU,Bool.and_eq_true] at h
  obtain ⟨h1,h⟩:=h
  split at h <;> try (simp at h;done)
  rename_i k e hu
  split at h <;> try (simp at h;done)
  rename_i hk
  exact ⟨h1,k,e,hu,hk⟩
theorem setTag_self (t:Nat × Bytes):∀ u,t ∈ setTag t u
  | []=>by simp [setTag]
  | x :: r=>by
    simp only [setTag]
    split
    · exact List.mem_cons_of_mem _ (setTag_self t r)
    · split <;> simp
theorem setTag_new {t:Nat × Bytes}:∀ {u:List (Nat × Bytes)},(∀ x ∈ u,x.1 ≠ t.1)→((setTag t u).map (·.1)).Perm (u.map (·.1) ++ [t.1])
  | [],_=>by simp [setTag]
  | x :: r,h=>by
    simp only [setTag]
    split
    · simp only [List.map_cons,List.cons_append]
      exact (setTag_new fun y hy=>h y (List.mem_cons_of_mem _ hy)).cons _
    · rw [if_neg (h x (.head _))]
      simp only [List.map_cons]
      exact (List.perm_append_comm (l₁:=x.1 :: r.map (·.1)) (l₂:=[t.1])).symm
theorem setTag_old {t:Nat × Bytes}:∀ {u:List (Nat × Bytes)},Sorted u→(∃ x ∈ u,x.1=t.1)→(setTag t u).map (·.1)=u.map (·.1)
  | [],_,h=>by simp at h
  | x :: r,hs,h=>by
    have hs':=List.pairwise_cons.1 hs
    simp only [setTag]
    split
    · rename_i hlt
      simp only [List.map_cons]
      rw [setTag_old hs'.2]
      obtain ⟨y,hy,he⟩:=h
      rcases List.mem_cons.1 hy with rfl | hy
      · omega
      · exact ⟨y,hy,he⟩
    · split
      · rename_i he
        simp [he]
      · exfalso
        obtain ⟨y,hy,he⟩:=h
        rcases List.mem_cons.1 hy with rfl | hy
        · omega
        · have:=hs'.1 y hy
          omega
theorem sorted_uniq:∀ {u:List (Nat × Bytes)},Sorted u→∀ x ∈ u,∀ y ∈ u,x.1=y.1→x=y
  | [],_,x,hx,_,_,_=>by simp at hx
  | z :: r,hs,x,hx,y,hy,he=>by
    have hs':=List.pairwise_cons.1 hs
    rcases List.mem_cons.1 hx with e1 | hx1
    · rcases List.mem_cons.1 hy with e2 | hy1
      · rw [e1,e2]
      · have:=hs'.1 y hy1
        rw [← e1] at this
        omega
    · rcases List.mem_cons.1 hy with e2 | hy1
      · have:=hs'.1 x hx1
        rw [← e2] at this
        omega
      · exact sorted_uniq hs'.2 x hx1 y hy1 he
theorem bytesAt_F {w:World} {F F':Nat→Prop} {base:Option Addr} {bs:Bytes} (h:BytesAt w F base bs) (hF:∀ k,F k→F' k):BytesAt w F' base bs:=by
  rcases h with h | ⟨b,q,h1,h2,h3⟩
  · exact .inl h
  · exact .inr ⟨b,q,h1,hF _ h2,h3⟩
theorem bytesAt_keep {w w':World} {F:Nat→Prop} {base:Option Addr} {bs:Bytes} (h:BytesAt w F base bs) (hF:∀ k (a:Addr),F k→a.block=k→∀ v,w.cell? a=some v→w'.cell? a=some v):BytesAt w' F base bs:=by
  rcases h with h | ⟨b,q,h1,h2,h3⟩
  · exact .inl h
  · exact .inr ⟨b,q,h1,h2,fun j u hj=>hF b _ h2 rfl _ (h3 j u hj)⟩
theorem tagsEs_push {w:World} {F:Nat→Prop} {es:Array MapEntry} {clock:Nat} {u:List (Nat × Bytes)} {k:Nat} {bs:Bytes} {base:Option Addr} {cap:Nat} (h:TagsEs w F es clock u) (hn:∀ x ∈ es.toList,x.key ≠ .int .u32 (k:Int)) (hs:Sorted u) (hb:BytesAt w F base bs) :
    TagsEs w F (es.push { key:=.int .u32 (k:Int),val:=.slice base bs.length cap,born:=clock }) (clock+1) (setTag (k,bs) u):=by
  obtain ⟨h1,h2,h3⟩:=h
  have hnk:∀ x ∈ u,x.1 ≠ k:=fun x hx e=>by
    have:Value.int .u32 (x.1:Int) ∈ es.toList.map (·.key):=h1.mem_iff.2 (List.mem_map_of_mem hx)
    obtain ⟨y,hy,hye⟩:=List.mem_map.1 this
    exact hn y hy (by rw [hye,e])
  refine ⟨?_,MapKept.stamped_push h2 hn,?_⟩
  · have hp:=(setTag_new (t:=(k,bs)) hnk).map (fun n:Nat=>Value.int .u32 (n:Int))
    simp only [List.map_map,List.map_append,List.map_cons,List.map_nil,Function.comp_def] at hp
    simp only [Array.toList_push,List.map_append,List.map_cons,List.map_nil]
    exact (h1.append_right _).trans hp.symm
  · intro e he x hx hk
    simp only [Array.toList_push,List.mem_append,List.mem_singleton] at he
    have hst:Sorted (setTag (k,bs) u):=setTag_sorted hs
    rcases he with he | rfl
    · have hxk:x.1 ≠ k:=fun e2=>hn e he (by rw [hk,e2])
      rcases setTag_mem hx with rfl | hx
      · exact absurd rfl hxk
      · exact h3 e he x hx hk
    · simp only [Value.int.injEq,true_and] at hk
      have hxe:x=(k,bs):=sorted_uniq hst x hx _ (setTag_self _ _) (by simp only;omega)
      subst hxe
      exact ⟨base,cap,rfl,hb⟩
theorem tagsEs_modify {w:World} {F:Nat→Prop} {es:Array MapEntry} {clock:Nat} {u:List (Nat × Bytes)} {k j:Nat} {e0:MapEntry} {bs:Bytes} {base:Option Addr} {cap:Nat} (h:TagsEs w F es clock u) (hj:es[j]?=some e0) (hk0:e0.key=.int .u32 (k:Int)) (hs:Sorted u) (hb:BytesAt w F base bs) :
    TagsEs w F (es.modify j fun e=>{ e with key:=.int .u32 (k:Int),val:=.slice base bs.length cap }) clock (setTag (k,bs) u):=by
  obtain ⟨h1,h2,h3⟩:=h
  have hkeys:∀ e',es[j]?=some e'→({ e' with key:=Value.int .u32 (k:Int),val:=.slice base bs.length cap }:MapEntry).key=e'.key:=fun e' he'=>by
    rw [hj] at he'
    cases he'
    exact hk0.symm
  have hmem:e0 ∈ es.toList:=by
    rw [← Array.getElem?_toList] at hj
    exact List.mem_of_getElem? hj
  have hin:∃ x ∈ u,x.1=k:=by
    have:e0.key ∈ u.map fun x=>Value.int .u32 (x.1:Int):=h1.mem_iff.1 (List.mem_map_of_mem hmem)
    obtain ⟨x,hx,hxe⟩:=List.mem_map.1 this
    rw [hk0] at hxe
    simp only [Value.int.injEq,true_and] at hxe
    exact ⟨x,hx,by omega⟩
  refine ⟨?_,MapKept.stamped_modify h2 _ _ (fun _ _=>rfl) (fun e' _ he'=>hkeys e' he'),?_⟩
  · rw [MapKept.modify_keys _ _ hkeys]
    have:(setTag (k,bs) u).map (fun x=>Value.int .u32 (x.1:Int))=u.map fun x=>Value.int .u32 (x.1:Int):=by
      have:=congrArg (List.map fun n:Nat=>Value.int .u32 (n:Int)) (setTag_old (t:=(k,bs)) hs hin)
      simpa only [List.map_map,Function.comp_def] using this
    rw [this]
    exact h1
  · intro e he x hx hk
    have hst:Sorted (setTag (k,bs) u):=setTag_sorted hs
    obtain ⟨i,hi⟩:=List.getElem?_of_mem he
    rw [Array.getElem?_toList,Array.getElem?_modify] at hi
    by_cases hij:j=i
    · subst hij
      rw [if_pos rfl,hj] at hi
      simp only [Option.map_some,Option.some.injEq] at hi
      subst hi
      simp only [Value.int.injEq,true_and] at hk
      have hxe:x=(k,bs):=sorted_uniq hst x hx _ (setTag_self _ _) (by simp only;omega)
      subst hxe
      exact ⟨base,cap,rfl,hb⟩
    · rw [if_neg hij] at hi
      have hem:e ∈ es.toList:=by
        rw [← Array.getElem?_toList] at hi
        exact List.mem_of_getElem? hi
      have hne:e.key ≠ .int .u32 (k:Int):=fun hek=>by
        have hnd:=h2.2.2
        have e1:(es.toList.map (·.key))[i]?=some (.int .u32 (k:Int)):=by rw [List.getElem?_map,Array.getElem?_toList,hi,Option.map_some,hek]
        have e2:(es.toList.map (·.key))[j]?=some (.int .u32 (k:Int)):=by rw [List.getElem?_map,Array.getElem?_toList,hj,Option.map_some,hk0]
        have hil:=(List.getElem?_eq_some_iff.1 e1).1
        have:=(List.getElem?_inj hil hnd).1 (e1.trans e2.symm)
        exact hij this.symm
      have hxk:x.1 ≠ k:=fun e2=>hne (by rw [hk,e2])
      rcases setTag_mem hx with rfl | hx
      · exact absurd rfl hxk
      · exact h3 e hem x hx hk
section
variable {P:Program} {a:Act} {w:World} {K:Act→World→Prop} {d:Option Tmp} {g:Option (Nat × Bool)}
theorem opw_mapNil {T T':Nat} {x:Operand} {m:Option Nat} (hT:mapU P T=true) (hx:a.eval x=.map m) (h:K (a.put d (.bool m.isNone)) w):opw P ⟨d,.binOp .eql T x (.const (.map none)) T',g⟩ a w K:=by
  obtain ⟨-,k,e,hu,hk⟩:=mapU_of hT
  refine oVa (v:=.bool m.isNone) (by simp) (fun p hp=>?_) h
  have he:(Op.equal T (.map m) (.map none)).run P w=.ok m.isNone w:=by
    have hd:∀ d,(Op.equalIn (d+1) T (.map m) (.map none)).run P w=.ok m.isNone w:=fun d=>by
      cases m <;> simp [Op.equalIn,run_underlying hu]
    exact hd 9999
  simp [execOp,hp,hx,eCo,eqGuard,binOp,he]
theorem opw_makeMap {T:Nat} (h:K (a.put d (.map (some w.heap.size))) (w.alloc (.map #[] 0))):opw P ⟨d,.makeMap T none,g⟩ a w K:=by
  refine oVa (v:=.map (some w.heap.size)) (w':=w.alloc (.map #[] 0)) (by simp) (fun p hp=>?_) h
  have:(Instr.makeMap T none).run P w=.ok (.map (some w.heap.size)) (w.alloc (.map #[] 0)):=rfl
  simp [execOp,hp,this]
def mapSet (w:World) (r:Nat) (es:Array MapEntry) (clock:Nat):World:={ w with heap:=w.heap.setIfInBounds r (.map es clock) }
theorem mapSet_at {r:Nat} {es es':Array MapEntry} {c c':Nat} (h:w.heap[r]?=some (.map es c)):(mapSet w r es' c').heap[r]?=some (.map es' c'):=(MapKept.heap_set h).1
theorem mapSet_other {r k:Nat} {es':Array MapEntry} {c':Nat} (hk:k ≠ r):(mapSet w r es' c').heap[k]?=w.heap[k]?:=by
  simp [mapSet,Ne.symm hk]
theorem opw_mapUpdate {T r k clock:Nat} {m x y:Operand} {es:Array MapEntry} {F:Nat→Prop} {u:List (Nat × Bytes)} {base:Option Addr} {cap:Nat} {bs:Bytes} (hT:mapU P T=true) (hm:a.eval m=.map (some r)) (hx:a.eval x=.int .u32 (k:Int)) (hy:a.eval y=.slice base bs.length cap)
    (hr:w.heap[r]?=some (.map es clock)) (ht:TagsEs w F es clock u) (hs:Sorted u) (hb:BytesAt w F base bs)
    (h:∀ es' clock',TagsEs w F es' clock' (setTag (k,bs) u)→K (a.put d undef) (mapSet w r es' clock')):opw P ⟨d,.mapUpdate T m x y,g⟩ a w K:=by
  obtain ⟨-,kt,e,hu,hk⟩:=mapU_of hT
  have hik:MapKept.IsKey (.int .u32) (.int .u32 (k:Int)):=rfl
  have hks:∀ z ∈ es.toList,MapKept.IsKey (.int .u32) z.key:=fun z hz=>by
    have:z.key ∈ u.map fun x=>Value.int .u32 (x.1:Int):=ht.1.mem_iff.1 (List.mem_map_of_mem hz)
    obtain ⟨x,_,hxe⟩:=List.mem_map.1 this
    rw [← hxe]
    rfl
  rcases MapKept.findNow_spec hik es.toList 0 hks with ⟨h1,h2⟩ | ⟨j,e0,h1,h2,h3⟩
  · refine opw_skip (w':=mapSet w r (es.push { key:=.int .u32 (k:Int),val:=.slice base bs.length cap,born:=clock }) (clock+1)) (by simp) (fun p hp=>?_) (h _ _ (tagsEs_push ht h2 hs hb))
    simp [execOp,hp,hm,hx,hy,Instr.mapUpdate,run_underlying hu,MapKept.run_getObj_map hr,MapKept.run_checkKey hk hik,MapKept.run_findKey hk h1,MapKept.run_setObj_map _ hr,Result.andThen,mapSet]
  · have hj:es[j]?=some e0:=by simpa using h2
    refine opw_skip (w':=mapSet w r (es.modify j fun e=>{ e with key:=.int .u32 (k:Int),val:=.slice base bs.length cap }) clock) (by simp) (fun p hp=>?_) (h _ _ (tagsEs_modify ht hj h3 hs hb))
    simp [execOp,hp,hm,hx,hy,Instr.mapUpdate,run_underlying hu,MapKept.run_getObj_map hr,MapKept.run_checkKey hk hik,MapKept.run_findKey hk h1,hj,h3,MapKept.run_keyThatStays hik,MapKept.run_setObj_map _ hr,Result.andThen,mapSet]
end
end Go.Proofs.YtcchakpiemhpeaaDoor.K
namespace Go.Proofs.YtcchakpiemhpeaaDoor.K
open Go Go.RowKit Go.Proofs.YtcchakpiemhpeaaDoor.T
attribute [local simp] eTm eCo pNo gTp gTn qv qcall vop iop
set_option linter.unusedVariables false
set_option linter.unusedSimpArgs false
set_option maxHeartbeats 2000000
def sc_TSet (T0 T1:Nat):SC:=.seq (.seq (.reg [mv 6 0,nilc 7 6,fa 8 T0 7 0,ld 9 T1 8,⟨some 10,.binOp .eql T1 (.tmp 9) (.const (.map none)) T1,none⟩]) (.cond (.tmp 10) (.reg [mv 11 0,⟨some 12,.makeMap T1 none,none⟩,nilc 13 11,fa 14 T0 13 0,⟨none,.store T1 (.tmp 14) (.tmp 12),none⟩]) (.skip))) (.reg [mv 15 0,nilc 16 15,fa 17 T0 16 0,ld 18 T1 17,mv 19 1,mv 20 2,⟨none,.mapUpdate T1 (.tmp 18) (.tmp 19) (.tmp 20),none⟩])
def sc_ReadTags (T0 T1 T2 F0 F1 F2:Nat):SC:=.seq (.reg [⟨some 2,.alloc T0,none⟩]) (.seq (.reg [⟨some 3,.alloc T0,none⟩]) (.seq (.seq (.reg [mv 7 0,cal 8 F0 [7],asg 4 8]) (.block 0 (.loop (.seq (.seq (.reg [mv 9 4,⟨some 10,.binOp .gtr T1 (.tmp 9) (.const (.int .u32 0)) T1,none⟩]) (.cond (.tmp 10) (.skip) (.exit 0))) (.seq (.block 1 (.seq (.reg [mv 13 0,cal 14 F0 [13],mv 15 0,cal 16 F0 [15],asg 5 14,asg 6 16]) (.reg [mv 17 5,mv 18 0,mv 19 6,⟨some 20,.convert T1 T2 (.tmp 19),none⟩,cal 21 F1 [18,20],cal 22 F2 [3,17,21]]))) (.reg [mv 11 4,⟨some 12,.binOp .sub T1 (.tmp 11) (.const (.int .u32 1)) T1,none⟩,asg 4 12])))))) (.seq (.reg [ld 23 T0 3,⟨none,.store T0 (.tmp 2) (.tmp 23),none⟩]) (.ret))))
def MapV (w:World) (lo tb:Nat) (S:Option Nat) (u:List (Nat × Bytes)) (m:Option Nat):Prop :=
  (m=none∧u=[])∨∃ r es clock,m=some r∧lo≤r∧r ≠ tb∧w.heap[r]?=some (.map es clock)∧TagsEs w (fun k=>S=some k) es clock u
theorem MapV.frame {w w':World} {lo tb:Nat} {S:Option Nat} {u:List (Nat × Bytes)} {m:Option Nat} (h:MapV w lo tb S u m) (hb:∀ k,lo≤k→k < w.heap.size→w'.heap[k]?=w.heap[k]?) (hS:∀ sb,S=some sb→w'.heap[sb]?=w.heap[sb]?):MapV w' lo tb S u m:=by
  rcases h with h | ⟨r,es,clock,h1,h2,h3,h4,h5,h6,h7⟩
  · exact .inl h
  · refine .inr ⟨r,es,clock,h1,h2,h3,by rw [hb r h2 (Array.getElem?_eq_some_iff.1 h4).1];exact h4,h5,h6,fun e he x hx hk=>?_⟩
    obtain ⟨base,cap,q1,q2⟩:=h7 e he x hx hk
    exact ⟨base,cap,q1,bytesAt_keep q2 fun k a hF ha v hv=>by rw [World.cell?_of_block (ha ▸ hS k hF)];exact hv⟩
def SetC (P:Program) (T0:Nat) (F:FuncId):Prop:=FnOK P F∧∀ (w:World) (tb lo k cap:Nat) (S m:Option Nat) (u:List (Nat × Bytes)) (base:Option Addr) (bs:Bytes),lo≤tb→lo≤w.heap.size→(∀ sb,S=some sb→sb < lo) →
  w.heap[tb]?=some (.cells #[.map m] T0 (0,0))→MapV w lo tb S u m→Sorted u→BytesAt w (fun k=>S=some k) base bs →
  Calls P F #[.pointer (some ⟨tb,0,none⟩),.int .u32 (k:Int),.slice base bs.length cap] w fun e w'=>e=.returned (.tuple #[])∧Below lo w w'∧lo≤w'.heap.size∧(∀ k,k < w.heap.size→k ≠ tb→m ≠ some k→w'.heap[k]?=w.heap[k]?) ∧
    ∃ m',w'.heap[tb]?=some (.cells #[.map m'] T0 (0,0))∧MapV w' lo tb S (setTag (k,bs) u) m'
section
variable {P:Program} {R:RTy} {f:FuncId} {fn:Func}
theorem ret_cellAgg {Rr:Ending→World→Prop} {a:Act} {w:World} {r T b:Nat} {cs:List Value} (hr:fn.results=#[.cell r T]) (hT:aggB P T cs.length=true) (hx:getT a r=.pointer (some ⟨b,0,none⟩)) (hc:∀ j v,cs[j]?=some v→w.cell? ⟨b,j,none⟩=some v) (hd:a.defers=[]) (hR:Rr (.returned (.agg cs.toArray)) w):bodyPost P fn Rr .ret a w:=by
  refine ⟨hd,.agg cs.toArray,?_,hR⟩
  obtain ⟨i,hi,hs,ha⟩:=agg_of (w:=w) hT
  have hl:=run_loadCells_list (P:=P) w ⟨b,0,none⟩ cs (fun j v hv=>by rw [add_none,Nat.zero_add];exact hc j v hv)
  have hx':a.tmps[r]?.getD undef=.pointer (some ⟨b,0,none⟩):=by simpa [getT,Array.getD_eq_getD_getElem?] using hx
  simp [results,hr,hx',asAddr,loadVar,ha,sizeOf,typeInfo,hi,hs,hl]
theorem tSet_ok {T0 T1 : Nat} (hT : mapU P T1 = true) (hf0 : fieldOff P T0 0 = some 0) (hf : P.funcs[f]? = some fn) (hb : fn.body.map strip = some (sc_TSet T0 T1)) (hnm : (fn.name == "runtime.NumGoroutine") = false) (hn : fn.ntmps = 21) (hr : fn.results = #[]) : SetC P T0 f := by
  refine ⟨fnOK_of hf hb hnm,fun w tb lo k cap S m u base bs htb hlo hS hrow hm hsu hbs=>?_⟩
  have h1:=(mapU_of hT).1
  refine fCa hf hb hn (by simp) fun a0 hs hd ha=>?_
  have h0:=ha 0 _ rfl
  have g1:=ha 1 _ rfl
  have g2:=ha 2 _ rfl
  simp only [List.getElem_toArray,List.getElem_cons_zero,List.getElem_cons_succ] at h0 g1 g2
  have hcell:w.cell? ⟨tb,0,none⟩=some (.map m):=by rw [cell_of_row _ _ _ _ _ _ hrow];rfl
  have htl:tb < w.heap.size:=(Array.getElem?_eq_some_iff.1 hrow).1
  refine SC.wp_seq (SC.wp_seq (SC.wp_reg ?_))
  iterate 4 (apply ops_1;(focus (simp (disch:=(try simp only [sPu]);omega) [h0,hf0,h1,hcell];try rfl)))
  refine oNo rfl (opw_mapNil (m:=m) hT (by simp (disch:=(try simp only [sPu]);omega)) (oNi ?_))
  simp only [Exit.then]
  refine SC.wp_cond (t:=m.isNone) (by simp (disch:=(try simp only [sPu]);omega)) ?_
  have last:∀ (a:Act) (w1:World) (r clock:Nat) (es:Array MapEntry),a.tmps.size=21→a.defers=[]→getT a 0=.pointer (some ⟨tb,0,none⟩)→getT a 1=.int .u32 (k:Int)→getT a 2=.slice base bs.length cap →
      w1.heap[tb]?=some (.cells #[.map (some r)] T0 (0,0))→lo≤r→r ≠ tb→w1.heap[r]?=some (.map es clock)→TagsEs w1 (fun k=>S=some k) es clock u→BytesAt w1 (fun k=>S=some k) base bs→Below lo w w1→lo≤w1.heap.size→(∀ k,k < w.heap.size→k ≠ tb→w1.heap[k]?=w.heap[k]?)→(r < w.heap.size→m=some r) →
      (SC.reg [mv 15 0,nilc 16 15,fa 17 T0 16 0,ld 18 T1 17,mv 19 1,mv 20 2,⟨none,.mapUpdate T1 (.tmp 18) (.tmp 19) (.tmp 20),none⟩]).wp P (bodyPost P fn (fun e w'=>e=.returned (.tuple #[])∧Below lo w w'∧lo≤w'.heap.size∧(∀ k,k < w.heap.size→k ≠ tb→m ≠ some k→w'.heap[k]?=w.heap[k]?) ∧
    ∃ m',w'.heap[tb]?=some (.cells #[.map m'] T0 (0,0))∧MapV w' lo tb S (setTag (k,bs) u) m')) a w1:=by
    intro a w1 r clock es p1 p2 p3 p4 p5 p6 p7 p8 p9 p10 p11 p12 p13 p14 p15
    have hcell1:w1.cell? ⟨tb,0,none⟩=some (.map (some r)):=by rw [cell_of_row _ _ _ _ _ _ p6];rfl
    refine SC.wp_reg ?_
    iterate 6 (apply ops_1;(focus (simp (disch:=(try simp only [sPu]);omega) [p3,p4,p5,hf0,h1,hcell1];try rfl)))
    refine oNo rfl (opw_mapUpdate (r:=r) (k:=k) (es:=es) (F:=fun k=>S=some k) (u:=u) (base:=base) (cap:=cap) (bs:=bs) hT (by simp (disch:=(try simp only [sPu]);omega)) (by simp (disch:=(try simp only [sPu]);omega) [p4]) (by simp (disch:=(try simp only [sPu]);omega) [p5]) p9 p10 hsu p11 fun es' clock' ht=>oNi ?_)
    rw [pNo]
    refine ⟨by simp only [dPu];exact p2,.tuple #[],by simp [results,hr],rfl,?_,by simpa [mapSet] using p13,fun k hk h2 h3=>?_,some r,?_,.inr ⟨r,es',clock',rfl,p7,p8,mapSet_at p9,ht.1,ht.2.1,fun e he x hx hk=>?_⟩⟩
    · exact p12.trans ⟨rfl,rfl,rfl,by simp [mapSet],fun k hk=>mapSet_other (by omega)⟩
    · rw [mapSet_other (fun e=>h3 (by rw [e];exact p15 (by omega)))]
      exact p14 k hk h2
    · rw [mapSet_other (Ne.symm p8)]
      exact p6
    · obtain ⟨b2,c2,q1,q2⟩:=ht.2.2 e he x hx hk
      exact ⟨b2,c2,q1,bytesAt_keep q2 fun k a hF ha v hv=>by
        rw [World.cell?_of_block (mapSet_other (w:=w1) (by have:=hS k hF;omega))]
        exact hv⟩
  cases m with
  | none =>
    simp only [Option.isNone_none,if_true]
    have hu:u=[]:=by
      rcases hm with h | ⟨r,es,clock,h,-⟩
      · exact h.2
      · cases h
    subst hu
    refine SC.wp_reg ?_
    iterate 1 (apply ops_1;(focus (simp (disch:=(try simp only [sPu]);omega) [h0];try rfl)))
    refine oNo rfl (opw_makeMap ?_)
    have hnew:=heap_alloc_new w (.map #[] 0)
    have hrow2:(w.alloc (.map #[] 0)).heap[tb]?=some (.cells #[.map none] T0 (0,0)):=by rw [Below.heap_alloc _ _ _ htl];exact hrow
    iterate 2 (apply ops_1;(focus (simp (disch:=(try simp only [sPu]);omega) [h0,hf0];try rfl)))
    refine ops_stR (b:=tb) (i:=0) (v:=.map (some w.heap.size)) h1 (by simp (disch:=(try simp only [sPu]);omega)) (by simp (disch:=(try simp only [sPu]);omega)) rfl hrow2 (by simp) (oNi ?_)
    simp only [Exit.then]
    refine last _ _ w.heap.size 0 #[] (by simp [sPu,hs]) (by simp [dPu,hd]) (by simp (disch:=(try simp only [sPu]);omega) [h0]) (by simp (disch:=(try simp only [sPu]);omega) [g1]) (by simp (disch:=(try simp only [sPu]);omega) [g2]) ?_ hlo (by omega) ?_ ⟨by simp,MapKept.stamped_empty 0,fun e he=>by simp at he⟩ ?_ ?_ (by simp;omega) ?_ (fun h=>by omega)
    · have:=setRow_heap _ _ _ (#[Value.map none].setIfInBounds 0 (.map (some w.heap.size))) _ _ hrow2
      rw [this]
      simp
    · rw [setRow_other _ _ _ _ (by omega)]
      exact hnew
    · refine bytesAt_keep hbs fun k a hF ha v hv=>?_
      have:=hS k hF
      rw [World.cell?_of_block (w':=(w.alloc (.map #[] 0)).setRow tb _) (w:=w) (by rw [setRow_other _ _ _ _ (by omega)];exact Below.heap_alloc _ _ _ (by omega))]
      exact hv
    · exact ((Below.refl lo w).alloc hlo _).trans ⟨rfl,rfl,rfl,by simp,fun k hk=>setRow_other _ _ _ _ (by omega)⟩
    · intro k hk h2
      rw [setRow_other _ _ _ _ h2]
      exact Below.heap_alloc _ _ _ hk
  | some r =>
    simp only [Option.isNone_some,Bool.false_eq_true,if_false]
    refine SC.wp_skip ?_
    simp only [Exit.then]
    rcases hm with h | ⟨r',es,clock,h,q1,q2,q3,q4⟩
    · cases h.1
    · cases h
      exact last _ w r clock es (by simp [sPu,hs]) (by simp [dPu,hd]) (by simp (disch:=(try simp only [sPu]);omega) [h0]) (by simp (disch:=(try simp only [sPu]);omega) [g1]) (by simp (disch:=(try simp only [sPu]);omega) [g2]) hrow q1 q2 q3 q4 hbs (Below.refl _ _) hlo (fun _ _ _=>rfl) (fun _=>rfl)
end
end Go.Proofs.YtcchakpiemhpeaaDoor.K
