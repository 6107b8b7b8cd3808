/- Generic texts: R17 R18 R19 R20 R21 R22. No condition. -/
import Derived.Test.YtoiipagmhmohdaaDoorN7
import Derived.Laws.BytesArg
namespace Go.Proofs.YtoiipagmhmohdaaDoor.K
open Go Go.RowKit Go.Proofs.YtoiipagmhmohdaaDoor.T
attribute [local simp] eTm eCo pNo gTp gTn qv qcall vop iop
set_option linter.unusedSimpArgs false
set_option linter.unusedVariables false
set_option maxHeartbeats 2000000
def rDropV (R:RTy) (t s:Nat):SC:=.reg [mv t 0,mv (t+1) 0,nilc (t+2) (t+1),fa (t+3) R.TR (t+2) 0,ld (t+4) R.TB (t+3),mv (t+5) s,⟨some (t+6),.slice R.TB (.tmp (t+4)) (some (.tmp (t+5))) none none,none⟩,nilc (t+7) t,fa (t+8) R.TR (t+7) 0,⟨none,.store R.TB (.tmp (t+8)) (.tmp (t+6)),none⟩]
def sc_RSpan (R:RTy):SC:=.seq (.reg [⟨some 4,.assign (.const (.slice none 0 0)),none⟩]) (.seq (.seq (.reg [mv 6 0,nilc 7 6,fa 8 R.TR 7 0,ld 9 R.TB 8,lenOp 10 R.TB 9,mv 11 1,⟨some 12,.binOp .lss R.I (.tmp 10) (.tmp 11) R.I,none⟩,mv 13 12,⟨some 14,.move (.tmp 1),some (7,false)⟩,⟨some 15,.binOp .lss R.I (.tmp 14) (.const (.int .i64 0)) R.I,some (7,false)⟩,⟨some 16,.pick (.tmp 13) (.const (.bool true)) (.tmp 15),none⟩]) (.cond (.tmp 16) (rFail R 17 4 (.slice none 0 0)) (.skip))) (.seq (.reg [mv 23 0,nilc 24 23,fa 25 R.TR 24 0,ld 26 R.TB 25,mv 27 1,mv 28 1,⟨some 29,.slice R.TB (.tmp 26) none (some (.tmp 27)) (some (.tmp 28)),none⟩,asg 5 29]) (.seq (rDropV R 30 1) (.seq (.reg [mv 39 5,asg 4 39]) (.ret)))))
def SpC (P:Program) (TR:Nat) (F:FuncId):Prop:=FnOK P F∧∀ (w:World) (S:Option Nat) (rb:Nat) (st:Option Bytes) (l:Int),RdAt TR w S rb st→(∀ sb,S=some sb→sb ≠ rb∧sb < w.heap.size) →
  Calls P F #[.pointer (some ⟨rb,0,none⟩),.int .i64 l] w fun e w'=>∃ (S':Option Nat) (base:Option Addr) (cap:Nat) (x:Bytes),e=.returned (.slice base x.length cap)∧RdAt TR w' S rb (after st (pSpan l))∧Only rb w w'∧SrcAt w' S' base x ∧
    (∀ bs y r,st=some bs→pSpan l bs=some (y,r)→x=y∧S'=S)∧(S'=none∨S'=S)
section
variable {P:Program} {R:RTy} {f:FuncId} {fn:Func}
theorem rDropV_ok {t s n len rb:Nat} {bad:Bool} {a:Act} {w:World} {base:Option Addr} {cap:Nat} {Q:Exit→Act→World→Prop} (hR:rdOK P R=true) (hr:rdRow R.TR w rb (.slice base len cap) bad) (hn:n≤len)
    (h0:getT a 0=.pointer (some ⟨rb,0,none⟩)) (hx:getT a s=.int .i64 (n:Int)) (ht:0 < t) (hst:s < t) (htN:t+9≤a.tmps.size)
    (hQ:∀ a',a'.tmps.size=a.tmps.size→a'.defers=a.defers→(∀ s,s < t→getT a' s=getT a s)→Q .normal a' (w.setRow rb (#[.slice base len cap,.bool bad].setIfInBounds 0 (sliceLo base len cap n)))):(rDropV R t s).wp P Q a w:=by
  have hf:=rd_facts hR
  have hcl:=rdRow_cells hr
  have hrow:w.heap[rb]?=some (.cells #[.slice base len cap,.bool bad] R.TR (0,0)):=hr
  refine SC.wp_reg (ops_mv (ops_mv (ops_nilc (ad:=⟨rb,0,none⟩) ?_ (ops_fa (fieldB_of hf.1) (b:=rb) (o:=0) ?_ (ops_ld hf.2.2.1 (ad:=⟨rb,0,none⟩) (v:=.slice base len cap) ?_ hcl.1 (ops_mv (oNo rfl (opw_sliceLo (n:=n) (k:=.i64) (len:=len) (cap:=cap) (base:=base) hf.2.2.2.1 ?_ ?_ hn (ops_nilc (ad:=⟨rb,0,none⟩) ?_ (ops_fa (fieldB_of hf.1) (b:=rb) (o:=0) ?_ (ops_stR (b:=rb) (i:=0) (v:=sliceLo base len cap n) hf.2.2.1 ?_ ?_ rfl hrow (by simp) (oNi ?_))))))))))))
  · rw [gTp (by simp only [sPu];omega),gTn (by omega)];exact h0
  · rw [gTp (by simp only [sPu];omega)]
  · rw [gTp (by simp only [sPu];omega)]
  · rw [eTm,gTn (by omega),gTp (by simp only [sPu];omega)]
  · rw [eTm,gTp (by simp only [sPu];omega),gTn (by omega),gTn (by omega),gTn (by omega),gTn (by omega),gTn (by omega)];exact hx
  · rw [gTn (by omega),gTn (by omega),gTn (by omega),gTn (by omega),gTn (by omega),gTn (by omega),gTp (by omega)];exact h0
  · rw [gTp (by simp only [sPu];omega)]
  · rw [eTm,gTp (by simp only [sPu];omega)]
  · rw [eTm,gTn (by omega),gTn (by omega),gTp (by simp only [sPu];omega)]
  refine hQ _ (by simp only [sPu]) (by simp only [dPu]) (fun s hs=>?_)
  rw [gTn (by omega),gTn (by omega),gTn (by omega),gTn (by omega),gTn (by omega),gTn (by omega),gTn (by omega),gTn (by omega),gTn (by omega)]
theorem SrcAt.take {w:World} {S:Option Nat} {base:Option Addr} {rest:Bytes} {n:Nat} (h:SrcAt w S base rest):SrcAt w S base (rest.take n):=by
  cases S with
  | none =>
    obtain ⟨rfl,rfl⟩:=h
    exact ⟨rfl,by simp⟩
  | some sb =>
    obtain ⟨o,rfl,h2⟩:=h
    refine ⟨o,rfl,fun j u hu=>h2 j u ?_⟩
    rw [List.getElem?_take] at hu
    split at hu
    · exact hu
    · simp at hu
theorem pSpan_no {l:Int} {b:Bytes} (h:(b.length:Int) < l∨l < 0):pSpan l b=none:=by simp [pSpan,h]
theorem pSpan_yes {n:Nat} {b:Bytes} (h:n≤b.length):pSpan (n:Int) b=some (b.take n,b.drop n):=by
  unfold pSpan
  rw [if_neg (by omega)]
  rfl
theorem rSpan_ok {TR : Nat} (hTR : R.TR = TR) (hR : rdOK P R = true) (hf : P.funcs[f]? = some fn) (hb : fn.body.map strip = some (sc_RSpan R)) (hnm : (fn.name == "runtime.NumGoroutine") = false) (hn : fn.ntmps = 40) (hr : fn.results = #[.tmp 4]) : SpC P TR f := by
  subst hTR
  have hst:=rd_facts hR
  refine ⟨fnOK_of hf hb hnm,fun w S rb st l hrd hsrc=>?_⟩
  refine fCa hf hb hn (by simp) fun a0 hs hd ha=>?_
  have h0:=ha 0 _ rfl
  have h1:=ha 1 _ rfl
  simp only [List.getElem_toArray,List.getElem_cons_zero,List.getElem_cons_succ] at h0 h1
  obtain ⟨bad,len,base,cap,hrow,hlen⟩:∃ bad len base cap,rdRow R.TR w rb (.slice base len cap) bad∧((st=none∧bad=true∧len=0∧base=none∧cap=0)∨∃ rest,st=some rest∧bad=false∧len=rest.length∧len≤cap∧SrcAt w S base rest):=by
    rcases rdAt_row hrd with ⟨rfl,hrow⟩ | ⟨rest,base,cap,rfl,hrow,hcap,hsr⟩
    · exact ⟨_,_,_,_,hrow,.inl ⟨rfl,rfl,rfl,rfl,rfl⟩⟩
    · exact ⟨_,_,_,_,hrow,.inr ⟨_,rfl,rfl,rfl,hcap,hsr⟩⟩
  have hc:=rdRow_cells hrow
  refine SC.wp_seq (SC.wp_reg ?_)
  repeat (first | (apply ops_1;(focus (simp (disch:=(try simp only [sPu]);omega) ;try rfl))) | (apply ops_y;(focus rfl);(focus ((try simp only [sPu]);omega));(focus (simp (disch:=(try simp only [sPu]);omega);done));(focus (simp (disch:=(try simp only [sPu]);omega) ;try rfl))) | (apply ops_n;(focus rfl);(focus ((try simp only [sPu]);omega));(focus (first | (left;simp (disch:=(try simp only [sPu]);omega);done) | (right;simp (disch:=(try simp only [sPu]);omega);done)))))
  refine oNi (SC.wp_seq (SC.wp_seq (SC.wp_reg ?_)))
  refine Decidable.byCases (p:=(len:Int) < l) (fun hl=>?_) (fun hl=>?_)
  · have hl':decide ((len:Int) < l)=true:=decide_eq_true hl
    repeat (first | (apply ops_1;(focus (simp (disch:=(try simp only [sPu]);omega) [hst,h0,h1,hc,hl,hl'];try rfl))) | (apply ops_y;(focus rfl);(focus ((try simp only [sPu]);omega));(focus (simp (disch:=(try simp only [sPu]);omega) [hst,h0,h1,hc,hl,hl'];done));(focus (simp (disch:=(try simp only [sPu]);omega) [hst,h0,h1,hc,hl,hl'];try rfl))) | (apply ops_n;(focus rfl);(focus ((try simp only [sPu]);omega));(focus (first | (left;simp (disch:=(try simp only [sPu]);omega) [hst,h0,h1,hc,hl,hl'];done) | (right;simp (disch:=(try simp only [sPu]);omega);done)))))
    refine oNi (SC.wp_cond (t:=true) (by simp (disch:=(try simp only [sPu]);omega)) ?_)
    rw [if_pos rfl]
    refine rFail_ok (S:=S) hR hrow (by simp (disch:=(try simp only [sPu]);omega) [h0]) (by omega) (by simp [sPu,hs]) (by simp [sPu,hs]) fun a' w' q1 q2 q3 q4=>?_
    simp only [Exit.then]
    refine ret_tmp hr (by rw [q1];simp [dPu,hd]) ⟨none,none,0,[],by rw [q2];rfl,?_,q4,⟨rfl,rfl⟩,fun bs y r h hp=>?_,.inl rfl⟩
    · rcases hlen with ⟨rfl,-⟩ | ⟨rest,rfl,-,rfl,-⟩
      · exact q3
      · rw [after_no (pSpan_no (.inl hl))];exact q3
    · rcases hlen with ⟨rfl,-⟩ | ⟨rest,rfl,-,rfl,-⟩
      · cases h
      · cases h
        rw [pSpan_no (.inl hl)] at hp
        cases hp
  have hl':decide ((len:Int) < l)=false:=decide_eq_false hl
  refine Decidable.byCases (p:=l < 0) (fun hl0=>?_) (fun hl0=>?_)
  · have hl0':decide (l < 0)=true:=decide_eq_true hl0
    repeat (first | (apply ops_1;(focus (simp (disch:=(try simp only [sPu]);omega) [hst,h0,h1,hc,hl,hl',hl0,hl0'];try rfl))) | (apply ops_y;(focus rfl);(focus ((try simp only [sPu]);omega));(focus (simp (disch:=(try simp only [sPu]);omega) [hst,h0,h1,hc,hl,hl',hl0,hl0'];done));(focus (simp (disch:=(try simp only [sPu]);omega) [hst,h0,h1,hc,hl,hl',hl0,hl0'];try rfl))) | (apply ops_n;(focus rfl);(focus ((try simp only [sPu]);omega));(focus (first | (left;simp (disch:=(try simp only [sPu]);omega) [hst,h0,h1,hc,hl,hl',hl0,hl0'];done) | (right;simp (disch:=(try simp only [sPu]);omega);done)))))
    refine oNi (SC.wp_cond (t:=true) (by simp (disch:=(try simp only [sPu]);omega)) ?_)
    rw [if_pos rfl]
    refine rFail_ok (S:=S) hR hrow (by simp (disch:=(try simp only [sPu]);omega) [h0]) (by omega) (by simp [sPu,hs]) (by simp [sPu,hs]) fun a' w' q1 q2 q3 q4=>?_
    simp only [Exit.then]
    refine ret_tmp hr (by rw [q1];simp [dPu,hd]) ⟨none,none,0,[],by rw [q2];rfl,?_,q4,⟨rfl,rfl⟩,fun bs y r h hp=>?_,.inl rfl⟩
    · rcases hlen with ⟨rfl,-⟩ | ⟨rest,rfl,-,rfl,-⟩
      · exact q3
      · rw [after_no (pSpan_no (.inr hl0))];exact q3
    · rcases hlen with ⟨rfl,-⟩ | ⟨rest,rfl,-,rfl,-⟩
      · cases h
      · cases h
        rw [pSpan_no (.inr hl0)] at hp
        cases hp
  have hl0':decide (l < 0)=false:=decide_eq_false hl0
  obtain ⟨n,rfl⟩:∃ n:Nat,l=(n:Int):=⟨l.toNat,by omega⟩
  have hnl:n≤len:=by omega
  have hnc:n≤cap:=by
    rcases hlen with ⟨-,-,rfl,-,rfl⟩ | ⟨rest,-,-,-,h,-⟩ <;> omega
  repeat (first | (apply ops_1;(focus (simp (disch:=(try simp only [sPu]);omega) [hst,h0,h1,hc,hl,hl',hl0,hl0'];try rfl))) | (apply ops_y;(focus rfl);(focus ((try simp only [sPu]);omega));(focus (simp (disch:=(try simp only [sPu]);omega) [hst,h0,h1,hc,hl,hl',hl0,hl0'];done));(focus (simp (disch:=(try simp only [sPu]);omega) [hst,h0,h1,hc,hl,hl',hl0,hl0'];try rfl))) | (apply ops_n;(focus rfl);(focus ((try simp only [sPu]);omega));(focus (first | (left;simp (disch:=(try simp only [sPu]);omega) [hst,h0,h1,hc,hl,hl',hl0,hl0'];done) | (right;simp (disch:=(try simp only [sPu]);omega);done)))))
  refine oNi (SC.wp_cond (t:=false) (by simp (disch:=(try simp only [sPu]);omega)) ?_)
  rw [if_neg (by simp)]
  refine SC.wp_skip ?_
  simp only [Exit.then]
  refine SC.wp_seq (SC.wp_reg ?_)
  iterate 6 (first | (apply ops_1;(focus (simp (disch:=(try simp only [sPu]);omega) [hst,h0,h1,hc];try rfl))) | (apply ops_y;(focus rfl);(focus ((try simp only [sPu]);omega));(focus (simp (disch:=(try simp only [sPu]);omega) [hst,h0,h1,hc];done));(focus (simp (disch:=(try simp only [sPu]);omega) [hst,h0,h1,hc];try rfl))) | (apply ops_n;(focus rfl);(focus ((try simp only [sPu]);omega));(focus (first | (left;simp (disch:=(try simp only [sPu]);omega) [hst,h0,h1,hc];done) | (right;simp (disch:=(try simp only [sPu]);omega);done)))))
  refine oNo rfl (opw_slice3 (n:=n) (k:=.i64) (k':=.i64) (len:=len) (cap:=cap) (base:=base) hst.2.2.2.1 (by simp (disch:=(try simp only [sPu]);omega)) (by simp (disch:=(try simp only [sPu]);omega)) (by simp (disch:=(try simp only [sPu]);omega)) hnc ?_)
  repeat (first | (apply ops_1;(focus (simp (disch:=(try simp only [sPu]);omega) ;try rfl))) | (apply ops_y;(focus rfl);(focus ((try simp only [sPu]);omega));(focus (simp (disch:=(try simp only [sPu]);omega);done));(focus (simp (disch:=(try simp only [sPu]);omega) ;try rfl))) | (apply ops_n;(focus rfl);(focus ((try simp only [sPu]);omega));(focus (first | (left;simp (disch:=(try simp only [sPu]);omega);done) | (right;simp (disch:=(try simp only [sPu]);omega);done)))))
  refine oNi ?_
  simp only [Exit.then]
  refine SC.wp_seq (rDropV_ok (n:=n) hR hrow hnl (by simp (disch:=(try simp only [sPu]);omega) [h0]) (by simp (disch:=(try simp only [sPu]);omega) [h1]) (by omega) (by omega) (by simp [sPu,hs]) fun a1 q1 q2 q3=>?_)
  have hs1:a1.tmps.size=40:=by rw [q1];simp [sPu,hs]
  have hd1:a1.defers=[]:=by rw [q2];simp [dPu,hd]
  have h5:getT a1 5=.slice base n n:=by rw [q3 5 (by omega)];simp (disch:=(try simp only [sPu]);omega)
  simp only [Exit.then]
  refine SC.wp_seq (SC.wp_reg ?_)
  repeat (first | (apply ops_1;(focus (simp (disch:=(try simp only [sPu]);omega) [h5];try rfl))) | (apply ops_y;(focus rfl);(focus ((try simp only [sPu]);omega));(focus (simp (disch:=(try simp only [sPu]);omega) [h5];done));(focus (simp (disch:=(try simp only [sPu]);omega) [h5];try rfl))) | (apply ops_n;(focus rfl);(focus ((try simp only [sPu]);omega));(focus (first | (left;simp (disch:=(try simp only [sPu]);omega) [h5];done) | (right;simp (disch:=(try simp only [sPu]);omega);done)))))
  refine oNi (SC.wp_ret ?_)
  have hon:Only rb w (w.setRow rb (#[.slice base len cap,.bool bad].setIfInBounds 0 (sliceLo base len cap n))):=(Only.refl rb w).setRow _
  have hres:getT ((a1.put (some 39) (Value.slice base n n)).put (some 4) (Value.slice base n n)) 4=.slice base n n:=by simp (disch:=(try simp only [sPu]);omega)
  rcases hlen with ⟨rfl,rfl,rfl,rfl,rfl⟩ | ⟨rest,rfl,rfl,rfl,hcap,hsr⟩
  · obtain rfl:n=0:=by omega
    refine ret_tmp hr (by simp [dPu,hd1]) ⟨none,none,0,[],by rw [hres];rfl,?_,hon,⟨rfl,rfl⟩,fun bs y r h hp=>(by cases h),.inl rfl⟩
    exact rdAt_bad (fr:=(0,0)) hrow (by simp [sliceLo])
  · have hp1:=pSpan_yes hnl
    refine ret_tmp hr (by simp [dPu,hd1]) ⟨S,base,n,rest.take n,by rw [hres,List.length_take,Nat.min_eq_left hnl],?_,hon,?_,fun bs y r h hp=>?_,.inr rfl⟩
    · rw [after_ok hp1]
      exact rdAt_drop hrow hcap hsr (fun s h=>(hsrc s h).1) hnl
    · exact hsr.take.frame fun sb hsb=>setRow_other _ _ _ _ (hsrc sb hsb).1
    · cases h
      rw [hp1] at hp
      cases hp
      exact ⟨rfl,rfl⟩
theorem opw_extract {a:Act} {w:World} {K:Act→World→Prop} {d:Option Tmp} {g:Option (Nat × Bool)} {x:Operand} {i:Nat} {v:Value} {vs:Array Value} (hx:a.eval x=.tuple vs) (hv:vs[i]?=some v) (h:K (a.put d v) w):opw P ⟨d,.extract x i,g⟩ a w K :=
  oVa (by simp) (fun o ho=>by simp [execOp,ho,hx,Instr.extract,hv]) h
theorem RC.ty {α:Type} {TR gb:Nat} {p:Rd α} {ty ty':Value→Prop} {ok:World→(Nat→Prop)→α→Value→Prop} (h:RC P TR gb f p ty ok) (hty:∀ v,ty v→ty' v):RC P TR gb f p ty' ok :=
  ⟨h.1,fun w S rb st h1 h2 h3=>(h.2 w S rb st h1 h2 h3).mono fun e w' ⟨v,q1,q2,q3,q4,q5⟩=>⟨v,q1,q2,q3,hty v q4,q5⟩⟩
end
end Go.Proofs.YtoiipagmhmohdaaDoor.K
namespace Go.Proofs.YtoiipagmhmohdaaDoor.K
open Go Go.RowKit Go.Proofs.YtoiipagmhmohdaaDoor.T
attribute [local simp] eTm eCo pNo gTp gTn qv qcall vop iop
set_option linter.unusedSimpArgs false
set_option linter.unusedVariables false
set_option maxHeartbeats 2000000
def bstrB (P:Program) (TB TS:Nat):Bool :=
  (match P.underlying TB with
  | some (.slice e)=>(match P.underlying e with | some (.int .u8)=>true | _=>false)
  | _=>false) && (match P.underlying TS with | some .string=>true | _=>false)
section
variable {P:Program} {a:Act} {w:World} {K:Act→World→Prop} {d:Option Tmp} {g:Option (Nat × Bool)}
theorem opw_str {T0 T1 cap:Nat} {x:Operand} {base:Option Addr} {S:Option Nat} {bs:Bytes} (hT:bstrB P T0 T1=true) (hx:a.eval x=.slice base bs.length cap) (hs:SrcAt w S base bs) (h:K (a.put d (.string ⟨bs.toArray⟩)) w):opw P ⟨d,.convert T0 T1 x,g⟩ a w K:=by
  simp only [bstrB,Bool.and_eq_true] at hT
  obtain ⟨h1,h2⟩:=hT
  split at h1 <;> try (simp at h1;done)
  rename_i e he
  split at h1 <;> try (simp at h1;done)
  rename_i he2
  split at h2 <;> try (simp at h2;done)
  rename_i h3
  refine oVa (v:=.string ⟨bs.toArray⟩) (by simp) (fun p hp=>?_) h
  have hr:(convert T0 T1 (.slice base bs.length cap)).run P w=.ok (.string ⟨bs.toArray⟩) w:=by
    cases S with
    | none =>
      obtain ⟨rfl,rfl⟩:=hs
      exact run_convert_bytes_nil w T0 e he he2 _ _ T1 h3
    | some sb =>
      obtain ⟨q,rfl,hc⟩:=hs
      have:=run_convert_bytes_arg (P:=P) w T0 e he he2 sb q bs.length cap (bs.map fun u=>(u.toNat:Int)) (by simp) (fun i hi=>by
        rw [hc i bs[i] (List.getElem?_eq_getElem hi)]
        simp [cell,hi]) T1 h3
      rw [this]
      have hfun:((fun n:Int=>UInt8.ofNat n.toNat) ∘ fun u:UInt8=>(u.toNat:Int))=id:=by funext u;simp
      simp only [strOfNums,List.map_map,hfun,List.map_id]
  simp [execOp,hp,hx,hr]
end
theorem after_prim {α β γ:Type} {st:Option Bytes} {pC:Rd α} {g:α→Rd β} {q:Rd γ} (h:∀ b x r,st=some b→pC b=some (x,r)→after (some r) (g x)=after (some r) q):after st (rThen pC g)=after (after st pC) q:=by
  cases st with
  | none=>rfl
  | some b =>
    cases hp:pC b with
    | none=>rw [after_then_none (after_no hp),after_no hp];rfl
    | some z=>rw [after_then _ _ _ rfl hp,after_ok hp];exact h b z.1 z.2 rfl hp
theorem after_map {α β:Type} {st:Option Bytes} {p:Rd α} {g:α→β}:after st (rThen p fun x=>rOk (g x))=after st p:=by
  rw [after_prim (q:=rOk ()) (fun b x r _ _=>by rw [after_rOk,after_rOk]),after_rOk]
theorem wrap64 {n:Int} (h1:-9223372036854775808≤n) (h2:n < 9223372036854775808):IntKind.i64.wrap n=n:=by
  simp only [IntKind.wrap,IntKind.bits,IntKind.signed]
  simp
  split <;> omega
theorem pInt_rng {k:Nat} (hk:k=2∨k=4) {b r:Bytes} {x:Int} (h:pInt k b=some (x,r)):-2147483648≤x∧x < 2147483648:=by
  obtain ⟨n,r1,h1,h2⟩:=rThen_some h
  obtain ⟨rfl,-⟩:=rOk_some h2
  have h3:=(pFix_facts h1)
  have h4:=unfix_lt (b.take k)
  rw [← h3.2.1,List.length_take,Nat.min_eq_left (by omega)] at h4
  rcases hk with rfl | rfl
  · simp only [sgn]
    have h4':n < 65536:=h4
    simp
    split <;> omega
  · simp only [sgn]
    have h4':n < 4294967296:=h4
    simp
    split <;> omega
theorem cnt_int {k:Nat} (hk:k=2∨k=4) {n:Int} {ks:IntKind} {st:Option Bytes} (q:∀ b x r,st=some b→pInt k b=some (x,r)→Value.int ks n=.int ks x):∀ b x r,st=some b→pCount false k b=some (x,r)→IntKind.i64.wrap n=x∧n=x:=by
  intro b x r hb hp
  have hp':pInt k b=some (x,r):=hp
  have hv:=q b x r hb hp'
  simp only [Value.int.injEq,true_and] at hv
  subst hv
  have:=pInt_rng hk hp'
  exact ⟨wrap64 (by omega) (by omega),rfl⟩
theorem bytesAt_src {w:World} {F:Nat→Prop} {S:Option Nat} {base:Option Addr} {bs:Bytes} (h:SrcAt w S base bs) (hF:∀ sb,S=some sb→F sb):BytesAt w F base bs:=by
  cases S with
  | none=>exact .inl h.2
  | some sb =>
    obtain ⟨q,h1,h2⟩:=h
    exact .inr ⟨sb,q,h1,hF sb rfl,h2⟩
section
variable {P:Program} {R:RTy} {f:FuncId} {fn:Func}
def sc_RStr (T0 T1 T2 T3 F0 F1:Nat):SC:=.seq (.reg [⟨some 2,.assign (.const (.string ⟨#[]⟩)),none⟩]) (.seq (.reg [mv 4 0,cal 5 F0 [4],asg 3 5]) (.seq (.reg [mv 6 0,mv 7 3,⟨some 8,.convert T0 T1 (.tmp 7),none⟩,cal 9 F1 [6,8],⟨some 10,.convert T2 T3 (.tmp 9),none⟩,asg 2 10]) (.ret)))
theorem rStr_ok {TR gb F0 F1 T0 T1 T2 T3 : Nat} (hTR : R.TR = TR) (hR : rdOK P R = true) (h0k : intK P T0 = some .i16) (h1k : intK P T1 = some .i64) (hS : bstrB P T2 T3 = true) (hF : RC P TR gb F0 (pInt 2) (fun v => ∃ n, v = .int .i16 n) (fun _ _ n v => v = .int .i16 n)) (hG : SpC P TR F1) (hf : P.funcs[f]? = some fn) (hb : fn.body.map strip = some (sc_RStr T0 T1 T2 T3 F0 F1)) (hnm : (fn.name == "runtime.NumGoroutine") = false) (hn : fn.ntmps = 11) (hr : fn.results = #[.tmp 2]) :
    RC P TR gb f (pPrim false false .str) (tyP false .str) (okP false .str):=by
  subst hTR
  have hst:=rd_facts hR
  refine ⟨fnOK_of hf hb hnm,fun w S rb st hgb hrd hsrc=>?_⟩
  refine fCa hf hb hn (by simp) fun a0 hs hd ha=>?_
  have h0:=ha 0 _ rfl
  simp only [List.getElem_toArray,List.getElem_cons_zero,List.getElem_cons_succ] at h0
  refine SC.wp_seq (SC.wp_reg ?_)
  repeat (apply ops_1;(focus (simp (disch:=(try simp only [sPu]);omega) ;try rfl)))
  refine oNi (SC.wp_seq (SC.wp_reg ?_))
  iterate 1 (apply ops_1;(focus (simp (disch:=(try simp only [sPu]);omega) [h0];try rfl)))
  refine ops_call hF.1 (hF.2 w S rb st hgb hrd hsrc) (by simp (disch:=(try simp only [sPu]);omega) [h0]) ?_
  rintro e w1 ⟨v,rfl,q1,q2,⟨n,rfl⟩,q4⟩
  refine ⟨_,rfl,?_⟩
  repeat (apply ops_1;(focus (simp (disch:=(try simp only [sPu]);omega) [h0k,h1k];try rfl)))
  refine oNi ?_
  simp only [Exit.then]
  have hsrc1:∀ sb,S=some sb→sb ≠ rb∧sb < w1.heap.size:=fun sb h=>⟨(hsrc sb h).1,Nat.lt_of_lt_of_le (hsrc sb h).2 q2.size⟩
  have q1:RdAt R.TR w1 S rb (after st (pCount false 2)):=q1
  have hcnt2:=cnt_int (k:=2) (by omega) q4
  have hcnt:=fun b x r hb hp=>(hcnt2 b x r hb hp).1
  have haft:after st (pPrim false false .str)=after (after st (pCount false 2)) (pSpan (IntKind.i64.wrap n)):=by
    simp only [pPrim]
    refine after_prim fun b x r hb hp=>?_
    simp only [Bool.false_and,Bool.false_eq_true,if_false]
    rw [hcnt b x r hb hp]
    exact after_map
  refine SC.wp_seq (SC.wp_reg ?_)
  iterate 3 (apply ops_1;(focus (simp (disch:=(try simp only [sPu]);omega) [h0,h0k,h1k];try rfl)))
  refine ops_call hG.1 (hG.2 w1 S rb _ (IntKind.i64.wrap n) q1 hsrc1) (by simp (disch:=(try simp only [sPu]);omega) [h0]) ?_
  rintro e w2 ⟨S',base,cap,x,rfl,z1,z2,z3,z4,-⟩
  refine ⟨_,rfl,?_⟩
  refine oNo rfl (opw_str (cap:=cap) (base:=base) hS (by simp (disch:=(try simp only [sPu]);omega)) z3 ?_)
  repeat (apply ops_1;(focus (simp (disch:=(try simp only [sPu]);omega) ;try rfl)))
  refine oNi (SC.wp_ret ?_)
  refine ret_tmp hr (by simp [dPu,hd]) ⟨_,rfl,by rw [haft];exact z1,q2.trans z2,?_,fun b t r hb hp=>?_⟩
  · simp only [tyP,Bool.false_eq_true,if_false]
    exact ⟨_,by simp (disch:=(try simp only [sPu]);omega);rfl⟩
  · simp only [pPrim] at hp
    obtain ⟨l,r1,k1,k2⟩:=rThen_some hp
    simp only [Bool.false_and,Bool.false_eq_true,if_false] at k2
    obtain ⟨s,r2,k3,k4⟩:=rThen_some k2
    obtain ⟨rfl,rfl⟩:=rOk_some k4
    subst hb
    have hx:=z4 r1 s _ (after_ok k1) (by rw [hcnt _ _ _ rfl k1];exact k3)
    intro hm
    refine ⟨⟨x.toArray⟩,by simp (disch:=(try simp only [sPu]);omega),?_,hm⟩
    simp [tS,Tree.s,hx.1]
end
end Go.Proofs.YtoiipagmhmohdaaDoor.K
namespace Go.Proofs.YtoiipagmhmohdaaDoor.K
open Go Go.RowKit Go.Proofs.YtoiipagmhmohdaaDoor.T
attribute [local simp] eTm eCo pNo gTp gTn qv qcall vop iop
set_option linter.unusedSimpArgs false
set_option linter.unusedVariables false
set_option maxHeartbeats 2000000
def sc_RArr (R:RTy) (T2 F0:Nat):SC:=.seq (.reg [⟨some 2,.assign (.const (.int .i32 0)),none⟩]) (.seq (.reg [mv 4 0,cal 5 F0 [4],asg 3 5]) (.seq (.seq (.reg [mv 6 0,nilc 7 6,fa 8 R.TR 7 0,ld 9 R.TB 8,lenOp 10 R.TB 9,mv 11 3,⟨some 12,.convert T2 R.I (.tmp 11),none⟩,⟨some 13,.binOp .lss R.I (.tmp 10) (.tmp 12) R.I,none⟩]) (.cond (.tmp 13) (rFail R 14 2 (.int .i32 0)) (.skip))) (.seq (.reg [mv 20 3,asg 2 20]) (.ret))))
def pLen0 (flex:Bool):Rd Int:=if flex then rThen pUv fun n=>rOk (if n=2147483648 then 2147483647 else (if n < 2147483648 then (n:Int) else (n:Int) - 4294967296) - 1) else pInt 4
theorem pLen_eq (flex:Bool):pLen flex=rThen (pLen0 flex) fun l b=>if (b.length:Int) < l then none else some (l,b):=rfl
section
variable {P:Program} {R:RTy} {f:FuncId} {fn:Func}
theorem rArr_ok {TR gb F0 T2 : Nat} (hTR : R.TR = TR) (hR : rdOK P R = true) (h2k : intK P T2 = some .i32) (hF : RC P TR gb F0 (pInt 4) (fun v => ∃ n, v = .int .i32 n) (fun _ _ n v => v = .int .i32 n)) (hf : P.funcs[f]? = some fn) (hb : fn.body.map strip = some (sc_RArr R T2 F0)) (hnm : (fn.name == "runtime.NumGoroutine") = false) (hn : fn.ntmps = 21) (hr : fn.results = #[.tmp 2]) :
    RC P TR gb f (pLen false) (fun v=>∃ n,v=.int .i32 n) (fun _ _ n v=>v=.int .i32 n):=by
  subst hTR
  have hst:=rd_facts hR
  refine ⟨fnOK_of hf hb hnm,fun w S rb st hgb hrd hsrc=>?_⟩
  refine fCa hf hb hn (by simp) fun a0 hs hd ha=>?_
  have h0:=ha 0 _ rfl
  simp only [List.getElem_toArray,List.getElem_cons_zero,List.getElem_cons_succ] at h0
  refine SC.wp_seq (SC.wp_reg ?_)
  repeat (apply ops_1;(focus (simp (disch:=(try simp only [sPu]);omega) ;try rfl)))
  refine oNi (SC.wp_seq (SC.wp_reg ?_))
  iterate 1 (apply ops_1;(focus (simp (disch:=(try simp only [sPu]);omega) [h0];try rfl)))
  refine ops_call hF.1 (hF.2 w S rb st hgb hrd hsrc) (by simp (disch:=(try simp only [sPu]);omega) [h0]) ?_
  rintro e w1 ⟨v,rfl,q1,q2,⟨n,rfl⟩,q4⟩
  refine ⟨_,rfl,?_⟩
  repeat (apply ops_1;(focus (simp (disch:=(try simp only [sPu]);omega) ;try rfl)))
  refine oNi ?_
  simp only [Exit.then]
  have q1:RdAt R.TR w1 S rb (after st (pLen0 false)):=q1
  have hcnt:∀ b x r,st=some b→pLen0 false b=some (x,r)→n=x∧IntKind.i64.wrap n=n:=by
    intro b x r hb hp
    have hv:=q4 b x r hb hp
    simp only [Value.int.injEq,true_and] at hv
    subst hv
    have:=pInt_rng (k:=4) (by omega) hp
    exact ⟨rfl,wrap64 (by omega) (by omega)⟩
  obtain ⟨bad,len,base,cap,hrow,hlen⟩:∃ bad len base cap,rdRow R.TR w1 rb (.slice base len cap) bad∧((after st (pLen0 false)=none)∨∃ rest,after st (pLen0 false)=some rest∧len=rest.length):=by
    rcases rdAt_row q1 with ⟨e1,hrow⟩ | ⟨rest,base,cap,e1,hrow,-,-⟩
    · exact ⟨_,_,_,_,hrow,.inl e1⟩
    · exact ⟨_,_,_,_,hrow,.inr ⟨_,e1,rfl⟩⟩
  have hc:=rdRow_cells hrow
  refine SC.wp_seq (SC.wp_seq (SC.wp_reg ?_))
  repeat (apply ops_1;(focus (simp (disch:=(try simp only [sPu]);omega) [hst,h0,hc,h2k];try rfl)))
  refine oNi (SC.wp_cond (t:=decide ((len:Int) < IntKind.i64.wrap n)) (by simp (disch:=(try simp only [sPu]);omega)) ?_)
  have key:(after st (pLen false)=if (len:Int) < IntKind.i64.wrap n then none else after st (pLen0 false)):=by
    rw [pLen_eq]
    cases st with
    | none=>simp [after]
    | some b =>
      cases hp:pLen0 false b with
      | none=>rw [after_then_none (after_no hp),after_no hp];simp
      | some z =>
        obtain ⟨x,r⟩:=z
        obtain ⟨rfl,e2⟩:=hcnt b x r rfl hp
        rw [after_then _ _ _ rfl hp,after_ok hp]
        rcases hlen with e | ⟨rest,e,rfl⟩
        · rw [after_ok hp] at e
          cases e
        · rw [after_ok hp] at e
          cases e
          rw [e2]
          by_cases h:(r.length:Int) < n <;> simp [after,h]
  refine Decidable.byCases (p:=(len:Int) < IntKind.i64.wrap n) (fun hl=>?_) (fun hl=>?_)
  · have hno:after st (pLen false)=none:=by rw [key,if_pos hl]
    rw [if_pos (decide_eq_true hl)]
    refine rFail_ok (S:=S) hR hrow (by simp (disch:=(try simp only [sPu]);omega) [h0]) (by omega) (by simp [sPu,hs]) (by simp [sPu,hs]) fun a' w' z1 z2 z3 z4=>?_
    simp only [Exit.then]
    refine ret_tmp hr (by rw [z1];simp [dPu,hd]) ⟨_,rfl,by rw [hno];exact z3,q2.trans z4,⟨0,z2⟩,fun b x r h hp=>?_⟩
    rw [h,after_ok hp] at hno
    cases hno
  · have hyes:after st (pLen false)=after st (pLen0 false):=by rw [key,if_neg hl]
    rw [if_neg (by rw [decide_eq_false hl];simp)]
    refine SC.wp_skip ?_
    simp only [Exit.then]
    refine SC.wp_seq (SC.wp_reg ?_)
    repeat (apply ops_1;(focus (simp (disch:=(try simp only [sPu]);omega) ;try rfl)))
    refine oNi (SC.wp_ret ?_)
    try simp only [Exit.then]
    refine ret_tmp hr (by simp [dPu,hd]) ⟨_,rfl,by rw [hyes];exact q1,q2,⟨n,by simp (disch:=(try simp only [sPu]);omega)⟩,fun b x r h hp=>?_⟩
    rw [pLen_eq] at hp
    obtain ⟨l,r1,k1,k2⟩:=rThen_some hp
    obtain ⟨rfl,-⟩:=hcnt b l r1 h k1
    split at k2
    · cases k2
    · cases k2
      simp (disch:=(try simp only [sPu]);omega)
end
section
variable {P:Program} {TR gb:Nat} {f:FuncId}
theorem num_i16 (h:RC P TR gb f (pInt 2) (fun v=>∃ n,v=.int .i16 n) (fun _ _ n v=>v=.int .i16 n)):RC P TR gb f (pPrim false false .i16) (tyP false .i16) (okP false .i16) :=
  RC.map (g:=tN) h (fun v hv=>hv) fun w F n v hv _=>hv
theorem num_i32 (h:RC P TR gb f (pInt 4) (fun v=>∃ n,v=.int .i32 n) (fun _ _ n v=>v=.int .i32 n)):RC P TR gb f (pPrim false false .i32) (tyP false .i32) (okP false .i32) :=
  RC.map (g:=tN) h (fun v hv=>hv) fun w F n v hv _=>hv
end
end Go.Proofs.YtoiipagmhmohdaaDoor.K
namespace Go.Proofs.YtoiipagmhmohdaaDoor.K
open Go Go.RowKit Go.Proofs.YtoiipagmhmohdaaDoor.T
attribute [local simp] eTm eCo pNo gTp gTn qv qcall vop iop
set_option linter.unusedVariables false
set_option linter.unusedSimpArgs false
def rdNew (P:Program) (TR:Nat):Bool:=aggB P TR 2 && (match P.info? TR,P.underlying TR with
  | some it,some (.struct fs)=>(match it.zero with | some z=>(match z.cells.toList with | [.slice none 0 0,.bool false]=>true | _=>false) | none=>false) &&
      (match fs.toList.mapM (fun f=>(P.info? f.type).map fun i=>(f.offset,i.size)) with | some [(0,1),(1,1)]=>true | _=>false)
  | _,_=>false)
theorem rdNew_of {P:Program} {TR:Nat} (h:rdNew P TR=true):aggB P TR 2=true∧(∃ it z,P.info? TR=some it∧it.zero=some z∧z.cells=#[.slice none 0 0,.bool false])∧∀ v:Value,v.oneCell'=true→P.built TR [(0,v)]=some #[v,.bool false]:=by
  simp only [rdNew,Bool.and_eq_true] at h
  obtain ⟨h1,h⟩:=h
  split at h <;> try (simp at h;done)
  rename_i it fs hi hu
  simp only [Bool.and_eq_true] at h
  obtain ⟨hz,hp⟩:=h
  split at hz <;> try (simp at hz;done)
  rename_i z hz0
  split at hz <;> try (simp at hz;done)
  rename_i hzl
  have hzc:z.cells=#[.slice none 0 0,.bool false]:=Array.ext' (by simpa using hzl)
  split at hp <;> try (simp at hp;done)
  rename_i hpl
  refine ⟨h1,⟨it,z,hi,hz0,hzc⟩,fun v hv=>?_⟩
  have hvc:=cells_oneCell hv
  simp only [Program.built,hi,hu,hz0,hpl,hzc]
  simp [Instr.fill,hvc]
def topEnd (size:Nat):Option (Nat × Nat)→Nat
  | none=>size
  | some (_,off)=>off
structure RTop where
  S:Nat
  size:Nat
  d:Nat
  t:Nat
  N:Nat
  flex:Option Int
  tags:Option (Nat × Nat)
  fs:Fs
def RTop.chk (P:Program) (I:RIds) (M:RTop):Bool :=
  okRFs P I (rCtx M.flex) M.S M.fs && okRTags P I (rCtx M.flex) M.S M.tags && layFs 1 (topEnd M.size M.tags) M.fs && (match M.tags with | none=>true | some (_,off)=>decide (off < M.size∧1≤off)) &&
  decide (1≤M.size∧rS M.flex+1+rVs M.fs≤M.t∧rT1 M.t M.flex+1+rFT (rCtx M.flex) M.fs+rTagsT M.tags+1≤M.N) && fieldB P M.S 0 0 && intB P I.tI16 .i16 && oneB P I.tI16 && rdNew P I.tRd
section
variable {P:Program} {I:RIds} {M:RTop} {B:Nat} {G:List (Nat × Bytes)→Prop} {err:Value} {Gl:World→Prop} {gb:Nat} {f:FuncId} {fn:Func} {w0:World}
end
end Go.Proofs.YtoiipagmhmohdaaDoor.K
namespace Go.Proofs.YtoiipagmhmohdaaDoor.K
open Go Go.RowKit Go.Proofs.YtoiipagmhmohdaaDoor.T
set_option linter.unusedVariables false
set_option linter.unusedSimpArgs false
set_option maxHeartbeats 1000000
theorem bytesAt_keep {w w':World} {F:Nat→Prop} {base:Option Addr} {bs:Bytes} (h:BytesAt w F base bs) (hF:∀ k (a:Addr),F k→a.block=k→∀ v,w.cell? a=some v→w'.cell? a=some v):BytesAt w' F base bs:=by
  rcases h with h | ⟨b,q,h1,h2,h3⟩
  · exact .inl h
  · exact .inr ⟨b,q,h1,h2,fun j u hj=>hF b _ h2 rfl _ (h3 j u hj)⟩
section
variable {P:Program} {a:Act} {w:World} {K:Act→World→Prop} {d:Option Tmp} {g:Option (Nat × Bool)}
end
end Go.Proofs.YtoiipagmhmohdaaDoor.K
namespace Go.Proofs.YtoiipagmhmohdaaDoor.K
open Go Go.RowKit Go.Proofs.YtoiipagmhmohdaaDoor.T
attribute [local simp] eTm eCo pNo gTp gTn qv qcall vop iop
set_option linter.unusedVariables false
set_option linter.unusedSimpArgs false
set_option maxHeartbeats 2000000
def MapV (w:World) (lo tb:Nat) (S:Option Nat) (u:List (Nat × Bytes)) (m:Option Nat):Prop :=
  (m=none∧u=[])∨∃ r es clock,m=some r∧lo≤r∧r ≠ tb∧w.heap[r]?=some (.map es clock)∧TagsEs w (fun k=>S=some k) es clock u
theorem MapV.frame {w w':World} {lo tb:Nat} {S:Option Nat} {u:List (Nat × Bytes)} {m:Option Nat} (h:MapV w lo tb S u m) (hb:∀ k,lo≤k→k < w.heap.size→w'.heap[k]?=w.heap[k]?) (hS:∀ sb,S=some sb→w'.heap[sb]?=w.heap[sb]?):MapV w' lo tb S u m:=by
  rcases h with h | ⟨r,es,clock,h1,h2,h3,h4,h5,h6,h7⟩
  · exact .inl h
  · refine .inr ⟨r,es,clock,h1,h2,h3,by rw [hb r h2 (Array.getElem?_eq_some_iff.1 h4).1];exact h4,h5,h6,fun e he x hx hk=>?_⟩
    obtain ⟨base,cap,q1,q2⟩:=h7 e he x hx hk
    exact ⟨base,cap,q1,bytesAt_keep q2 fun k a hF ha v hv=>by rw [World.cell?_of_block (ha ▸ hS k hF)];exact hv⟩
section
variable {P:Program} {R:RTy} {f:FuncId} {fn:Func}
end
end Go.Proofs.YtoiipagmhmohdaaDoor.K
