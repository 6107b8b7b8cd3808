/- Generic texts: S8 R13 R14 R15. No condition. -/
import Derived.Test.YtecdefhecaeclaaDoorN5
namespace Go.Proofs.YtecdefhecaeclaaDoor.K
open Go Go.RowKit Go.Proofs.YtecdefhecaeclaaDoor.T
attribute [local simp] eTm eCo pNo gTp gTn qv qcall vop iop
set_option linter.unusedSimpArgs false
set_option linter.unusedVariables false
set_option maxHeartbeats 4000000
def ValueC (G:List (Nat × Bytes)→Prop) (P:Program) (X:STy) (f:FuncId) (ty:Ty):Prop :=
  ∀ (w:World) (sub:Value) (null:Bool) (ver:Int) (flex:Bool) (t:Tree) (tv:Value),SubV w (· < w.heap.size) ty sub→TV G w (· < w.heap.size) t tv→(wTy ver flex ty null t).length≤lim →
    Calls P f #[.int .i64 (kindOf ty),sub,.bool null,.int .i64 ver,.bool flex,tv] w (RetOwn X.U8 w (wTy ver flex ty null t))
section
variable {G:List (Nat × Bytes)→Prop} {P:Program} {X:STy} {f:FuncId} {fn:Func} {fW fTh fC fWi fF fU fHas fNull fAt fPart fVal:FuncId}
theorem gen_act {s:SC} {Q:Exit→Act→World→Prop} {a:Act} {w:World} (C:Act→Prop) (ha:C a) (h:∀ a,C a→SC.wp P s Q a w):SC.wp P s Q a w:=h a ha
theorem opsw_gen {all r:List SOp} {K:Act→World→Prop} {a:Act} {w:World} (C:Act→Prop) (ha:C a) (h:∀ a,C a→opsw P all r K a w):opsw P all r K a w:=h a ha
theorem dreg_call {S:World→Prop} {ops:List SOp} {i t g:Nat} {args:Array Operand} {argsV:Array Value} {r:List (Nat × Bool)} {a:Act} {w:World} {K:Act→World→Prop} {R:Ending→World→Prop} (hs:ops[i]?=some ⟨some t,.call ⟨.value (.func g),args,#[]⟩,none⟩) (hf:FnOK P g) (hc:Calls P g argsV w R) (hargs:args.map a.eval=argsV)
    (hR:∀ e w',R e w'→∃ v,e=.returned v∧S w'∧dregw P S ops r K (a.put (some t) v) w'):dregw P S ops ((i,false) :: r) K a w:=by
  obtain ⟨fn,h1,h2,h3⟩:=hf
  exact dreg_n hs rfl (opw_call (R:=R) h1 h2 h3 (by rw [hargs];exact hc) hR)
theorem own_keep {tU8:Nat} {w w':World} {B:Nat} {v:Value} {xs:Bytes} (h:Own tU8 w B v xs) (hb:Below w.heap.size w w'):Own tU8 w' B v xs:=by
  refine ⟨h.1,h.2.imp id ?_⟩
  rintro ⟨g,cap,cur,h1,h2,h3,h4⟩
  refine ⟨g,cap,cur,h1,h2,?_,h4⟩
  rw [hb.block g (by rcases Nat.lt_or_ge g w.heap.size with h | h
                     · exact h
                     · rw [Array.getElem?_eq_none h] at h3;cases h3)]
  exact h3
theorem src_own {T tU8:TypeId} (hT:u8sB P T tU8=true) {w:World} {B:Nat} {v:Value} {bs:Bytes} (h:Own tU8 w B v bs):Src P 1 T v bs.length (cellsOf bs) w:=by
  obtain ⟨hu,_⟩:=u8s_of hT
  have hc:=fun g (e:v.ownBlock=some g)=>h.cells e
  rcases h.2 with ⟨rfl,h0⟩ | ⟨g,cap,cur,rfl,_⟩
  · have:bs=[]:=List.eq_nil_of_length_eq_zero h0
    subst this
    exact Src.ofNil w hu 0
  · refine Src.ofSlice w hu ⟨g,0,none⟩ _ cap _ (by rw [cLen,Nat.mul_one]) (hc g rfl) ?_
    intro u hu
    simp only [cellsOf,List.mem_map] at hu
    obtain ⟨c,_,rfl⟩:=hu
    rfl
theorem take_flat {α:Type} (l:List α) (enc:α→Bytes) (j:Nat) (hj:j < l.length):(l.take (j+1)).flatMap enc=(l.take j).flatMap enc ++ enc l[j]∧((l.take j).flatMap enc).length+(enc l[j]).length≤(l.flatMap enc).length:=by
  have e1:l.take (j+1)=l.take j ++ [l[j]]:=by rw [List.take_add_one,List.getElem?_eq_getElem hj];rfl
  refine ⟨by rw [e1];simp only [List.flatMap_append,List.flatMap_cons,List.flatMap_nil,List.append_nil],?_⟩
  have e2:l=l.take j ++ (l[j] :: l.drop (j+1)):=by rw [← List.drop_eq_getElem_cons hj,List.take_append_drop]
  have:(l.flatMap enc).length=((l.take j).flatMap enc).length+((enc l[j]).length+((l.drop (j+1)).flatMap enc).length):=by
    conv=>lhs;rw [e2]
    rw [List.flatMap_append,List.flatMap_cons,List.length_append,List.length_append]
  omega
theorem list_tail (hX:stOK P X=true) (S:SmallC P X fW fTh fC fWi fF fU fHas fNull fAt G) (hm:P.follows .mixedOrders=true) (oV:FnOK P fVal) {of:Ty} (hV:ValueC G P X fVal of) {a:Act} {w w3:World} {Q:Exit→Act→World→Prop}
    (F0:Array Value) (sub:Value) (hF0:F0.size=8) (hF6:F0[6]?=some (.int .i64 (kindOf of))) (hF7:F0[7]?=some sub) (hc3:∀ j,w3.cell? ⟨w.heap.size,j,none⟩=F0[j]?) (hbw:Below w.heap.size w w3) (hsz3:w.heap.size+2≤w3.heap.size) (hsub:SubV w (· < w.heap.size) of sub)
    (ver:Int) (flex nl:Bool) (l:List Tree) (lb:Option Addr) (lc b o:Nat) (cs:Nat→List Value) (hlc:l.length≤lc) (hm63:l.length≤most) (hll:l ≠ []→lb=some ⟨b,o,none⟩∧b < w.heap.size) (hrr:∀ i,i < l.length→rangeV w b (o+i * 5) 5=some (cs i)) (htt:∀ i x,l[i]?=some x→TV G w (· < w.heap.size) x (.agg (cs i).toArray))
    (g:a.tmps.size=76) (g1:getT a 1=.int .i64 ver) (g2:getT a 2=.bool flex) (g4:getT a 4=.pointer (some ⟨w.heap.size,0,none⟩)) (g9:getT a 9=.bool nl) (g10:getT a 10=.slice lb l.length lc)
    (hl:(counted flex nl l.length 4 ++ l.flatMap (fun x=>wTy ver flex of false x)).length≤lim)
    (hQ:∀ (a':Act) (w':World) (v:Value),a'.defers=a.defers→getT a' 8=v→Own X.U8 w' w.heap.size v (counted flex nl l.length 4 ++ l.flatMap (fun x=>wTy ver flex of false x))→Below w.heap.size w w'→Q .ret a' w') :
    SC.wp P (.seq (.reg [mv 24 2,mv 25 9,mv 26 10,lenOp 27 X.Ts 26,⟨some 28,.call ⟨.value (.func fC),#[(.tmp 24),(.tmp 25),(.tmp 27),(.const (.int .i64 4))],#[]⟩,none⟩,asg 11 28]) (.seq (.seq (.reg [mv 29 10,lenOp 30 X.Ts 29,⟨some 31,.move (.const (.int .i64 0)),none⟩]) (.block 0 (.loop (.seq (.reg [⟨some 32,.binOp .lss X.I (.tmp 31) (.tmp 30) X.I,none⟩]) (.seq (.cond (.tmp 32) (.skip) (.exit 0)) (.seq (.block 1 (.seq (.reg [mv 33 31,asg 12 33]) (.dreg [mv 34 11,fa 35 X.F 4 6,ld 36 X.I 35,fa 37 X.F 4 7,ld 38 X.Fs 37,mv 39 1,mv 40 2,mv 41 10,mv 42 12,⟨some 43,.indexAddr X.Ts (.tmp 41) (.tmp 42),none⟩,ld 44 X.T 43,⟨some 45,.call ⟨.value (.func fVal),#[(.tmp 36),(.tmp 38),(.const (.bool false)),(.tmp 39),(.tmp 40),(.tmp 44)],#[]⟩,none⟩,⟨some 46,.call ⟨.builtin .append,#[(.tmp 34),(.tmp 45)],#[X.Bs,X.Bs]⟩,none⟩,asg 11 46] [[],[],[1],[],[3],[],[],[],[],[7,8],[9],[2,4,5,6,10],[0,11,11],[12,12,0,1,2,3,4,5,6,7,8,9,10,11,12]]))) (.reg [⟨some 47,.binOp .add X.I (.tmp 31) (.const (.int .i64 1)) X.I,none⟩,mv 31 47]))))))) (.seq (.reg [mv 48 11,asg 8 48]) (.ret)))) Q a w3:=by
  have hst:=st_facts hX
  have hU8s:=hst.2.2.1.1
  have hlim:lim=70368744177664:=rfl
  have hmost:most=32767:=rfl
  refine SC.wp_seq (SC.wp_reg ?_)
  iterate 4 (apply ops_1;(focus (simp (disch:=(try simp only [sPu]);omega) [hst,g2,g9,g10];try rfl)))
  refine ops_call S.oC (S.cC w3 flex nl l.length 4 (by omega) (by decide)) (by simp (disch:=(try simp only [sPu]);omega)) ?_
  rintro e w4 ⟨v0,rfl,r1,r2⟩
  refine ⟨v0,rfl,?_⟩
  repeat (apply ops_1;(focus (simp (disch:=(try simp only [sPu]);omega) ;try rfl)))
  refine oNi ?_
  simp only [Exit.then]
  refine SC.wp_seq (SC.wp_seq (SC.wp_reg ?_))
  repeat (apply ops_1;(focus (simp (disch:=(try simp only [sPu]);omega) [hst,g10];try rfl)))
  refine oNi ?_
  simp only [Exit.then]
  have hsz4:w3.heap.size≤w4.heap.size:=r2.size
  refine SC.wp_block (SC.wp_loop (fun a4 w5=>∃ (j:Nat) (v:Value),a4.tmps.size=76∧a4.defers=a.defers∧getT a4 1=.int .i64 ver∧getT a4 2=.bool flex∧getT a4 4=.pointer (some ⟨w.heap.size,0,none⟩)∧getT a4 10=.slice lb l.length lc∧getT a4 30=.int .i64 (l.length:Int)∧getT a4 31=.int .i64 (j:Int)∧j≤l.length ∧
      getT a4 11=v∧Own X.U8 w5 (w.heap.size+2) v (counted flex nl l.length 4 ++ (l.take j).flatMap (fun x=>wTy ver flex of false x))∧Below (w.heap.size+2) w3 w5)
    (fun a4 _=>match getT a4 31 with | .int _ m=>(l.length - m).toNat | _=>0) ⟨0,v0,by simp [sPu,g],by simp [dPu],by simp (disch:=(try simp only [sPu]);omega) [g1],by simp (disch:=(try simp only [sPu]);omega) [g2],by simp (disch:=(try simp only [sPu]);omega) [g4],by simp (disch:=(try simp only [sPu]);omega) [g10],by simp (disch:=(try simp only [sPu]);omega),by simp (disch:=(try simp only [sPu]);omega),by omega,by simp (disch:=(try simp only [sPu]);omega),?_,r2.mono hsz3⟩ ?_)
  · simpa using own_down r1 hsz3
  rintro a4 w5 ⟨j,v,q,qd,q1,q2,q4,q10,q30,q31,hj,q11,ho,hb5⟩
  have hsz5:w.heap.size+2≤w5.heap.size:=by have:=hb5.size;omega
  refine SC.wp_seq (SC.wp_reg ?_)
  repeat (apply ops_1;(focus (simp (disch:=(try simp only [sPu]);omega) [hst,q30,q31];try rfl)))
  refine oNi ?_
  simp only [Exit.then]
  refine SC.wp_seq (SC.wp_cond (t:=decide ((j:Int) < (l.length:Int))) (by simp (disch:=(try simp only [sPu]);omega)) ?_)
  cases e1:decide ((j:Int) < (l.length:Int))
  · have hje:j=l.length:=by simp at e1;omega
    subst hje
    rw [if_neg (by simp)]
    refine SC.wp_exit ?_
    simp only [Exit.then,Exit.inBlock,if_true]
    refine SC.wp_seq (SC.wp_reg ?_)
    repeat (apply ops_1;(focus (simp (disch:=(try simp only [sPu]);omega) [q11];try rfl)))
    refine oNi (SC.wp_ret ?_)
    refine hQ _ _ v (by simp [dPu,qd]) (by simp (disch:=(try simp only [sPu]);omega)) ?_ (hbw.trans (hb5.mono (by omega)))
    rw [List.take_length] at ho
    exact own_down ho (by omega)
  · have hjl:j < l.length:=by simp at e1;omega
    rw [if_pos rfl]
    refine SC.wp_skip ?_
    simp only [Exit.then]
    refine SC.wp_seq (SC.wp_block (SC.wp_seq (SC.wp_reg ?_)))
    repeat (apply ops_1;(focus (simp (disch:=(try simp only [sPu]);omega) [q31];try rfl)))
    refine oNi ?_
    simp only [Exit.then]
    have hne:l ≠ []:=by intro e;subst e;simp at hjl
    obtain ⟨hlb,hbF⟩:=hll hne
    subst hlb
    have hri:=hrr j hjl
    have hb5':Below w.heap.size w w5:=hbw.trans (hb5.mono (by omega))
    rw [← rangeV_mono (w:=w5.drew) (hb5'.block b hbF)] at hri
    have hti:=htt j _ (List.getElem?_eq_getElem hjl)
    have hcd:∀ i,w5.drew.cell? ⟨w.heap.size,i,none⟩=F0[i]?:=fun i =>
      (World.cell?_of_block (w:=w3) (w':=w5.drew) (a:=⟨w.heap.size,i,none⟩) (hb5.block w.heap.size (by omega))).trans (hc3 i)
    have hcd6:=(hcd 6).trans hF6
    have hcd7:=(hcd 7).trans hF7
    have hlt:w.heap.size < w.heap.size+2:=by omega
    have hlb2:b < w.heap.size+2:=by omega
    have ej:(0:Int)≤(j:Int)∧(j:Int) < (l.length:Int):=by omega
    obtain ⟨tf1,tf2⟩:=take_flat l (fun x=>wTy ver flex of false x) j hjl
    rw [List.length_append] at hl
    refine SC.wp_dreg hm (Below (w.heap.size+2) w5.drew) [(0,true),(1,true),(2,true),(3,true),(4,true),(5,true),(6,true),(7,true),(8,true),(9,true),(10,true),(11,false),(12,false),(13,true)] (by rfl) (by rfl) (by decide) (Below.refl _ _) ?_
    iterate 11 (apply dr_1;(focus rfl);(focus (simp (disch:=(try simp only [sPu]);omega) [hst,q1,q2,q4,q10,q11,hlt,hlb2,hcd6,hcd7,hri,ej,hjl];try rfl)))
    refine dreg_call rfl oV (hV w5.drew sub false ver flex l[j] _ (SubV.mono (w:=w5.drew) (F':=fun x=>x < w5.drew.heap.size) (fun k hk=>by have:k < w.heap.size:=hk;show k < w5.heap.size;omega) (fun k hk=>hb5'.block k hk) of sub hsub) (TV.down hb5'.drew (by show w.heap.size≤w5.heap.size;omega) hti) (by omega)) (by simp (disch:=(try simp only [sPu]);omega)) ?_
    rintro e w6 ⟨v2,rfl,p3,p4⟩
    have p4:Below w5.heap.size w5.drew w6:=p4
    refine ⟨v2,rfl,p4.mono hsz5,?_⟩
    have hsz6:w5.heap.size≤w6.heap.size:=p4.size
    have ho1:Own X.U8 w6 (w.heap.size+2) v (counted flex nl l.length 4 ++ (l.take j).flatMap (fun x=>wTy ver flex of false x)):=own_keep (w:=w5.drew) ho p4
    refine dreg_n rfl rfl (opw_appendU8 (B:=w.heap.size+2) (dv:=v) (xv:=v2) (xs:=counted flex nl l.length 4 ++ (l.take j).flatMap (fun x=>wTy ver flex of false x)) (bs:=wTy ver flex of false l[j]) hU8s (by simp (disch:=(try simp only [sPu]);omega)) (by simp (disch:=(try simp only [sPu]);omega)) rfl ho1 (by omega) (src_own hU8s p3) (by rw [List.length_append];omega) ?_)
    intro v3 w7 p5 p6 p7 _
    refine ⟨(p4.mono hsz5).trans p6,?_⟩
    repeat (apply dr_1;(focus rfl);(focus (simp (disch:=(try simp only [sPu]);omega) ;try rfl)))
    refine dreg_nil ?_
    simp only [Exit.inBlock,Exit.then]
    have ew:((j:Int)+1)=((j+1:Nat):Int):=by omega
    have eww:IntKind.i64.wrap ((j:Int)+1)=((j+1:Nat):Int):=by rw [wrap_i64'];split <;> omega
    refine SC.wp_reg ?_
    repeat (apply ops_1;(focus (simp (disch:=(try simp only [sPu]);omega) [q31,eww];try rfl)))
    refine oNi ?_
    refine ⟨⟨j+1,v3,by simp [sPu,q],by simp [dPu,qd],by simp (disch:=(try simp only [sPu]);omega) [q1],by simp (disch:=(try simp only [sPu]);omega) [q2],by simp (disch:=(try simp only [sPu]);omega) [q4],by simp (disch:=(try simp only [sPu]);omega) [q10],by simp (disch:=(try simp only [sPu]);omega) [q30],by simp (disch:=(try simp only [sPu]);omega),by omega,by simp (disch:=(try simp only [sPu]);omega),?_,hb5.drew.trans ((p4.mono hsz5).trans p6)⟩,?_⟩
    · rw [tf1,← List.append_assoc];exact p5
    · simp (disch:=(try simp only [sPu]);omega) [q31];omega
theorem field_ok (hX:stOK P X=true) (S:SmallC P X fW fTh fC fWi fF fU fHas fNull fAt G) (hm:P.follows .mixedOrders=true) (oP:FnOK P fPart) (oV:FnOK P fVal) (hV:∀ ty,isList ty=false→SubC (PartC G P X fPart) ty→ValueC G P X fVal ty)
    (hf:P.funcs[f]?=some fn) (hb:fn.body.map strip=some (sc_sfield X.F X.T X.I X.Ts X.Fs X.Bs fNull fTh fC fVal fF fPart)) (hn:fn.ntmps=76) (hr:fn.results=#[.tmp 8])
    (w:World) (h:Hd) (ty:Ty) (of_:Int) (sub:Value) (ver:Int) (flex:Bool) (t:Tree) (tv:Value) (hof:ofOK of_ ty) (hsub:SubV w (· < w.heap.size) ty sub) (hs1c:sub.oneCell'=true) (cP:SubC (PartC G P X fPart) ty)
    (ht:TV G w (· < w.heap.size) t tv) (hl:(wField ver flex h ty t).length≤lim) :
    Calls P f #[fldV (kindOf ty) h.from_ h.to h.null (-1) h.dflt of_ sub,.int .i64 ver,.bool flex,tv] w (RetOwn X.U8 w (wField ver flex h ty t)):=by
  have hst:=st_facts hX
  have hU8s:=hst.2.2.1.1
  have hlim:lim=70368744177664:=rfl
  refine fCa hf hb hn (by simp) fun a0 hs hd ha=>?_
  have h0:=ha 0 _ rfl
  have h1:=ha 1 _ rfl
  have h2:=ha 2 _ rfl
  have h3:=ha 3 _ rfl
  simp only [List.getElem_toArray,List.getElem_cons_zero,List.getElem_cons_succ] at h0 h1 h2 h3
  have ht0:=ht
  cases ht with
  | mk n s tnull l u sb lb ub sc lc uc b o cs hs1 hsc hlc huc hll hrr htt hG hu =>
  refine SC.wp_seq (SC.wp_reg (ops_box (B:=w.heap.size) (w0:=w) (by rw [eTm,h0];rfl) (Nat.le_refl _) (Below.refl _ _) fun w1 q1 q2 q3 hc q5=>?_))
  refine ops_box (B:=w.heap.size) (w0:=w) (cs:=#[.int .i64 n,.slice sb s.length sc,.bool tnull,.slice lb l.length lc,.slice ub u.length uc]) (by simp (disch:=(try simp only [sPu]);omega) [h3,treV]) (by omega) q2 fun w2 r1 r2 r3 hd2 r5=>?_
  repeat (first | (apply ops_1;(focus (simp (disch:=(try simp only [sPu]);omega) ;try rfl))) | (apply ops_y;(focus rfl);(focus ((try simp only [sPu]);omega));(focus (simp (disch:=(try simp only [sPu]);omega);done));(focus (simp (disch:=(try simp only [sPu]);omega) ;try rfl))) | (apply ops_n;(focus rfl);(focus ((try simp only [sPu]);omega));(focus (first | (left;simp (disch:=(try simp only [sPu]);omega);done) | (right;simp (disch:=(try simp only [sPu]);omega);done)))))
  refine oNi ?_
  have hc2:∀ j,w2.cell? ⟨w.heap.size,j,none⟩=#[Value.int .i64 (kindOf ty),.int .i64 h.from_,.int .i64 h.to,.int .i64 h.null,.int .i64 (-1),.int .i64 h.dflt,.int .i64 of_,sub][j]?:=fun j=>by rw [r1.cell (by show w.heap.size < w1.heap.size;omega)];exact hc j
  have hsz2:w2.heap.size=w.heap.size+2:=by omega
  rw [q3] at hd2 ⊢
  clear hc q1 q2 q3 q5 r1 r3 r5 w1
  have hF8:rangeV w2 w.heap.size 0 8=some [.int .i64 (kindOf ty),.int .i64 h.from_,.int .i64 h.to,.int .i64 h.null,.int .i64 (-1),.int .i64 h.dflt,.int .i64 of_,sub]:=by simp [rangeV,hc2]
  have hT5:rangeV w2 (w.heap.size+1) 0 5=some [.int .i64 n,.slice sb s.length sc,.bool tnull,.slice lb l.length lc,.slice ub u.length uc]:=by simp [rangeV,hd2]
  refine SC.wp_seq (SC.wp_reg ?_)
  iterate 3 (first | (apply ops_1;(focus (simp (disch:=(try simp only [sPu]);omega) [hst,hF8,hT5,h1];try rfl))) | (apply ops_y;(focus rfl);(focus ((try simp only [sPu]);omega));(focus (simp (disch:=(try simp only [sPu]);omega) [hst,hF8,hT5,h1];done));(focus (simp (disch:=(try simp only [sPu]);omega) [hst,hF8,hT5,h1];try rfl))) | (apply ops_n;(focus rfl);(focus ((try simp only [sPu]);omega));(focus (first | (left;simp (disch:=(try simp only [sPu]);omega) [hst,hF8,hT5,h1];done) | (right;simp (disch:=(try simp only [sPu]);omega);done)))))
  refine ops_call S.oN (S.cN w2 (kindOf ty) h.from_ h.to h.null (-1) h.dflt of_ sub ver n (.slice sb s.length sc) (.slice lb l.length lc) (.slice ub u.length uc) tnull) (by simp (disch:=(try simp only [sPu]);omega) [fldV,treV]) ?_
  rintro e w3 ⟨rfl,r1⟩
  refine ⟨_,rfl,?_⟩
  have hnull:h.isNull ver (.mk n s tnull l u)=(tnull && (decide (0≤h.null) && decide (h.null≤ver))):=rfl
  rw [← hnull]
  generalize hnl:h.isNull ver (.mk n s tnull l u)=nl at *
  have hc3:∀ j,w3.cell? ⟨w.heap.size,j,none⟩=#[Value.int .i64 (kindOf ty),.int .i64 h.from_,.int .i64 h.to,.int .i64 h.null,.int .i64 (-1),.int .i64 h.dflt,.int .i64 of_,sub][j]?:=fun j=>by rw [r1.cell (by show w.heap.size < w2.heap.size;omega)];exact hc2 j
  have hd3:∀ j,w3.cell? ⟨w.heap.size+1,j,none⟩=#[Value.int .i64 n,.slice sb s.length sc,.bool tnull,.slice lb l.length lc,.slice ub u.length uc][j]?:=fun j=>by rw [r1.cell (by show w.heap.size+1 < w2.heap.size;omega)];exact hd2 j
  have hbw:Below w.heap.size w w3:=r2.trans (r1.mono (by omega))
  have hsz3:w.heap.size+2≤w3.heap.size:=by have:=r1.size;omega
  clear hc2 hd2 hF8 hT5 r1 r2 hsz2
  have hT5:rangeV w3 (w.heap.size+1) 0 5=some [.int .i64 n,.slice sb s.length sc,.bool tnull,.slice lb l.length lc,.slice ub u.length uc]:=by simp [rangeV,hd3]
  repeat (first | (apply ops_1;(focus (simp (disch:=(try simp only [sPu]);omega) ;try rfl))) | (apply ops_y;(focus rfl);(focus ((try simp only [sPu]);omega));(focus (simp (disch:=(try simp only [sPu]);omega);done));(focus (simp (disch:=(try simp only [sPu]);omega) ;try rfl))) | (apply ops_n;(focus rfl);(focus ((try simp only [sPu]);omega));(focus (first | (left;simp (disch:=(try simp only [sPu]);omega);done) | (right;simp (disch:=(try simp only [sPu]);omega);done)))))
  refine oNi ?_
  simp only [Exit.then]
  refine gen_act (fun a=>a.tmps.size=76∧a.defers=[]∧getT a 1=.int .i64 ver∧getT a 2=.bool flex∧getT a 4=.pointer (some ⟨w.heap.size,0,none⟩)∧getT a 7=.pointer (some ⟨w.heap.size+1,0,none⟩)∧getT a 9=.bool nl)
    ⟨by simp [sPu,hs],by simp [dPu,hd],by simp (disch:=(try simp only [sPu]);omega) [h1],by simp (disch:=(try simp only [sPu]);omega) [h2],by simp (disch:=(try simp only [sPu]);omega),by simp (disch:=(try simp only [sPu]);omega),by simp (disch:=(try simp only [sPu]);omega)⟩ ?_
  rintro a ⟨g,gd,g1,g2,g4,g7,g9⟩
  clear h0 h1 h2 h3 ha hs hd
  have fin:∀ (out:Bytes) (a:Act) (w':World) (v:Value),a.defers=[]→getT a 8=v→Own X.U8 w' w.heap.size v out→Below w.heap.size w w'→out=wField ver flex h ty (.mk n s tnull l u)→bodyPost P fn (RetOwn X.U8 w (wField ver flex h ty (.mk n s tnull l u))) .ret a w':=by
    intro out a w' v q2 q3 q4 q5 q6
    subst q6
    exact ret_tmp hr q2 ⟨v,by rw [q3],q4,q5⟩
  have plain:isList ty=false→wField ver flex h ty (.mk n s tnull l u)=wTy ver flex ty nl (.mk n s tnull l u)→∀ (a:Act),a.tmps.size=76→a.defers=[]→getT a 1=.int .i64 ver→getT a 2=.bool flex→getT a 4=.pointer (some ⟨w.heap.size,0,none⟩)→getT a 7=.pointer (some ⟨w.heap.size+1,0,none⟩)→getT a 9=.bool nl →
      SC.wp P (.seq (.reg [fa 67 X.F 4 0,ld 68 X.I 67,fa 69 X.F 4 7,ld 70 X.Fs 69,mv 71 9,mv 72 1,mv 73 2,ld 74 X.T 7,cal 75 fVal [68,70,71,72,73,74],asg 8 75]) .ret) (bodyPost P fn (RetOwn X.U8 w (wField ver flex h ty (.mk n s tnull l u)))) a w3:=by
    intro hty heq a g gd g1 g2 g4 g7 g9
    refine SC.wp_seq (SC.wp_reg ?_)
    iterate 8 (first | (apply ops_1;(focus (simp (disch:=(try simp only [sPu]);omega) [hst,hc3,hd3,hT5,g1,g2,g4,g7,g9];try rfl))) | (apply ops_y;(focus rfl);(focus ((try simp only [sPu]);omega));(focus (simp (disch:=(try simp only [sPu]);omega) [hst,hc3,hd3,hT5,g1,g2,g4,g7,g9];done));(focus (simp (disch:=(try simp only [sPu]);omega) [hst,hc3,hd3,hT5,g1,g2,g4,g7,g9];try rfl))) | (apply ops_n;(focus rfl);(focus ((try simp only [sPu]);omega));(focus (first | (left;simp (disch:=(try simp only [sPu]);omega) [hst,hc3,hd3,hT5,g1,g2,g4,g7,g9];done) | (right;simp (disch:=(try simp only [sPu]);omega);done)))))
    refine ops_call oV (hV ty hty cP w3 sub nl ver flex _ _ (SubV.mono (fun k hk=>by have:k < w.heap.size:=hk;show k < w3.heap.size;omega) (fun k hk=>hbw.block k hk) ty sub hsub) (TV.down hbw (by omega) ht0) (by rw [← heq];exact hl)) (by simp (disch:=(try simp only [sPu]);omega) [fldV,treV]) ?_
    rintro e w4 ⟨v,rfl,r1,r2⟩
    refine ⟨v,rfl,?_⟩
    repeat (first | (apply ops_1;(focus (simp (disch:=(try simp only [sPu]);omega) ;try rfl))) | (apply ops_y;(focus rfl);(focus ((try simp only [sPu]);omega));(focus (simp (disch:=(try simp only [sPu]);omega);done));(focus (simp (disch:=(try simp only [sPu]);omega) ;try rfl))) | (apply ops_n;(focus rfl);(focus ((try simp only [sPu]);omega));(focus (first | (left;simp (disch:=(try simp only [sPu]);omega);done) | (right;simp (disch:=(try simp only [sPu]);omega);done)))))
    refine oNi (SC.wp_ret ?_)
    try simp only [Exit.then]
    exact fin _ _ _ v (by simp [dPu,gd]) (by simp (disch:=(try simp only [sPu]);omega)) (own_down r1 (by omega)) (hbw.trans (r2.mono (by omega))) heq.symm
  have htv3:TV G w3 (· < w3.heap.size) (.mk n s tnull l u) (treV n (.slice sb s.length sc) tnull (.slice lb l.length lc) (.slice ub u.length uc)):=TV.down hbw (by omega) ht0
  have hf1:fixed (-1) 1=[255]:=by decide
  have hf2:fixed 1 1=[1]:=by decide
  cases ty with
  | prim k =>
    have e11:(kindOf (.prim k) == 11)=false:=by cases k <;> rfl
    have e10:(kindOf (.prim k) == 10)=false:=by cases k <;> rfl
    refine SC.wp_seq (SC.wp_seq (SC.wp_reg ?_))
    repeat (first | (apply ops_1;(focus (simp (disch:=(try simp only [sPu]);omega) [hst,hc3,g4,e11];try rfl))) | (apply ops_y;(focus rfl);(focus ((try simp only [sPu]);omega));(focus (simp (disch:=(try simp only [sPu]);omega) [hst,hc3,g4,e11];done));(focus (simp (disch:=(try simp only [sPu]);omega) [hst,hc3,g4,e11];try rfl))) | (apply ops_n;(focus rfl);(focus ((try simp only [sPu]);omega));(focus (first | (left;simp (disch:=(try simp only [sPu]);omega) [hst,hc3,g4,e11];done) | (right;simp (disch:=(try simp only [sPu]);omega);done)))))
    refine oNi (SC.wp_cond (t:=false) (by simp (disch:=(try simp only [sPu]);omega)) ?_)
    rw [if_neg (by simp)]
    refine SC.wp_skip ?_
    simp only [Exit.then]
    refine SC.wp_seq (SC.wp_seq (SC.wp_reg ?_))
    repeat (first | (apply ops_1;(focus (simp (disch:=(try simp only [sPu]);omega) [hst,hc3,g4,e10];try rfl))) | (apply ops_y;(focus rfl);(focus ((try simp only [sPu]);omega));(focus (simp (disch:=(try simp only [sPu]);omega) [hst,hc3,g4,e10];done));(focus (simp (disch:=(try simp only [sPu]);omega) [hst,hc3,g4,e10];try rfl))) | (apply ops_n;(focus rfl);(focus ((try simp only [sPu]);omega));(focus (first | (left;simp (disch:=(try simp only [sPu]);omega) [hst,hc3,g4,e10];done) | (right;simp (disch:=(try simp only [sPu]);omega);done)))))
    refine oNi (SC.wp_cond (t:=false) (by simp (disch:=(try simp only [sPu]);omega)) ?_)
    rw [if_neg (by simp)]
    refine SC.wp_skip ?_
    simp only [Exit.then]
    refine plain rfl (by rw [← hnl];rfl) _ (by simp [sPu,g]) (by simp [dPu,gd]) ?_ ?_ ?_ ?_ ?_
    · simp (disch:=(try simp only [sPu]);omega) [g1]
    · simp (disch:=(try simp only [sPu]);omega) [g2]
    · simp (disch:=(try simp only [sPu]);omega) [g4]
    · simp (disch:=(try simp only [sPu]);omega) [g7]
    · simp (disch:=(try simp only [sPu]);omega) [g9]
  | struct typ size dflt tags fs =>
    have e11:(kindOf (.struct typ size dflt tags fs) == 11)=false:=rfl
    have e10:(kindOf (.struct typ size dflt tags fs) == 10)=true:=rfl
    refine SC.wp_seq (SC.wp_seq (SC.wp_reg ?_))
    repeat (first | (apply ops_1;(focus (simp (disch:=(try simp only [sPu]);omega) [hst,hc3,g4,e11];try rfl))) | (apply ops_y;(focus rfl);(focus ((try simp only [sPu]);omega));(focus (simp (disch:=(try simp only [sPu]);omega) [hst,hc3,g4,e11];done));(focus (simp (disch:=(try simp only [sPu]);omega) [hst,hc3,g4,e11];try rfl))) | (apply ops_n;(focus rfl);(focus ((try simp only [sPu]);omega));(focus (first | (left;simp (disch:=(try simp only [sPu]);omega) [hst,hc3,g4,e11];done) | (right;simp (disch:=(try simp only [sPu]);omega);done)))))
    refine oNi (SC.wp_cond (t:=false) (by simp (disch:=(try simp only [sPu]);omega)) ?_)
    rw [if_neg (by simp)]
    refine SC.wp_skip ?_
    simp only [Exit.then]
    refine SC.wp_seq (SC.wp_seq (SC.wp_reg ?_))
    cases enn:decide (0≤h.null)
    · repeat (first | (apply ops_1;(focus (simp (disch:=(try simp only [sPu]);omega) [hst,hc3,g4,e10,enn];try rfl))) | (apply ops_y;(focus rfl);(focus ((try simp only [sPu]);omega));(focus (simp (disch:=(try simp only [sPu]);omega) [hst,hc3,g4,e10,enn];done));(focus (simp (disch:=(try simp only [sPu]);omega) [hst,hc3,g4,e10,enn];try rfl))) | (apply ops_n;(focus rfl);(focus ((try simp only [sPu]);omega));(focus (first | (left;simp (disch:=(try simp only [sPu]);omega) [hst,hc3,g4,e10,enn];done) | (right;simp (disch:=(try simp only [sPu]);omega);done)))))
      refine oNi (SC.wp_cond (t:=false) (by simp (disch:=(try simp only [sPu]);omega)) ?_)
      rw [if_neg (by simp)]
      refine SC.wp_skip ?_
      simp only [Exit.then]
      refine plain rfl (by have:¬ 0≤h.null:=by simpa using enn
                           simp [wField,this,wTy]) _ (by simp [sPu,g]) (by simp [dPu,gd]) ?_ ?_ ?_ ?_ ?_
      · simp (disch:=(try simp only [sPu]);omega) [g1]
      · simp (disch:=(try simp only [sPu]);omega) [g2]
      · simp (disch:=(try simp only [sPu]);omega) [g4]
      · simp (disch:=(try simp only [sPu]);omega) [g7]
      · simp (disch:=(try simp only [sPu]);omega) [g9]
    · have h0n:0≤h.null:=by simpa using enn
      repeat (first | (apply ops_1;(focus (simp (disch:=(try simp only [sPu]);omega) [hst,hc3,g4,e10,enn];try rfl))) | (apply ops_y;(focus rfl);(focus ((try simp only [sPu]);omega));(focus (simp (disch:=(try simp only [sPu]);omega) [hst,hc3,g4,e10,enn];done));(focus (simp (disch:=(try simp only [sPu]);omega) [hst,hc3,g4,e10,enn];try rfl))) | (apply ops_n;(focus rfl);(focus ((try simp only [sPu]);omega));(focus (first | (left;simp (disch:=(try simp only [sPu]);omega) [hst,hc3,g4,e10,enn];done) | (right;simp (disch:=(try simp only [sPu]);omega);done)))))
      refine oNi (SC.wp_cond (t:=true) (by simp (disch:=(try simp only [sPu]);omega)) ?_)
      rw [if_pos rfl]
      refine SC.wp_seq (SC.wp_seq (SC.wp_reg ?_))
      repeat (first | (apply ops_1;(focus (simp (disch:=(try simp only [sPu]);omega) [g9];try rfl))) | (apply ops_y;(focus rfl);(focus ((try simp only [sPu]);omega));(focus (simp (disch:=(try simp only [sPu]);omega) [g9];done));(focus (simp (disch:=(try simp only [sPu]);omega) [g9];try rfl))) | (apply ops_n;(focus rfl);(focus ((try simp only [sPu]);omega));(focus (first | (left;simp (disch:=(try simp only [sPu]);omega) [g9];done) | (right;simp (disch:=(try simp only [sPu]);omega);done)))))
      refine oNi (SC.wp_cond (t:=nl) (by simp (disch:=(try simp only [sPu]);omega)) ?_)
      cases nl
      · rw [if_neg (by simp)]
        refine SC.wp_skip ?_
        simp only [Exit.then]
        have heq:wField ver flex h (.struct typ size dflt tags fs) (.mk n s tnull l u)=[1] ++ (wFs ver flex fs l ++ wTags flex u):=by simp [wField,h0n,hnl,wTy,Tree.l,Tree.u]
        rw [heq] at hl
        refine SC.wp_seq (SC.wp_dreg hm (Below (w.heap.size+2) w3.drew) [(1,true),(2,true),(3,true),(4,true),(5,true),(0,false),(6,false),(7,false),(8,true)] (by rfl) (by rfl) (by decide) (Below.refl _ _) ?_)
        have hlt:w.heap.size < w.heap.size+2:=by omega
        have hlt1:w.heap.size+1 < w.heap.size+2:=by omega
        have hcd:∀ j,w3.drew.cell? ⟨w.heap.size,j,none⟩=#[Value.int .i64 (kindOf (.struct typ size dflt tags fs)),.int .i64 h.from_,.int .i64 h.to,.int .i64 h.null,.int .i64 (-1),.int .i64 h.dflt,.int .i64 of_,sub][j]?:=hc3
        have hTd:rangeV w3.drew (w.heap.size+1) 0 5=some [.int .i64 n,.slice sb s.length sc,.bool tnull,.slice lb l.length lc,.slice ub u.length uc]:=(rangeV_mono (w:=w3.drew) (w0:=w3) rfl 5 0).trans hT5
        iterate 5 (first | (apply dr_1;(focus rfl);(focus (simp (disch:=(try simp only [sPu]);omega) [hst,g1,g2,g4,g7,hlt,hlt1,hcd,hTd];try rfl))) | (apply dr_y;(focus rfl);(focus rfl);(focus ((try simp only [sPu]);omega));(focus (simp (disch:=(try simp only [sPu]);omega) [hst,g1,g2,g4,g7,hlt,hlt1,hcd,hTd];done));(focus (simp (disch:=(try simp only [sPu]);omega) [hst,g1,g2,g4,g7,hlt,hlt1,hcd,hTd];try rfl))) | (apply dr_n;(focus rfl);(focus rfl);(focus ((try simp only [sPu]);omega));(focus (first | (left;simp (disch:=(try simp only [sPu]);omega) [hst,g1,g2,g4,g7,hlt,hlt1,hcd,hTd];done) | (right;simp (disch:=(try simp only [sPu]);omega);done)))))
        refine dreg_call (argsV:=#[.int .i64 1,.int .i64 ((1:Nat):Int)]) rfl S.oF (S.cF w3.drew 1 1 (by decide)) (by simp [eCo]) ?_
        rintro e w4 ⟨v,rfl,p1,p2⟩
        refine ⟨v,rfl,p2.mono (by exact hsz3),?_⟩
        rw [hf2] at p1
        have hw4:w3.heap.size≤w4.heap.size:=p2.size
        have hb4:Below w.heap.size w w4:=hbw.drew.trans ((show Below w3.heap.size w3.drew w4 from p2).mono (by omega))
        simp only [SubV] at hsub
        refine dreg_call rfl oP (cP w4 sub ver flex _ _ (FsV.down hb4 (by omega) hsub) (TV.down hb4 (by omega) ht0) (by simp only [Tree.l,Tree.u];simp only [List.length_append,List.length_cons,List.length_nil] at hl ⊢;omega)) (by simp (disch:=(try simp only [sPu]);omega) [treV]) ?_
        rintro e w5 ⟨v2,rfl,p3,p4⟩
        refine ⟨v2,rfl,(p2.mono hsz3).trans (p4.mono (by omega)),?_⟩
        have hB5:w.heap.size+2≤w5.heap.size:=by have:=p4.size;omega
        have ho1:Own X.U8 w5 (w.heap.size+2) v [1]:=own_down (own_keep p1 p4) hsz3
        refine dreg_n rfl rfl (opw_appendU8 (B:=w.heap.size+2) (dv:=v) (xv:=v2) (xs:=[1]) (bs:=wFs ver flex fs l ++ wTags flex u) hU8s (by simp (disch:=(try simp only [sPu]);omega)) (by simp (disch:=(try simp only [sPu]);omega)) rfl ho1 hB5 (src_own hU8s p3) (by simp only [List.length_append] at hl ⊢;exact hl) ?_)
        intro v3 w6 p5 p6 p7 _
        refine ⟨((p2.mono hsz3).trans (p4.mono (by omega))).trans p6,?_⟩
        repeat (first | (apply dr_1;(focus rfl);(focus (simp (disch:=(try simp only [sPu]);omega) ;try rfl))) | (apply dr_y;(focus rfl);(focus rfl);(focus ((try simp only [sPu]);omega));(focus (simp (disch:=(try simp only [sPu]);omega);done));(focus (simp (disch:=(try simp only [sPu]);omega) ;try rfl))) | (apply dr_n;(focus rfl);(focus rfl);(focus ((try simp only [sPu]);omega));(focus (first | (left;simp (disch:=(try simp only [sPu]);omega);done) | (right;simp (disch:=(try simp only [sPu]);omega);done)))))
        refine dreg_nil ?_
        simp only [Exit.then]
        refine SC.wp_ret ?_
        try simp only [Exit.then]
        exact fin _ _ _ v3 (by simp [dPu,gd]) (by simp (disch:=(try simp only [sPu]);omega)) (own_down p5 (by omega)) (hb4.trans ((p4.mono (by omega)).trans (p6.mono (by omega)))) heq.symm
      · rw [if_pos rfl]
        refine SC.wp_seq (SC.wp_reg ?_)
        refine ops_call (argsV:=#[.int .i64 (-1),.int .i64 ((1:Nat):Int)]) S.oF (S.cF w3 (-1) 1 (by decide)) (by simp [eCo]) ?_
        rintro e w4 ⟨v,rfl,p1,p2⟩
        refine ⟨v,rfl,?_⟩
        repeat (first | (apply ops_1;(focus (simp (disch:=(try simp only [sPu]);omega) ;try rfl))) | (apply ops_y;(focus rfl);(focus ((try simp only [sPu]);omega));(focus (simp (disch:=(try simp only [sPu]);omega);done));(focus (simp (disch:=(try simp only [sPu]);omega) ;try rfl))) | (apply ops_n;(focus rfl);(focus ((try simp only [sPu]);omega));(focus (first | (left;simp (disch:=(try simp only [sPu]);omega);done) | (right;simp (disch:=(try simp only [sPu]);omega);done)))))
        refine oNi (SC.wp_ret ?_)
        simp only [Exit.then]
        rw [hf1] at p1
        exact fin _ _ _ v (by simp [dPu,gd]) (by simp (disch:=(try simp only [sPu]);omega)) (own_down p1 (by omega)) (hbw.trans (p2.mono (by omega))) (by simp [wField,h0n,hnl])
  | list typ el size of =>
    simp only [ofOK] at hof
    obtain ⟨rfl,hofl⟩:=hof
    simp only [SubV] at hsub
    simp only [SubC] at cP
    have hlcase:∀ l':List Tree,l'=(if nl then [] else l.take most)→wField ver flex h (.list typ el size of) (.mk n s tnull l u)=counted flex nl l'.length 4 ++ l'.flatMap (fun x=>wTy ver flex of false x):=by
      intro l' hl'
      simp only [wField,wTy,hnl,Tree.l]
      rw [← hl']
    refine SC.wp_seq (SC.wp_seq (SC.wp_reg ?_))
    have e11:(kindOf (.list typ el size of) == 11)=true:=rfl
    repeat (first | (apply ops_1;(focus (simp (disch:=(try simp only [sPu]);omega) [hst,hc3,g4,e11];try rfl))) | (apply ops_y;(focus rfl);(focus ((try simp only [sPu]);omega));(focus (simp (disch:=(try simp only [sPu]);omega) [hst,hc3,g4,e11];done));(focus (simp (disch:=(try simp only [sPu]);omega) [hst,hc3,g4,e11];try rfl))) | (apply ops_n;(focus rfl);(focus ((try simp only [sPu]);omega));(focus (first | (left;simp (disch:=(try simp only [sPu]);omega) [hst,hc3,g4,e11];done) | (right;simp (disch:=(try simp only [sPu]);omega);done)))))
    refine oNi (SC.wp_cond (t:=true) (by simp (disch:=(try simp only [sPu]);omega)) ?_)
    rw [if_pos rfl]
    refine SC.wp_seq (SC.wp_reg ?_)
    iterate 2 (first | (apply ops_1;(focus (simp (disch:=(try simp only [sPu]);omega) [hst,hd3,g7];try rfl))) | (apply ops_y;(focus rfl);(focus ((try simp only [sPu]);omega));(focus (simp (disch:=(try simp only [sPu]);omega) [hst,hd3,g7];done));(focus (simp (disch:=(try simp only [sPu]);omega) [hst,hd3,g7];try rfl))) | (apply ops_n;(focus rfl);(focus ((try simp only [sPu]);omega));(focus (first | (left;simp (disch:=(try simp only [sPu]);omega) [hst,hd3,g7];done) | (right;simp (disch:=(try simp only [sPu]);omega);done)))))
    refine ops_call S.oTh (S.cTh w3 lb l.length lc hlc) (by simp (disch:=(try simp only [sPu]);omega)) ?_
    rintro e w4 ⟨rfl,rfl⟩
    refine ⟨_,rfl,?_⟩
    repeat (first | (apply ops_1;(focus (simp (disch:=(try simp only [sPu]);omega) ;try rfl))) | (apply ops_y;(focus rfl);(focus ((try simp only [sPu]);omega));(focus (simp (disch:=(try simp only [sPu]);omega);done));(focus (simp (disch:=(try simp only [sPu]);omega) ;try rfl))) | (apply ops_n;(focus rfl);(focus ((try simp only [sPu]);omega));(focus (first | (left;simp (disch:=(try simp only [sPu]);omega);done) | (right;simp (disch:=(try simp only [sPu]);omega);done)))))
    refine oNi ?_
    simp only [Exit.then]
    refine SC.wp_seq (SC.wp_seq (SC.wp_reg ?_))
    repeat (first | (apply ops_1;(focus (simp (disch:=(try simp only [sPu]);omega) [g9];try rfl))) | (apply ops_y;(focus rfl);(focus ((try simp only [sPu]);omega));(focus (simp (disch:=(try simp only [sPu]);omega) [g9];done));(focus (simp (disch:=(try simp only [sPu]);omega) [g9];try rfl))) | (apply ops_n;(focus rfl);(focus ((try simp only [sPu]);omega));(focus (first | (left;simp (disch:=(try simp only [sPu]);omega) [g9];done) | (right;simp (disch:=(try simp only [sPu]);omega);done)))))
    refine oNi (SC.wp_cond (t:=nl) (by simp (disch:=(try simp only [sPu]);omega)) ?_)
    have elen:(l.take most).length=min l.length most:=by simp [Nat.min_comm]
    cases nl
    · rw [if_neg (by simp)]
      refine SC.wp_skip ?_
      simp only [Exit.then]
      have heq:=hlcase (l.take most) rfl
      rw [heq] at hl
      refine list_tail hX S hm oV (hV of hofl cP) #[Value.int .i64 (kindOf (.list typ el size of)),.int .i64 h.from_,.int .i64 h.to,.int .i64 h.null,.int .i64 (-1),.int .i64 h.dflt,.int .i64 (kindOf of),sub] sub rfl rfl rfl hc3 hbw hsz3 hsub ver flex false (l.take most) lb lc b o cs
        (by rw [elen];omega) (by rw [elen];omega) ?_ ?_ ?_ (by simp [sPu,g]) (by simp (disch:=(try simp only [sPu]);omega) [g1]) (by simp (disch:=(try simp only [sPu]);omega) [g2]) (by simp (disch:=(try simp only [sPu]);omega) [g4]) (by simp (disch:=(try simp only [sPu]);omega) [g9]) (by simp (disch:=(try simp only [sPu]);omega) [elen]) hl ?_
      · intro hne
        exact hll (fun e=>hne (by rw [e];rfl))
      · intro i hi
        exact hrr i (by rw [elen] at hi;omega)
      · intro i x hx
        refine htt i x ?_
        rw [List.getElem?_take] at hx
        split at hx
        · exact hx
        · cases hx
      · intro a' w' v p1 p2 p3 p4
        exact fin _ _ _ v (by rw [p1];simp [dPu,gd]) p2 p3 p4 heq.symm
    · rw [if_pos rfl]
      refine SC.wp_reg ?_
      repeat (first | (apply ops_1;(focus (simp (disch:=(try simp only [sPu]);omega) ;try rfl))) | (apply ops_y;(focus rfl);(focus ((try simp only [sPu]);omega));(focus (simp (disch:=(try simp only [sPu]);omega);done));(focus (simp (disch:=(try simp only [sPu]);omega) ;try rfl))) | (apply ops_n;(focus rfl);(focus ((try simp only [sPu]);omega));(focus (first | (left;simp (disch:=(try simp only [sPu]);omega);done) | (right;simp (disch:=(try simp only [sPu]);omega);done)))))
      refine oNi ?_
      simp only [Exit.then]
      have heq:=hlcase [] rfl
      rw [heq] at hl
      refine list_tail hX S hm oV (hV of hofl cP) #[Value.int .i64 (kindOf (.list typ el size of)),.int .i64 h.from_,.int .i64 h.to,.int .i64 h.null,.int .i64 (-1),.int .i64 h.dflt,.int .i64 (kindOf of),sub] sub rfl rfl rfl hc3 hbw hsz3 hsub ver flex true [] none 0 0 0 (fun _=>[])
        (Nat.le_refl _) (Nat.zero_le _) (fun h=>absurd rfl h) (fun i hi=>by simp at hi) (fun i x hx=>by simp at hx) (by simp [sPu,g]) (by simp (disch:=(try simp only [sPu]);omega) [g1]) (by simp (disch:=(try simp only [sPu]);omega) [g2]) (by simp (disch:=(try simp only [sPu]);omega) [g4]) (by simp (disch:=(try simp only [sPu]);omega) [g9]) (by simp (disch:=(try simp only [sPu]);omega)) hl ?_
      intro a' w' v p1 p2 p3 p4
      exact fin _ _ _ v (by rw [p1];simp [dPu,gd]) p2 p3 p4 heq.symm
end
end Go.Proofs.YtecdefhecaeclaaDoor.K
namespace Go.Proofs.YtecdefhecaeclaaDoor.K
open Go Go.RowKit Go.Proofs.YtecdefhecaeclaaDoor.T
attribute [local simp] eTm eCo pNo gTp gTn qv qcall vop iop
set_option linter.unusedSimpArgs false
set_option linter.unusedVariables false
set_option maxHeartbeats 2000000
def sc_BE16 (T0 T1 T2 T3 T4:Nat):SC:=.seq (.reg [⟨some 2,.box T0 (.tmp 0),none⟩,⟨some 4,.assign (.const (.int .u16 0)),none⟩]) (.seq (.reg [mv 5 1,⟨some 6,.indexAddr T1 (.tmp 5) (.const (.int .i64 1)),none⟩,ld 7 T2 6]) (.seq (.dreg [mv 8 1,⟨some 9,.indexAddr T1 (.tmp 8) (.const (.int .i64 1)),none⟩,ld 10 T2 9,⟨some 11,.convert T2 T3 (.tmp 10),none⟩,mv 12 1,⟨some 13,.indexAddr T1 (.tmp 12) (.const (.int .i64 0)),none⟩,ld 14 T2 13,⟨some 15,.convert T2 T3 (.tmp 14),none⟩,⟨some 16,.binOp .shl T3 (.tmp 15) (.const (.int .u64 8)) T4,none⟩,⟨some 17,.binOp .or T3 (.tmp 11) (.tmp 16) T3,none⟩,asg 4 17] [[],[0],[1],[2],[],[4],[5],[6],[7],[3,8],[9,0,1,2,3,4,5,6,7,8,9]]) (.ret)))
def sc_BE32 (T0 T1 T2 T3 T4:Nat):SC:=.seq (.reg [⟨some 2,.box T0 (.tmp 0),none⟩,⟨some 4,.assign (.const (.int .u32 0)),none⟩]) (.seq (.reg [mv 5 1,⟨some 6,.indexAddr T1 (.tmp 5) (.const (.int .i64 3)),none⟩,ld 7 T2 6]) (.seq (.dreg [mv 8 1,⟨some 9,.indexAddr T1 (.tmp 8) (.const (.int .i64 3)),none⟩,ld 10 T2 9,⟨some 11,.convert T2 T3 (.tmp 10),none⟩,mv 12 1,⟨some 13,.indexAddr T1 (.tmp 12) (.const (.int .i64 2)),none⟩,ld 14 T2 13,⟨some 15,.convert T2 T3 (.tmp 14),none⟩,⟨some 16,.binOp .shl T3 (.tmp 15) (.const (.int .u64 8)) T4,none⟩,⟨some 17,.binOp .or T3 (.tmp 11) (.tmp 16) T3,none⟩,mv 18 1,⟨some 19,.indexAddr T1 (.tmp 18) (.const (.int .i64 1)),none⟩,ld 20 T2 19,⟨some 21,.convert T2 T3 (.tmp 20),none⟩,⟨some 22,.binOp .shl T3 (.tmp 21) (.const (.int .u64 16)) T4,none⟩,⟨some 23,.binOp .or T3 (.tmp 17) (.tmp 22) T3,none⟩,mv 24 1,⟨some 25,.indexAddr T1 (.tmp 24) (.const (.int .i64 0)),none⟩,ld 26 T2 25,⟨some 27,.convert T2 T3 (.tmp 26),none⟩,⟨some 28,.binOp .shl T3 (.tmp 27) (.const (.int .u64 24)) T4,none⟩,⟨some 29,.binOp .or T3 (.tmp 23) (.tmp 28) T3,none⟩,asg 4 29] [[],[0],[1],[2],[],[4],[5],[6],[7],[3,8],[],[10],[11],[12],[13],[9,14],[],[16],[17],[18],[19],[15,20],[21,0,1,2,3,4,5,6,7,8,9,10,11,12,13,14,15,16,17,18,19,20,21]]) (.ret)))
def sc_BE64 (T0 T1 T2 T3 T4:Nat):SC:=.seq (.reg [⟨some 2,.box T0 (.tmp 0),none⟩,⟨some 4,.assign (.const (.int .u64 0)),none⟩]) (.seq (.reg [mv 5 1,⟨some 6,.indexAddr T1 (.tmp 5) (.const (.int .i64 7)),none⟩,ld 7 T2 6]) (.seq (.dreg [mv 8 1,⟨some 9,.indexAddr T1 (.tmp 8) (.const (.int .i64 7)),none⟩,ld 10 T2 9,⟨some 11,.convert T2 T3 (.tmp 10),none⟩,mv 12 1,⟨some 13,.indexAddr T1 (.tmp 12) (.const (.int .i64 6)),none⟩,ld 14 T2 13,⟨some 15,.convert T2 T3 (.tmp 14),none⟩,⟨some 16,.binOp .shl T3 (.tmp 15) (.const (.int .u64 8)) T4,none⟩,⟨some 17,.binOp .or T3 (.tmp 11) (.tmp 16) T3,none⟩,mv 18 1,⟨some 19,.indexAddr T1 (.tmp 18) (.const (.int .i64 5)),none⟩,ld 20 T2 19,⟨some 21,.convert T2 T3 (.tmp 20),none⟩,⟨some 22,.binOp .shl T3 (.tmp 21) (.const (.int .u64 16)) T4,none⟩,⟨some 23,.binOp .or T3 (.tmp 17) (.tmp 22) T3,none⟩,mv 24 1,⟨some 25,.indexAddr T1 (.tmp 24) (.const (.int .i64 4)),none⟩,ld 26 T2 25,⟨some 27,.convert T2 T3 (.tmp 26),none⟩,⟨some 28,.binOp .shl T3 (.tmp 27) (.const (.int .u64 24)) T4,none⟩,⟨some 29,.binOp .or T3 (.tmp 23) (.tmp 28) T3,none⟩,mv 30 1,⟨some 31,.indexAddr T1 (.tmp 30) (.const (.int .i64 3)),none⟩,ld 32 T2 31,⟨some 33,.convert T2 T3 (.tmp 32),none⟩,⟨some 34,.binOp .shl T3 (.tmp 33) (.const (.int .u64 32)) T4,none⟩,⟨some 35,.binOp .or T3 (.tmp 29) (.tmp 34) T3,none⟩,mv 36 1,⟨some 37,.indexAddr T1 (.tmp 36) (.const (.int .i64 2)),none⟩,ld 38 T2 37,⟨some 39,.convert T2 T3 (.tmp 38),none⟩,⟨some 40,.binOp .shl T3 (.tmp 39) (.const (.int .u64 40)) T4,none⟩,⟨some 41,.binOp .or T3 (.tmp 35) (.tmp 40) T3,none⟩,mv 42 1,⟨some 43,.indexAddr T1 (.tmp 42) (.const (.int .i64 1)),none⟩,ld 44 T2 43,⟨some 45,.convert T2 T3 (.tmp 44),none⟩,⟨some 46,.binOp .shl T3 (.tmp 45) (.const (.int .u64 48)) T4,none⟩,⟨some 47,.binOp .or T3 (.tmp 41) (.tmp 46) T3,none⟩,mv 48 1,⟨some 49,.indexAddr T1 (.tmp 48) (.const (.int .i64 0)),none⟩,ld 50 T2 49,⟨some 51,.convert T2 T3 (.tmp 50),none⟩,⟨some 52,.binOp .shl T3 (.tmp 51) (.const (.int .u64 56)) T4,none⟩,⟨some 53,.binOp .or T3 (.tmp 47) (.tmp 52) T3,none⟩,asg 4 53] [[],[0],[1],[2],[],[4],[5],[6],[7],[3,8],[],[10],[11],[12],[13],[9,14],[],[16],[17],[18],[19],[15,20],[],[22],[23],[24],[25],[21,26],[],[28],[29],[30],[31],[27,32],[],[34],[35],[36],[37],[33,38],[],[40],[41],[42],[43],[39,44],[45,0,1,2,3,4,5,6,7,8,9,10,11,12,13,14,15,16,17,18,19,20,21,22,23,24,25,26,27,28,29,30,31,32,33,34,35,36,37,38,39,40,41,42,43,44,45]]) (.ret)))
theorem or_add {bits a b s:Nat} (ha:a < 2 ^ s) (h:a+b * 2 ^ s < 2 ^ bits):(BitVec.ofInt bits (a:Int) ||| BitVec.ofInt bits ((b:Int) * (2 ^ s:Nat))).toNat=a+b * 2 ^ s:=by
  have e1:(BitVec.ofInt bits (a:Int)).toNat=a:=by
    rw [BitVec.ofInt_natCast,BitVec.toNat_ofNat]
    exact Nat.mod_eq_of_lt (by omega)
  have e2:(BitVec.ofInt bits ((b:Int) * (2 ^ s:Nat))).toNat=b * 2 ^ s:=by
    rw [← Int.natCast_mul,BitVec.ofInt_natCast,BitVec.toNat_ofNat]
    exact Nat.mod_eq_of_lt (by omega)
  rw [BitVec.toNat_or,e1,e2,Nat.or_comm,Nat.mul_comm b,← Nat.two_pow_add_eq_or_of_lt ha b]
  omega
theorem or_add2 {bits a b s:Nat} {A B:Int} (hA:A=(a:Int)) (hB:B=((b * 2 ^ s:Nat):Int)) (ha:a < 2 ^ s) (h:a+b * 2 ^ s < 2 ^ bits):(BitVec.ofInt bits A ||| BitVec.ofInt bits B).toNat=a+b * 2 ^ s:=by
  subst hA hB
  rw [Int.natCast_mul]
  exact or_add ha h
theorem wrap_uN {k:IntKind} (hk:k.signed=false) {n:Nat} (h:n < 2 ^ k.bits):k.wrap (n:Int)=n:=by
  cases k <;> simp [IntKind.signed] at hk <;> simp only [IntKind.wrap,IntKind.bits,IntKind.signed] at h ⊢ <;> simp <;> omega
theorem be2_ok {P:Program} {f:FuncId} {fn:Func} {R:RTy} {T0 T3 T4:Nat} (hm:P.follows .mixedOrders=true) (hR:rdOK P R=true) (hi3:intK P T3=some .u16) (hf:P.funcs[f]?=some fn) (hb:fn.body.map strip=some (sc_BE16 T0 R.TB R.U8 T3 T4)) (hn:fn.ntmps=18) (hr:fn.results=#[.tmp 4])
    (w:World) (sb q len cap:Nat) (u0 u1:UInt8) (hlen:2≤len) (hsb:sb < w.heap.size) (hc:∀ j u,[u0,u1][j]?=some u→w.cell? ⟨sb,q+j,none⟩=some (cell u)) :
    Calls P f #[.agg #[],.slice (some ⟨sb,q,none⟩) len cap] w fun e w'=>e=.returned (.int .u16 ((unfix [u0,u1]:Nat):Int))∧Below w.heap.size w w':=by
  have hst:=rd_facts hR
  refine fCa hf hb hn (by simp) fun a0 hs hd ha=>?_
  have h0:=ha 0 _ rfl
  have h1:=ha 1 _ rfl
  simp only [List.getElem_toArray,List.getElem_cons_zero,List.getElem_cons_succ] at h0 h1
  have c0:=hc 0 u0 rfl
  have c1:=hc 1 u1 rfl
  simp only [cell,Nat.add_zero] at c0 c1
  have hlt:u0.toNat < 256∧u1.toNat < 256:=⟨u0.toNat_lt,u1.toNat_lt⟩
  refine SC.wp_seq (SC.wp_reg (oNo rfl (opw_box h0 ?_)))
  repeat (apply ops_1;(focus (simp (disch:=(try simp only [sPu]);omega) ;try rfl)))
  refine oNi ?_
  simp only [Exit.then]
  generalize hw1:w.alloc (.cells (Value.agg #[]).cells T0)=w1
  have hb1:Below w.heap.size w w1:=by rw [← hw1];exact (Below.refl _ _).alloc (Nat.le_refl _) _
  have hl1:sb < w1.heap.size:=Nat.lt_of_lt_of_le hsb hb1.size
  have d0:w1.cell? ⟨sb,q,none⟩=some (.int .u8 (u0.toNat:Int)):=by rw [hb1.cell (p:=⟨sb,q,none⟩) hsb];exact c0
  have d1:w1.cell? ⟨sb,q+1,none⟩=some (.int .u8 (u1.toNat:Int)):=by rw [hb1.cell (p:=⟨sb,q+1,none⟩) hsb];exact c1
  have g0:0 < len:=by omega
  have g1:(1:Int) < (len:Int):=by omega
  have x0:IntKind.u16.wrap (u0.toNat:Int)=(u0.toNat:Int):=wrap_uN rfl (by have:=u0.toNat_lt;simp only [IntKind.bits];omega)
  have x1:IntKind.u16.wrap (u1.toNat:Int)=(u1.toNat:Int):=wrap_uN rfl (by have:=u1.toNat_lt;simp only [IntKind.bits];omega)
  have s0:IntKind.u16.wrap ((u0.toNat:Int) * 256)=(u0.toNat:Int) * 256:=by
    have:=wrap_uN (k:=.u16) rfl (n:=u0.toNat * 256) (by have:=u0.toNat_lt;simp only [IntKind.bits];omega)
    simpa using this
  have o0:IntKind.u16.wrap ((BitVec.ofInt IntKind.u16.bits ((u1.toNat:Int)) ||| BitVec.ofInt IntKind.u16.bits ((u0.toNat:Int) * 256)).toNat:Int)=(u1.toNat:Int)+(u0.toNat:Int) * 256:=by
    rw [or_add2 (a:=u1.toNat) (b:=u0.toNat) (s:=8) (by omega) (by omega) (by omega) (by simp only [IntKind.bits];omega)]
    rw [wrap_uN (k:=.u16) rfl (n:=u1.toNat+u0.toNat * 2 ^ 8) (by simp only [IntKind.bits];omega)]
    omega
  have b1:8≤IntKind.u16.bits:=by decide
  refine SC.wp_seq (SC.wp_reg ?_)
  repeat (apply ops_1;(focus (simp (disch:=(try simp only [sPu]);omega) [hst,h1,hi3,hl1,d0,g0,x0,d1,g1,x1,s0,o0,b1];try rfl)))
  refine oNi ?_
  simp only [Exit.then]
  refine SC.wp_seq (SC.wp_dreg hm (Below w1.heap.size w1.drew) [(0,true),(1,true),(2,true),(3,true),(4,true),(5,true),(6,true),(7,true),(8,true),(9,true),(10,true)] (by rfl) (by rfl) (by decide) (Below.refl _ _) ?_)
  have e0:w1.drew.cell? ⟨sb,q,none⟩=some (.int .u8 (u0.toNat:Int)):=d0
  have e1:w1.drew.cell? ⟨sb,q+1,none⟩=some (.int .u8 (u1.toNat:Int)):=d1
  repeat (apply dr_1;(focus rfl);(focus (simp (disch:=(try simp only [sPu]);omega) [hst,h1,hi3,hl1,e0,g0,x0,e1,g1,x1,s0,o0,b1,-BitVec.toNat_or,-BitVec.ofInt_natCast,-BitVec.toNat_ofInt,-BitVec.toNat_ofNat];try rfl)))
  refine dreg_nil ?_
  simp only [Exit.then]
  refine SC.wp_ret (ret_tmp hr (by simp [dPu,hd]) ⟨?_,hb1.drew⟩)
  simp (disch:=(try simp only [sPu]);omega) [-BitVec.toNat_or,-BitVec.ofInt_natCast,-BitVec.toNat_ofInt,-BitVec.toNat_ofNat]
  simp only [unfix,List.length_cons,List.length_nil,Nat.reduceAdd,Nat.reducePow]
  omega
theorem be4_ok {P:Program} {f:FuncId} {fn:Func} {R:RTy} {T0 T3 T4:Nat} (hm:P.follows .mixedOrders=true) (hR:rdOK P R=true) (hi3:intK P T3=some .u32) (hf:P.funcs[f]?=some fn) (hb:fn.body.map strip=some (sc_BE32 T0 R.TB R.U8 T3 T4)) (hn:fn.ntmps=30) (hr:fn.results=#[.tmp 4])
    (w:World) (sb q len cap:Nat) (u0 u1 u2 u3:UInt8) (hlen:4≤len) (hsb:sb < w.heap.size) (hc:∀ j u,[u0,u1,u2,u3][j]?=some u→w.cell? ⟨sb,q+j,none⟩=some (cell u)) :
    Calls P f #[.agg #[],.slice (some ⟨sb,q,none⟩) len cap] w fun e w'=>e=.returned (.int .u32 ((unfix [u0,u1,u2,u3]:Nat):Int))∧Below w.heap.size w w':=by
  have hst:=rd_facts hR
  refine fCa hf hb hn (by simp) fun a0 hs hd ha=>?_
  have h0:=ha 0 _ rfl
  have h1:=ha 1 _ rfl
  simp only [List.getElem_toArray,List.getElem_cons_zero,List.getElem_cons_succ] at h0 h1
  have c0:=hc 0 u0 rfl
  have c1:=hc 1 u1 rfl
  have c2:=hc 2 u2 rfl
  have c3:=hc 3 u3 rfl
  simp only [cell,Nat.add_zero] at c0 c1 c2 c3
  have hlt:u0.toNat < 256∧u1.toNat < 256∧u2.toNat < 256∧u3.toNat < 256:=⟨u0.toNat_lt,u1.toNat_lt,u2.toNat_lt,u3.toNat_lt⟩
  refine SC.wp_seq (SC.wp_reg (oNo rfl (opw_box h0 ?_)))
  repeat (apply ops_1;(focus (simp (disch:=(try simp only [sPu]);omega) ;try rfl)))
  refine oNi ?_
  simp only [Exit.then]
  generalize hw1:w.alloc (.cells (Value.agg #[]).cells T0)=w1
  have hb1:Below w.heap.size w w1:=by rw [← hw1];exact (Below.refl _ _).alloc (Nat.le_refl _) _
  have hl1:sb < w1.heap.size:=Nat.lt_of_lt_of_le hsb hb1.size
  have d0:w1.cell? ⟨sb,q,none⟩=some (.int .u8 (u0.toNat:Int)):=by rw [hb1.cell (p:=⟨sb,q,none⟩) hsb];exact c0
  have d1:w1.cell? ⟨sb,q+1,none⟩=some (.int .u8 (u1.toNat:Int)):=by rw [hb1.cell (p:=⟨sb,q+1,none⟩) hsb];exact c1
  have d2:w1.cell? ⟨sb,q+2,none⟩=some (.int .u8 (u2.toNat:Int)):=by rw [hb1.cell (p:=⟨sb,q+2,none⟩) hsb];exact c2
  have d3:w1.cell? ⟨sb,q+3,none⟩=some (.int .u8 (u3.toNat:Int)):=by rw [hb1.cell (p:=⟨sb,q+3,none⟩) hsb];exact c3
  have g0:0 < len:=by omega
  have g1:(1:Int) < (len:Int):=by omega
  have g2:(2:Int) < (len:Int):=by omega
  have g3:(3:Int) < (len:Int):=by omega
  have x0:IntKind.u32.wrap (u0.toNat:Int)=(u0.toNat:Int):=wrap_uN rfl (by have:=u0.toNat_lt;simp only [IntKind.bits];omega)
  have x1:IntKind.u32.wrap (u1.toNat:Int)=(u1.toNat:Int):=wrap_uN rfl (by have:=u1.toNat_lt;simp only [IntKind.bits];omega)
  have x2:IntKind.u32.wrap (u2.toNat:Int)=(u2.toNat:Int):=wrap_uN rfl (by have:=u2.toNat_lt;simp only [IntKind.bits];omega)
  have x3:IntKind.u32.wrap (u3.toNat:Int)=(u3.toNat:Int):=wrap_uN rfl (by have:=u3.toNat_lt;simp only [IntKind.bits];omega)
  have s2:IntKind.u32.wrap ((u2.toNat:Int) * 256)=(u2.toNat:Int) * 256:=by
    have:=wrap_uN (k:=.u32) rfl (n:=u2.toNat * 256) (by have:=u2.toNat_lt;simp only [IntKind.bits];omega)
    simpa using this
  have s1:IntKind.u32.wrap ((u1.toNat:Int) * 65536)=(u1.toNat:Int) * 65536:=by
    have:=wrap_uN (k:=.u32) rfl (n:=u1.toNat * 65536) (by have:=u1.toNat_lt;simp only [IntKind.bits];omega)
    simpa using this
  have s0:IntKind.u32.wrap ((u0.toNat:Int) * 16777216)=(u0.toNat:Int) * 16777216:=by
    have:=wrap_uN (k:=.u32) rfl (n:=u0.toNat * 16777216) (by have:=u0.toNat_lt;simp only [IntKind.bits];omega)
    simpa using this
  have o2:IntKind.u32.wrap ((BitVec.ofInt IntKind.u32.bits ((u3.toNat:Int)) ||| BitVec.ofInt IntKind.u32.bits ((u2.toNat:Int) * 256)).toNat:Int)=(u3.toNat:Int)+(u2.toNat:Int) * 256:=by
    rw [or_add2 (a:=u3.toNat) (b:=u2.toNat) (s:=8) (by omega) (by omega) (by omega) (by simp only [IntKind.bits];omega)]
    rw [wrap_uN (k:=.u32) rfl (n:=u3.toNat+u2.toNat * 2 ^ 8) (by simp only [IntKind.bits];omega)]
    omega
  have o1:IntKind.u32.wrap ((BitVec.ofInt IntKind.u32.bits ((u3.toNat:Int)+(u2.toNat:Int) * 256) ||| BitVec.ofInt IntKind.u32.bits ((u1.toNat:Int) * 65536)).toNat:Int)=(u3.toNat:Int)+(u2.toNat:Int) * 256+(u1.toNat:Int) * 65536:=by
    rw [or_add2 (a:=u3.toNat+u2.toNat * 256) (b:=u1.toNat) (s:=16) (by omega) (by omega) (by omega) (by simp only [IntKind.bits];omega)]
    rw [wrap_uN (k:=.u32) rfl (n:=u3.toNat+u2.toNat * 256+u1.toNat * 2 ^ 16) (by simp only [IntKind.bits];omega)]
    omega
  have o0:IntKind.u32.wrap ((BitVec.ofInt IntKind.u32.bits ((u3.toNat:Int)+(u2.toNat:Int) * 256+(u1.toNat:Int) * 65536) ||| BitVec.ofInt IntKind.u32.bits ((u0.toNat:Int) * 16777216)).toNat:Int)=(u3.toNat:Int)+(u2.toNat:Int) * 256+(u1.toNat:Int) * 65536+(u0.toNat:Int) * 16777216:=by
    rw [or_add2 (a:=u3.toNat+u2.toNat * 256+u1.toNat * 65536) (b:=u0.toNat) (s:=24) (by omega) (by omega) (by omega) (by simp only [IntKind.bits];omega)]
    rw [wrap_uN (k:=.u32) rfl (n:=u3.toNat+u2.toNat * 256+u1.toNat * 65536+u0.toNat * 2 ^ 24) (by simp only [IntKind.bits];omega)]
    omega
  have b1:8≤IntKind.u32.bits:=by decide
  have b2:16≤IntKind.u32.bits:=by decide
  have b3:24≤IntKind.u32.bits:=by decide
  refine SC.wp_seq (SC.wp_reg ?_)
  repeat (apply ops_1;(focus (simp (disch:=(try simp only [sPu]);omega) [hst,h1,hi3,hl1,d0,g0,x0,d1,g1,x1,d2,g2,x2,d3,g3,x3,s0,o0,s1,o1,s2,o2,b1,b2,b3];try rfl)))
  refine oNi ?_
  simp only [Exit.then]
  refine SC.wp_seq (SC.wp_dreg hm (Below w1.heap.size w1.drew) [(0,true),(1,true),(2,true),(3,true),(4,true),(5,true),(6,true),(7,true),(8,true),(9,true),(10,true),(11,true),(12,true),(13,true),(14,true),(15,true),(16,true),(17,true),(18,true),(19,true),(20,true),(21,true),(22,true)] (by rfl) (by rfl) (by decide) (Below.refl _ _) ?_)
  have e0:w1.drew.cell? ⟨sb,q,none⟩=some (.int .u8 (u0.toNat:Int)):=d0
  have e1:w1.drew.cell? ⟨sb,q+1,none⟩=some (.int .u8 (u1.toNat:Int)):=d1
  have e2:w1.drew.cell? ⟨sb,q+2,none⟩=some (.int .u8 (u2.toNat:Int)):=d2
  have e3:w1.drew.cell? ⟨sb,q+3,none⟩=some (.int .u8 (u3.toNat:Int)):=d3
  repeat (apply dr_1;(focus rfl);(focus (simp (disch:=(try simp only [sPu]);omega) [hst,h1,hi3,hl1,e0,g0,x0,e1,g1,x1,e2,g2,x2,e3,g3,x3,s0,o0,s1,o1,s2,o2,b1,b2,b3,-BitVec.toNat_or,-BitVec.ofInt_natCast,-BitVec.toNat_ofInt,-BitVec.toNat_ofNat];try rfl)))
  refine dreg_nil ?_
  simp only [Exit.then]
  refine SC.wp_ret (ret_tmp hr (by simp [dPu,hd]) ⟨?_,hb1.drew⟩)
  simp (disch:=(try simp only [sPu]);omega) [-BitVec.toNat_or,-BitVec.ofInt_natCast,-BitVec.toNat_ofInt,-BitVec.toNat_ofNat]
  simp only [unfix,List.length_cons,List.length_nil,Nat.reduceAdd,Nat.reducePow]
  omega
theorem be8_ok {P:Program} {f:FuncId} {fn:Func} {R:RTy} {T0 T3 T4:Nat} (hm:P.follows .mixedOrders=true) (hR:rdOK P R=true) (hi3:intK P T3=some .u64) (hf:P.funcs[f]?=some fn) (hb:fn.body.map strip=some (sc_BE64 T0 R.TB R.U8 T3 T4)) (hn:fn.ntmps=54) (hr:fn.results=#[.tmp 4])
    (w:World) (sb q len cap:Nat) (u0 u1 u2 u3 u4 u5 u6 u7:UInt8) (hlen:8≤len) (hsb:sb < w.heap.size) (hc:∀ j u,[u0,u1,u2,u3,u4,u5,u6,u7][j]?=some u→w.cell? ⟨sb,q+j,none⟩=some (cell u)) :
    Calls P f #[.agg #[],.slice (some ⟨sb,q,none⟩) len cap] w fun e w'=>e=.returned (.int .u64 ((unfix [u0,u1,u2,u3,u4,u5,u6,u7]:Nat):Int))∧Below w.heap.size w w':=by
  have hst:=rd_facts hR
  refine fCa hf hb hn (by simp) fun a0 hs hd ha=>?_
  have h0:=ha 0 _ rfl
  have h1:=ha 1 _ rfl
  simp only [List.getElem_toArray,List.getElem_cons_zero,List.getElem_cons_succ] at h0 h1
  have c0:=hc 0 u0 rfl
  have c1:=hc 1 u1 rfl
  have c2:=hc 2 u2 rfl
  have c3:=hc 3 u3 rfl
  have c4:=hc 4 u4 rfl
  have c5:=hc 5 u5 rfl
  have c6:=hc 6 u6 rfl
  have c7:=hc 7 u7 rfl
  simp only [cell,Nat.add_zero] at c0 c1 c2 c3 c4 c5 c6 c7
  have hlt:u0.toNat < 256∧u1.toNat < 256∧u2.toNat < 256∧u3.toNat < 256∧u4.toNat < 256∧u5.toNat < 256∧u6.toNat < 256∧u7.toNat < 256:=⟨u0.toNat_lt,u1.toNat_lt,u2.toNat_lt,u3.toNat_lt,u4.toNat_lt,u5.toNat_lt,u6.toNat_lt,u7.toNat_lt⟩
  refine SC.wp_seq (SC.wp_reg (oNo rfl (opw_box h0 ?_)))
  repeat (apply ops_1;(focus (simp (disch:=(try simp only [sPu]);omega) ;try rfl)))
  refine oNi ?_
  simp only [Exit.then]
  generalize hw1:w.alloc (.cells (Value.agg #[]).cells T0)=w1
  have hb1:Below w.heap.size w w1:=by rw [← hw1];exact (Below.refl _ _).alloc (Nat.le_refl _) _
  have hl1:sb < w1.heap.size:=Nat.lt_of_lt_of_le hsb hb1.size
  have d0:w1.cell? ⟨sb,q,none⟩=some (.int .u8 (u0.toNat:Int)):=by rw [hb1.cell (p:=⟨sb,q,none⟩) hsb];exact c0
  have d1:w1.cell? ⟨sb,q+1,none⟩=some (.int .u8 (u1.toNat:Int)):=by rw [hb1.cell (p:=⟨sb,q+1,none⟩) hsb];exact c1
  have d2:w1.cell? ⟨sb,q+2,none⟩=some (.int .u8 (u2.toNat:Int)):=by rw [hb1.cell (p:=⟨sb,q+2,none⟩) hsb];exact c2
  have d3:w1.cell? ⟨sb,q+3,none⟩=some (.int .u8 (u3.toNat:Int)):=by rw [hb1.cell (p:=⟨sb,q+3,none⟩) hsb];exact c3
  have d4:w1.cell? ⟨sb,q+4,none⟩=some (.int .u8 (u4.toNat:Int)):=by rw [hb1.cell (p:=⟨sb,q+4,none⟩) hsb];exact c4
  have d5:w1.cell? ⟨sb,q+5,none⟩=some (.int .u8 (u5.toNat:Int)):=by rw [hb1.cell (p:=⟨sb,q+5,none⟩) hsb];exact c5
  have d6:w1.cell? ⟨sb,q+6,none⟩=some (.int .u8 (u6.toNat:Int)):=by rw [hb1.cell (p:=⟨sb,q+6,none⟩) hsb];exact c6
  have d7:w1.cell? ⟨sb,q+7,none⟩=some (.int .u8 (u7.toNat:Int)):=by rw [hb1.cell (p:=⟨sb,q+7,none⟩) hsb];exact c7
  have g0:0 < len:=by omega
  have g1:(1:Int) < (len:Int):=by omega
  have g2:(2:Int) < (len:Int):=by omega
  have g3:(3:Int) < (len:Int):=by omega
  have g4:(4:Int) < (len:Int):=by omega
  have g5:(5:Int) < (len:Int):=by omega
  have g6:(6:Int) < (len:Int):=by omega
  have g7:(7:Int) < (len:Int):=by omega
  have x0:IntKind.u64.wrap (u0.toNat:Int)=(u0.toNat:Int):=wrap_uN rfl (by have:=u0.toNat_lt;simp only [IntKind.bits];omega)
  have x1:IntKind.u64.wrap (u1.toNat:Int)=(u1.toNat:Int):=wrap_uN rfl (by have:=u1.toNat_lt;simp only [IntKind.bits];omega)
  have x2:IntKind.u64.wrap (u2.toNat:Int)=(u2.toNat:Int):=wrap_uN rfl (by have:=u2.toNat_lt;simp only [IntKind.bits];omega)
  have x3:IntKind.u64.wrap (u3.toNat:Int)=(u3.toNat:Int):=wrap_uN rfl (by have:=u3.toNat_lt;simp only [IntKind.bits];omega)
  have x4:IntKind.u64.wrap (u4.toNat:Int)=(u4.toNat:Int):=wrap_uN rfl (by have:=u4.toNat_lt;simp only [IntKind.bits];omega)
  have x5:IntKind.u64.wrap (u5.toNat:Int)=(u5.toNat:Int):=wrap_uN rfl (by have:=u5.toNat_lt;simp only [IntKind.bits];omega)
  have x6:IntKind.u64.wrap (u6.toNat:Int)=(u6.toNat:Int):=wrap_uN rfl (by have:=u6.toNat_lt;simp only [IntKind.bits];omega)
  have x7:IntKind.u64.wrap (u7.toNat:Int)=(u7.toNat:Int):=wrap_uN rfl (by have:=u7.toNat_lt;simp only [IntKind.bits];omega)
  have s6:IntKind.u64.wrap ((u6.toNat:Int) * 256)=(u6.toNat:Int) * 256:=by
    have:=wrap_uN (k:=.u64) rfl (n:=u6.toNat * 256) (by have:=u6.toNat_lt;simp only [IntKind.bits];omega)
    simpa using this
  have s5:IntKind.u64.wrap ((u5.toNat:Int) * 65536)=(u5.toNat:Int) * 65536:=by
    have:=wrap_uN (k:=.u64) rfl (n:=u5.toNat * 65536) (by have:=u5.toNat_lt;simp only [IntKind.bits];omega)
    simpa using this
  have s4:IntKind.u64.wrap ((u4.toNat:Int) * 16777216)=(u4.toNat:Int) * 16777216:=by
    have:=wrap_uN (k:=.u64) rfl (n:=u4.toNat * 16777216) (by have:=u4.toNat_lt;simp only [IntKind.bits];omega)
    simpa using this
  have s3:IntKind.u64.wrap ((u3.toNat:Int) * 4294967296)=(u3.toNat:Int) * 4294967296:=by
    have:=wrap_uN (k:=.u64) rfl (n:=u3.toNat * 4294967296) (by have:=u3.toNat_lt;simp only [IntKind.bits];omega)
    simpa using this
  have s2:IntKind.u64.wrap ((u2.toNat:Int) * 1099511627776)=(u2.toNat:Int) * 1099511627776:=by
    have:=wrap_uN (k:=.u64) rfl (n:=u2.toNat * 1099511627776) (by have:=u2.toNat_lt;simp only [IntKind.bits];omega)
    simpa using this
  have s1:IntKind.u64.wrap ((u1.toNat:Int) * 281474976710656)=(u1.toNat:Int) * 281474976710656:=by
    have:=wrap_uN (k:=.u64) rfl (n:=u1.toNat * 281474976710656) (by have:=u1.toNat_lt;simp only [IntKind.bits];omega)
    simpa using this
  have s0:IntKind.u64.wrap ((u0.toNat:Int) * 72057594037927936)=(u0.toNat:Int) * 72057594037927936:=by
    have:=wrap_uN (k:=.u64) rfl (n:=u0.toNat * 72057594037927936) (by have:=u0.toNat_lt;simp only [IntKind.bits];omega)
    simpa using this
  have o6:IntKind.u64.wrap ((BitVec.ofInt IntKind.u64.bits ((u7.toNat:Int)) ||| BitVec.ofInt IntKind.u64.bits ((u6.toNat:Int) * 256)).toNat:Int)=(u7.toNat:Int)+(u6.toNat:Int) * 256:=by
    rw [or_add2 (a:=u7.toNat) (b:=u6.toNat) (s:=8) (by omega) (by omega) (by omega) (by simp only [IntKind.bits];omega)]
    rw [wrap_uN (k:=.u64) rfl (n:=u7.toNat+u6.toNat * 2 ^ 8) (by simp only [IntKind.bits];omega)]
    omega
  have o5:IntKind.u64.wrap ((BitVec.ofInt IntKind.u64.bits ((u7.toNat:Int)+(u6.toNat:Int) * 256) ||| BitVec.ofInt IntKind.u64.bits ((u5.toNat:Int) * 65536)).toNat:Int)=(u7.toNat:Int)+(u6.toNat:Int) * 256+(u5.toNat:Int) * 65536:=by
    rw [or_add2 (a:=u7.toNat+u6.toNat * 256) (b:=u5.toNat) (s:=16) (by omega) (by omega) (by omega) (by simp only [IntKind.bits];omega)]
    rw [wrap_uN (k:=.u64) rfl (n:=u7.toNat+u6.toNat * 256+u5.toNat * 2 ^ 16) (by simp only [IntKind.bits];omega)]
    omega
  have o4:IntKind.u64.wrap ((BitVec.ofInt IntKind.u64.bits ((u7.toNat:Int)+(u6.toNat:Int) * 256+(u5.toNat:Int) * 65536) ||| BitVec.ofInt IntKind.u64.bits ((u4.toNat:Int) * 16777216)).toNat:Int)=(u7.toNat:Int)+(u6.toNat:Int) * 256+(u5.toNat:Int) * 65536+(u4.toNat:Int) * 16777216:=by
    rw [or_add2 (a:=u7.toNat+u6.toNat * 256+u5.toNat * 65536) (b:=u4.toNat) (s:=24) (by omega) (by omega) (by omega) (by simp only [IntKind.bits];omega)]
    rw [wrap_uN (k:=.u64) rfl (n:=u7.toNat+u6.toNat * 256+u5.toNat * 65536+u4.toNat * 2 ^ 24) (by simp only [IntKind.bits];omega)]
    omega
  have o3:IntKind.u64.wrap ((BitVec.ofInt IntKind.u64.bits ((u7.toNat:Int)+(u6.toNat:Int) * 256+(u5.toNat:Int) * 65536+(u4.toNat:Int) * 16777216) ||| BitVec.ofInt IntKind.u64.bits ((u3.toNat:Int) * 4294967296)).toNat:Int)=(u7.toNat:Int)+(u6.toNat:Int) * 256+(u5.toNat:Int) * 65536+(u4.toNat:Int) * 16777216+(u3.toNat:Int) * 4294967296:=by
    rw [or_add2 (a:=u7.toNat+u6.toNat * 256+u5.toNat * 65536+u4.toNat * 16777216) (b:=u3.toNat) (s:=32) (by omega) (by omega) (by omega) (by simp only [IntKind.bits];omega)]
    rw [wrap_uN (k:=.u64) rfl (n:=u7.toNat+u6.toNat * 256+u5.toNat * 65536+u4.toNat * 16777216+u3.toNat * 2 ^ 32) (by simp only [IntKind.bits];omega)]
    omega
  have o2:IntKind.u64.wrap ((BitVec.ofInt IntKind.u64.bits ((u7.toNat:Int)+(u6.toNat:Int) * 256+(u5.toNat:Int) * 65536+(u4.toNat:Int) * 16777216+(u3.toNat:Int) * 4294967296) ||| BitVec.ofInt IntKind.u64.bits ((u2.toNat:Int) * 1099511627776)).toNat:Int)=(u7.toNat:Int)+(u6.toNat:Int) * 256+(u5.toNat:Int) * 65536+(u4.toNat:Int) * 16777216+(u3.toNat:Int) * 4294967296+(u2.toNat:Int) * 1099511627776:=by
    rw [or_add2 (a:=u7.toNat+u6.toNat * 256+u5.toNat * 65536+u4.toNat * 16777216+u3.toNat * 4294967296) (b:=u2.toNat) (s:=40) (by omega) (by omega) (by omega) (by simp only [IntKind.bits];omega)]
    rw [wrap_uN (k:=.u64) rfl (n:=u7.toNat+u6.toNat * 256+u5.toNat * 65536+u4.toNat * 16777216+u3.toNat * 4294967296+u2.toNat * 2 ^ 40) (by simp only [IntKind.bits];omega)]
    omega
  have o1:IntKind.u64.wrap ((BitVec.ofInt IntKind.u64.bits ((u7.toNat:Int)+(u6.toNat:Int) * 256+(u5.toNat:Int) * 65536+(u4.toNat:Int) * 16777216+(u3.toNat:Int) * 4294967296+(u2.toNat:Int) * 1099511627776) ||| BitVec.ofInt IntKind.u64.bits ((u1.toNat:Int) * 281474976710656)).toNat:Int)=(u7.toNat:Int)+(u6.toNat:Int) * 256+(u5.toNat:Int) * 65536+(u4.toNat:Int) * 16777216+(u3.toNat:Int) * 4294967296+(u2.toNat:Int) * 1099511627776+(u1.toNat:Int) * 281474976710656:=by
    rw [or_add2 (a:=u7.toNat+u6.toNat * 256+u5.toNat * 65536+u4.toNat * 16777216+u3.toNat * 4294967296+u2.toNat * 1099511627776) (b:=u1.toNat) (s:=48) (by omega) (by omega) (by omega) (by simp only [IntKind.bits];omega)]
    rw [wrap_uN (k:=.u64) rfl (n:=u7.toNat+u6.toNat * 256+u5.toNat * 65536+u4.toNat * 16777216+u3.toNat * 4294967296+u2.toNat * 1099511627776+u1.toNat * 2 ^ 48) (by simp only [IntKind.bits];omega)]
    omega
  have o0:IntKind.u64.wrap ((BitVec.ofInt IntKind.u64.bits ((u7.toNat:Int)+(u6.toNat:Int) * 256+(u5.toNat:Int) * 65536+(u4.toNat:Int) * 16777216+(u3.toNat:Int) * 4294967296+(u2.toNat:Int) * 1099511627776+(u1.toNat:Int) * 281474976710656) ||| BitVec.ofInt IntKind.u64.bits ((u0.toNat:Int) * 72057594037927936)).toNat:Int)=(u7.toNat:Int)+(u6.toNat:Int) * 256+(u5.toNat:Int) * 65536+(u4.toNat:Int) * 16777216+(u3.toNat:Int) * 4294967296+(u2.toNat:Int) * 1099511627776+(u1.toNat:Int) * 281474976710656+(u0.toNat:Int) * 72057594037927936:=by
    rw [or_add2 (a:=u7.toNat+u6.toNat * 256+u5.toNat * 65536+u4.toNat * 16777216+u3.toNat * 4294967296+u2.toNat * 1099511627776+u1.toNat * 281474976710656) (b:=u0.toNat) (s:=56) (by omega) (by omega) (by omega) (by simp only [IntKind.bits];omega)]
    rw [wrap_uN (k:=.u64) rfl (n:=u7.toNat+u6.toNat * 256+u5.toNat * 65536+u4.toNat * 16777216+u3.toNat * 4294967296+u2.toNat * 1099511627776+u1.toNat * 281474976710656+u0.toNat * 2 ^ 56) (by simp only [IntKind.bits];omega)]
    omega
  have b1:8≤IntKind.u64.bits:=by decide
  have b2:16≤IntKind.u64.bits:=by decide
  have b3:24≤IntKind.u64.bits:=by decide
  have b4:32≤IntKind.u64.bits:=by decide
  have b5:40≤IntKind.u64.bits:=by decide
  have b6:48≤IntKind.u64.bits:=by decide
  have b7:56≤IntKind.u64.bits:=by decide
  refine SC.wp_seq (SC.wp_reg ?_)
  repeat (apply ops_1;(focus (simp (disch:=(try simp only [sPu]);omega) [hst,h1,hi3,hl1,d0,g0,x0,d1,g1,x1,d2,g2,x2,d3,g3,x3,d4,g4,x4,d5,g5,x5,d6,g6,x6,d7,g7,x7,s0,o0,s1,o1,s2,o2,s3,o3,s4,o4,s5,o5,s6,o6,b1,b2,b3,b4,b5,b6,b7];try rfl)))
  refine oNi ?_
  simp only [Exit.then]
  refine SC.wp_seq (SC.wp_dreg hm (Below w1.heap.size w1.drew) [(0,true),(1,true),(2,true),(3,true),(4,true),(5,true),(6,true),(7,true),(8,true),(9,true),(10,true),(11,true),(12,true),(13,true),(14,true),(15,true),(16,true),(17,true),(18,true),(19,true),(20,true),(21,true),(22,true),(23,true),(24,true),(25,true),(26,true),(27,true),(28,true),(29,true),(30,true),(31,true),(32,true),(33,true),(34,true),(35,true),(36,true),(37,true),(38,true),(39,true),(40,true),(41,true),(42,true),(43,true),(44,true),(45,true),(46,true)] (by rfl) (by rfl) (by decide) (Below.refl _ _) ?_)
  have e0:w1.drew.cell? ⟨sb,q,none⟩=some (.int .u8 (u0.toNat:Int)):=d0
  have e1:w1.drew.cell? ⟨sb,q+1,none⟩=some (.int .u8 (u1.toNat:Int)):=d1
  have e2:w1.drew.cell? ⟨sb,q+2,none⟩=some (.int .u8 (u2.toNat:Int)):=d2
  have e3:w1.drew.cell? ⟨sb,q+3,none⟩=some (.int .u8 (u3.toNat:Int)):=d3
  have e4:w1.drew.cell? ⟨sb,q+4,none⟩=some (.int .u8 (u4.toNat:Int)):=d4
  have e5:w1.drew.cell? ⟨sb,q+5,none⟩=some (.int .u8 (u5.toNat:Int)):=d5
  have e6:w1.drew.cell? ⟨sb,q+6,none⟩=some (.int .u8 (u6.toNat:Int)):=d6
  have e7:w1.drew.cell? ⟨sb,q+7,none⟩=some (.int .u8 (u7.toNat:Int)):=d7
  repeat (apply dr_1;(focus rfl);(focus (simp (disch:=(try simp only [sPu]);omega) [hst,h1,hi3,hl1,e0,g0,x0,e1,g1,x1,e2,g2,x2,e3,g3,x3,e4,g4,x4,e5,g5,x5,e6,g6,x6,e7,g7,x7,s0,o0,s1,o1,s2,o2,s3,o3,s4,o4,s5,o5,s6,o6,b1,b2,b3,b4,b5,b6,b7,-BitVec.toNat_or,-BitVec.ofInt_natCast,-BitVec.toNat_ofInt,-BitVec.toNat_ofNat];try rfl)))
  refine dreg_nil ?_
  simp only [Exit.then]
  refine SC.wp_ret (ret_tmp hr (by simp [dPu,hd]) ⟨?_,hb1.drew⟩)
  simp (disch:=(try simp only [sPu]);omega) [-BitVec.toNat_or,-BitVec.ofInt_natCast,-BitVec.toNat_ofInt,-BitVec.toNat_ofNat]
  simp only [unfix,List.length_cons,List.length_nil,Nat.reduceAdd,Nat.reducePow]
  omega
end Go.Proofs.YtecdefhecaeclaaDoor.K
namespace Go.Proofs.YtecdefhecaeclaaDoor.K
open Go Go.RowKit Go.Proofs.YtecdefhecaeclaaDoor.T
attribute [local simp] eTm eCo pNo gTp gTn qv qcall vop iop
set_option linter.unusedSimpArgs false
set_option linter.unusedVariables false
set_option maxHeartbeats 2000000
def rDropC (R:RTy) (t:Nat) (n:Int):SC:=.reg [mv t 0,mv (t+1) 0,nilc (t+2) (t+1),fa (t+3) R.TR (t+2) 0,ld (t+4) R.TB (t+3),⟨some (t+5),.slice R.TB (.tmp (t+4)) (some (.const (.int .i64 n))) none none,none⟩,nilc (t+6) t,fa (t+7) R.TR (t+6) 0,⟨none,.store R.TB (.tmp (t+7)) (.tmp (t+5)),none⟩]
def rLess (R:RTy) (n:Int):SC:=.reg [mv 4 0,nilc 5 4,fa 6 R.TR 5 0,ld 7 R.TB 6,lenOp 8 R.TB 7,⟨some 9,.binOp .lss R.I (.tmp 8) (.const (.int .i64 n)) R.I,none⟩]
section
variable {P:Program} {R:RTy} {f:FuncId} {fn:Func}
theorem rDropC_ok {t n rb:Nat} {a:Act} {w:World} {S:Option Nat} {base:Option Addr} {rest:Bytes} {cap:Nat} {Q:Exit→Act→World→Prop} (hR:rdOK P R=true) (hr:rdRow R.TR w rb (.slice base rest.length cap) false) (hc:rest.length≤cap) (hs:SrcAt w S base rest) (hS:∀ sb,S=some sb→sb ≠ rb) (hn:n≤rest.length)
    (h0:getT a 0=.pointer (some ⟨rb,0,none⟩)) (ht:0 < t) (htN:t+8≤a.tmps.size)
    (hQ:∀ a' w',a'.tmps.size=a.tmps.size→a'.defers=a.defers→(∀ s,s < t→getT a' s=getT a s)→RdAt R.TR w' S rb (some (rest.drop n))→Only rb w w'→Q .normal a' w'):(rDropC R t (n:Int)).wp P Q a w:=by
  have hf:=rd_facts hR
  have hcl:=rdRow_cells hr
  have hrow:w.heap[rb]?=some (.cells #[.slice base rest.length cap,.bool false] R.TR (0,0)):=hr
  refine SC.wp_reg (ops_mv (ops_mv (ops_nilc (ad:=⟨rb,0,none⟩) ?_ (ops_fa (fieldB_of hf.1) (b:=rb) (o:=0) ?_ (ops_ld hf.2.2.1 (ad:=⟨rb,0,none⟩) (v:=.slice base rest.length cap) ?_ hcl.1 (oNo rfl (opw_sliceLo (n:=n) (k:=.i64) (len:=rest.length) (cap:=cap) (base:=base) hf.2.2.2.1 ?_ rfl hn (ops_nilc (ad:=⟨rb,0,none⟩) ?_ (ops_fa (fieldB_of hf.1) (b:=rb) (o:=0) ?_ (ops_stR (b:=rb) (i:=0) (v:=sliceLo base rest.length cap n) hf.2.2.1 ?_ ?_ rfl hrow (by simp) (oNi ?_)))))))))))
  · rw [gTp (by simp only [sPu];omega),gTn (by omega)];exact h0
  · rw [gTp (by simp only [sPu];omega)]
  · rw [gTp (by simp only [sPu];omega)]
  · rw [eTm,gTp (by simp only [sPu];omega)]
  · rw [gTn (by omega),gTn (by omega),gTn (by omega),gTn (by omega),gTn (by omega),gTp (by omega)];exact h0
  · rw [gTp (by simp only [sPu];omega)]
  · rw [eTm,gTp (by simp only [sPu];omega)]
  · rw [eTm,gTn (by omega),gTn (by omega),gTp (by simp only [sPu];omega)]
  refine hQ _ _ (by simp only [sPu]) (by simp only [dPu]) (fun s hs=>?_) (rdAt_drop hr hc hs hS hn) ((Only.refl rb w).setRow _)
  rw [gTn (by omega),gTn (by omega),gTn (by omega),gTn (by omega),gTn (by omega),gTn (by omega),gTn (by omega),gTn (by omega)]
theorem RC.map {α β:Type} {TR gb:Nat} {p:Rd α} {g:α→β} {ty ty':Value→Prop} {ok:World→(Nat→Prop)→α→Value→Prop} {ok':World→(Nat→Prop)→β→Value→Prop} (h:RC P TR gb f p ty ok) (hty:∀ v,ty v→ty' v) (hok:∀ w F x v,ok w F x v→ok' w F (g x) v) :
    RC P TR gb f (rThen p fun x=>rOk (g x)) ty' ok':=by
  refine ⟨h.1,fun w S rb st h1 h2 h3=>(h.2 w S rb st h1 h2 h3).mono ?_⟩
  rintro e w' ⟨v,rfl,q1,q2,q3,q4⟩
  have ea:after st (rThen p fun x=>rOk (g x))=after st p:=by
    cases st with
    | none=>rfl
    | some b =>
      cases hp:p b with
      | none=>simp [after,rThen,hp]
      | some z=>rw [after_then _ _ _ rfl hp,after_ok hp];exact after_rOk _ _
  refine ⟨v,rfl,by rw [ea];exact q1,q2,hty v q3,fun b x r hst hpx=>?_⟩
  obtain ⟨y,r1,k1,k2⟩:=rThen_some hpx
  obtain ⟨rfl,rfl⟩:=rOk_some k2
  exact hok _ _ _ _ (q4 b y _ hst k1)
theorem pFix_none {k:Nat} {b:Bytes} (h:b.length < k):pFix k b=none:=by simp [pFix,h]
theorem pFix_some {k:Nat} {b:Bytes} (h:k≤b.length):pFix k b=some (unfix (b.take k),b.drop k):=by unfold pFix;rw [if_neg (by omega)]
theorem rdAt_lt {TR rb:Nat} {w:World} {v:Value} {bad:Bool} (h:rdRow TR w rb v bad):rb < w.heap.size:=(Array.getElem?_eq_some_iff.1 h).1
def sc_RBool (R:RTy):SC:=.seq (.reg [⟨some 2,.assign (.const (.bool false)),none⟩]) (.seq (.seq (rLess R 1) (.cond (.tmp 9) (rFail R 10 2 (.bool false)) .skip)) (.seq (.reg [mv 16 0,nilc 17 16,fa 18 R.TR 17 0,ld 19 R.TB 18,⟨some 20,.indexAddr R.TB (.tmp 19) (.const (.int .i64 0)),none⟩,ld 21 R.U8 20,⟨some 22,.binOp .neq R.U8 (.tmp 21) (.const (.int .u8 0)) R.U8,none⟩,asg 3 22]) (.seq (rDropC R 23 1) (.seq (.reg [mv 31 3,asg 2 31]) .ret))))
def sc_RInt8 (R:RTy) (I8:Nat):SC:=.seq (.reg [⟨some 2,.assign (.const (.int .i8 0)),none⟩]) (.seq (.seq (rLess R 1) (.cond (.tmp 9) (rFail R 10 2 (.int .i8 0)) .skip)) (.seq (.reg [mv 16 0,nilc 17 16,fa 18 R.TR 17 0,ld 19 R.TB 18,⟨some 20,.indexAddr R.TB (.tmp 19) (.const (.int .i64 0)),none⟩,ld 21 R.U8 20,asg 3 21]) (.seq (rDropC R 22 1) (.seq (.reg [mv 30 3,⟨some 31,.convert R.U8 I8 (.tmp 30),none⟩,asg 2 31]) .ret))))
theorem src_head {w:World} {S:Option Nat} {base:Option Addr} {rest:Bytes} (hs:SrcAt w S base rest) {k:Nat} (hk:k≤rest.length) (hk0:0 < k):∃ sb o,S=some sb∧base=some ⟨sb,o,none⟩∧∀ j u,(rest.take k)[j]?=some u→w.cell? ⟨sb,o+j,none⟩=some (cell u):=by
  cases S with
  | none =>
    obtain ⟨_,rfl⟩:=hs
    simp at hk
    omega
  | some sb =>
    obtain ⟨o,h1,h2⟩:=hs
    refine ⟨sb,o,rfl,h1,fun j u hu=>h2 j u ?_⟩
    rw [List.getElem?_take] at hu
    split at hu
    · exact hu
    · simp at hu
theorem rBool_ok {TR gb : Nat} (hTR : R.TR = TR) (hR : rdOK P R = true) (hf : P.funcs[f]? = some fn) (hb : fn.body.map strip = some (sc_RBool R)) (hnm : (fn.name == "runtime.NumGoroutine") = false) (hn : fn.ntmps = 32) (hr : fn.results = #[.tmp 2]) :
    RC P TR gb f (pFix 1) (fun v=>∃ x,v=.bool x) (fun _ _ n v=>v=.bool (n != 0)):=by
  subst hTR
  have hst:=rd_facts hR
  refine ⟨fnOK_of hf hb hnm,fun w S rb st hgb hrd hsrc=>?_⟩
  refine fCa hf hb hn (by simp) fun a0 hs hd ha=>?_
  have h0:=ha 0 _ rfl
  simp only [List.getElem_toArray,List.getElem_cons_zero,List.getElem_cons_succ] at h0
  refine SC.wp_seq (SC.wp_reg ?_)
  repeat (apply ops_1;(focus (simp (disch:=(try simp only [sPu]);omega) ;try rfl)))
  refine oNi (SC.wp_seq (SC.wp_seq (SC.wp_reg ?_)))
  rcases rdAt_row hrd with ⟨rfl,hrow⟩ | ⟨rest,base,cap,rfl,hrow,hcap,hsr⟩
  · have hc:=rdRow_cells hrow
    repeat (apply ops_1;(focus (simp (disch:=(try simp only [sPu]);omega) [hst,h0,hc];try rfl)))
    refine oNi (SC.wp_cond (t:=true) (by simp (disch:=(try simp only [sPu]);omega)) ?_)
    rw [if_pos rfl]
    refine rFail_ok (S:=S) hR hrow (by simp (disch:=(try simp only [sPu]);omega) [h0]) (by omega) (by simp [sPu,hs]) (by simp [sPu,hs]) fun a' w' q1 q2 q3 q4=>?_
    simp only [Exit.then]
    exact ret_tmp hr (by rw [q1];simp [dPu,hd]) ⟨_,rfl,q3,q4,⟨false,q2⟩,fun b x r h=>by cases h⟩
  · have hc:=rdRow_cells hrow
    repeat (apply ops_1;(focus (simp (disch:=(try simp only [sPu]);omega) [hst,h0,hc];try rfl)))
    refine oNi (SC.wp_cond (t:=decide ((rest.length:Int) < 1)) (by simp (disch:=(try simp only [sPu]);omega)) ?_)
    by_cases hl:rest.length < 1
    · rw [if_pos (decide_eq_true (by omega))]
      refine rFail_ok (S:=S) hR hrow (by simp (disch:=(try simp only [sPu]);omega) [h0]) (by omega) (by simp [sPu,hs]) (by simp [sPu,hs]) fun a' w' q1 q2 q3 q4=>?_
      simp only [Exit.then]
      refine ret_tmp hr (by rw [q1];simp [dPu,hd]) ⟨_,rfl,by rw [after_no (pFix_none hl)];exact q3,q4,⟨false,q2⟩,fun b x r h hp=>?_⟩
      cases h
      rw [pFix_none hl] at hp
      cases hp
    · rw [if_neg (by rw [decide_eq_false (by omega)];simp)]
      refine SC.wp_skip ?_
      simp only [Exit.then]
      obtain ⟨sb,q,rfl,rfl,hbytes⟩:=src_head hsr (k:=1) (by omega) (by omega)
      obtain ⟨u,rest',rfl⟩:∃ u rest',rest=u :: rest':=by
        cases rest with
        | nil=>simp at hl
        | cons u r=>exact ⟨u,r,rfl⟩
      have hcu:=hbytes 0 u rfl
      simp only [cell,Nat.add_zero] at hcu
      have hlp:0 < (u :: rest').length:=by simp
      refine SC.wp_seq (SC.wp_reg ?_)
      repeat (apply ops_1;(focus (simp (disch:=(try simp only [sPu]);omega) [hst,h0,hc,hcu,hlp];try rfl)))
      refine oNi ?_
      simp only [Exit.then]
      refine SC.wp_seq (rDropC_ok (n:=1) (S:=some sb) hR hrow hcap hsr (fun s h=>(hsrc s h).1) (by simp) (by simp (disch:=(try simp only [sPu]);omega) [h0]) (by omega) (by simp [sPu,hs]) fun a1 w1 q1 q2 q3 q4 q5=>?_)
      have hs1:a1.tmps.size=32:=by rw [q1];simp [sPu,hs]
      have hd1:a1.defers=[]:=by rw [q2];simp [dPu,hd]
      have h3:getT a1 3=.bool ((u.toNat:Int) != 0):=by rw [q3 3 (by omega)];simp (disch:=(try simp only [sPu]);omega)
      simp only [Exit.then]
      refine SC.wp_seq (SC.wp_reg ?_)
      repeat (apply ops_1;(focus (simp (disch:=(try simp only [sPu]);omega) [h3];try rfl)))
      refine oNi (SC.wp_ret ?_)
      have hpf:pFix 1 (u :: rest')=some (u.toNat,rest'):=by simp [pFix,unfix]
      refine ret_tmp hr (by simp [dPu,hd1]) ⟨_,rfl,by rw [after_ok hpf];exact q4,q5,⟨(u.toNat:Int) != 0,by simp (disch:=(try simp only [sPu]);omega) [h3]⟩,fun b x r h hp=>?_⟩
      cases h
      rw [hpf] at hp
      cases hp
      have hbn:((u.toNat:Int) != 0)=(u.toNat != 0):=by
        rw [Bool.eq_iff_iff,bne_iff_ne,bne_iff_ne]
        omega
      rw [← hbn]
      simp (disch:=(try simp only [sPu]);omega) [h3]
theorem wrap_i8 {n:Nat} (h:n < 256):IntKind.i8.wrap (n:Int)=sgn 1 n:=by
  simp only [IntKind.wrap,IntKind.bits,IntKind.signed,sgn]
  simp
  split <;> split <;> omega
theorem rInt8_ok {TR gb I8 : Nat} (hTR : R.TR = TR) (hR : rdOK P R = true) (hI8 : intK P I8 = some .i8) (hf : P.funcs[f]? = some fn) (hb : fn.body.map strip = some (sc_RInt8 R I8)) (hnm : (fn.name == "runtime.NumGoroutine") = false) (hn : fn.ntmps = 32) (hr : fn.results = #[.tmp 2]) :
    RC P TR gb f (pInt 1) (fun v=>∃ n,v=.int .i8 n) (fun _ _ n v=>v=.int .i8 n):=by
  subst hTR
  have hst:=rd_facts hR
  refine ⟨fnOK_of hf hb hnm,fun w S rb st hgb hrd hsrc=>?_⟩
  refine fCa hf hb hn (by simp) fun a0 hs hd ha=>?_
  have h0:=ha 0 _ rfl
  simp only [List.getElem_toArray,List.getElem_cons_zero,List.getElem_cons_succ] at h0
  refine SC.wp_seq (SC.wp_reg ?_)
  repeat (apply ops_1;(focus (simp (disch:=(try simp only [sPu]);omega) ;try rfl)))
  refine oNi (SC.wp_seq (SC.wp_seq (SC.wp_reg ?_)))
  rcases rdAt_row hrd with ⟨rfl,hrow⟩ | ⟨rest,base,cap,rfl,hrow,hcap,hsr⟩
  · have hc:=rdRow_cells hrow
    repeat (apply ops_1;(focus (simp (disch:=(try simp only [sPu]);omega) [hst,h0,hc];try rfl)))
    refine oNi (SC.wp_cond (t:=true) (by simp (disch:=(try simp only [sPu]);omega)) ?_)
    rw [if_pos rfl]
    refine rFail_ok (S:=S) hR hrow (by simp (disch:=(try simp only [sPu]);omega) [h0]) (by omega) (by simp [sPu,hs]) (by simp [sPu,hs]) fun a' w' q1 q2 q3 q4=>?_
    simp only [Exit.then]
    exact ret_tmp hr (by rw [q1];simp [dPu,hd]) ⟨_,rfl,q3,q4,⟨0,q2⟩,fun b x r h=>by cases h⟩
  · have hc:=rdRow_cells hrow
    repeat (apply ops_1;(focus (simp (disch:=(try simp only [sPu]);omega) [hst,h0,hc];try rfl)))
    refine oNi (SC.wp_cond (t:=decide ((rest.length:Int) < 1)) (by simp (disch:=(try simp only [sPu]);omega)) ?_)
    by_cases hl:rest.length < 1
    · have hno:pInt 1 rest=none:=by simp [pInt,rThen,pFix_none hl]
      rw [if_pos (decide_eq_true (by omega))]
      refine rFail_ok (S:=S) hR hrow (by simp (disch:=(try simp only [sPu]);omega) [h0]) (by omega) (by simp [sPu,hs]) (by simp [sPu,hs]) fun a' w' q1 q2 q3 q4=>?_
      simp only [Exit.then]
      refine ret_tmp hr (by rw [q1];simp [dPu,hd]) ⟨_,rfl,by rw [after_no hno];exact q3,q4,⟨0,q2⟩,fun b x r h hp=>?_⟩
      cases h
      rw [hno] at hp
      cases hp
    · rw [if_neg (by rw [decide_eq_false (by omega)];simp)]
      refine SC.wp_skip ?_
      simp only [Exit.then]
      obtain ⟨sb,q,rfl,rfl,hbytes⟩:=src_head hsr (k:=1) (by omega) (by omega)
      obtain ⟨u,rest',rfl⟩:∃ u rest',rest=u :: rest':=by
        cases rest with
        | nil=>simp at hl
        | cons u r=>exact ⟨u,r,rfl⟩
      have hcu:=hbytes 0 u rfl
      simp only [cell,Nat.add_zero] at hcu
      have hlp:0 < (u :: rest').length:=by simp
      refine SC.wp_seq (SC.wp_reg ?_)
      repeat (apply ops_1;(focus (simp (disch:=(try simp only [sPu]);omega) [hst,h0,hc,hcu,hlp];try rfl)))
      refine oNi ?_
      simp only [Exit.then]
      refine SC.wp_seq (rDropC_ok (n:=1) (S:=some sb) hR hrow hcap hsr (fun s h=>(hsrc s h).1) (by simp) (by simp (disch:=(try simp only [sPu]);omega) [h0]) (by omega) (by simp [sPu,hs]) fun a1 w1 q1 q2 q3 q4 q5=>?_)
      have hs1:a1.tmps.size=32:=by rw [q1];simp [sPu,hs]
      have hd1:a1.defers=[]:=by rw [q2];simp [dPu,hd]
      have h3:getT a1 3=.int .u8 (u.toNat:Int):=by rw [q3 3 (by omega)];simp (disch:=(try simp only [sPu]);omega)
      have hw:=wrap_i8 u.toNat_lt
      simp only [Exit.then]
      refine SC.wp_seq (SC.wp_reg ?_)
      repeat (apply ops_1;(focus (simp (disch:=(try simp only [sPu]);omega) [h3,hst,hI8,hw];try rfl)))
      refine oNi (SC.wp_ret ?_)
      have hpf:pInt 1 (u :: rest')=some (sgn 1 u.toNat,rest'):=by simp [pInt,pFix,unfix,rThen,rOk]
      refine ret_tmp hr (by simp [dPu,hd1]) ⟨_,rfl,by rw [after_ok hpf];exact q4,q5,⟨sgn 1 u.toNat,by simp (disch:=(try simp only [sPu]);omega)⟩,fun b x r h hp=>?_⟩
      cases h
      rw [hpf] at hp
      cases hp
      simp (disch:=(try simp only [sPu]);omega)
end
end Go.Proofs.YtecdefhecaeclaaDoor.K
namespace Go.Proofs.YtecdefhecaeclaaDoor.K
open Go Go.RowKit Go.Proofs.YtecdefhecaeclaaDoor.T
attribute [local simp] eTm eCo pNo gTp gTn qv qcall vop iop
set_option linter.unusedSimpArgs false
set_option linter.unusedVariables false
set_option maxHeartbeats 2000000
def sc_RNumS (R:RTy) (BE F G0 T T':Nat) (nb:Int) (ks:IntKind):SC:=.seq (.reg [⟨some 2,.assign (.const (.int ks 0)),none⟩]) (.seq (.seq (rLess R nb) (.cond (.tmp 9) (rFail R 10 2 (.int ks 0)) .skip)) (.seq (.dreg [⟨some 16,.load BE (.global G0),none⟩,mv 17 0,nilc 18 17,fa 19 R.TR 18 0,ld 20 R.TB 19,cal 21 F [16,20],⟨some 22,.convert T T' (.tmp 21),none⟩,asg 3 22] [[],[],[1],[2],[3],[0,4],[5],[6,5,0,1,2,3,4,5,6]]) (.seq (rDropC R 23 nb) (.seq (.reg [mv 31 3,asg 2 31]) .ret))))
def sc_RNumU (R:RTy) (BE F G0:Nat) (nb:Int) (ku:IntKind):SC:=.seq (.reg [⟨some 2,.assign (.const (.int ku 0)),none⟩]) (.seq (.seq (rLess R nb) (.cond (.tmp 9) (rFail R 10 2 (.int ku 0)) .skip)) (.seq (.dreg [⟨some 16,.load BE (.global G0),none⟩,mv 17 0,nilc 18 17,fa 19 R.TR 18 0,ld 20 R.TB 19,cal 21 F [16,20],asg 3 21] [[],[],[1],[2],[3],[0,4],[5,5,0,1,2,3,4,5]]) (.seq (rDropC R 22 nb) (.seq (.reg [mv 30 3,asg 2 30]) .ret))))
def sc_RInt64 (T0 T1 F0:Nat):SC:=.seq (.reg [⟨some 2,.assign (.const (.int .i64 0)),none⟩]) (.seq (.reg [mv 3 0,cal 4 F0 [3],⟨some 5,.convert T0 T1 (.tmp 4),none⟩,asg 2 5]) (.ret))
def BeC (P:Program) (F nb:Nat) (ku:IntKind):Prop:=FnOK P F∧∀ (w:World) (sb q len cap:Nat) (bs:Bytes),bs.length=nb→nb≤len→sb < w.heap.size→(∀ j u,bs[j]?=some u→w.cell? ⟨sb,q+j,none⟩=some (cell u)) →
  Calls P F #[.agg #[],.slice (some ⟨sb,q,none⟩) len cap] w fun e w'=>e=.returned (.int ku ((unfix bs:Nat):Int))∧Below w.heap.size w w'
theorem beC2 {P : Program} {f : FuncId} {fn : Func} {R : RTy} {T0 T3 T4 : Nat} (hm : P.follows .mixedOrders = true) (hR : rdOK P R = true) (hi3 : intK P T3 = some .u16) (hf : P.funcs[f]? = some fn) (hb : fn.body.map strip = some (sc_BE16 T0 R.TB R.U8 T3 T4)) (hnm : (fn.name == "runtime.NumGoroutine") = false) (hn : fn.ntmps = 18) (hr : fn.results = #[.tmp 4]) : BeC P f 2 .u16 := by
  refine ⟨fnOK_of hf hb hnm,fun w sb q len cap bs hbs hlen hsb hc=>?_⟩
  match bs,hbs,hc with
  | [u0,u1],_,hc=>exact be2_ok hm hR hi3 hf hb hn hr w sb q len cap u0 u1 hlen hsb hc
theorem beC4 {P : Program} {f : FuncId} {fn : Func} {R : RTy} {T0 T3 T4 : Nat} (hm : P.follows .mixedOrders = true) (hR : rdOK P R = true) (hi3 : intK P T3 = some .u32) (hf : P.funcs[f]? = some fn) (hb : fn.body.map strip = some (sc_BE32 T0 R.TB R.U8 T3 T4)) (hnm : (fn.name == "runtime.NumGoroutine") = false) (hn : fn.ntmps = 30) (hr : fn.results = #[.tmp 4]) : BeC P f 4 .u32 := by
  refine ⟨fnOK_of hf hb hnm,fun w sb q len cap bs hbs hlen hsb hc=>?_⟩
  match bs,hbs,hc with
  | [u0,u1,u2,u3],_,hc=>exact be4_ok hm hR hi3 hf hb hn hr w sb q len cap u0 u1 u2 u3 hlen hsb hc
theorem beC8 {P : Program} {f : FuncId} {fn : Func} {R : RTy} {T0 T3 T4 : Nat} (hm : P.follows .mixedOrders = true) (hR : rdOK P R = true) (hi3 : intK P T3 = some .u64) (hf : P.funcs[f]? = some fn) (hb : fn.body.map strip = some (sc_BE64 T0 R.TB R.U8 T3 T4)) (hnm : (fn.name == "runtime.NumGoroutine") = false) (hn : fn.ntmps = 54) (hr : fn.results = #[.tmp 4]) : BeC P f 8 .u64 := by
  refine ⟨fnOK_of hf hb hnm,fun w sb q len cap bs hbs hlen hsb hc=>?_⟩
  match bs,hbs,hc with
  | [u0,u1,u2,u3,u4,u5,u6,u7],_,hc=>exact be8_ok hm hR hi3 hf hb hn hr w sb q len cap u0 u1 u2 u3 u4 u5 u6 u7 hlen hsb hc
theorem eval_global (a:Act) (g:Nat):a.eval (.global g)=.pointer (some ⟨g,0,none⟩):=rfl
theorem wrap_i16s {n:Nat} (h:n < 256 ^ 2):IntKind.i16.wrap (n:Int)=sgn 2 n:=by
  simp only [IntKind.wrap,IntKind.bits,IntKind.signed,sgn]
  simp
  split <;> split <;> omega
theorem wrap_i32s {n:Nat} (h:n < 256 ^ 4):IntKind.i32.wrap (n:Int)=sgn 4 n:=by
  simp only [IntKind.wrap,IntKind.bits,IntKind.signed,sgn]
  simp
  split <;> split <;> omega
theorem wrap_i64s {n:Nat} (h:n < 256 ^ 8):IntKind.i64.wrap (n:Int)=sgn 8 n:=by
  simp only [IntKind.wrap,IntKind.bits,IntKind.signed,sgn]
  simp
  split <;> split <;> omega
theorem unfix_lt:∀ (l:Bytes),unfix l < 256 ^ l.length
  | []=>by simp [unfix]
  | u :: l=>by
    have ih:=unfix_lt l
    simp only [unfix,List.length_cons,Nat.pow_succ]
    have hu:u.toNat≤255:=by have:=u.toNat_lt;omega
    have:u.toNat * 256 ^ l.length≤255 * 256 ^ l.length:=Nat.mul_le_mul_right _ hu
    omega
theorem pInt_of {k:Nat} {b:Bytes} (h:k≤b.length):pInt k b=some (sgn k (unfix (b.take k)),b.drop k):=by
  unfold pInt
  rw [rThen_of (pFix_some h)]
  rfl
theorem pInt_no {k:Nat} {b:Bytes} (h:b.length < k):pInt k b=none:=by simp [pInt,rThen,pFix_none h]
section
variable {P:Program} {R:RTy} {f:FuncId} {fn:Func}
theorem rNumS_ok {TR gb BE F T T' nb : Nat} {ks ku : IntKind} (hTR : R.TR = TR) (hm : P.follows .mixedOrders = true) (hR : rdOK P R = true) (hBE : aggN P BE = some 0) (hBE1 : oneB P BE = false) (hF : BeC P F nb ku) (hnb : 0 < nb) (hT : intK P T = some ku) (hT' : intK P T' = some ks) (hw : ∀ n : Nat, n < 256 ^ nb → ks.wrap (n : Int) = sgn nb n) (hf : P.funcs[f]? = some fn) (hb : fn.body.map strip = some (sc_RNumS R BE F gb T T' (nb : Int) ks)) (hnm : (fn.name == "runtime.NumGoroutine") = false) (hn : fn.ntmps = 32) (hr : fn.results = #[.tmp 2]) :
    RC P TR gb f (pInt nb) (fun v=>∃ n,v=.int ks n) (fun _ _ n v=>v=.int ks n):=by
  subst hTR
  have hst:=rd_facts hR
  refine ⟨fnOK_of hf hb hnm,fun w S rb st hgb hrd hsrc=>?_⟩
  refine fCa hf hb hn (by simp) fun a0 hs hd ha=>?_
  have h0:=ha 0 _ rfl
  simp only [List.getElem_toArray,List.getElem_cons_zero,List.getElem_cons_succ] at h0
  refine SC.wp_seq (SC.wp_reg ?_)
  repeat (apply ops_1;(focus (simp (disch:=(try simp only [sPu]);omega) ;try rfl)))
  refine oNi (SC.wp_seq (SC.wp_seq (SC.wp_reg ?_)))
  rcases rdAt_row hrd with ⟨rfl,hrow⟩ | ⟨rest,base,cap,rfl,hrow,hcap,hsr⟩
  · have hc:=rdRow_cells hrow
    have hnbi:decide ((0:Int) < (nb:Int))=true:=by simpa using hnb
    repeat (apply ops_1;(focus (simp (disch:=(try simp only [sPu]);omega) [hst,h0,hc];try rfl)))
    refine oNi (SC.wp_cond (t:=true) (by simp (disch:=(try simp only [sPu]);omega) [hnb]) ?_)
    rw [if_pos rfl]
    refine rFail_ok (S:=S) hR hrow (by simp (disch:=(try simp only [sPu]);omega) [h0]) (by omega) (by simp [sPu,hs]) (by simp [sPu,hs]) fun a' w' q1 q2 q3 q4=>?_
    simp only [Exit.then]
    exact ret_tmp hr (by rw [q1];simp [dPu,hd]) ⟨_,rfl,q3,q4,⟨0,q2⟩,fun b x r h=>by cases h⟩
  · have hc:=rdRow_cells hrow
    repeat (apply ops_1;(focus (simp (disch:=(try simp only [sPu]);omega) [hst,h0,hc];try rfl)))
    refine oNi (SC.wp_cond (t:=decide ((rest.length:Int) < (nb:Int))) (by simp (disch:=(try simp only [sPu]);omega)) ?_)
    by_cases hl:rest.length < nb
    · have hno:pInt nb rest=none:=pInt_no hl
      rw [if_pos (decide_eq_true (by omega))]
      refine rFail_ok (S:=S) hR hrow (by simp (disch:=(try simp only [sPu]);omega) [h0]) (by omega) (by simp [sPu,hs]) (by simp [sPu,hs]) fun a' w' q1 q2 q3 q4=>?_
      simp only [Exit.then]
      refine ret_tmp hr (by rw [q1];simp [dPu,hd]) ⟨_,rfl,by rw [after_no hno];exact q3,q4,⟨0,q2⟩,fun b x r h hp=>?_⟩
      cases h
      rw [hno] at hp
      cases hp
    · rw [if_neg (by rw [decide_eq_false (by omega)];simp)]
      refine SC.wp_skip ?_
      simp only [Exit.then]
      obtain ⟨sb,q,rfl,rfl,hbytes⟩:=src_head hsr (k:=nb) (by omega) hnb
      have hsbl:=(hsrc sb rfl).2
      have hrbl:=rdAt_lt hrow
      have hcd:w.drew.cell? ⟨rb,0,none⟩=some (.slice (some ⟨sb,q,none⟩) rest.length cap):=hc.1
      have hrg:rangeV w.drew gb 0 0=some []:=rfl
      refine SC.wp_seq (SC.wp_dreg hm (Below w.heap.size w.drew) [(0,true),(1,true),(2,true),(3,true),(4,true),(5,false),(6,true),(7,true)] (by rfl) (by rfl) (by decide) (Below.refl _ _) ?_)
      iterate 5 (apply dr_1;(focus rfl);(focus (simp (disch:=(try simp only [sPu]);omega) [hst,h0,hcd,hrbl,hgb,hBE,hBE1,hrg,eval_global];try rfl)))
      refine dreg_call (argsV:=#[.agg #[],.slice (some ⟨sb,q,none⟩) rest.length cap]) rfl hF.1 (hF.2 w.drew sb q rest.length cap (rest.take nb) (by simp;omega) (by omega) hsbl hbytes) (by simp (disch:=(try simp only [sPu]);omega)) ?_
      rintro e w1 ⟨rfl,hb1⟩
      refine ⟨_,rfl,hb1,?_⟩
      have hwv:=hw (unfix (rest.take nb)) (by have:=unfix_lt (rest.take nb);rwa [show (rest.take nb).length=nb by simp;omega] at this)
      repeat (apply dr_1;(focus rfl);(focus (simp (disch:=(try simp only [sPu]);omega) [hT,hT',hwv];try rfl)))
      refine dreg_nil ?_
      simp only [Exit.then]
      have hrow1:rdRow R.TR w1 rb (.slice (some ⟨sb,q,none⟩) rest.length cap) false:=(hb1.block rb hrbl).trans hrow
      have hsr1:SrcAt w1 (some sb) (some ⟨sb,q,none⟩) rest:=hsr.frame fun s h=>hb1.block s (hsrc s h).2
      refine SC.wp_seq (rDropC_ok (n:=nb) (S:=some sb) hR hrow1 hcap hsr1 (fun s h=>(hsrc s h).1) (by omega) (by simp (disch:=(try simp only [sPu]);omega) [h0]) (by omega) (by simp [sPu,hs]) fun a1 w2 q1 q2 q3 q4 q5=>?_)
      have hs1:a1.tmps.size=32:=by rw [q1];simp [sPu,hs]
      have hd1:a1.defers=[]:=by rw [q2];simp [dPu,hd]
      have h3:getT a1 3=.int ks (sgn nb (unfix (rest.take nb))):=by rw [q3 3 (by omega)];simp (disch:=(try simp only [sPu]);omega)
      simp only [Exit.then]
      refine SC.wp_seq (SC.wp_reg ?_)
      repeat (apply ops_1;(focus (simp (disch:=(try simp only [sPu]);omega) [h3];try rfl)))
      refine oNi (SC.wp_ret ?_)
      have hpf:pInt nb rest=some (sgn nb (unfix (rest.take nb)),rest.drop nb):=pInt_of (by omega)
      have ho1:Only rb w w1:=⟨hb1.os,hb1.tape,hb1.output,hb1.size,fun k hk _=>hb1.block k hk⟩
      refine ret_tmp hr (by simp [dPu,hd1]) ⟨_,rfl,by rw [after_ok hpf];exact q4,ho1.trans q5,⟨sgn nb (unfix (rest.take nb)),by simp (disch:=(try simp only [sPu]);omega) [h3]⟩,fun b x r h hp=>?_⟩
      cases h
      rw [hpf] at hp
      cases hp
      simp (disch:=(try simp only [sPu]);omega) [h3]
theorem rNumU_ok {TR gb BE F nb : Nat} {ku : IntKind} (hTR : R.TR = TR) (hm : P.follows .mixedOrders = true) (hR : rdOK P R = true) (hBE : aggN P BE = some 0) (hBE1 : oneB P BE = false) (hF : BeC P F nb ku) (hnb : 0 < nb) (hf : P.funcs[f]? = some fn) (hb : fn.body.map strip = some (sc_RNumU R BE F gb (nb : Int) ku)) (hnm : (fn.name == "runtime.NumGoroutine") = false) (hn : fn.ntmps = 31) (hr : fn.results = #[.tmp 2]) :
    RC P TR gb f (pFix nb) (fun v=>∃ n,v=.int ku n) (fun _ _ n v=>v=.int ku (n:Int)):=by
  subst hTR
  have hst:=rd_facts hR
  refine ⟨fnOK_of hf hb hnm,fun w S rb st hgb hrd hsrc=>?_⟩
  refine fCa hf hb hn (by simp) fun a0 hs hd ha=>?_
  have h0:=ha 0 _ rfl
  simp only [List.getElem_toArray,List.getElem_cons_zero,List.getElem_cons_succ] at h0
  refine SC.wp_seq (SC.wp_reg ?_)
  repeat (apply ops_1;(focus (simp (disch:=(try simp only [sPu]);omega) ;try rfl)))
  refine oNi (SC.wp_seq (SC.wp_seq (SC.wp_reg ?_)))
  rcases rdAt_row hrd with ⟨rfl,hrow⟩ | ⟨rest,base,cap,rfl,hrow,hcap,hsr⟩
  · have hc:=rdRow_cells hrow
    have hnbi:decide ((0:Int) < (nb:Int))=true:=by simpa using hnb
    repeat (apply ops_1;(focus (simp (disch:=(try simp only [sPu]);omega) [hst,h0,hc];try rfl)))
    refine oNi (SC.wp_cond (t:=true) (by simp (disch:=(try simp only [sPu]);omega) [hnb]) ?_)
    rw [if_pos rfl]
    refine rFail_ok (S:=S) hR hrow (by simp (disch:=(try simp only [sPu]);omega) [h0]) (by omega) (by simp [sPu,hs]) (by simp [sPu,hs]) fun a' w' q1 q2 q3 q4=>?_
    simp only [Exit.then]
    exact ret_tmp hr (by rw [q1];simp [dPu,hd]) ⟨_,rfl,q3,q4,⟨0,q2⟩,fun b x r h=>by cases h⟩
  · have hc:=rdRow_cells hrow
    repeat (apply ops_1;(focus (simp (disch:=(try simp only [sPu]);omega) [hst,h0,hc];try rfl)))
    refine oNi (SC.wp_cond (t:=decide ((rest.length:Int) < (nb:Int))) (by simp (disch:=(try simp only [sPu]);omega)) ?_)
    by_cases hl:rest.length < nb
    · have hno:pFix nb rest=none:=pFix_none hl
      rw [if_pos (decide_eq_true (by omega))]
      refine rFail_ok (S:=S) hR hrow (by simp (disch:=(try simp only [sPu]);omega) [h0]) (by omega) (by simp [sPu,hs]) (by simp [sPu,hs]) fun a' w' q1 q2 q3 q4=>?_
      simp only [Exit.then]
      refine ret_tmp hr (by rw [q1];simp [dPu,hd]) ⟨_,rfl,by rw [after_no hno];exact q3,q4,⟨0,q2⟩,fun b x r h hp=>?_⟩
      cases h
      rw [hno] at hp
      cases hp
    · rw [if_neg (by rw [decide_eq_false (by omega)];simp)]
      refine SC.wp_skip ?_
      simp only [Exit.then]
      obtain ⟨sb,q,rfl,rfl,hbytes⟩:=src_head hsr (k:=nb) (by omega) hnb
      have hsbl:=(hsrc sb rfl).2
      have hrbl:=rdAt_lt hrow
      have hcd:w.drew.cell? ⟨rb,0,none⟩=some (.slice (some ⟨sb,q,none⟩) rest.length cap):=hc.1
      have hrg:rangeV w.drew gb 0 0=some []:=rfl
      refine SC.wp_seq (SC.wp_dreg hm (Below w.heap.size w.drew) [(0,true),(1,true),(2,true),(3,true),(4,true),(5,false),(6,true)] (by rfl) (by rfl) (by decide) (Below.refl _ _) ?_)
      iterate 5 (apply dr_1;(focus rfl);(focus (simp (disch:=(try simp only [sPu]);omega) [hst,h0,hcd,hrbl,hgb,hBE,hBE1,hrg,eval_global];try rfl)))
      refine dreg_call (argsV:=#[.agg #[],.slice (some ⟨sb,q,none⟩) rest.length cap]) rfl hF.1 (hF.2 w.drew sb q rest.length cap (rest.take nb) (by simp;omega) (by omega) hsbl hbytes) (by simp (disch:=(try simp only [sPu]);omega)) ?_
      rintro e w1 ⟨rfl,hb1⟩
      refine ⟨_,rfl,hb1,?_⟩
      repeat (apply dr_1;(focus rfl);(focus (simp (disch:=(try simp only [sPu]);omega) ;try rfl)))
      refine dreg_nil ?_
      simp only [Exit.then]
      have hrow1:rdRow R.TR w1 rb (.slice (some ⟨sb,q,none⟩) rest.length cap) false:=(hb1.block rb hrbl).trans hrow
      have hsr1:SrcAt w1 (some sb) (some ⟨sb,q,none⟩) rest:=hsr.frame fun s h=>hb1.block s (hsrc s h).2
      refine SC.wp_seq (rDropC_ok (n:=nb) (S:=some sb) hR hrow1 hcap hsr1 (fun s h=>(hsrc s h).1) (by omega) (by simp (disch:=(try simp only [sPu]);omega) [h0]) (by omega) (by simp [sPu,hs]) fun a1 w2 q1 q2 q3 q4 q5=>?_)
      have hs1:a1.tmps.size=31:=by rw [q1];simp [sPu,hs]
      have hd1:a1.defers=[]:=by rw [q2];simp [dPu,hd]
      have h3:getT a1 3=.int ku (((unfix (rest.take nb):Nat):Int)):=by rw [q3 3 (by omega)];simp (disch:=(try simp only [sPu]);omega)
      simp only [Exit.then]
      refine SC.wp_seq (SC.wp_reg ?_)
      repeat (apply ops_1;(focus (simp (disch:=(try simp only [sPu]);omega) [h3];try rfl)))
      refine oNi (SC.wp_ret ?_)
      have hpf:pFix nb rest=some (unfix (rest.take nb),rest.drop nb):=pFix_some (by omega)
      have ho1:Only rb w w1:=⟨hb1.os,hb1.tape,hb1.output,hb1.size,fun k hk _=>hb1.block k hk⟩
      refine ret_tmp hr (by simp [dPu,hd1]) ⟨_,rfl,by rw [after_ok hpf];exact q4,ho1.trans q5,⟨((unfix (rest.take nb):Nat):Int),by simp (disch:=(try simp only [sPu]);omega) [h3]⟩,fun b x r h hp=>?_⟩
      cases h
      rw [hpf] at hp
      cases hp
      simp (disch:=(try simp only [sPu]);omega) [h3]
theorem rInt64_ok {TR gb T0 T1 F0:Nat} (hT0:intK P T0=some .u64) (hT1:intK P T1=some .i64) (h:RC P TR gb F0 (pFix 8) (fun v=>∃ n,v=.int .u64 n) (fun _ _ n v=>v=.int .u64 (n:Int)))
    (hf : P.funcs[f]? = some fn) (hb : fn.body.map strip = some (sc_RInt64 T0 T1 F0)) (hnm : (fn.name == "runtime.NumGoroutine") = false) (hn : fn.ntmps = 6) (hr : fn.results = #[.tmp 2]) :
    RC P TR gb f (pInt 8) (fun v=>∃ n,v=.int .i64 n) (fun _ _ n v=>v=.int .i64 n):=by
  refine ⟨fnOK_of hf hb hnm,fun w S rb st hgb hrd hsrc=>?_⟩
  refine fCa hf hb hn (by simp) fun a0 hs hd ha=>?_
  have h0:=ha 0 _ rfl
  simp only [List.getElem_toArray,List.getElem_cons_zero,List.getElem_cons_succ] at h0
  refine SC.wp_seq (SC.wp_reg ?_)
  repeat (apply ops_1;(focus (simp (disch:=(try simp only [sPu]);omega) ;try rfl)))
  refine oNi (SC.wp_seq (SC.wp_reg ?_))
  iterate 1 (apply ops_1;(focus (simp (disch:=(try simp only [sPu]);omega) [h0];try rfl)))
  refine ops_cal h.1 (by
    have:=h.2 w S rb st hgb hrd hsrc
    refine Eq.mp (congrArg (fun z=>Calls P F0 z w _) ?_) this
    simp (disch:=(try simp only [sPu]);omega)) ?_
  rintro e w1 ⟨v,rfl,q1,q2,⟨m,rfl⟩,q4⟩
  refine ⟨_,rfl,?_⟩
  repeat (apply ops_1;(focus (simp (disch:=(try simp only [sPu]);omega) [hT0,hT1];try rfl)))
  have ea:after st (pInt 8)=after st (pFix 8):=by
    cases st with
    | none=>rfl
    | some b =>
      unfold pInt
      cases hp:pFix 8 b with
      | none=>simp [after,rThen,hp]
      | some z=>rw [after_then _ _ _ rfl hp,after_ok hp];exact after_rOk _ _
  refine oNi (SC.wp_ret (ret_tmp hr (by simp [dPu,hd]) ⟨_,rfl,by rw [ea];exact q1,q2,⟨IntKind.i64.wrap m,by simp (disch:=(try simp only [sPu]);omega)⟩,fun b x r hst hp=>?_⟩))
  unfold pInt at hp
  obtain ⟨y,r1,k1,k2⟩:=rThen_some hp
  obtain ⟨rfl,rfl⟩:=rOk_some k2
  have hm:=q4 b y _ hst k1
  simp only [Value.int.injEq,true_and] at hm
  subst hm
  have hlt:y < 256 ^ 8:=by
    have f1:=pFix_facts k1
    have:=unfix_lt (b.take 8)
    rw [show (b.take 8).length=8 by simp;omega] at this
    rw [f1.2.1]
    exact this
  have:=wrap_i64s hlt
  simp (disch:=(try simp only [sPu]);omega) [this]
end
end Go.Proofs.YtecdefhecaeclaaDoor.K
