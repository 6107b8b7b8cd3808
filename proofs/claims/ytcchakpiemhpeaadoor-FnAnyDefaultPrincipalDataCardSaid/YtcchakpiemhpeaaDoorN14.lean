/- Generic texts: U4 U5 U1 T5 R30 U6. No condition. -/
import Derived.Test.YtcchakpiemhpeaaDoorN13
namespace Go.Proofs.YtcchakpiemhpeaaDoor.K
open Go Go.RowKit Go.Proofs.YtcchakpiemhpeaaDoor.T
attribute [local simp] eTm eCo pNo gTp gTn qv qcall vop iop
set_option linter.unusedSimpArgs false
set_option linter.unusedVariables false
set_option maxHeartbeats 4000000
def sc_PrAppend (T0 T1 T2 T3 T4 T5 F0 F1 F2 F3 F4 F5 F6:Nat):SC:=.seq (.reg [⟨some 4,.assign (.const (.slice none 0 0)),none⟩]) (.seq (.reg [mv 11 0,nilc 12 11,fa 13 T0 12 0,ld 14 T1 13,asg 5 14]) (.seq (.reg [mv 15 5]) (.seq (.reg [mv 16 5,⟨some 17,.binOp .geq T1 (.tmp 16) (.const (.int .i16 0)) T1,none⟩,asg 6 17]) (.seq (.reg [mv 18 6]) (.seq (.seq (.reg [mv 19 0,nilc 20 19,fa 21 T0 20 0,ld 22 T1 21,asg 7 22]) (.reg [mv 23 1,mv 24 7,cal 25 F0 [23,24],asg 1 25])) (.seq (.seq (.reg [mv 26 0,nilc 27 26,fa 28 T0 27 1,ld 29 T2 28,asg 8 29]) (.seq (.reg [mv 30 6]) (.cond (.tmp 30) (.reg [mv 31 1,mv 32 8,cal 33 F1 [31,32],asg 1 33]) (.reg [mv 34 1,mv 35 8,cal 36 F2 [34,35],asg 1 36])))) (.seq (.seq (.reg [mv 37 0,nilc 38 37,fa 39 T0 38 2,ld 40 T2 39,asg 9 40]) (.seq (.reg [mv 41 6]) (.cond (.tmp 41) (.reg [mv 42 1,mv 43 9,cal 44 F1 [42,43],asg 1 44]) (.reg [mv 45 1,mv 46 9,cal 47 F2 [45,46],asg 1 47])))) (.seq (.seq (.reg [mv 48 0,nilc 49 48,fa 50 T0 49 3,ld 51 T3 50,asg 10 51]) (.reg [mv 52 1,mv 53 10,cal 54 F3 [52,53],asg 1 54])) (.seq (.seq (.reg [mv 55 6]) (.cond (.tmp 55) (.seq (.reg [mv 56 1,mv 57 0,nilc 58 57,fa 59 T0 58 4,cal 60 F4 [59],⟨some 61,.convert T4 T5 (.tmp 60),none⟩,⟨some 62,.binOp .add T5 (.const (.int .u32 0)) (.tmp 61) T5,none⟩,cal 63 F5 [56,62],asg 1 63]) (.reg [mv 64 0,nilc 65 64,fa 66 T0 65 4,mv 67 1,cal 68 F6 [66,67],asg 1 68])) (.skip))) (.seq (.reg [mv 69 1,asg 4 69]) (.ret)))))))))))
theorem wMsg_pr {fl:Bool} {T3 T4:Nat} {x y z:Tree} {u:List (Nat × Bytes)}:wMsg 0 fl (fsPr T3 T4) [x,y,z] u=wPrim fl false x .str ++ (wPrim fl false y .str ++ ([T.byteOf (z.n % 2)] ++ wTags fl u)):=by
  simp [wMsg,fsPr,wFs,Hd.has,hdP,Hd.isNull,wTy,wPrim]
theorem wFs_pr {v:Int} {fl:Bool} {T16 T3 T4:Nat} {x y z t:Tree} {u:List (Nat × Bytes)} (hv:0≤v):wFs v fl (.cons (hdV T16) (.prim .i16) (fsPr T3 T4)) (Tree.mk v [] false [] [] :: [x,y,z]) ++ wTags fl u=fixed v 2 ++ wMsg 0 fl (fsPr T3 T4) [x,y,z] u:=by
  rw [wMsg_pr]
  simp [fsPr,wFs,Hd.has,hdP,hdV,Hd.isNull,wTy,wPrim,PK.width,Tree.n,hv]
section
variable {P:Program} {f:FuncId} {fn:Func}
def PrATC (P:Program) (tU8 T1 T3 T4:Nat) (F:FuncId):Prop:=FnOK P F∧∀ (w:World) (b:Nat) (v:Int) (x y z:Tree) (u:List (Nat × Bytes)),PrAt w b T1 v x y z u→FitTags u→x.s.length≤most→y.s.length≤most→(fixed v 2 ++ wMsg 0 (decide (0≤v)) (fsPr T3 T4) [x,y,z] u).length≤lim →
  Calls P F #[.pointer (some ⟨b,0,none⟩),.slice none 0 0] w fun e w'=>∃ dv,e=.returned dv∧Own tU8 w' w.heap.size dv (fixed v 2 ++ wMsg 0 (decide (0≤v)) (fsPr T3 T4) [x,y,z] u)∧Below w.heap.size w w'
theorem prAppend_ok {I:Ids} {G:List (Nat × Bytes)→Prop} {tU8 T0 T1 T2 T3 T4 T5 F0 F1 F2 F3 F4 F5 F6 t:Nat} (hG:∀ u,G u) (hka:KA G P I tU8) (hok:okTop P I tU8 T0 t fn.ntmps (some 0) (some (4,4)) (.cons (hdV T1) (.prim .i16) (fsPr T2 T3))=true) (hb2:fn.body.map strip=some (aTop I T0 t (some 0) (some (4,4)) (.cons (hdV T1) (.prim .i16) (fsPr T2 T3))))
    (e0:F0=I.aI16) (n0:I.aI16 ≠ 0) (e2:F2=I.aStr) (n2:I.aStr ≠ 0) (e3:F3=I.aBool) (n3:I.aBool ≠ 0)
    (hf0:fieldOff P T0 0=some 0) (hf1:fieldOff P T0 1=some 1) (hf2:fieldOff P T0 2=some 2) (hf3:fieldOff P T0 3=some 3) (o1:oneB P T1=true) (k1:intK P T1=some .i16) (o2:oneB P T2=true) (o3:oneB P T3=true)
    (hf : P.funcs[f]? = some fn) (hb : fn.body.map strip = some (sc_PrAppend T0 T1 T2 T3 T4 T5 F0 F1 F2 F3 F4 F5 F6)) (hnm : (fn.name == "runtime.NumGoroutine") = false) (hn : fn.ntmps = 70) (hr : fn.results = #[.tmp 4]) : PrATC P tU8 T0 T2 T3 f := by
  refine ⟨fnOK_of hf hb hnm,fun w b v x y z u hat hfu hx hy hl=>?_⟩
  obtain ⟨s1,s2,zb,m,hrow,q1,q2,q3,q4⟩:=hat
  have hbl:b < w.heap.size:=(Array.getElem?_eq_some_iff.1 hrow).1
  have hc:∀ j,w.cell? ⟨b,j,none⟩=#[.int .i16 v,.string s1,.string s2,.bool zb,m][j]?:=fun j=>cell_of_row _ _ _ _ _ _ hrow
  by_cases hv:0≤v
  ·
    rw [if_pos hv] at q4
    have hH:HFs G w (· < w.heap.size) v (flexAt (some 0) v) (.cons (hdV T1) (.prim .i16) (fsPr T2 T3)) b 0 (Tree.mk v [] false [] [] :: [x,y,z]):=by
      simp only [fsPr,HFs,HTy,HPrim,hdV,hdP,List.headD_cons,List.tail_cons,Nat.zero_add]
      refine ⟨fun _=>?_,fun _=>?_,fun _=>?_,fun _=>?_,trivial⟩
      · rw [if_neg (by decide)];exact ⟨_,hc 0,rfl⟩
      · rw [if_neg (by decide)];exact ⟨_,hc 1,by simp only [PVal];exact ⟨s1,rfl,q1,hx⟩⟩
      · rw [if_neg (by decide)];exact ⟨_,hc 2,by simp only [PVal];exact ⟨s2,rfl,q2,hy⟩⟩
      · rw [if_neg (by decide)];exact ⟨_,hc 3,zb,rfl,q3⟩
    have hT:TagsAt G w (· < w.heap.size) (flexAt (some 0) v) b 0 (some (4,4)) u:=by
      intro _
      refine ⟨hG u,hfu.1,hfu.2.1,hfu.2.2,?_⟩
      have h4:=hc 4
      have q4':TagsV w (fun k=>k < w.heap.size) u m:=tagsV_frame (fun k hk=>⟨hk.1,rfl⟩) q4
      rw [Nat.zero_add]
      rcases q4' with ⟨rfl,rfl⟩ | ⟨r,es,clock,rfl,z1,z2,z3⟩
      · exact .inl ⟨h4,rfl⟩
      · exact .inr ⟨r,es,clock,h4,z1,z2,z3⟩
    have hfl:flexAt (some 0) v=decide (0≤v):=rfl
    have he:=wFs_pr (fl:=decide (0≤v)) (T16:=T1) (T3:=T2) (T4:=T3) (x:=x) (y:=y) (z:=z) (t:=x) (u:=u) hv
    have:=appendTo_calls hka hf hb2 hr hok w b 0 v (Tree.mk v [] false [] [] :: [x,y,z]) u hbl (hc 0) hv hH hT (by rw [hfl,he];exact hl)
    rw [hfl,he] at this
    exact this
  ·
    have hd0:decide (0≤v)=false:=decide_eq_false hv
    have hdg:decide (v ≥ 0)=false:=decide_eq_false hv
    rw [hd0,wMsg_pr] at hl ⊢
    have ew:wPrim false false x .str=counted false false s1.data.toList.length 2 ++ s1.data.toList:=by
      simp only [wPrim,Bool.false_eq_true,if_false,← q1]
      rw [whole_of (by rw [q1];exact hx)]
    have ew2:wPrim false false y .str=counted false false s2.data.toList.length 2 ++ s2.data.toList:=by
      simp only [wPrim,Bool.false_eq_true,if_false,← q2]
      rw [whole_of (by rw [q2];exact hy)]
    have ew3:[T.byteOf (z.n % 2)]=[if zb then 1 else 0]:=by
      rw [q3]
      cases zb <;> rfl
    have ew4:wTags false u=[]:=rfl
    rw [ew,ew2,ew3,ew4,List.append_nil] at hl ⊢
    have c0:=hka.i16 n0 v
    have c1:=hka.str n2 s1 (by rw [q1];exact hx)
    have c2:=hka.str n2 s2 (by rw [q2];exact hy)
    have c3:=hka.bool n3 zb
    rw [← e0] at c0
    rw [← e2] at c1 c2
    rw [← e3] at c3
    generalize counted false false s1.data.toList.length 2 ++ s1.data.toList=out1 at *
    generalize counted false false s2.data.toList.length 2 ++ s2.data.toList=out2 at *
    generalize fixed v 2=out0 at *
    generalize [if zb=true then (1:UInt8) else 0]=out3 at *
    simp only [List.length_append] at hl
    refine fCa hf hb hn (by simp) fun a0 hs hd ha=>?_
    have h0:=ha 0 _ rfl
    have h1:=ha 1 _ rfl
    simp only [List.getElem_toArray,List.getElem_cons_zero,List.getElem_cons_succ] at h0 h1
    refine SC.wp_seq (SC.wp_reg ?_)
    repeat (first | (apply ops_1;(focus (simp (disch:=(try simp only [sPu]);omega) ;try rfl))) | (apply ops_y;(focus rfl);(focus ((try simp only [sPu]);omega));(focus (simp (disch:=(try simp only [sPu]);omega);done));(focus (simp (disch:=(try simp only [sPu]);omega) ;try rfl))) | (apply ops_n;(focus rfl);(focus ((try simp only [sPu]);omega));(focus (first | (left;simp (disch:=(try simp only [sPu]);omega);done) | (right;simp (disch:=(try simp only [sPu]);omega);done)))))
    refine oNi (SC.wp_seq (SC.wp_reg ?_))
    repeat (first | (apply ops_1;(focus (simp (disch:=(try simp only [sPu]);omega) [h0,hf0,o1,hc];try rfl))) | (apply ops_y;(focus rfl);(focus ((try simp only [sPu]);omega));(focus (simp (disch:=(try simp only [sPu]);omega) [h0,hf0,o1,hc];done));(focus (simp (disch:=(try simp only [sPu]);omega) [h0,hf0,o1,hc];try rfl))) | (apply ops_n;(focus rfl);(focus ((try simp only [sPu]);omega));(focus (first | (left;simp (disch:=(try simp only [sPu]);omega) [h0,hf0,o1,hc];done) | (right;simp (disch:=(try simp only [sPu]);omega);done)))))
    refine oNi (SC.wp_seq (SC.wp_reg ?_))
    repeat (first | (apply ops_1;(focus (simp (disch:=(try simp only [sPu]);omega) ;try rfl))) | (apply ops_y;(focus rfl);(focus ((try simp only [sPu]);omega));(focus (simp (disch:=(try simp only [sPu]);omega);done));(focus (simp (disch:=(try simp only [sPu]);omega) ;try rfl))) | (apply ops_n;(focus rfl);(focus ((try simp only [sPu]);omega));(focus (first | (left;simp (disch:=(try simp only [sPu]);omega);done) | (right;simp (disch:=(try simp only [sPu]);omega);done)))))
    refine oNi (SC.wp_seq (SC.wp_reg ?_))
    repeat (first | (apply ops_1;(focus (simp (disch:=(try simp only [sPu]);omega) [k1,hdg];try rfl))) | (apply ops_y;(focus rfl);(focus ((try simp only [sPu]);omega));(focus (simp (disch:=(try simp only [sPu]);omega) [k1,hdg];done));(focus (simp (disch:=(try simp only [sPu]);omega) [k1,hdg];try rfl))) | (apply ops_n;(focus rfl);(focus ((try simp only [sPu]);omega));(focus (first | (left;simp (disch:=(try simp only [sPu]);omega) [k1,hdg];done) | (right;simp (disch:=(try simp only [sPu]);omega);done)))))
    refine oNi (SC.wp_seq (SC.wp_reg ?_))
    repeat (first | (apply ops_1;(focus (simp (disch:=(try simp only [sPu]);omega) ;try rfl))) | (apply ops_y;(focus rfl);(focus ((try simp only [sPu]);omega));(focus (simp (disch:=(try simp only [sPu]);omega);done));(focus (simp (disch:=(try simp only [sPu]);omega) ;try rfl))) | (apply ops_n;(focus rfl);(focus ((try simp only [sPu]);omega));(focus (first | (left;simp (disch:=(try simp only [sPu]);omega);done) | (right;simp (disch:=(try simp only [sPu]);omega);done)))))
    refine oNi (SC.wp_seq (SC.wp_seq (SC.wp_reg ?_)))
    repeat (first | (apply ops_1;(focus (simp (disch:=(try simp only [sPu]);omega) [h0,hf0,o1,hc];try rfl))) | (apply ops_y;(focus rfl);(focus ((try simp only [sPu]);omega));(focus (simp (disch:=(try simp only [sPu]);omega) [h0,hf0,o1,hc];done));(focus (simp (disch:=(try simp only [sPu]);omega) [h0,hf0,o1,hc];try rfl))) | (apply ops_n;(focus rfl);(focus ((try simp only [sPu]);omega));(focus (first | (left;simp (disch:=(try simp only [sPu]);omega) [h0,hf0,o1,hc];done) | (right;simp (disch:=(try simp only [sPu]);omega);done)))))
    refine oNi ?_
    simp only [Exit.then]
    refine gen_act (fun a=>a.tmps.size=70∧a.defers=[]∧getT a 0=.pointer (some ⟨b,0,none⟩)∧getT a 1=.slice none 0 0∧getT a 6=.bool false∧getT a 7=.int .i16 v) ⟨by simp [sPu,hs],by simp [dPu,hd],by simp (disch:=(try simp only [sPu]);omega) [h0],by simp (disch:=(try simp only [sPu]);omega) [h1],by simp (disch:=(try simp only [sPu]);omega) [hdg],by simp (disch:=(try simp only [sPu]);omega)⟩ ?_
    rintro a1 ⟨z,zd,z0,z1,z6,z7⟩
    refine SC.wp_reg ?_
    iterate 2 (first | (apply ops_1;(focus (simp (disch:=(try simp only [sPu]);omega) [z1,z7];try rfl))) | (apply ops_y;(focus rfl);(focus ((try simp only [sPu]);omega));(focus (simp (disch:=(try simp only [sPu]);omega) [z1,z7];done));(focus (simp (disch:=(try simp only [sPu]);omega) [z1,z7];try rfl))) | (apply ops_n;(focus rfl);(focus ((try simp only [sPu]);omega));(focus (first | (left;simp (disch:=(try simp only [sPu]);omega) [z1,z7];done) | (right;simp (disch:=(try simp only [sPu]);omega);done)))))
    refine ops_call (argsV:=#[.slice none 0 0,.int .i16 v]) c0.1 (c0.2 w w.heap.size (.slice none 0 0) [] (own_nil _ _ _) (Nat.le_refl _) (by simp;omega) trivial) (by simp (disch:=(try simp only [sPu]);omega)) ?_
    rintro e w1 ⟨d1,rfl,ho1,hb1,hs1⟩
    refine ⟨_,rfl,?_⟩
    rw [List.nil_append] at ho1
    repeat (first | (apply ops_1;(focus (simp (disch:=(try simp only [sPu]);omega) ;try rfl))) | (apply ops_y;(focus rfl);(focus ((try simp only [sPu]);omega));(focus (simp (disch:=(try simp only [sPu]);omega);done));(focus (simp (disch:=(try simp only [sPu]);omega) ;try rfl))) | (apply ops_n;(focus rfl);(focus ((try simp only [sPu]);omega));(focus (first | (left;simp (disch:=(try simp only [sPu]);omega);done) | (right;simp (disch:=(try simp only [sPu]);omega);done)))))
    refine oNi ?_
    simp only [Exit.then]
    have hc1:∀ j,w1.cell? ⟨b,j,none⟩=#[.int .i16 v,.string s1,.string s2,.bool zb,m][j]?:=fun j=>by rw [hb1.cell hbl];exact hc j
    refine SC.wp_seq (SC.wp_seq (SC.wp_reg ?_))
    repeat (first | (apply ops_1;(focus (simp (disch:=(try simp only [sPu]);omega) [z0,hf1,o2,hc1];try rfl))) | (apply ops_y;(focus rfl);(focus ((try simp only [sPu]);omega));(focus (simp (disch:=(try simp only [sPu]);omega) [z0,hf1,o2,hc1];done));(focus (simp (disch:=(try simp only [sPu]);omega) [z0,hf1,o2,hc1];try rfl))) | (apply ops_n;(focus rfl);(focus ((try simp only [sPu]);omega));(focus (first | (left;simp (disch:=(try simp only [sPu]);omega) [z0,hf1,o2,hc1];done) | (right;simp (disch:=(try simp only [sPu]);omega);done)))))
    refine oNi (SC.wp_seq (SC.wp_reg ?_))
    repeat (first | (apply ops_1;(focus (simp (disch:=(try simp only [sPu]);omega) [z6];try rfl))) | (apply ops_y;(focus rfl);(focus ((try simp only [sPu]);omega));(focus (simp (disch:=(try simp only [sPu]);omega) [z6];done));(focus (simp (disch:=(try simp only [sPu]);omega) [z6];try rfl))) | (apply ops_n;(focus rfl);(focus ((try simp only [sPu]);omega));(focus (first | (left;simp (disch:=(try simp only [sPu]);omega) [z6];done) | (right;simp (disch:=(try simp only [sPu]);omega);done)))))
    refine oNi (SC.wp_cond (t:=false) (by simp (disch:=(try simp only [sPu]);omega)) ?_)
    rw [if_neg (by simp)]
    refine SC.wp_reg ?_
    iterate 2 (first | (apply ops_1;(focus (simp (disch:=(try simp only [sPu]);omega) ;try rfl))) | (apply ops_y;(focus rfl);(focus ((try simp only [sPu]);omega));(focus (simp (disch:=(try simp only [sPu]);omega);done));(focus (simp (disch:=(try simp only [sPu]);omega) ;try rfl))) | (apply ops_n;(focus rfl);(focus ((try simp only [sPu]);omega));(focus (first | (left;simp (disch:=(try simp only [sPu]);omega);done) | (right;simp (disch:=(try simp only [sPu]);omega);done)))))
    refine ops_call (argsV:=#[d1,.string s1]) c1.1 (c1.2 w1 w.heap.size d1 out0 ho1 hs1 (by omega) trivial) (by simp (disch:=(try simp only [sPu]);omega)) ?_
    rintro e w2 ⟨d2,rfl,ho2,hb2',hs2⟩
    refine ⟨_,rfl,?_⟩
    repeat (first | (apply ops_1;(focus (simp (disch:=(try simp only [sPu]);omega) ;try rfl))) | (apply ops_y;(focus rfl);(focus ((try simp only [sPu]);omega));(focus (simp (disch:=(try simp only [sPu]);omega);done));(focus (simp (disch:=(try simp only [sPu]);omega) ;try rfl))) | (apply ops_n;(focus rfl);(focus ((try simp only [sPu]);omega));(focus (first | (left;simp (disch:=(try simp only [sPu]);omega);done) | (right;simp (disch:=(try simp only [sPu]);omega);done)))))
    refine oNi ?_
    simp only [Exit.then]
    have hb12:=hb1.trans hb2'
    have hc2:∀ j,w2.cell? ⟨b,j,none⟩=#[.int .i16 v,.string s1,.string s2,.bool zb,m][j]?:=fun j=>by rw [hb12.cell hbl];exact hc j
    refine SC.wp_seq (SC.wp_seq (SC.wp_reg ?_))
    repeat (first | (apply ops_1;(focus (simp (disch:=(try simp only [sPu]);omega) [z0,hf2,o2,hc2];try rfl))) | (apply ops_y;(focus rfl);(focus ((try simp only [sPu]);omega));(focus (simp (disch:=(try simp only [sPu]);omega) [z0,hf2,o2,hc2];done));(focus (simp (disch:=(try simp only [sPu]);omega) [z0,hf2,o2,hc2];try rfl))) | (apply ops_n;(focus rfl);(focus ((try simp only [sPu]);omega));(focus (first | (left;simp (disch:=(try simp only [sPu]);omega) [z0,hf2,o2,hc2];done) | (right;simp (disch:=(try simp only [sPu]);omega);done)))))
    refine oNi (SC.wp_seq (SC.wp_reg ?_))
    repeat (first | (apply ops_1;(focus (simp (disch:=(try simp only [sPu]);omega) [z6];try rfl))) | (apply ops_y;(focus rfl);(focus ((try simp only [sPu]);omega));(focus (simp (disch:=(try simp only [sPu]);omega) [z6];done));(focus (simp (disch:=(try simp only [sPu]);omega) [z6];try rfl))) | (apply ops_n;(focus rfl);(focus ((try simp only [sPu]);omega));(focus (first | (left;simp (disch:=(try simp only [sPu]);omega) [z6];done) | (right;simp (disch:=(try simp only [sPu]);omega);done)))))
    refine oNi (SC.wp_cond (t:=false) (by simp (disch:=(try simp only [sPu]);omega)) ?_)
    rw [if_neg (by simp)]
    refine SC.wp_reg ?_
    iterate 2 (first | (apply ops_1;(focus (simp (disch:=(try simp only [sPu]);omega) ;try rfl))) | (apply ops_y;(focus rfl);(focus ((try simp only [sPu]);omega));(focus (simp (disch:=(try simp only [sPu]);omega);done));(focus (simp (disch:=(try simp only [sPu]);omega) ;try rfl))) | (apply ops_n;(focus rfl);(focus ((try simp only [sPu]);omega));(focus (first | (left;simp (disch:=(try simp only [sPu]);omega);done) | (right;simp (disch:=(try simp only [sPu]);omega);done)))))
    refine ops_call (argsV:=#[d2,.string s2]) c2.1 (c2.2 w2 w.heap.size d2 (out0 ++ out1) ho2 hs2 (by rw [List.length_append];omega) trivial) (by simp (disch:=(try simp only [sPu]);omega)) ?_
    rintro e w3 ⟨d3,rfl,ho3,hb3',hs3⟩
    refine ⟨_,rfl,?_⟩
    repeat (first | (apply ops_1;(focus (simp (disch:=(try simp only [sPu]);omega) ;try rfl))) | (apply ops_y;(focus rfl);(focus ((try simp only [sPu]);omega));(focus (simp (disch:=(try simp only [sPu]);omega);done));(focus (simp (disch:=(try simp only [sPu]);omega) ;try rfl))) | (apply ops_n;(focus rfl);(focus ((try simp only [sPu]);omega));(focus (first | (left;simp (disch:=(try simp only [sPu]);omega);done) | (right;simp (disch:=(try simp only [sPu]);omega);done)))))
    refine oNi ?_
    simp only [Exit.then]
    have hb13:=hb12.trans hb3'
    have hc3:∀ j,w3.cell? ⟨b,j,none⟩=#[.int .i16 v,.string s1,.string s2,.bool zb,m][j]?:=fun j=>by rw [hb13.cell hbl];exact hc j
    refine SC.wp_seq (SC.wp_seq (SC.wp_reg ?_))
    repeat (first | (apply ops_1;(focus (simp (disch:=(try simp only [sPu]);omega) [z0,hf3,o3,hc3];try rfl))) | (apply ops_y;(focus rfl);(focus ((try simp only [sPu]);omega));(focus (simp (disch:=(try simp only [sPu]);omega) [z0,hf3,o3,hc3];done));(focus (simp (disch:=(try simp only [sPu]);omega) [z0,hf3,o3,hc3];try rfl))) | (apply ops_n;(focus rfl);(focus ((try simp only [sPu]);omega));(focus (first | (left;simp (disch:=(try simp only [sPu]);omega) [z0,hf3,o3,hc3];done) | (right;simp (disch:=(try simp only [sPu]);omega);done)))))
    refine oNi ?_
    simp only [Exit.then]
    refine SC.wp_reg ?_
    iterate 2 (first | (apply ops_1;(focus (simp (disch:=(try simp only [sPu]);omega) ;try rfl))) | (apply ops_y;(focus rfl);(focus ((try simp only [sPu]);omega));(focus (simp (disch:=(try simp only [sPu]);omega);done));(focus (simp (disch:=(try simp only [sPu]);omega) ;try rfl))) | (apply ops_n;(focus rfl);(focus ((try simp only [sPu]);omega));(focus (first | (left;simp (disch:=(try simp only [sPu]);omega);done) | (right;simp (disch:=(try simp only [sPu]);omega);done)))))
    refine ops_call (argsV:=#[d3,.bool zb]) c3.1 (c3.2 w3 w.heap.size d3 (out0 ++ out1 ++ out2) ho3 hs3 (by rw [List.length_append,List.length_append];omega) trivial) (by simp (disch:=(try simp only [sPu]);omega)) ?_
    rintro e w4 ⟨d4,rfl,ho4,hb4',hs4⟩
    refine ⟨_,rfl,?_⟩
    repeat (first | (apply ops_1;(focus (simp (disch:=(try simp only [sPu]);omega) ;try rfl))) | (apply ops_y;(focus rfl);(focus ((try simp only [sPu]);omega));(focus (simp (disch:=(try simp only [sPu]);omega);done));(focus (simp (disch:=(try simp only [sPu]);omega) ;try rfl))) | (apply ops_n;(focus rfl);(focus ((try simp only [sPu]);omega));(focus (first | (left;simp (disch:=(try simp only [sPu]);omega);done) | (right;simp (disch:=(try simp only [sPu]);omega);done)))))
    refine oNi ?_
    simp only [Exit.then]
    refine SC.wp_seq (SC.wp_seq (SC.wp_reg ?_))
    repeat (first | (apply ops_1;(focus (simp (disch:=(try simp only [sPu]);omega) [z6];try rfl))) | (apply ops_y;(focus rfl);(focus ((try simp only [sPu]);omega));(focus (simp (disch:=(try simp only [sPu]);omega) [z6];done));(focus (simp (disch:=(try simp only [sPu]);omega) [z6];try rfl))) | (apply ops_n;(focus rfl);(focus ((try simp only [sPu]);omega));(focus (first | (left;simp (disch:=(try simp only [sPu]);omega) [z6];done) | (right;simp (disch:=(try simp only [sPu]);omega);done)))))
    refine oNi (SC.wp_cond (t:=false) (by simp (disch:=(try simp only [sPu]);omega)) ?_)
    rw [if_neg (by simp)]
    refine SC.wp_skip ?_
    simp only [Exit.then]
    refine SC.wp_seq (SC.wp_reg ?_)
    repeat (first | (apply ops_1;(focus (simp (disch:=(try simp only [sPu]);omega) ;try rfl))) | (apply ops_y;(focus rfl);(focus ((try simp only [sPu]);omega));(focus (simp (disch:=(try simp only [sPu]);omega);done));(focus (simp (disch:=(try simp only [sPu]);omega) ;try rfl))) | (apply ops_n;(focus rfl);(focus ((try simp only [sPu]);omega));(focus (first | (left;simp (disch:=(try simp only [sPu]);omega);done) | (right;simp (disch:=(try simp only [sPu]);omega);done)))))
    refine oNi (SC.wp_ret (ret_tmp hr (by simp [dPu,zd]) ⟨d4,by simp (disch:=(try simp only [sPu]);omega),?_,hb13.trans hb4'⟩))
    simpa only [List.append_assoc] using ho4
end
end Go.Proofs.YtcchakpiemhpeaaDoor.K
namespace Go.Proofs.YtcchakpiemhpeaaDoor.K
open Go Go.RowKit Go.Proofs.YtcchakpiemhpeaaDoor.T
attribute [local simp] eTm eCo pNo gTp gTn qv qcall vop iop
set_option linter.unusedSimpArgs false
set_option linter.unusedVariables false
set_option maxHeartbeats 4000000
section
variable {P:Program} {f:FuncId} {fn:Func}
def AgPC (P:Program) (tU8 T3 T4 gb:Nat) (Gl:World→Prop) (F:FuncId):Prop:=FnOK P F∧∀ (w:World) (S:Option Nat) (base:Option Addr) (src:Bytes) (cap:Nat),gb < w.heap.size→(∀ w',Below w.heap.size w w'→Gl w')→SrcAt w S base src→(∀ sb,S=some sb→sb < w.heap.size)→src.length≤lim →
  (∀ v xs u r,pPri T3 T4 src=some ((v,(xs,u)),r)→FitFs 0 (fsPr T3 T4) xs∧FitTags u∧(fixed v 2 ++ wMsg 0 (decide (0≤v)) (fsPr T3 T4) xs u).length≤lim) →
  Calls P F #[.slice base src.length cap] w fun e w'=>Below w.heap.size w w' ∧
    match pPri T3 T4 src with
    | none=>e=.returned (.tuple #[.slice none 0 0,.bool false])
    | some ((v,(xs,u)),r)=>∃ dv,e=.returned (.tuple #[dv,.bool true])∧Own tU8 w' w.heap.size dv (fixed v 2 ++ wMsg 0 (decide (0≤v)) (fsPr T3 T4) xs u)
abbrev csPr:Array Value:=#[.int .i16 0,.string ⟨#[]⟩,.string ⟨#[]⟩,.bool false,.map none]
theorem againPr_ok {tU8 gb T0 T1 T2 T3 T4 F0 F1 F2 FR:Nat} {Gl:World→Prop} {err:Value}
    (hz0:∃ i z,P.info? T0=some i∧i.zero=some z∧z.cells.size=5) (hA:aggB P T0 5=true) (hT1:u8sB P T1 tU8=true) (hT2:ifaceT P T2=true) (herr:∃ t y,err=.iface t y)
    (oNV:FnOK P F0) (cNV:∀ w:World,Calls P F0 #[] w fun e w'=>e=.returned (.agg csPr)∧Below w.heap.size w w')
    (oRF:FnOK P F1) (cRF:∀ (w:World) (x y:Value) (R:Ending→World→Prop),(Calls P FR #[x,y,.bool false] w fun e w'=>∃ v,e=.returned v∧R e w')→Calls P F1 #[x,y] w R)
    (cR:PrRC P T0 T3 T4 gb err Gl FR) (cAT:PrATC P tU8 T0 T3 T4 F2)
    (hf : P.funcs[f]? = some fn) (hb : fn.body.map strip = some (sc_AgainK T0 T1 T2 F0 F1 F2)) (hnm : (fn.name == "runtime.NumGoroutine") = false) (hn : fn.ntmps = 11) (hr : fn.results = #[.tmp 2, .tmp 3]) : AgPC P tU8 T3 T4 gb Gl f := by
  refine ⟨fnOK_of hf hb hnm,fun w S base src cap hgb hgl hsr hS hlen hfit=>?_⟩
  obtain ⟨zi,zz,hzi,hzz,hzc⟩:=hz0
  refine fCa hf hb hn (by simp) fun a0 hs hd ha=>?_
  have h0:=ha 0 _ rfl
  simp only [List.getElem_toArray,List.getElem_cons_zero,List.getElem_cons_succ] at h0
  refine SC.wp_seq (SC.wp_reg ?_)
  repeat (apply ops_1;(focus (simp (disch:=(try simp only [sPu]);omega) ;try rfl)))
  refine oNi (SC.wp_seq (SC.wp_reg ?_))
  refine ops_call oNV (cNV w) (by simp (disch:=(try simp only [sPu]);omega)) ?_
  rintro e w1 ⟨rfl,hb1⟩
  refine ⟨_,rfl,?_⟩
  refine oNo rfl (opw_alloc hzi hzz ?_)
  have hn1:=heap_alloc_new w1 (.cells zz.cells T0)
  have hb1':Below w.heap.size w (w1.alloc (.cells zz.cells T0)):=hb1.alloc hb1.size _
  obtain ⟨b,hb⟩:∃ b,b=w1.heap.size:=⟨_,rfl⟩
  have hs1':(w1.alloc (.cells zz.cells T0)).heap.size=b+1:=by simp [hb]
  have hbw:w.heap.size≤b:=by rw [hb];exact hb1.size
  rw [← hb] at hn1 ⊢
  generalize w1.alloc (.cells zz.cells T0)=w1' at hn1 hb1' hs1' ⊢
  refine oNo rfl (opw_store_agg (cs:=csPr.toList) (cur:=zz.cells) (b:=b) (E:=T0) hA (by simp (disch:=(try simp only [sPu]);omega)) (by simp (disch:=(try simp only [sPu]);omega)) hn1 hzc (by intro v hv;simp [csPr] at hv;rcases hv with rfl | rfl | rfl | rfl <;> rfl) (oNi ?_))
  simp only [Exit.then,pNo]
  obtain ⟨w2,hw2⟩:∃ w2,w2=w1'.setRow b csPr.toList.toArray:=⟨_,rfl⟩
  rw [← hw2]
  have hrow2:w2.heap[b]?=some (.cells csPr T0 (0,0)):=by rw [hw2];exact setRow_heap w1' b _ csPr.toList.toArray _ _ hn1
  have hsz2:w2.heap.size=b+1:=by rw [hw2];simpa using hs1'
  have hb2:Below w.heap.size w w2:=by rw [hw2];exact hb1'.trans ⟨rfl,rfl,rfl,by simp,fun k hk=>setRow_other _ _ _ _ (by omega)⟩
  refine SC.wp_seq (SC.wp_seq (SC.wp_reg ?_))
  iterate 1 (apply ops_1;(focus (simp (disch:=(try simp only [sPu]);omega) [h0];try rfl)))
  have hS2:SrcAt w2 S base src:=hsr.frame fun sb h=>hb2.block sb (hS sb h)
  have hu8:=(u8s_of hT1).1
  have hsrc:Src P 1 T1 (.slice base src.length cap) src.length (cellsOf src) w2:=by
    cases S with
    | none =>
      obtain ⟨rfl,rfl⟩:=hS2
      exact Src.ofNil w2 hu8 _
    | some sb =>
      obtain ⟨o,rfl,hc⟩:=hS2
      refine Src.ofSlice w2 hu8 ⟨sb,o,none⟩ src.length cap (cellsOf src) (by simp [cLen]) (fun j u hj=>?_) (fun u hu=>?_)
      · rw [add_none]
        simp only [cellsOf,List.getElem?_map,Option.map_eq_some_iff] at hj
        obtain ⟨u',hu',rfl⟩:=hj
        exact hc j u' hu'
      · simp only [cellsOf,List.mem_map] at hu
        obtain ⟨u',_,rfl⟩:=hu
        rfl
  refine oNo rfl (opw_appendU8 (B:=w2.heap.size) (xs:=[]) (bs:=src) (dv:=.slice none 0 0) (xv:=.slice base src.length cap) hT1 (eCo _ _) (by simp (disch:=(try simp only [sPu]);omega)) rfl (World.ownsRow_nil _ _ _ _) (Nat.le_refl _) hsrc (by simpa using hlen) fun dv w3 ho hb3 hbs3 _=>?_)
  rw [List.nil_append] at ho
  have hrow3:w3.heap[b]?=some (.cells csPr T0 (0,0)):=by rw [hb3.block b (by omega)];exact hrow2
  have hb3':Below w.heap.size w w3:=hb2.trans ⟨hb3.os,hb3.tape,hb3.output,hb3.size,fun k hk=>hb3.block k (by have:=hb2.size;omega)⟩
  obtain ⟨S3,base3,cap3,rfl,hcap3,hsr3,hS3⟩:∃ S3 base3 cap3,dv=.slice base3 src.length cap3∧src.length≤cap3∧SrcAt w3 S3 base3 src∧∀ sb,S3=some sb→sb ≠ b∧sb < w3.heap.size:=by
    obtain ⟨ho1,⟨e1,e2⟩ | ⟨g,c3,cur,e1,e2,e3,e4,e5,e6,e7⟩⟩:=ho
    · have hnil:src=[]:=List.length_eq_zero_iff.1 e2
      subst hnil
      exact ⟨none,none,0,e1,Nat.le_refl _,⟨rfl,rfl⟩,fun sb h=>by cases h⟩
    · refine ⟨some g,some ⟨g,0,none⟩,c3,e1,e4,⟨0,rfl,fun j u hu=>?_⟩,fun sb h=>by cases h;exact ⟨by omega,(Array.getElem?_eq_some_iff.1 e3).1⟩⟩
      rw [cell_of_row _ _ _ _ _ _ e3,Nat.zero_add]
      have hj:(cellsOf src)[j]?=some (cell u):=by simp [cellsOf,hu]
      rw [← e7,List.getElem?_take] at hj
      split at hj
      · rwa [Array.getElem?_toList] at hj
      · cases hj
  have hs3:=hb3'.size
  have hcr:=cR w.heap.size w3 S3 b base3 src cap3 hgb hbw hs3 (fun w' h=>hgl w' (hb3'.trans h)) hrow3 hcap3 hsr3 hS3
  obtain ⟨R,hR⟩:∃ R:Ending→World→Prop,R=fun e w'=>∃ v',e=.returned v'∧((v'=.nilIface∨∃ t y,v'=.iface t y)∧Below w.heap.size w3 w'∧w.heap.size≤w'.heap.size ∧
      match pPri T3 T4 src with
      | none=>v'=err
      | some ((v,(xs,u)),r)=>v'=.nilIface∧∃ x y z,xs=[x,y,z]∧PrAt w' b T0 v x y z u):=⟨_,rfl⟩
  refine ops_call oRF (cRF w3 (.pointer (some ⟨b,0,none⟩)) (.slice base3 src.length cap3) R (hcr.mono fun e w' h=>?_)) (by simp (disch:=(try simp only [sPu]);omega)) ?_
  · obtain ⟨z1,z2,rfl,z3⟩:=h
    rw [hR]
    cases hp:pPri T3 T4 src with
    | none =>
      have e:(after (some src) (pPri T3 T4)).isSome=false:=by rw [after_no hp];rfl
      rw [e]
      exact ⟨_,rfl,_,rfl,.inr herr,z1,by omega,rfl⟩
    | some zn =>
      obtain ⟨⟨v,xs,u⟩,rest⟩:=zn
      have e:(after (some src) (pPri T3 T4)).isSome=true:=by rw [after_ok hp];rfl
      rw [e]
      obtain ⟨x,y,z,rfl,h4⟩:=z3 v xs u rest hp
      obtain ⟨hf1,hf2,hf3⟩:=hfit v _ u rest hp
      have hh:x.s.length≤most∧y.s.length≤most∧z.s.length≤most:=by
        simp only [fsPr,FitFs,FitTy,hdP,Hd.has,List.headD_cons,List.tail_cons] at hf1
        exact ⟨hf1.1 (by simp),hf1.2.1 (by simp),hf1.2.2.1 (by simp)⟩
      exact ⟨_,rfl,_,rfl,.inl rfl,z1,by omega,rfl,x,y,z,rfl,h4 hh.1 hh.2.1 hh.2.2⟩
  rw [hR]
  rintro e w4 ⟨v',rfl,hv',hb4,hs4,hpost⟩
  refine ⟨_,rfl,?_⟩
  refine oNo rfl (opw_isErr (v:=v') hT2 (by simp (disch:=(try simp only [sPu]);omega)) hv' (oNi ?_))
  simp only [Exit.then]
  refine SC.wp_cond (t:=isErr v') (by simp (disch:=(try simp only [sPu]);omega)) ?_
  have hb4':Below w.heap.size w w4:=hb3'.trans hb4
  cases hp:pPri T3 T4 src with
  | none =>
    rw [hp] at hpost
    simp only at hpost
    subst hpost
    obtain ⟨t,y,rfl⟩:=herr
    simp only [isErr,if_true]
    refine SC.wp_seq (SC.wp_reg ?_)
    repeat (apply ops_1;(focus (simp (disch:=(try simp only [sPu]);omega) ;try rfl)))
    refine oNi (SC.wp_ret ?_)
    try simp only [Exit.then]
    exact bodyPost_ret_by (v:=.tuple #[.slice none 0 0,.bool false]) (res2 hr (by simp (disch:=(try simp only [sPu]);omega)) (by simp (disch:=(try simp only [sPu]);omega))) (by simp [dPu,hd]) ⟨hb4',rfl⟩
  | some zn =>
    obtain ⟨⟨v,xs,u⟩,r⟩:=zn
    rw [hp] at hpost
    obtain ⟨rfl,x,y,z,rfl,hat⟩:=hpost
    obtain ⟨hf1,hf2,hf3⟩:=hfit v _ u r hp
    have hh:x.s.length≤most∧y.s.length≤most∧z.s.length≤most:=by
      simp only [fsPr,FitFs,FitTy,hdP,Hd.has,List.headD_cons,List.tail_cons] at hf1
      exact ⟨hf1.1 (by simp),hf1.2.1 (by simp),hf1.2.2.1 (by simp)⟩
    simp only [isErr,Bool.false_eq_true,if_false]
    refine SC.wp_skip ?_
    simp only [Exit.then]
    refine SC.wp_seq (SC.wp_reg ?_)
    refine ops_call cAT.1 (cAT.2 w4 b v x y z u hat hf2 hh.1 hh.2.1 hf3) (by simp (disch:=(try simp only [sPu]);omega)) ?_
    rintro e w5 ⟨dv5,rfl,ho5,hb5⟩
    refine ⟨_,rfl,?_⟩
    repeat (apply ops_1;(focus (simp (disch:=(try simp only [sPu]);omega) ;try rfl)))
    refine oNi (SC.wp_ret ?_)
    try simp only [Exit.then]
    exact bodyPost_ret_by (v:=.tuple #[dv5,.bool true]) (res2 hr (by simp (disch:=(try simp only [sPu]);omega)) (by simp (disch:=(try simp only [sPu]);omega))) (by simp [dPu,hd]) ⟨hb4'.trans ⟨hb5.os,hb5.tape,hb5.output,hb5.size,fun k hk=>hb5.block k (by omega)⟩,dv5,rfl,own_base ho5 (by omega)⟩
end
end Go.Proofs.YtcchakpiemhpeaaDoor.K
namespace Go.Proofs.YtcchakpiemhpeaaDoor.K
open Go Go.RowKit Go.Proofs.YtcchakpiemhpeaaDoor.T
attribute [local simp] eTm eCo pNo gTp gTn qv qcall vop iop
set_option linter.unusedVariables false
set_option linter.unusedSimpArgs false
set_option maxHeartbeats 4000000
section
variable {G:List (Nat × Bytes)→Prop} {P:Program} {X:STy} {f:FuncId} {fn:Func}
def Kept2C (G:List (Nat × Bytes)→Prop) (P:Program) (X:STy) (fs:Fs) (mf:Int) (f:FuncId):Prop:=FnOK P f∧∀ (w:World) (fv:Value) (ver:Nat) (t:Tree) (tv:Value),FsV w (· < w.heap.size) fs fv→TV G w (· < w.heap.size) t tv→(fixed ver 2 ++ (wFs ver (decide ((0:Int)≤mf) && decide (mf≤(ver:Int))) fs t.l ++ wTags (decide ((0:Int)≤mf) && decide (mf≤(ver:Int))) t.u)).length≤lim →
  Calls P f #[msgV fv mf,.int .i64 (ver:Int),tv] w (RetOwn X.U8 w (fixed ver 2 ++ (wFs ver (decide ((0:Int)≤mf) && decide (mf≤(ver:Int))) fs t.l ++ wTags (decide ((0:Int)≤mf) && decide (mf≤(ver:Int))) t.u)))
theorem kept2_ok (hX:stOK P X=true) (hm:P.follows .mixedOrders=true) {fs:Fs} {mf:Int} {fF fWr:FuncId} (oF:FnOK P fF) (cF:∀ (w:World) (n:Int) (s:Nat),s≤8→Calls P fF #[.int .i64 n,.int .i64 (s:Int)] w (RetOwn X.U8 w (fixed n s)))
    (oWr:FnOK P fWr) (cWr:∀ (w:World) (fv:Value) (mflex ver:Int) (t:Tree) (tv:Value),FsV w (· < w.heap.size) fs fv→TV G w (· < w.heap.size) t tv→(wFs ver (decide (0≤mflex) && decide (mflex≤ver)) fs t.l ++ wTags (decide (0≤mflex) && decide (mflex≤ver)) t.u).length≤lim →
      Calls P fWr #[msgV fv mflex,.int .i64 ver,tv] w (RetOwn X.U8 w (wFs ver (decide (0≤mflex) && decide (mflex≤ver)) fs t.l ++ wTags (decide (0≤mflex) && decide (mflex≤ver)) t.u)))
    (hf : P.funcs[f]? = some fn) (hb : fn.body.map strip = some (sc_Kept X.M X.T X.Bs fF fWr)) (hnm : (fn.name == "runtime.NumGoroutine") = false) (hn : fn.ntmps = 14) (hr : fn.results = #[.tmp 6]) : Kept2C G P X fs mf f := by
  refine ⟨fnOK_of hf hb hnm,fun w fv ver t tv hfv ht hl=>?_⟩
  have hst:=st_facts hX
  refine fCa hf hb hn (by simp) fun a0 hs hd ha=>?_
  have h0:=ha 0 _ rfl
  have h1:=ha 1 _ rfl
  have h2:=ha 2 _ rfl
  simp only [List.getElem_toArray,List.getElem_cons_zero,List.getElem_cons_succ] at h0 h1 h2
  have ht0:=ht
  cases ht with
  | mk n s tnull l u sb lb ub sc lc uc b o cs hs1 hsc hlc huc hll hrr htt hG hu =>
  refine SC.wp_seq (SC.wp_reg (ops_box (B:=w.heap.size) (w0:=w) (by rw [eTm,h0];rfl) (Nat.le_refl _) (Below.refl _ _) fun w1 q1 q2 q3 hc q5=>?_))
  refine ops_box (B:=w.heap.size) (w0:=w) (cs:=#[.int .i64 n,.slice sb s.length sc,.bool tnull,.slice lb l.length lc,.slice ub u.length uc]) (by simp (disch:=(try simp only [sPu]);omega) [h2,treV]) (by omega) q2 fun w2 r1 r2 r3 hd2 r5=>?_
  repeat (apply ops_1;(focus (simp (disch:=(try simp only [sPu]);omega) ;try rfl)))
  refine oNi ?_
  simp only [Exit.then]
  have hc2:∀ j,w2.cell? ⟨w.heap.size,j,none⟩=#[fv,.int .i64 mf][j]?:=fun j=>by rw [r1.cell (by show w.heap.size < w1.heap.size;omega)];exact hc j
  have hsz2:w2.heap.size=w.heap.size+2:=by omega
  rw [q3] at hd2 ⊢
  clear hc q1 q2 q3 q5 r1 r3 r5 w1
  have hT5:rangeV w2.drew (w.heap.size+1) 0 5=some [.int .i64 n,.slice sb s.length sc,.bool tnull,.slice lb l.length lc,.slice ub u.length uc]:=by
    have:rangeV w2 (w.heap.size+1) 0 5=some [.int .i64 n,.slice sb s.length sc,.bool tnull,.slice lb l.length lc,.slice ub u.length uc]:=by simp [rangeV,hd2]
    exact this
  have hT2:rangeV w2.drew w.heap.size 0 2=some [fv,.int .i64 mf]:=by
    have:rangeV w2 w.heap.size 0 2=some [fv,.int .i64 mf]:=by simp [rangeV,hc2]
    exact this
  have hdr:w2.drew.heap.size=w2.heap.size:=rfl
  have hlt1:w.heap.size < w2.heap.size:=by omega
  have hlt2:w.heap.size+1 < w2.heap.size:=by omega
  refine SC.wp_seq (SC.wp_dreg hm (Below w2.heap.size w2.drew) [(0,true),(2,true),(3,true),(4,true),(1,false),(5,false),(6,false),(7,true)] (by rfl) (by rfl) (by decide) (Below.refl _ _) ?_)
  iterate 4 (apply dr_1;(focus rfl);(focus (simp (disch:=(try simp only [sPu]);omega) [hst,h1,hT5,hT2,hlt1,hlt2];try rfl)))
  refine dreg_call (argsV:=#[.int .i64 (ver:Int),.int .i64 ((2:Nat):Int)]) rfl oF (cF w2.drew ver 2 (by omega)) (by simp (disch:=(try simp only [sPu]);omega) [h1]) ?_
  rintro e w3 ⟨dv8,rfl,ho8,hb3⟩
  refine ⟨_,rfl,hb3,?_⟩
  have hsz3:w2.heap.size≤w3.heap.size:=hb3.size
  have hb13:Below w.heap.size w w3:=r2.trans ⟨hb3.os,hb3.tape,hb3.output,hb3.size,fun k hk=>hb3.block k (by show k < w2.heap.size;omega)⟩
  have hcw:=cWr w3 fv mf ver _ _ (FsV.down hb13 (by omega) hfv) (TV.down hb13 (by omega) ht0) (by simp only [List.length_append] at hl ⊢;omega)
  refine dreg_call (argsV:=#[msgV fv mf,.int .i64 (ver:Int),treV n (.slice sb s.length sc) tnull (.slice lb l.length lc) (.slice ub u.length uc)]) rfl oWr hcw (by simp (disch:=(try simp only [sPu]);omega) [msgV,treV]) ?_
  rintro e w4 ⟨dv12,rfl,ho12,hb4⟩
  refine ⟨_,rfl,hb3.trans ⟨hb4.os,hb4.tape,hb4.output,hb4.size,fun k hk=>hb4.block k (by omega)⟩,?_⟩
  have ho8':Own X.U8 w4 w2.heap.size dv8 (fixed ver 2):=own_keep ho8 hb4
  obtain ⟨S,base,cap,rfl,hsr,hS⟩:=own_src ho12
  have hu8:=(u8s_of hst.2.2.1.1).1
  have hsrc:Src P 1 X.Bs (.slice base (wFs ver (decide ((0:Int)≤mf) && decide (mf≤(ver:Int))) fs (Tree.mk n s tnull l u).l ++ wTags (decide ((0:Int)≤mf) && decide (mf≤(ver:Int))) (Tree.mk n s tnull l u).u).length cap) (wFs ver (decide ((0:Int)≤mf) && decide (mf≤(ver:Int))) fs (Tree.mk n s tnull l u).l ++ wTags (decide ((0:Int)≤mf) && decide (mf≤(ver:Int))) (Tree.mk n s tnull l u).u).length (cellsOf (wFs ver (decide ((0:Int)≤mf) && decide (mf≤(ver:Int))) fs (Tree.mk n s tnull l u).l ++ wTags (decide ((0:Int)≤mf) && decide (mf≤(ver:Int))) (Tree.mk n s tnull l u).u)) w4:=by
    generalize (wFs ver (decide ((0:Int)≤mf) && decide (mf≤(ver:Int))) fs (Tree.mk n s tnull l u).l ++ wTags (decide ((0:Int)≤mf) && decide (mf≤(ver:Int))) (Tree.mk n s tnull l u).u)=src at hsr ⊢
    cases S with
    | none =>
      obtain ⟨rfl,rfl⟩:=hsr
      exact Src.ofNil w4 hu8 _
    | some sb =>
      obtain ⟨o,rfl,hc⟩:=hsr
      refine Src.ofSlice w4 hu8 ⟨sb,o,none⟩ src.length cap (cellsOf src) (by simp [cLen]) (fun j u hj=>?_) (fun u hu=>?_)
      · rw [add_none]
        simp only [cellsOf,List.getElem?_map,Option.map_eq_some_iff] at hj
        obtain ⟨u',hu',rfl⟩:=hj
        exact hc j u' hu'
      · simp only [cellsOf,List.mem_map] at hu
        obtain ⟨u',_,rfl⟩:=hu
        rfl
  refine dreg_n rfl rfl (opw_appendU8 (B:=w2.heap.size) (xs:=fixed ver 2) (bs:=(wFs ver (decide ((0:Int)≤mf) && decide (mf≤(ver:Int))) fs (Tree.mk n s tnull l u).l ++ wTags (decide ((0:Int)≤mf) && decide (mf≤(ver:Int))) (Tree.mk n s tnull l u).u)) (dv:=dv8) (xv:=.slice base (wFs ver (decide ((0:Int)≤mf) && decide (mf≤(ver:Int))) fs (Tree.mk n s tnull l u).l ++ wTags (decide ((0:Int)≤mf) && decide (mf≤(ver:Int))) (Tree.mk n s tnull l u).u).length cap) hst.2.2.1.1 (by simp (disch:=(try simp only [sPu]);omega)) (by simp (disch:=(try simp only [sPu]);omega)) rfl ho8' (by have:=hb4.size;omega) hsrc (by simpa using hl) fun dv w5 ho hb5 hbs5 _=>?_)
  have hb5':Below w2.heap.size w2.drew w5:=(hb3.trans ⟨hb4.os,hb4.tape,hb4.output,hb4.size,fun k hk=>hb4.block k (by omega)⟩).trans hb5
  refine ⟨hb5',?_⟩
  repeat (apply dr_1;(focus rfl);(focus (simp (disch:=(try simp only [sPu]);omega) ;try rfl)))
  refine dreg_nil ?_
  simp only [Exit.then]
  refine SC.wp_ret (ret_tmp hr (by simp [dPu,hd]) ⟨dv,by simp (disch:=(try simp only [sPu]);omega),own_base ho (by omega),r2.trans ⟨hb5'.os,hb5'.tape,hb5'.output,hb5'.size,fun k hk=>hb5'.block k (by show k < w2.heap.size;omega)⟩⟩)
end
end Go.Proofs.YtcchakpiemhpeaaDoor.K
namespace Go.Proofs.YtcchakpiemhpeaaDoor.T
set_option linter.unusedSimpArgs false
set_option linter.unusedVariables false
theorem uv_len:∀ (k m:Nat) (b r:Bytes) (x:Nat),pUvGo k m b=some (x,r)→∃ n,x=n * m∧(uvarint n).length+r.length≤b.length
  | _,_,[],r,x,h=>by simp [pUvGo] at h
  | 0,m,u :: b,r,x,h=>by
    simp only [pUvGo] at h
    split at h
    · rename_i hu
      simp only [Option.some.injEq,Prod.mk.injEq] at h
      obtain ⟨rfl,rfl⟩:=h
      refine ⟨u.toNat,rfl,?_⟩
      rw [uvarint_le (by omega)]
      simp
      omega
    · cases h
  | k+1,m,u :: b,r,x,h=>by
    simp only [pUvGo] at h
    split at h
    · rename_i hu
      simp only [Option.some.injEq,Prod.mk.injEq] at h
      obtain ⟨rfl,rfl⟩:=h
      refine ⟨u.toNat,rfl,?_⟩
      rw [uvarint_le (by omega)]
      simp
      omega
    · obtain ⟨z,hz,h2⟩:=Option.map_eq_some_iff.1 h
      simp only [Prod.mk.injEq] at h2
      obtain ⟨rfl,rfl⟩:=h2
      obtain ⟨n,hn,hl⟩:=uv_len k (m * 128) b z.2 z.1 hz
      refine ⟨u.toNat % 128+128 * n,?_,?_⟩
      · rw [hn,Nat.add_mul,Nat.mul_comm 128 n,Nat.mul_assoc,Nat.mul_comm 128 m]
      · by_cases hs:u.toNat % 128+128 * n≤127
        · rw [uvarint_le hs]
          have:=uvarint_pos n
          simp only [List.length_cons,List.length_nil]
          omega
        · rw [uvarint_gt hs,show (u.toNat % 128+128 * n) / 128=n by omega]
          simp only [List.length_cons]
          omega
theorem pUv_len {b r:Bytes} {n:Nat} (h:pUv b=some (n,r)):(uvarint n).length+r.length≤b.length:=by
  obtain ⟨x,hx,hl⟩:=uv_len 4 1 b r n h
  rw [Nat.mul_one] at hx
  subst hx
  exact hl
theorem counted_len (flex null:Bool) (n size:Nat):flex=false→(counted flex null n size).length=size:=by
  rintro rfl
  cases null <;> simp [counted,fixed_length]
theorem uvarint_mono:∀ (n m:Nat),m≤n→(uvarint m).length≤(uvarint n).length:=by
  intro n
  induction n using Nat.strongRecOn with
  | ind n ih =>
    intro m h
    by_cases hm:m≤127
    · rw [uvarint_le hm]
      have:=uvarint_pos n
      simpa using this
    · rw [uvarint_gt hm,uvarint_gt (n:=n) (by omega)]
      simp only [List.length_cons]
      have:=ih (n / 128) (by omega) (m / 128) (Nat.div_le_div_right h)
      omega
theorem pCount_len {flex:Bool} {size:Nat} {b r:Bytes} {l:Int} (hs:1≤size) (h:pCount flex size b=some (l,r)):(∀ n:Nat,(n:Int)≤l→(counted flex false n size).length+r.length≤b.length)∧(counted flex true 0 size).length+r.length≤b.length∧(counted flex false 0 size).length+r.length≤b.length:=by
  cases flex
  · have h':pInt size b=some (l,r):=h
    have:=pInt_facts h'
    exact ⟨fun n _=>by rw [counted_len false false n size rfl];omega,by rw [counted_len false true 0 size rfl];omega,by rw [counted_len false false 0 size rfl];omega⟩
  · simp only [pCount,if_true] at h
    obtain ⟨x,r1,h1,h2⟩:=rThen_some h
    obtain ⟨rfl,rfl⟩:=rOk_some h2
    have h3:=pUv_len h1
    have h4:=uvarint_pos x
    refine ⟨fun n hn=>?_,?_,?_⟩
    · have:=uvarint_mono x (n+1) (by omega)
      simp only [counted,if_true,Bool.false_eq_true,if_false]
      omega
    · simp only [counted,if_true,List.length_cons,List.length_nil];omega
    · simp only [counted,if_true,Bool.false_eq_true,if_false]
      rw [uvarint_le (by omega)]
      simp only [List.length_cons,List.length_nil];omega
end Go.Proofs.YtcchakpiemhpeaaDoor.T
namespace Go.Proofs.YtcchakpiemhpeaaDoor.T
theorem whole_le (b:Bytes):(whole b).length≤b.length:=by simp [whole];omega
theorem prim_len {flex nul:Bool} {k:PK} {b r:Bytes} {t:Tree} (h:pPrim flex nul k b=some (t,r)):(wPrim flex (t.null && nul) t k).length+r.length≤b.length:=by
  have hint:∀ w,(rThen (pInt w) fun n=>rOk (tN n)) b=some (t,r)→w+r.length≤b.length:=by
    intro w h
    obtain ⟨x,r1,h1,h2⟩:=rThen_some h
    obtain ⟨rfl,rfl⟩:=rOk_some h2
    have:=pInt_facts h1
    omega
  cases k <;> simp only [pPrim] at h
  case bool =>
    obtain ⟨x,r1,h1,h2⟩:=rThen_some h
    obtain ⟨rfl,rfl⟩:=rOk_some h2
    have:=(pFix_facts h1).1
    simp only [wPrim,List.length_cons,List.length_nil]
    omega
  case u16 =>
    obtain ⟨x,r1,h1,h2⟩:=rThen_some h
    obtain ⟨rfl,rfl⟩:=rOk_some h2
    have:=(pFix_facts h1).1
    simp only [wPrim,fixed_length,PK.width]
    omega
  case uuid =>
    obtain ⟨x,r1,h1,h2⟩:=rThen_some h
    obtain ⟨rfl,rfl⟩:=rOk_some h2
    have:=pSpan_facts h1
    simp only [wPrim,List.length_take,List.length_append,List.length_replicate]
    omega
  case str =>
    obtain ⟨x,r1,h1,h2⟩:=rThen_some h
    obtain ⟨g1,g2,g3⟩:=pCount_len (by decide) h1
    split at h2
    · rename_i hc
      obtain ⟨rfl,rfl⟩:=rOk_some h2
      have hn:nul=true:=by simp at hc;exact hc.1
      subst hn
      simp only [wPrim,tNull,Tree.null,Bool.and_true,if_true,List.length_append,List.length_nil]
      omega
    · obtain ⟨s,r2,h3,h4⟩:=rThen_some h2
      obtain ⟨rfl,rfl⟩:=rOk_some h4
      have hs:=pSpan_facts h3
      have hw:=whole_le s
      have:=g1 (whole s).length (by omega)
      simp only [wPrim,tS,Tree.null,Tree.s,Bool.false_and,Bool.false_eq_true,if_false,List.length_append]
      omega
  case bytes =>
    obtain ⟨x,r1,h1,h2⟩:=rThen_some h
    obtain ⟨g1,g2,g3⟩:=pCount_len (by decide) h1
    split at h2
    · rename_i hc
      obtain ⟨rfl,rfl⟩:=rOk_some h2
      have hn:nul=true:=by simp at hc;exact hc.1
      subst hn
      simp only [wPrim,tNull,Tree.null,Bool.and_true,if_true,List.length_append,List.length_nil]
      omega
    · split at h2
      · obtain ⟨rfl,rfl⟩:=rOk_some h2
        simp only [wPrim,tS,Tree.null,Tree.s,Bool.false_and,Bool.false_eq_true,if_false,List.length_append,whole,List.take_nil,List.length_nil]
        omega
      · obtain ⟨s,r2,h3,h4⟩:=rThen_some h2
        obtain ⟨rfl,rfl⟩:=rOk_some h4
        have hs:=pSpan_facts h3
        have hw:=whole_le s
        have:=g1 (whole s).length (by omega)
        simp only [wPrim,tS,Tree.null,Tree.s,Bool.false_and,Bool.false_eq_true,if_false,List.length_append]
        omega
  all_goals
    have:=hint _ h
    simp only [wPrim,fixed_length]
    omega
end Go.Proofs.YtcchakpiemhpeaaDoor.T
namespace Go.Proofs.YtcchakpiemhpeaaDoor.T
theorem setTag_len (t:Nat × Bytes):∀ acc:List (Nat × Bytes),((setTag t acc).flatMap wTag).length≤(acc.flatMap wTag).length+(wTag t).length
  | []=>by simp [setTag]
  | x :: r=>by
    have ih:=setTag_len t r
    simp only [setTag]
    split
    · simp only [List.flatMap_cons,List.length_append]
      omega
    · split
      · simp only [List.flatMap_cons,List.length_append]
        omega
      · simp only [List.flatMap_cons,List.length_append]
        omega
theorem tagN_len:∀ (n:Nat) (acc:List (Nat × Bytes)) (b r:Bytes) (u:List (Nat × Bytes)),pTagN n acc b=some (u,r)→(u.flatMap wTag).length+r.length≤(acc.flatMap wTag).length+b.length∧u.length≤acc.length+n
  | 0,acc,b,r,u,h=>by
    obtain ⟨rfl,rfl⟩:=rOk_some h
    exact ⟨Nat.le_refl _,Nat.le_refl _⟩
  | n+1,acc,b,r,u,h=>by
    simp only [pTagN] at h
    obtain ⟨k,r1,h1,h⟩:=rThen_some h
    obtain ⟨s,r2,h2,h⟩:=rThen_some h
    obtain ⟨v,r3,h3,h⟩:=rThen_some h
    have ih:=tagN_len n _ r3 r u h
    have l1:=pUv_len h1
    have l2:=pUv_len h2
    have l3:=pSpan_facts h3
    have lw:=whole_le v
    have lm:=uvarint_mono s (whole v).length (by omega)
    have ls:=setTag_len (k,v) acc
    have ll:=setTag_length (k,v) acc
    simp only [wTag,List.length_append] at ls
    omega
theorem tags_len {flex:Bool} {b r:Bytes} {u:List (Nat × Bytes)} (h:pTags flex b=some (u,r)) (hf:FitTags u):(wTags flex u).length+r.length≤b.length:=by
  cases flex
  · simp only [pTags,Bool.false_eq_true,if_false] at h
    obtain ⟨rfl,rfl⟩:=rOk_some h
    simp [wTags]
  · simp only [pTags,if_true] at h
    obtain ⟨n,r1,h1,h2⟩:=rThen_some h
    have l1:=pUv_len h1
    have l2:=tagN_len n [] r1 r u h2
    simp only [List.flatMap_nil,List.length_nil,Nat.zero_add] at l2
    have lm:=uvarint_mono n u.length l2.2
    simp only [wTags,if_true,hf.1,List.length_append]
    omega
theorem many_len {p:Rd Tree} {w:Tree→Bytes} {Fit:Tree→Prop} (hp:∀ b r t,p b=some (t,r)→Fit t→(w t).length+r.length≤b.length):∀ (n:Nat) (b r:Bytes) (xs:List Tree),pMany p n b=some (xs,r)→(∀ x ∈ xs,Fit x)→(xs.flatMap w).length+r.length≤b.length∧xs.length=n
  | 0,b,r,xs,h,_=>by
    obtain ⟨rfl,rfl⟩:=rOk_some h
    simp
  | n+1,b,r,xs,h,hf=>by
    simp only [pMany] at h
    obtain ⟨x,r1,h1,h⟩:=rThen_some h
    obtain ⟨ys,r2,h2,h⟩:=rThen_some h
    obtain ⟨rfl,rfl⟩:=rOk_some h
    have l1:=hp b r1 x h1 (hf x (.head _))
    have ih:=many_len hp n r1 r2 ys h2 (fun y hy=>hf y (.tail _ hy))
    simp only [List.flatMap_cons,List.length_append,List.length_cons]
    omega
theorem pLen_len {flex:Bool} {b r:Bytes} {l:Int} (h:pLen flex b=some (l,r)):(∀ n:Nat,n≤l.toNat→(counted flex false n 4).length+r.length≤b.length)∧(counted flex true 0 4).length+r.length≤b.length:=by
  obtain ⟨x,r1,h1,h2⟩:=rThen_some h
  split at h2
  · cases h2
  · simp only [Option.some.injEq,Prod.mk.injEq] at h2
    obtain ⟨rfl,rfl⟩:=h2
    cases flex
    · have h':pInt 4 b=some (x,r1):=h1
      have:=pInt_facts h'
      exact ⟨fun n _=>by rw [counted_len false false n 4 rfl];omega,by rw [counted_len false true 0 4 rfl];omega⟩
    · simp only [if_true] at h1
      obtain ⟨y,r2,h3,h4⟩:=rThen_some h1
      obtain ⟨rfl,rfl⟩:=rOk_some h4
      have l1:=pUv_len h3
      have l2:=uvarint_pos y
      refine ⟨fun n hn=>?_,?_⟩
      · simp only [counted,if_true,Bool.false_eq_true,if_false]
        by_cases hy:n+1≤y
        · have:=uvarint_mono y (n+1) hy
          omega
        · have hn0:n=0:=by
            split at hn
            · omega
            · split at hn <;> omega
          subst hn0
          rw [uvarint_le (by omega)]
          simp only [List.length_cons,List.length_nil]
          omega
      · simp only [counted,if_true,List.length_cons,List.length_nil]
        omega
end Go.Proofs.YtcchakpiemhpeaaDoor.T
namespace Go.Proofs.YtcchakpiemhpeaaDoor.T
def wV (ver:Int) (flex:Bool) (ty:Ty) (nul:Bool) (t:Tree):Bytes :=
  match ty with
  | .struct _ _ _ _ _=>if nul then (if t.null then [255] else 1 :: wTy ver flex ty false t) else wTy ver flex ty false t
  | _=>wTy ver flex ty (t.null && nul) t
def isStr:Ty→Bool
  | .struct _ _ _ _ _=>true
  | _=>false
mutual
def nlTy (ver:Int):Ty→Bool
  | .prim _=>true
  | .list _ _ _ of=>nlTy ver of
  | .struct _ _ _ _ fs=>nlFs ver fs
def nlFs (ver:Int):Fs→Bool
  | .nil=>true
  | .cons h ty r=>(!h.has ver || (nlTy ver ty && (!isStr ty || (decide (h.null < 0) || decide (h.null≤ver))))) && nlFs ver r
end
mutual
theorem ty_len (ver:Int) (flex:Bool):∀ (ty:Ty) (nul:Bool) (b r:Bytes) (t:Tree),nlTy ver ty=true→pTy ver flex ty nul b=some (t,r)→FitTy ver ty t→(wV ver flex ty nul t).length+r.length≤b.length
  | .prim k,nul,b,r,t,_,h,_=>by
    simp only [pTy] at h
    simp only [wV,wTy]
    exact prim_len h
  | .list a e s of,nul,b,r,t,hnl,h,hf=>by
    simp only [nlTy] at hnl
    simp only [pTy] at h
    obtain ⟨l,r1,h1,h2⟩:=rThen_some h
    obtain ⟨g1,g2⟩:=pLen_len h1
    split at h2
    · rename_i hc
      obtain ⟨rfl,rfl⟩:=rOk_some h2
      have hn:nul=true:=by simp at hc;exact hc.1
      subst hn
      simp only [wV,wTy,tNull,Tree.null,Bool.and_true,if_true,List.length_append,List.length_nil,List.flatMap_nil]
      omega
    · obtain ⟨xs,r2,h3,h4⟩:=rThen_some h2
      obtain ⟨rfl,rfl⟩:=rOk_some h4
      simp only [FitTy,tL,Tree.l] at hf
      have e:∀ x,wV ver flex of false x=wTy ver flex of false x:=by intro x;cases of <;> simp [wV]
      have hm:=many_len (w:=fun x=>wTy ver flex of false x) (Fit:=FitTy ver of) (fun b r t hp hft=>by
        have:=ty_len ver flex of false b r t hnl hp hft
        rw [e] at this
        exact this) l.toNat r1 r2 xs h3 hf.2
      have:=g1 xs.length (by omega)
      simp only [wV,wTy,tL,Tree.null,Tree.l,Bool.false_and,Bool.false_eq_true,if_false,List.length_append,List.take_of_length_le hf.1]
      omega
  | .struct a s d tg fs,nul,b,r,t,hnl,h,hf=>by
    simp only [nlTy] at hnl
    simp only [pTy] at h
    obtain ⟨p,r1,h1,h2⟩:=rThen_some h
    have hp:(if nul then 1 else 0)+r1.length≤b.length:=by
      cases nul
      · simp only [Bool.false_eq_true,if_false] at h1 ⊢
        obtain ⟨-,rfl⟩:=rOk_some h1
        omega
      · simp only [if_true] at h1 ⊢
        have:=pInt_facts h1
        omega
    split at h2
    · rename_i hc
      obtain ⟨rfl,rfl⟩:=rOk_some h2
      have hn:nul=true:=by simp at hc;exact hc.1
      subst hn
      simp only [wV,tNull,Tree.null,if_true,List.length_cons,List.length_nil] at hp ⊢
      omega
    · obtain ⟨xs,r2,h3,h4⟩:=rThen_some h2
      obtain ⟨u,r3,h5,h6⟩:=rThen_some h4
      obtain ⟨rfl,rfl⟩:=rOk_some h6
      have hff:FitFs ver fs xs∧FitTags u:=by
        simp only [FitTy] at hf
        rcases hf with h | h
        · simp [tNull] at h
        · exact h
      have l1:=fs_len ver flex fs r1 r2 xs hnl h3 hff.1
      have l2:=tags_len h5 hff.2
      have l3:(wTy ver flex (.struct a s d tg fs) false (.mk 0 [] false xs u)).length=(wFs ver flex fs xs).length+(wTags flex u).length:=by simp [wTy,Tree.l,Tree.u]
      cases nul
      · simp only [wV,Bool.false_eq_true,if_false] at hp ⊢
        omega
      · simp only [wV,if_true,Tree.null,Bool.false_eq_true,if_false,List.length_cons] at hp ⊢
        omega
theorem fs_len (ver:Int) (flex:Bool):∀ (fs:Fs) (b r:Bytes) (ts:List Tree),nlFs ver fs=true→pFs ver flex fs b=some (ts,r)→FitFs ver fs ts→(wFs ver flex fs ts).length+r.length≤b.length
  | .nil,b,r,ts,_,h,_=>by
    simp only [pFs] at h
    obtain ⟨rfl,rfl⟩:=rOk_some h
    simp [wFs]
  | .cons hd ty fs,b,r,ts,hnl,h,hf=>by
    simp only [nlFs,Bool.and_eq_true,Bool.or_eq_true,Bool.not_eq_true'] at hnl
    simp only [pFs] at h
    obtain ⟨x,r1,h1,h2⟩:=rThen_some h
    obtain ⟨xs,r2,h3,h4⟩:=rThen_some h2
    obtain ⟨rfl,rfl⟩:=rOk_some h4
    simp only [FitFs,List.headD_cons,List.tail_cons] at hf
    have l2:=fs_len ver flex fs r1 r2 xs hnl.2 h3 hf.2
    rw [wFs_cons,List.length_append,List.headD_cons,List.tail_cons]
    by_cases hh:hd.has ver=true
    · rw [if_pos hh] at h1 ⊢
      have hn2:=hnl.1.resolve_left (by rw [hh];simp)
      have l1:=ty_len ver flex ty (nulAt ver hd ty) b r1 x hn2.1 h1 (hf.1 hh)
      have e:(wField ver flex hd ty x).length≤(wV ver flex ty (nulAt ver hd ty) x).length:=by
        cases ty with
        | prim k=>simp only [wField,wV,nulAt,Hd.isNull];exact Nat.le_refl _
        | list _ _ _ _=>simp only [wField,wV,nulAt,Hd.isNull];exact Nat.le_refl _
        | struct _ _ _ _ _ =>
          simp only [isStr,Bool.true_eq_false,false_or,decide_eq_true_eq] at hn2
          simp only [wField,wV,nulAt,decide_eq_true_eq,Hd.isNull]
          by_cases h0:0≤hd.null
          · have hv:hd.null≤ver:=by rcases hn2.2 with h | h <;> omega
            simp only [h0,hv,decide_true,Bool.and_true,if_true]
            exact Nat.le_refl _
          · simp only [h0,if_false]
            exact Nat.le_refl _
      omega
    · rw [if_neg hh] at h1 ⊢
      obtain ⟨-,rfl⟩:=rOk_some h1
      simp only [List.length_nil]
      omega
end
theorem msg_len {ver:Int} {flex:Bool} {fs:Fs} {b r:Bytes} {ts:List Tree} {u:List (Nat × Bytes)} (hnl:nlFs ver fs=true) (hb:b.length≤most) (h:pMsg ver flex fs b=some ((ts,u),r)):(wMsg ver flex fs ts u).length≤b.length:=by
  have hf:=msg_fit hb h
  obtain ⟨xs,r1,h1,h2⟩:=rThen_some h
  obtain ⟨v,r2,h3,h4⟩:=rThen_some h2
  have h5:=rOk_some h4
  simp only [Prod.mk.injEq] at h5
  obtain ⟨⟨rfl,rfl⟩,rfl⟩:=h5
  have l1:=fs_len ver flex fs b r1 xs hnl h1 hf.1
  have l2:=tags_len h3 hf.2
  simp only [wMsg,List.length_append]
  omega
end Go.Proofs.YtcchakpiemhpeaaDoor.T
namespace Go.Proofs.YtcchakpiemhpeaaDoor.K
open Go Go.RowKit Go.Proofs.YtcchakpiemhpeaaDoor.T
attribute [local simp] eTm eCo pNo gTp gTn qv qcall vop iop
set_option linter.unusedVariables false
set_option linter.unusedSimpArgs false
set_option maxHeartbeats 4000000
section
variable {P:Program} {f:FuncId} {fn:Func}
end
end Go.Proofs.YtcchakpiemhpeaaDoor.K
namespace Go.Proofs.YtcchakpiemhpeaaDoor.K
open Go Go.RowKit Go.Proofs.YtcchakpiemhpeaaDoor.T
attribute [local simp] eTm eCo pNo gTp gTn qv qcall vop iop
set_option linter.unusedSimpArgs false
set_option linter.unusedVariables false
set_option maxHeartbeats 4000000
theorem sgn2 {n:Int} (h1:-32768≤n) (h2:n < 32768):sgn 2 (n % 256 ^ 2).toNat=n:=by
  unfold sgn
  have:(256:Int) ^ 2=65536:=by decide
  rw [this]
  have:(256:Nat) ^ 2 / 2=32768:=by decide
  rw [this]
  have:(256:Nat) ^ 2=65536:=by decide
  rw [this]
  split <;> omega
theorem pI16_of {n:Int} (h1:-32768≤n) (h2:n < 32768) (r:Bytes):pInt 2 (fixed n 2 ++ r)=some (n,r):=by
  have:=pInt_fixed n 2 r
  rw [sgn2 h1 h2] at this
  exact this
theorem pI16_rng {b r:Bytes} {x:Int} (h:pInt 2 b=some (x,r)):-32768≤x∧x < 32768:=by
  obtain ⟨n,r1,h1,h2⟩:=rThen_some h
  obtain ⟨rfl,-⟩:=rOk_some h2
  have h3:=(pFix_facts h1).2.1
  have h4:n < 256 ^ 2:=by
    rw [h3]
    refine Nat.lt_of_lt_of_le (unfix_lt _) (Nat.pow_le_pow_right (by decide) ?_)
    rw [List.length_take];omega
  unfold sgn
  have e:(256:Nat) ^ 2=65536:=by decide
  rw [e] at h4 ⊢
  split <;> omega
theorem fsPr_ok (fl:Bool) (T3 T4:Nat):okFsR 0 fl (fsPr T3 T4)=true:=by cases fl <;> rfl
theorem fsPr_nl (T3 T4:Nat):nlFs 0 (fsPr T3 T4)=true:=rfl
theorem pri_again {T3 T4:Nat} {v:Int} {ts:List Tree} {u:List (Nat × Bytes)} (h1:-32768≤v) (h2:v < 32768) (hk:KFs 0 (fsPr T3 T4) ts) (hu:∀ x ∈ u,x.1 < 4294967296) :
    ∃ ts' u',pPri T3 T4 (fixed v 2 ++ wMsg 0 (decide (0≤v)) (fsPr T3 T4) ts u)=some ((v,(ts',u')),[])∧FitFs 0 (fsPr T3 T4) ts'∧FitTags u'∧wMsg 0 (decide (0≤v)) (fsPr T3 T4) ts' u'=wMsg 0 (decide (0≤v)) (fsPr T3 T4) ts u:=by
  obtain ⟨ts',u',q1,q2,q3,q4⟩:=msg_again (fsPr_ok (decide (0≤v)) T3 T4) hk hu
  refine ⟨ts',u',?_,q2,q3,q4⟩
  unfold pPri
  rw [rThen_of (pI16_of h1 h2 _),rThen_of q1]
  rfl
theorem pri_fit {T3 T4:Nat} {v:Int} {ts:List Tree} {u:List (Nat × Bytes)} {b r:Bytes} (hb:b.length≤1000) (h:pPri T3 T4 b=some ((v,(ts,u)),r)) :
    FitFs 0 (fsPr T3 T4) ts∧FitTags u∧(fixed v 2 ++ wMsg 0 (decide (0≤v)) (fsPr T3 T4) ts u).length≤lim∧-32768≤v∧v < 32768:=by
  obtain ⟨v',r0,e1,hp1⟩:=rThen_some h
  obtain ⟨⟨ts',u'⟩,r',e2,hp2⟩:=rThen_some hp1
  obtain ⟨e3,rfl⟩:=rOk_some hp2
  cases e3
  have hl:=pInt_facts e1
  have hm:most=32767:=rfl
  have hli:lim=70368744177664:=rfl
  have hr:=pI16_rng e1
  have:=msg_fit (by omega) e2
  have hl2:=msg_len (fsPr_nl T3 T4) (by omega) e2
  have hf:(fixed v 2).length=2:=fixed_length v 2
  exact ⟨this.1,this.2,by rw [List.length_append];omega,hr.1,hr.2⟩
def sc_LawAnyPr (T0 T1 T2 T3 F0 F1 F2 F3:Nat):SC:=.seq (.reg [⟨some 2,.assign (.const (.bool false)),none⟩]) (.seq (.seq (.reg [mv 9 0,lenOp 10 T0 9,⟨some 11,.binOp .gtr T1 (.tmp 10) (.const (.int .i64 2147483647)) T1,none⟩]) (.cond (.tmp 11) (.seq (.reg [⟨some 2,.assign (.const (.bool true)),none⟩]) (.ret)) (.skip))) (.seq (.seq (.reg [mv 12 0,lenOp 13 T0 12,⟨some 14,.binOp .gtr T1 (.tmp 13) (.const (.int .i64 1000)) T1,none⟩]) (.cond (.tmp 14) (.seq (.reg [⟨some 2,.assign (.const (.bool true)),none⟩]) (.ret)) (.skip))) (.seq (.reg [cal 16 F0 [],⟨some 17,.build T2 #[],none⟩,⟨some 18,.call ⟨.value (.func F1),#[(.tmp 16),(.const (.int .i64 0)),(.tmp 17)],#[]⟩,none⟩,cal 19 F2 [18],mv 15 19,⟨some 20,.extract (.tmp 15) 0,none⟩,⟨some 21,.extract (.tmp 15) 1,none⟩,asg 3 20,asg 4 21]) (.seq (.reg [mv 23 0,cal 24 F2 [23],mv 22 24,⟨some 25,.extract (.tmp 22) 0,none⟩,⟨some 26,.extract (.tmp 22) 1,none⟩,asg 5 25,asg 6 26]) (.seq (.seq (.reg [mv 27 4,⟨some 28,.unOp .not T3 (.tmp 27),none⟩,mv 29 28,⟨some 30,.move (.tmp 6),some (2,false)⟩,⟨some 31,.unOp .not T3 (.tmp 30),some (2,false)⟩,⟨some 32,.pick (.tmp 29) (.const (.bool true)) (.tmp 31),none⟩]) (.cond (.tmp 32) (.seq (.reg [mv 33 4,asg 2 33]) (.ret)) (.skip))) (.seq (.reg [mv 35 5,cal 36 F2 [35],mv 34 36,⟨some 37,.extract (.tmp 34) 0,none⟩,⟨some 38,.extract (.tmp 34) 1,none⟩,asg 7 37,asg 8 38]) (.seq (.reg [mv 39 8,mv 40 39,⟨some 41,.move (.tmp 5),some (1,true)⟩,⟨some 42,.move (.tmp 7),some (1,true)⟩,⟨some 43,.call ⟨.value (.func F3),#[(.tmp 41),(.tmp 42)],#[]⟩,some (1,true)⟩,⟨some 44,.pick (.tmp 40) (.tmp 43) (.const (.bool false)),none⟩,asg 2 44]) (.ret))))))))
section
variable {P:Program} {X:STy} {f:FuncId} {fn:Func}
theorem lawAnyPr_ok {tU8 TB TI T2 T3 S3 S4 fSp fK fAg fSame gb:Nat} {Gl:World→Prop} (hTB:sliceN P TB=some 1) (hTI:intK P TI=some .i64) (fs:Fs) (hsame:∀ ts u,wMsg 0 true fs ts u=wMsg 0 true (fsPr S3 S4) ts u)
    (hzT:P.built T2 []=some #[.int .i64 0,.slice none 0 0,.bool false,.slice none 0 0,.slice none 0 0])
    (oSp:FnOK P fSp) (cSp:∀ w:World,Calls P fSp #[] w fun e w'=>∃ v,e=.returned (msgV v 0)∧v.oneCell'=true∧FsV w' (fun k=>w.heap.size≤k∧k < w'.heap.size) fs v∧Below w.heap.size w w')
    (cK:Kept2C (fun _=>True) P X fs 0 fK) (cAg:AgPC P tU8 S3 S4 gb Gl fAg)
    (oSame:FnOK P fSame) (cSame:∀ (w:World) (xs:Bytes) (b1 b2:Option Addr) (c1 c2:Nat),BytesAt w (fun k=>k < w.heap.size) b1 xs→BytesAt w (fun k=>k < w.heap.size) b2 xs→xs.length≤lim→Calls P fSame #[.slice b1 xs.length c1,.slice b2 xs.length c2] w fun e w'=>e=.returned (.bool true)∧Below w.heap.size w w')
    (hf:P.funcs[f]?=some fn) (hb:fn.body.map strip=some (sc_LawAnyPr TB TI T2 T3 fSp fK fAg fSame)) (hn:fn.ntmps=45) (hr:fn.results=#[.tmp 2]) (w:World) (S:Option Nat) (base:Option Addr) (data:Bytes) (cap:Nat) (hsr:SrcAt w S base data) (hS:∀ sb,S=some sb→sb < w.heap.size) (hgb:gb < w.heap.size) (hgl:∀ w',Below w.heap.size w w'→Gl w') :
    Calls P f #[.slice base data.length cap] w fun e w'=>e=.returned (.bool true)∧Below w.heap.size w w':=by
  have hlim:lim=70368744177664:=rfl
  refine fCa hf hb hn (by simp) fun a0 hs hd ha=>?_
  have k0:=ha 0 _ rfl
  simp only [List.getElem_toArray,List.getElem_cons_zero,List.getElem_cons_succ] at k0
  refine SC.wp_seq (SC.wp_reg ?_)
  repeat (first | (apply ops_1;(focus (simp (disch:=(try simp only [sPu]);omega) ;try rfl))) | (apply ops_y;(focus rfl);(focus ((try simp only [sPu]);omega));(focus (simp (disch:=(try simp only [sPu]);omega);done));(focus (simp (disch:=(try simp only [sPu]);omega) ;try rfl))) | (apply ops_n;(focus rfl);(focus ((try simp only [sPu]);omega));(focus (first | (left;simp (disch:=(try simp only [sPu]);omega);done) | (right;simp (disch:=(try simp only [sPu]);omega);done)))))
  refine oNi (SC.wp_seq (SC.wp_seq (SC.wp_reg ?_)))
  repeat (first | (apply ops_1;(focus (simp (disch:=(try simp only [sPu]);omega) [k0,hTB];try rfl))) | (apply ops_y;(focus rfl);(focus ((try simp only [sPu]);omega));(focus (simp (disch:=(try simp only [sPu]);omega) [k0,hTB];done));(focus (simp (disch:=(try simp only [sPu]);omega) [k0,hTB];try rfl))) | (apply ops_n;(focus rfl);(focus ((try simp only [sPu]);omega));(focus (first | (left;simp (disch:=(try simp only [sPu]);omega) [k0,hTB];done) | (right;simp (disch:=(try simp only [sPu]);omega);done)))))
  refine oNi (SC.wp_cond (t:=decide ((data.length:Int) > 2147483647)) (by simp (disch:=(try simp only [sPu]);omega)) ?_)
  split
  · refine SC.wp_seq (SC.wp_reg ?_)
    repeat (first | (apply ops_1;(focus (simp (disch:=(try simp only [sPu]);omega) ;try rfl))) | (apply ops_y;(focus rfl);(focus ((try simp only [sPu]);omega));(focus (simp (disch:=(try simp only [sPu]);omega);done));(focus (simp (disch:=(try simp only [sPu]);omega) ;try rfl))) | (apply ops_n;(focus rfl);(focus ((try simp only [sPu]);omega));(focus (first | (left;simp (disch:=(try simp only [sPu]);omega);done) | (right;simp (disch:=(try simp only [sPu]);omega);done)))))
    refine oNi (SC.wp_ret ?_)
    simp only [Exit.then]
    exact ret_tmp hr (by simp [dPu,hd]) ⟨by simp (disch:=(try simp only [sPu]);omega),Below.refl _ _⟩
  refine SC.wp_skip ?_
  simp only [Exit.then]
  refine SC.wp_seq (SC.wp_seq (SC.wp_reg ?_))
  repeat (first | (apply ops_1;(focus (simp (disch:=(try simp only [sPu]);omega) [k0,hTB];try rfl))) | (apply ops_y;(focus rfl);(focus ((try simp only [sPu]);omega));(focus (simp (disch:=(try simp only [sPu]);omega) [k0,hTB];done));(focus (simp (disch:=(try simp only [sPu]);omega) [k0,hTB];try rfl))) | (apply ops_n;(focus rfl);(focus ((try simp only [sPu]);omega));(focus (first | (left;simp (disch:=(try simp only [sPu]);omega) [k0,hTB];done) | (right;simp (disch:=(try simp only [sPu]);omega);done)))))
  refine oNi (SC.wp_cond (t:=decide ((data.length:Int) > 1000)) (by simp (disch:=(try simp only [sPu]);omega)) ?_)
  by_cases h1000:(data.length:Int) > 1000
  · rw [if_pos (decide_eq_true h1000)]
    refine SC.wp_seq (SC.wp_reg ?_)
    repeat (first | (apply ops_1;(focus (simp (disch:=(try simp only [sPu]);omega) ;try rfl))) | (apply ops_y;(focus rfl);(focus ((try simp only [sPu]);omega));(focus (simp (disch:=(try simp only [sPu]);omega);done));(focus (simp (disch:=(try simp only [sPu]);omega) ;try rfl))) | (apply ops_n;(focus rfl);(focus ((try simp only [sPu]);omega));(focus (first | (left;simp (disch:=(try simp only [sPu]);omega);done) | (right;simp (disch:=(try simp only [sPu]);omega);done)))))
    refine oNi (SC.wp_ret ?_)
    simp only [Exit.then]
    exact ret_tmp hr (by simp [dPu,hd]) ⟨by simp (disch:=(try simp only [sPu]);omega),Below.refl _ _⟩
  rw [if_neg (by rw [decide_eq_false h1000];simp)]
  refine SC.wp_skip ?_
  simp only [Exit.then]
  have hd1000:data.length≤1000:=by omega
  refine SC.wp_seq (SC.wp_reg (ops_call oSp (cSp w) (by simp (disch:=(try simp only [sPu]);omega)) ?_))
  rintro e w1 ⟨fv,rfl,hone,hfv,hb1⟩
  refine ⟨_,rfl,?_⟩
  have hs1:=hb1.size
  refine oNo rfl (opw_build (cs:=#[.int .i64 0,.slice none 0 0,.bool false,.slice none 0 0,.slice none 0 0]) (by simpa using hzT) ?_)
  have hfv1:FsV w1 (· < w1.heap.size) fs fv:=FsV.mono (fun k hk=>hk.2) (fun k hk=>rfl) hfv
  have htv:TV (fun _=>True) w1 (· < w1.heap.size) Tree.zero (.agg #[.int .i64 0,.slice none 0 0,.bool false,.slice none 0 0,.slice none 0 0]):=TV.zero trivial _ _
  have hout:fixed ((0:Nat):Int) 2 ++ (wFs ((0:Nat):Int) (decide ((0:Int)≤0) && decide ((0:Int)≤((0:Nat):Int))) fs Tree.zero.l ++ wTags (decide ((0:Int)≤0) && decide ((0:Int)≤((0:Nat):Int))) Tree.zero.u)=fixed 0 2 ++ wMsg 0 (decide ((0:Int)≤0)) (fsPr S3 S4) [] []:=by
    have:=hsame [] []
    simp only [wMsg] at this ⊢
    simpa [Tree.zero,Tree.l,Tree.u] using this
  have hl0:(fixed 0 2 ++ wMsg 0 (decide ((0:Int)≤0)) (fsPr S3 S4) [] []).length≤lim:=by
    have:(fixed 0 2 ++ wMsg 0 (decide ((0:Int)≤0)) (fsPr S3 S4) [] []).length=6:=by
      simp [wMsg,fsPr,wFs,hdP,Hd.has,Hd.isNull,wTy,wPrim,counted,uvarint_le,wTags,unknown,Tree.zero,Tree.s,Tree.n,Tree.null,whole,fixed]
    omega
  have hck:=cK.2 w1 fv 0 Tree.zero _ hfv1 htv (by rw [hout];exact hl0)
  rw [hout] at hck
  refine ops_call (argsV:=#[msgV fv 0,.int .i64 ((0:Nat):Int),.agg #[.int .i64 0,.slice none 0 0,.bool false,.slice none 0 0,.slice none 0 0]]) cK.1 hck (by simp (disch:=(try simp only [sPu]);omega) [msgV]) ?_
  rintro e w2 ⟨dk,rfl,hok2,hb2⟩
  refine ⟨_,rfl,?_⟩
  have hs2:=hb2.size
  have hb2':Below w.heap.size w w2:=hb1.trans (hb2.mono (by omega))
  obtain ⟨Sk,bk,ck,rfl,hck2,hsrk,hSk⟩:=own_src2 hok2
  obtain ⟨tsk,uk,e0,f1,f2,f3⟩:=pri_again (T3:=S3) (T4:=S4) (v:=0) (ts:=[]) (u:=[]) (by decide) (by decide) (kFs_nil 0 _) (fun x hx=>by cases hx)
  refine ops_call cAg.1 (cAg.2 w2 Sk bk _ ck (by omega) (fun w' h=>hgl w' (hb2'.trans (h.mono (by omega)))) hsrk (fun sb h=>(hSk sb h).2) hl0 (fun v xs u r h=>by
    rw [e0] at h
    cases h
    exact ⟨f1,f2,by rw [f3];exact hl0⟩)) (by simp (disch:=(try simp only [sPu]);omega)) ?_
  rw [e0]
  rintro e w3 ⟨hb3,dk3,rfl,_⟩
  refine ⟨_,rfl,?_⟩
  have hs3:=hb3.size
  have hb3':Below w.heap.size w w3:=hb2'.trans (hb3.mono (by omega))
  iterate 1 (first | (apply ops_1;(focus (simp (disch:=(try simp only [sPu]);omega) ;try rfl))) | (apply ops_y;(focus rfl);(focus ((try simp only [sPu]);omega));(focus (simp (disch:=(try simp only [sPu]);omega);done));(focus (simp (disch:=(try simp only [sPu]);omega) ;try rfl))) | (apply ops_n;(focus rfl);(focus ((try simp only [sPu]);omega));(focus (first | (left;simp (disch:=(try simp only [sPu]);omega);done) | (right;simp (disch:=(try simp only [sPu]);omega);done)))))
  refine oNo rfl (opw_extract (vs:=#[dk3,.bool true]) (v:=dk3) (by simp (disch:=(try simp only [sPu]);omega)) rfl ?_)
  refine oNo rfl (opw_extract (vs:=#[dk3,.bool true]) (v:=.bool true) (by simp (disch:=(try simp only [sPu]);omega)) rfl ?_)
  repeat (first | (apply ops_1;(focus (simp (disch:=(try simp only [sPu]);omega) ;try rfl))) | (apply ops_y;(focus rfl);(focus ((try simp only [sPu]);omega));(focus (simp (disch:=(try simp only [sPu]);omega);done));(focus (simp (disch:=(try simp only [sPu]);omega) ;try rfl))) | (apply ops_n;(focus rfl);(focus ((try simp only [sPu]);omega));(focus (first | (left;simp (disch:=(try simp only [sPu]);omega);done) | (right;simp (disch:=(try simp only [sPu]);omega);done)))))
  refine oNi ?_
  simp only [Exit.then]
  have hfit:∀ v xs u r,pPri S3 S4 data=some ((v,(xs,u)),r)→FitFs 0 (fsPr S3 S4) xs∧FitTags u∧(fixed v 2 ++ wMsg 0 (decide (0≤v)) (fsPr S3 S4) xs u).length≤lim:=fun v xs u r h=>by
    have:=pri_fit hd1000 h
    exact ⟨this.1,this.2.1,this.2.2.1⟩
  refine SC.wp_seq (SC.wp_reg ?_)
  iterate 1 (first | (apply ops_1;(focus (simp (disch:=(try simp only [sPu]);omega) [k0];try rfl))) | (apply ops_y;(focus rfl);(focus ((try simp only [sPu]);omega));(focus (simp (disch:=(try simp only [sPu]);omega) [k0];done));(focus (simp (disch:=(try simp only [sPu]);omega) [k0];try rfl))) | (apply ops_n;(focus rfl);(focus ((try simp only [sPu]);omega));(focus (first | (left;simp (disch:=(try simp only [sPu]);omega) [k0];done) | (right;simp (disch:=(try simp only [sPu]);omega);done)))))
  refine ops_call cAg.1 (cAg.2 w3 S base data cap (by omega) (fun w' h=>hgl w' (hb3'.trans (h.mono (by omega)))) (hsr.frame fun sb h=>hb3'.block sb (hS sb h)) (fun sb h=>by have:=hS sb h;omega) (by omega) hfit) (by simp (disch:=(try simp only [sPu]);omega)) ?_
  cases hp:pPri S3 S4 data with
  | none =>
    rintro e w4 ⟨hb4,rfl⟩
    refine ⟨_,rfl,?_⟩
    iterate 1 (first | (apply ops_1;(focus (simp (disch:=(try simp only [sPu]);omega) ;try rfl))) | (apply ops_y;(focus rfl);(focus ((try simp only [sPu]);omega));(focus (simp (disch:=(try simp only [sPu]);omega);done));(focus (simp (disch:=(try simp only [sPu]);omega) ;try rfl))) | (apply ops_n;(focus rfl);(focus ((try simp only [sPu]);omega));(focus (first | (left;simp (disch:=(try simp only [sPu]);omega);done) | (right;simp (disch:=(try simp only [sPu]);omega);done)))))
    refine oNo rfl (opw_extract (vs:=#[.slice none 0 0,.bool false]) (v:=.slice none 0 0) (by simp (disch:=(try simp only [sPu]);omega)) rfl ?_)
    refine oNo rfl (opw_extract (vs:=#[.slice none 0 0,.bool false]) (v:=.bool false) (by simp (disch:=(try simp only [sPu]);omega)) rfl ?_)
    repeat (first | (apply ops_1;(focus (simp (disch:=(try simp only [sPu]);omega) ;try rfl))) | (apply ops_y;(focus rfl);(focus ((try simp only [sPu]);omega));(focus (simp (disch:=(try simp only [sPu]);omega);done));(focus (simp (disch:=(try simp only [sPu]);omega) ;try rfl))) | (apply ops_n;(focus rfl);(focus ((try simp only [sPu]);omega));(focus (first | (left;simp (disch:=(try simp only [sPu]);omega);done) | (right;simp (disch:=(try simp only [sPu]);omega);done)))))
    refine oNi (SC.wp_seq (SC.wp_seq (SC.wp_reg ?_)))
    repeat (first | (apply ops_1;(focus (simp (disch:=(try simp only [sPu]);omega) ;try rfl))) | (apply ops_y;(focus rfl);(focus ((try simp only [sPu]);omega));(focus (simp (disch:=(try simp only [sPu]);omega);done));(focus (simp (disch:=(try simp only [sPu]);omega) ;try rfl))) | (apply ops_n;(focus rfl);(focus ((try simp only [sPu]);omega));(focus (first | (left;simp (disch:=(try simp only [sPu]);omega);done) | (right;simp (disch:=(try simp only [sPu]);omega);done)))))
    refine oNi (SC.wp_cond (t:=true) (by simp (disch:=(try simp only [sPu]);omega)) ?_)
    rw [if_pos rfl]
    refine SC.wp_seq (SC.wp_reg ?_)
    repeat (first | (apply ops_1;(focus (simp (disch:=(try simp only [sPu]);omega) ;try rfl))) | (apply ops_y;(focus rfl);(focus ((try simp only [sPu]);omega));(focus (simp (disch:=(try simp only [sPu]);omega);done));(focus (simp (disch:=(try simp only [sPu]);omega) ;try rfl))) | (apply ops_n;(focus rfl);(focus ((try simp only [sPu]);omega));(focus (first | (left;simp (disch:=(try simp only [sPu]);omega);done) | (right;simp (disch:=(try simp only [sPu]);omega);done)))))
    refine oNi (SC.wp_ret ?_)
    simp only [Exit.then]
    exact ret_tmp hr (by simp [dPu,hd]) ⟨by simp (disch:=(try simp only [sPu]);omega),hb3'.trans (hb4.mono (by omega))⟩
  | some zz =>
    obtain ⟨⟨v,xs,u⟩,r⟩:=zz
    obtain ⟨g1,g2,g3,g4,g5⟩:=pri_fit hd1000 hp
    rintro e w4 ⟨hb4,dv,rfl,hown⟩
    refine ⟨_,rfl,?_⟩
    have hs4:=hb4.size
    have hb4':Below w.heap.size w w4:=hb3'.trans (hb4.mono (by omega))
    obtain ⟨S4',base4,cap4,rfl,hc4,hsr4,hS4⟩:=own_src2 hown
    obtain ⟨out,ho⟩:∃ out,out=fixed v 2 ++ wMsg 0 (decide (0≤v)) (fsPr S3 S4) xs u:=⟨_,rfl⟩
    obtain ⟨ts',u',q1,q2,q3,q4⟩:=pri_again (T3:=S3) (T4:=S4) (v:=v) (ts:=xs) (u:=u) g4 g5 (fitFs_k 0 _ xs g1) (fun x hx=>(g2.2.2 x hx).1)
    rw [← ho] at q1 g3 hsr4 hc4 ⊢
    iterate 1 (first | (apply ops_1;(focus (simp (disch:=(try simp only [sPu]);omega) ;try rfl))) | (apply ops_y;(focus rfl);(focus ((try simp only [sPu]);omega));(focus (simp (disch:=(try simp only [sPu]);omega);done));(focus (simp (disch:=(try simp only [sPu]);omega) ;try rfl))) | (apply ops_n;(focus rfl);(focus ((try simp only [sPu]);omega));(focus (first | (left;simp (disch:=(try simp only [sPu]);omega);done) | (right;simp (disch:=(try simp only [sPu]);omega);done)))))
    refine oNo rfl (opw_extract (vs:=#[.slice base4 out.length cap4,.bool true]) (v:=.slice base4 out.length cap4) (by simp (disch:=(try simp only [sPu]);omega)) rfl ?_)
    refine oNo rfl (opw_extract (vs:=#[.slice base4 out.length cap4,.bool true]) (v:=.bool true) (by simp (disch:=(try simp only [sPu]);omega)) rfl ?_)
    repeat (first | (apply ops_1;(focus (simp (disch:=(try simp only [sPu]);omega) ;try rfl))) | (apply ops_y;(focus rfl);(focus ((try simp only [sPu]);omega));(focus (simp (disch:=(try simp only [sPu]);omega);done));(focus (simp (disch:=(try simp only [sPu]);omega) ;try rfl))) | (apply ops_n;(focus rfl);(focus ((try simp only [sPu]);omega));(focus (first | (left;simp (disch:=(try simp only [sPu]);omega);done) | (right;simp (disch:=(try simp only [sPu]);omega);done)))))
    refine oNi (SC.wp_seq (SC.wp_seq (SC.wp_reg ?_)))
    repeat (first | (apply ops_1;(focus (simp (disch:=(try simp only [sPu]);omega) ;try rfl))) | (apply ops_y;(focus rfl);(focus ((try simp only [sPu]);omega));(focus (simp (disch:=(try simp only [sPu]);omega);done));(focus (simp (disch:=(try simp only [sPu]);omega) ;try rfl))) | (apply ops_n;(focus rfl);(focus ((try simp only [sPu]);omega));(focus (first | (left;simp (disch:=(try simp only [sPu]);omega);done) | (right;simp (disch:=(try simp only [sPu]);omega);done)))))
    refine oNi (SC.wp_cond (t:=false) (by simp (disch:=(try simp only [sPu]);omega)) ?_)
    rw [if_neg (by simp)]
    refine SC.wp_skip ?_
    simp only [Exit.then]
    refine SC.wp_seq (SC.wp_reg ?_)
    iterate 1 (first | (apply ops_1;(focus (simp (disch:=(try simp only [sPu]);omega) ;try rfl))) | (apply ops_y;(focus rfl);(focus ((try simp only [sPu]);omega));(focus (simp (disch:=(try simp only [sPu]);omega);done));(focus (simp (disch:=(try simp only [sPu]);omega) ;try rfl))) | (apply ops_n;(focus rfl);(focus ((try simp only [sPu]);omega));(focus (first | (left;simp (disch:=(try simp only [sPu]);omega);done) | (right;simp (disch:=(try simp only [sPu]);omega);done)))))
    refine ops_call cAg.1 (cAg.2 w4 S4' base4 out cap4 (by omega) (fun w' h=>hgl w' (hb4'.trans (h.mono (by omega)))) hsr4 (fun sb h=>(hS4 sb h).2) g3 (fun v' xs' u0 r' h=>by
      rw [q1] at h
      cases h
      exact ⟨q2,q3,by rw [q4,← ho];exact g3⟩)) (by simp (disch:=(try simp only [sPu]);omega)) ?_
    rw [q1]
    rintro e w5 ⟨hb5,dv5,rfl,hown5⟩
    refine ⟨_,rfl,?_⟩
    have hs5:=hb5.size
    have hb5':Below w.heap.size w w5:=hb4'.trans (hb5.mono (by omega))
    rw [q4,← ho] at hown5
    obtain ⟨S5,base5,cap5,rfl,hc5,hsr5,hS5⟩:=own_src2 hown5
    iterate 1 (first | (apply ops_1;(focus (simp (disch:=(try simp only [sPu]);omega) ;try rfl))) | (apply ops_y;(focus rfl);(focus ((try simp only [sPu]);omega));(focus (simp (disch:=(try simp only [sPu]);omega);done));(focus (simp (disch:=(try simp only [sPu]);omega) ;try rfl))) | (apply ops_n;(focus rfl);(focus ((try simp only [sPu]);omega));(focus (first | (left;simp (disch:=(try simp only [sPu]);omega);done) | (right;simp (disch:=(try simp only [sPu]);omega);done)))))
    refine oNo rfl (opw_extract (vs:=#[.slice base5 out.length cap5,.bool true]) (v:=.slice base5 out.length cap5) (by simp (disch:=(try simp only [sPu]);omega)) rfl ?_)
    refine oNo rfl (opw_extract (vs:=#[.slice base5 out.length cap5,.bool true]) (v:=.bool true) (by simp (disch:=(try simp only [sPu]);omega)) rfl ?_)
    repeat (first | (apply ops_1;(focus (simp (disch:=(try simp only [sPu]);omega) ;try rfl))) | (apply ops_y;(focus rfl);(focus ((try simp only [sPu]);omega));(focus (simp (disch:=(try simp only [sPu]);omega);done));(focus (simp (disch:=(try simp only [sPu]);omega) ;try rfl))) | (apply ops_n;(focus rfl);(focus ((try simp only [sPu]);omega));(focus (first | (left;simp (disch:=(try simp only [sPu]);omega);done) | (right;simp (disch:=(try simp only [sPu]);omega);done)))))
    refine oNi ?_
    simp only [Exit.then]
    have hB1:BytesAt w5 (fun k=>k < w5.heap.size) base5 out:=bytesAt_src hsr5 fun sb h=>(hS5 sb h).2
    have hB2:BytesAt w5 (fun k=>k < w5.heap.size) base4 out:=bytesAt_src (hsr4.frame fun sb h=>hb5.block sb (hS4 sb h).2) fun sb h=>by have:=(hS4 sb h).2;omega
    refine SC.wp_seq (SC.wp_reg ?_)
    iterate 4 (first | (apply ops_1;(focus (simp (disch:=(try simp only [sPu]);omega) ;try rfl))) | (apply ops_y;(focus rfl);(focus ((try simp only [sPu]);omega));(focus (simp (disch:=(try simp only [sPu]);omega);done));(focus (simp (disch:=(try simp only [sPu]);omega) ;try rfl))) | (apply ops_n;(focus rfl);(focus ((try simp only [sPu]);omega));(focus (first | (left;simp (disch:=(try simp only [sPu]);omega);done) | (right;simp (disch:=(try simp only [sPu]);omega);done)))))
    refine ops_callg (argsV:=#[.slice base4 _ cap4,.slice base5 _ cap5]) rfl (by simp [sPu,hs]) (by simp (disch:=(try simp only [sPu]);omega)) oSame (cSame w5 out base4 base5 cap4 cap5 hB2 hB1 g3) (by simp (disch:=(try simp only [sPu]);omega)) ?_
    rintro e w6 ⟨rfl,hb6⟩
    refine ⟨_,rfl,?_⟩
    repeat (first | (apply ops_1;(focus (simp (disch:=(try simp only [sPu]);omega) ;try rfl))) | (apply ops_y;(focus rfl);(focus ((try simp only [sPu]);omega));(focus (simp (disch:=(try simp only [sPu]);omega);done));(focus (simp (disch:=(try simp only [sPu]);omega) ;try rfl))) | (apply ops_n;(focus rfl);(focus ((try simp only [sPu]);omega));(focus (first | (left;simp (disch:=(try simp only [sPu]);omega);done) | (right;simp (disch:=(try simp only [sPu]);omega);done)))))
    refine oNi (SC.wp_ret ?_)
    try simp only [Exit.then]
    exact ret_tmp hr (by simp [dPu,hd]) ⟨by simp (disch:=(try simp only [sPu]);omega),hb5'.trans (hb6.mono (by omega))⟩
end
end Go.Proofs.YtcchakpiemhpeaaDoor.K
