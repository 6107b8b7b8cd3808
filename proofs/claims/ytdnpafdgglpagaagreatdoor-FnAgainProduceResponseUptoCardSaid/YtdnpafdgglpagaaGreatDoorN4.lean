/- Generic texts: W5 S10 W6 S11 S12 R32. No condition. -/
import Derived.Test.YtdnpafdgglpagaaGreatDoorN3
namespace Go.Proofs.YtdnpafdgglpagaaGreatDoor.K
open Go Go.RowKit Go.Proofs.YtdnpafdgglpagaaGreatDoor.T
attribute [local simp] eTm eCo pNo gTp gTn qv qcall vop iop
set_option linter.unusedSimpArgs false
set_option linter.unusedVariables false
set_option maxHeartbeats 4000000
def sc_usual (T0 T1 T2 T3 T4 T5 T6 T7 T8 T9 F0 F1 F2 F3 F4 F5:Nat):SC:=.seq (.reg [⟨some 2,.box T0 (.tmp 0),none⟩,⟨some 3,.box T1 (.tmp 1),none⟩,⟨some 4,.assign (.const (.bool false)),none⟩]) (.seq (.seq (.reg [fa 9 T0 2 0,ld 10 T2 9]) (.block 0 (.seq (.reg [⟨some 12,.binOp .eql T2 (.tmp 10) (.const (.int .i64 0)) T2,none⟩,asg 11 12]) (.cond (.tmp 11) (.seq (.reg [fa 13 T1 3 0,ld 14 T3 13,⟨some 15,.binOp .and T3 (.tmp 14) (.const (.int .i64 1)) T3,none⟩,fa 16 T0 2 5,ld 17 T3 16,⟨some 18,.binOp .eql T3 (.tmp 15) (.tmp 17) T3,none⟩,asg 4 18]) (.ret)) (.seq (.reg [⟨some 20,.binOp .eql T2 (.tmp 10) (.const (.int .i64 7)) T2,none⟩,asg 19 20]) (.cond (.tmp 19) (.seq (.seq (.reg [fa 21 T1 3 1,ld 22 T4 21,lenOp 23 T4 22,⟨some 24,.move (.const (.int .i64 0)),none⟩]) (.block 1 (.loop (.seq (.reg [⟨some 25,.binOp .lss T2 (.tmp 24) (.tmp 23) T2,none⟩]) (.seq (.cond (.tmp 25) (.skip) (.exit 1)) (.seq (.block 2 (.seq (.reg [mv 26 24,⟨some 27,.indexAddr T4 (.tmp 22) (.tmp 24),none⟩,ld 28 T5 27,asg 5 26,asg 6 28]) (.seq (.reg [mv 29 5,⟨some 30,.binOp .lss T2 (.tmp 29) (.const (.int .i64 16)) T2,none⟩,mv 31 30,⟨some 32,.move (.tmp 6),some (2,true)⟩,⟨some 33,.binOp .neq T5 (.tmp 32) (.const (.int .u8 0)) T5,some (2,true)⟩,⟨some 34,.pick (.tmp 31) (.tmp 33) (.const (.bool false)),none⟩]) (.cond (.tmp 34) (.seq (.reg [⟨some 4,.assign (.const (.bool false)),none⟩]) (.ret)) (.skip))))) (.reg [⟨some 35,.binOp .add T2 (.tmp 24) (.const (.int .i64 1)) T2,none⟩,mv 24 35]))))))) (.seq (.reg [⟨some 4,.assign (.const (.bool true)),none⟩]) (.ret))) (.seq (.seq (.reg [⟨some 37,.binOp .eql T2 (.tmp 10) (.const (.int .i64 8)) T2,none⟩,asg 36 37]) (.cond (.tmp 36) (.skip) (.reg [⟨some 38,.binOp .eql T2 (.tmp 10) (.const (.int .i64 9)) T2,none⟩,asg 36 38]))) (.cond (.tmp 36) (.seq (.seq (.reg [fa 39 T0 2 3,ld 40 T2 39,⟨some 41,.binOp .geq T2 (.tmp 40) (.const (.int .i64 0)) T2,none⟩]) (.cond (.tmp 41) (.seq (.reg [fa 42 T1 3 2,ld 43 T6 42,asg 4 43]) (.ret)) (.skip))) (.seq (.reg [fa 44 T1 3 1,ld 45 T4 44,lenOp 46 T4 45,⟨some 47,.binOp .eql T2 (.tmp 46) (.const (.int .i64 0)) T2,none⟩,asg 4 47]) (.ret))) (.seq (.reg [⟨some 49,.binOp .eql T2 (.tmp 10) (.const (.int .i64 11)) T2,none⟩,asg 48 49]) (.cond (.tmp 48) (.seq (.reg [fa 50 T1 3 3,ld 51 T7 50,lenOp 52 T7 51,⟨some 53,.binOp .eql T2 (.tmp 52) (.const (.int .i64 0)) T2,none⟩,asg 4 53]) (.ret)) (.seq (.reg [⟨some 55,.binOp .eql T2 (.tmp 10) (.const (.int .i64 10)) T2,none⟩,asg 54 55]) (.cond (.tmp 54) (.seq (.seq (.reg [fa 56 T0 2 7,ld 57 T8 56,lenOp 58 T8 57,⟨some 59,.move (.const (.int .i64 0)),none⟩]) (.block 3 (.loop (.seq (.reg [⟨some 60,.binOp .lss T2 (.tmp 59) (.tmp 58) T2,none⟩]) (.seq (.cond (.tmp 60) (.skip) (.exit 3)) (.seq (.block 4 (.seq (.reg [mv 61 59,⟨some 62,.indexAddr T8 (.tmp 57) (.tmp 59),none⟩,ld 63 T0 62,⟨some 8,.alloc T0,none⟩,asg 7 61,⟨none,.store T0 (.tmp 8) (.tmp 63),none⟩]) (.seq (.dreg [ld 64 T0 8,ld 65 T1 3,mv 66 7,cal 67 F0 [65,66],cal 68 F1 [64,67],⟨some 69,.unOp .not T6 (.tmp 68),none⟩] [[],[],[],[1,2],[0,3,3],[4]]) (.cond (.tmp 69) (.seq (.reg [⟨some 4,.assign (.const (.bool false)),none⟩]) (.ret)) (.skip))))) (.reg [⟨some 70,.binOp .add T2 (.tmp 59) (.const (.int .i64 1)) T2,none⟩,mv 59 70]))))))) (.seq (.reg [fa 71 T0 2 7,ld 72 T8 71,fa 73 T1 3 4,ld 74 T9 73,cal 75 F2 [72,74],lenOp 76 T9 75,⟨some 77,.binOp .eql T2 (.tmp 76) (.const (.int .i64 0)) T2,none⟩,asg 4 77]) (.ret))) (.skip))))))))))))) (.seq (.dreg [fa 78 T1 3 0,ld 79 T3 78,fa 80 T0 2 0,ld 81 T2 80,cal 82 F3 [81],cal 83 F4 [79,82],fa 84 T0 2 5,ld 85 T3 84,fa 86 T0 2 0,ld 87 T2 86,cal 88 F3 [87],cal 89 F4 [85,88],cal 90 F5 [83,89],asg 4 90] [[],[0],[],[2],[3],[1,4,4],[],[6],[],[8],[9,5],[7,10,10],[5,11,11],[12,12,0,1,2,3,4,5,6,7,8,9,10,11,12]]) (.ret)))
def usP (h:Hd) (t:Tree):Bool:=decide (fixed t.n 4=fixed h.dflt 4)
def usFs:Fs->List Tree->Bool
 | .nil,_=>true
 | .cons h _ r,ts=>usP h (ts.headD Tree.zero) && usFs r ts.tail
def i32s:Fs->Bool
 | .nil=>true
 | .cons _ (.prim .i32) r=>i32s r
 | _=>false
def knTy:Ty->Bool
 | .list _ _ _ _=>true
 | .struct _ _ _ _ fs .nil=>i32s fs && decide (Fs.len fs < 4294967296)
 | _=>false
def usTy:Ty->Tree->Bool
 | .struct _ _ _ _ fs _,t=>usFs fs t.l && decide (unknown t.u=[])
 | _,t=>decide (t.l=[])
def UsualC (G:List (Nat × Bytes)->Prop) (P:Program) (f:FuncId):Prop :=
 ∀ (w:World) (h:Hd) (tg:Int) (ty:Ty) (of_:Int) (sub:Value) (t:Tree) (tv:Value),knTy ty=true->SubV w (· < w.heap.size) ty sub->TV G w (· < w.heap.size) t tv ->
  Calls P f #[fldV (kindOf ty) h.from_ h.to h.null tg h.dflt of_ sub,tv] w fun e w'=>e=.returned (.bool (usTy ty t))/\Below w.heap.size w w'
def UsualPC (G:List (Nat × Bytes)->Prop) (P:Program) (f:FuncId):Prop :=
 ∀ (w:World) (h:Hd) (tg of_:Int) (sub:Value) (t:Tree) (tv:Value),TV G w (· < w.heap.size) t tv ->
  Calls P f #[fldV 3 h.from_ h.to h.null tg h.dflt of_ sub,tv] w fun e w'=>e=.returned (.bool (usP h t))/\Below w.heap.size w w'
theorem fixed_len (n:Int):∀ k,(fixed n k).length=k
 | 0=>rfl
 | k+1=>by simp [fixed,fixed_len n k]
section
variable {G:List (Nat × Bytes)->Prop} {P:Program} {X:STy} {f:FuncId} {fn:Func} {fW fTh fC fWi fF fU fHas fNull fAt fUnk fSm:FuncId}
theorem usualP_ok (hX:stOK P X=true) (hXs:sOK P X=true) (hTF:arrB P X.F 8=true) (S:SmallC P X fW fTh fC fWi fF fU fHas fNull fAt G) (hm:P.follows .mixedOrders=true) (oSm:FnOK P fSm) (cSm:SameC P fSm)
  (hf : P.funcs[f]? = some fn) (hb : fn.body.map strip = some (sc_usual X.F X.T X.I X.I64 X.Bs X.U8 X.B X.Ts X.Fs X.Tgs fAt f fUnk fWi fF fSm)) (hnm : (fn.name == "runtime.NumGoroutine") = false) (hn : fn.ntmps = 91) (hr : fn.results = #[.tmp 4]) : UsualPC G P f := by
 intro w h tg of_ sub t tv ht
 have hst:=st_facts hX
 have hlim:lim=4294967295:=rfl
 refine fCa hf hb hn (by simp) fun a0 hs hd ha=>?_
 have h0:=ha 0 _ rfl
 have h1:=ha 1 _ rfl
 simp only [List.getElem_toArray,List.getElem_cons_zero,List.getElem_cons_succ] at h0 h1
 have ht0:=ht
 cases ht with
 | mk n s tnull l u sb lb ub sc lc uc b o cs hs1 hsc hlc huc hll hrr htt hG hu =>
 refine wSq (wRg (ops_box (B:=w.heap.size) (w0:=w) (by rw [eTm,h0];rfl) (Nat.le_refl _) (Below.refl _ _) fun w1 q1 q2 q3 hc q5=>?_))
 refine ops_box (B:=w.heap.size) (w0:=w) (cs:=#[.int .i64 n,.slice sb s.length sc,.bool tnull,.slice lb l.length lc,.slice ub u.length uc]) (by simp (disch:=(try simp only [sPu]);omega) [h1,treV]) (by omega) q2 fun w2 r1 r2 r3 hd2 r5=>?_
 repeat (apply ops_1;(focus (simp (disch:=(try simp only [sPu]);omega) ;try rfl)))
 refine oNi ?_
 simp only [Exit.then]
 have hc2:∀ j,w2.cell? ⟨w.heap.size,j,none⟩=#[Value.int .i64 3,.int .i64 h.from_,.int .i64 h.to,.int .i64 h.null,.int .i64 tg,.int .i64 h.dflt,.int .i64 of_,sub][j]?:=fun j=>by rw [r1.cell (by show w.heap.size < w1.heap.size;omega)];exact hc j
 rw [q3] at hd2 ⊢
 have hsz2:w2.heap.size=w.heap.size+2:=by omega
 clear hc q1 q2 q3 q5 r1 r3 r5 w1
 refine wSq (wSq (wRg ?_))
 repeat (apply ops_1;(focus (simp (disch:=(try simp only [sPu]);omega) [hst,hc2];try rfl)))
 refine oNi (wBk (wSq (wRg ?_)))
 repeat (apply ops_1;(focus (simp (disch:=(try simp only [sPu]);omega) ;try rfl)))
 refine oNi (wCd (t:=false) (by simp (disch:=(try simp only [sPu]);omega)) ?_)
 rw [if_neg (by simp)]
 refine wSq (wRg ?_)
 repeat (apply ops_1;(focus (simp (disch:=(try simp only [sPu]);omega) ;try rfl)))
 refine oNi (wCd (t:=false) (by simp (disch:=(try simp only [sPu]);omega)) ?_)
 rw [if_neg (by simp)]
 refine wSq (wSq (wRg ?_))
 repeat (apply ops_1;(focus (simp (disch:=(try simp only [sPu]);omega) ;try rfl)))
 refine oNi (wCd (t:=false) (by simp (disch:=(try simp only [sPu]);omega)) ?_)
 rw [if_neg (by simp)]
 refine wRg ?_
 repeat (apply ops_1;(focus (simp (disch:=(try simp only [sPu]);omega) ;try rfl)))
 refine oNi ?_
 simp only [Exit.then]
 refine wCd (t:=false) (by simp (disch:=(try simp only [sPu]);omega)) ?_
 rw [if_neg (by simp)]
 refine wSq (wRg ?_)
 repeat (apply ops_1;(focus (simp (disch:=(try simp only [sPu]);omega) ;try rfl)))
 refine oNi (wCd (t:=false) (by simp (disch:=(try simp only [sPu]);omega)) ?_)
 rw [if_neg (by simp)]
 refine wSq (wRg ?_)
 repeat (apply ops_1;(focus (simp (disch:=(try simp only [sPu]);omega) ;try rfl)))
 refine oNi (wCd (t:=false) (by simp (disch:=(try simp only [sPu]);omega)) ?_)
 rw [if_neg (by simp)]
 refine wSk ?_
 simp only [Exit.then,Exit.inBlock]
 refine gen_act (fun a=>a.tmps.size=91/\a.defers=[]/\getT a 2=.pointer (some ⟨w.heap.size,0,none⟩)/\getT a 3=.pointer (some ⟨w.heap.size+1,0,none⟩)) ⟨by simp [sPu,hs],by simp [dPu,hd],by simp (disch:=(try simp only [sPu]);omega),by simp (disch:=(try simp only [sPu]);omega)⟩ ?_
 rintro a ⟨p,pd,p2,p3⟩
 have hc2d:∀ j,w2.drew.cell? ⟨w.heap.size,j,none⟩=#[Value.int .i64 3,.int .i64 h.from_,.int .i64 h.to,.int .i64 h.null,.int .i64 tg,.int .i64 h.dflt,.int .i64 of_,sub][j]?:=hc2
 have hd2d:∀ j,w2.drew.cell? ⟨w.heap.size+1,j,none⟩=#[.int .i64 n,.slice sb s.length sc,.bool tnull,.slice lb l.length lc,.slice ub u.length uc][j]?:=hd2
 have hkeep:∀ (wa wb:World),w.heap.size+2<=wa.heap.size->Below wa.heap.size wa wb->Keeps (fun b=>b == w.heap.size || b == w.heap.size+1) w2.drew wa->Keeps (fun b=>b == w.heap.size || b == w.heap.size+1) w2.drew wb:=by
  intro wa wb z1 z2 z3 bb hbb
  have:bb < wa.heap.size:=by
   simp only [Bool.or_eq_true,beq_iff_eq] at hbb
   omega
  exact (z2.block bb this).trans (z3 bb hbb)
 refine wSq (wDr hm (Keeps (fun b=>b == w.heap.size || b == w.heap.size+1) w2.drew) [(0,true),(1,true),(2,true),(3,true),(6,true),(7,true),(8,true),(9,true),(4,false),(5,false),(10,false),(11,false),(12,false),(13,true)] (by rfl) (by rfl) (by decide) (fun _ _=>rfl) ?_)
 iterate 8 (apply dk_1;(focus rfl);(focus (simp (disch:=(try simp only [sPu]);omega) [hst,p2,p3,hc2d,hd2d];try rfl)))
 refine dreg_call rfl S.oWi (S.cWi w2.drew 3) (by simp (disch:=(try simp only [sPu]);omega)) ?_
 rintro e w3 ⟨rfl,rfl⟩
 refine ⟨_,rfl,fun _ _=>rfl,?_⟩
 have ew:(widthOf 3:Int)=((4:Nat):Int):=rfl
 refine dreg_call rfl S.oF (S.cF w2.drew n 4 (by decide)) (by simp (disch:=(try simp only [sPu]);omega) [ew]) ?_
 rintro e w4 ⟨v4,rfl,o4,b4⟩
 have k4:=hkeep w2.drew w4 (by show _<=w2.heap.size;omega) b4 (fun _ _=>rfl)
 have s4:w2.heap.size<=w4.heap.size:=b4.size
 refine ⟨v4,rfl,k4,?_⟩
 refine dreg_call rfl S.oWi (S.cWi w4 3) (by simp (disch:=(try simp only [sPu]);omega)) ?_
 rintro e w5 ⟨rfl,rfl⟩
 refine ⟨_,rfl,k4,?_⟩
 refine dreg_call rfl S.oF (S.cF w4 h.dflt 4 (by decide)) (by simp (disch:=(try simp only [sPu]);omega) [ew]) ?_
 rintro e w6 ⟨v6,rfl,o6,b6⟩
 have k6:=hkeep w4 w6 (by omega) b6 k4
 have s6:w4.heap.size<=w6.heap.size:=b6.size
 refine ⟨v6,rfl,k6,?_⟩
 obtain ⟨g1,c1,rfl,hB1⟩:=own_bytesAt (own_keep o4 b6)
 obtain ⟨g2,c2,rfl,hB2⟩:=own_bytesAt o6
 refine dreg_call rfl oSm (cSm w6 (fixed n 4) (fixed h.dflt 4) g1 g2 c1 c2 hB1 hB2 (by rw [fixed_len];omega) (by rw [fixed_len];omega)) (by simp (disch:=(try simp only [sPu]);omega)) ?_
 rintro e w7 ⟨rfl,b7⟩
 refine ⟨_,rfl,hkeep w6 w7 (by omega) b7 k6,?_⟩
 repeat (apply dk_1;(focus rfl);(focus (simp (disch:=(try simp only [sPu]);omega) ;try rfl)))
 refine dreg_nil (wRt ?_)
 try simp only [Exit.then]
 have b4':Below w2.heap.size w2 w4:=Below.trans (Below.refl _ w2).drew b4
 exact ret_tmp hr (by simp [dPu,pd]) ⟨by simp (disch:=(try simp only [sPu]);omega) [usP,Tree.n];first | rfl | (rw [decide_eq_decide]),r2.trans ((b4'.mono (by omega)).trans ((b6.mono (by omega)).trans (b7.mono (by omega))))⟩
theorem usualL_ok (hX:stOK P X=true) (hXs:sOK P X=true) (hTF:arrB P X.F 8=true) (S:SmallC P X fW fTh fC fWi fF fU fHas fNull fAt G) (hm:P.follows .mixedOrders=true)
  (hf : P.funcs[f]? = some fn) (hb : fn.body.map strip = some (sc_usual X.F X.T X.I X.I64 X.Bs X.U8 X.B X.Ts X.Fs X.Tgs fAt f fUnk fWi fF fSm)) (hnm : (fn.name == "runtime.NumGoroutine") = false) (hn : fn.ntmps = 91) (hr : fn.results = #[.tmp 4])
  (w:World) (h:Hd) (tg of_:Int) (sub:Value) (t:Tree) (tv:Value) (ht:TV G w (· < w.heap.size) t tv) :
  Calls P f #[fldV 11 h.from_ h.to h.null tg h.dflt of_ sub,tv] w fun e w'=>e=.returned (.bool (decide (t.l=[])))/\Below w.heap.size w w':=by
 have hst:=st_facts hX
 refine fCa hf hb hn (by simp) fun a0 hs hd ha=>?_
 have h0:=ha 0 _ rfl
 have h1:=ha 1 _ rfl
 simp only [List.getElem_toArray,List.getElem_cons_zero,List.getElem_cons_succ] at h0 h1
 have ht0:=ht
 cases ht with
 | mk n s tnull l u sb lb ub sc lc uc b o cs hs1 hsc hlc huc hll hrr htt hG hu =>
 refine wSq (wRg (ops_box (B:=w.heap.size) (w0:=w) (by rw [eTm,h0];rfl) (Nat.le_refl _) (Below.refl _ _) fun w1 q1 q2 q3 hc q5=>?_))
 refine ops_box (B:=w.heap.size) (w0:=w) (cs:=#[.int .i64 n,.slice sb s.length sc,.bool tnull,.slice lb l.length lc,.slice ub u.length uc]) (by simp (disch:=(try simp only [sPu]);omega) [h1,treV]) (by omega) q2 fun w2 r1 r2 r3 hd2 r5=>?_
 repeat (apply ops_1;(focus (simp (disch:=(try simp only [sPu]);omega) ;try rfl)))
 refine oNi ?_
 simp only [Exit.then]
 have hc2:∀ j,w2.cell? ⟨w.heap.size,j,none⟩=#[Value.int .i64 11,.int .i64 h.from_,.int .i64 h.to,.int .i64 h.null,.int .i64 tg,.int .i64 h.dflt,.int .i64 of_,sub][j]?:=fun j=>by rw [r1.cell (by show w.heap.size < w1.heap.size;omega)];exact hc j
 rw [q3] at hd2 ⊢
 have hsz2:w2.heap.size=w.heap.size+2:=by omega
 clear hc q1 q2 q3 q5 r1 r3 r5 w1
 refine wSq (wSq (wRg ?_))
 repeat (apply ops_1;(focus (simp (disch:=(try simp only [sPu]);omega) [hst,hc2];try rfl)))
 refine oNi (wBk (wSq (wRg ?_)))
 repeat (apply ops_1;(focus (simp (disch:=(try simp only [sPu]);omega) ;try rfl)))
 refine oNi (wCd (t:=false) (by simp (disch:=(try simp only [sPu]);omega)) ?_)
 rw [if_neg (by simp)]
 refine wSq (wRg ?_)
 repeat (apply ops_1;(focus (simp (disch:=(try simp only [sPu]);omega) ;try rfl)))
 refine oNi (wCd (t:=false) (by simp (disch:=(try simp only [sPu]);omega)) ?_)
 rw [if_neg (by simp)]
 refine wSq (wSq (wRg ?_))
 repeat (apply ops_1;(focus (simp (disch:=(try simp only [sPu]);omega) ;try rfl)))
 refine oNi (wCd (t:=false) (by simp (disch:=(try simp only [sPu]);omega)) ?_)
 rw [if_neg (by simp)]
 refine wRg ?_
 repeat (apply ops_1;(focus (simp (disch:=(try simp only [sPu]);omega) ;try rfl)))
 refine oNi ?_
 simp only [Exit.then]
 refine wCd (t:=false) (by simp (disch:=(try simp only [sPu]);omega)) ?_
 rw [if_neg (by simp)]
 refine wSq (wRg ?_)
 repeat (apply ops_1;(focus (simp (disch:=(try simp only [sPu]);omega) ;try rfl)))
 refine oNi (wCd (t:=true) (by simp (disch:=(try simp only [sPu]);omega)) ?_)
 rw [if_pos rfl]
 refine wSq (wRg ?_)
 have hed:decide ((Tree.mk n s tnull l u).l=[])=decide ((l.length:Int)=0):=by
  cases l with
  | nil=>rfl
  | cons x r=>rw [decide_eq_false (by simp [Tree.l]),decide_eq_false (by simp;omega)]
 rw [hed]
 generalize l.length=ll at *
 repeat (apply ops_1;(focus (simp (disch:=(try simp only [sPu]);omega) [hst,hd2];try rfl)))
 refine oNi (wRt ?_)
 simp only [Exit.then,Exit.inBlock]
 exact ret_tmp hr (by simp [dPu,hd]) ⟨by simp (disch:=(try simp only [sPu]);omega);(rw [Bool.eq_iff_iff];simp),r2⟩
theorem i32s_drop:∀ (j:Nat) (fs:Fs) {h:Hd} {ty:Ty} {r:Fs},i32s fs=true->Fs.drop j fs=.cons h ty r->ty=.prim .i32
 | _,.nil,_,_,_,_,e=>by cases ‹Nat› <;> simp [Fs.drop] at e
 | 0,.cons h ty r,_,_,_,hi,e=>by
  simp only [Fs.drop,Fs.cons.injEq] at e
  obtain ⟨rfl,rfl,rfl⟩:=e
  unfold i32s at hi
  split at hi
  ·rename_i h;cases h
  ·rename_i h;cases h;rfl
  ·cases hi
 | j+1,.cons h ty r,_,_,_,hi,e=>by
  simp only [Fs.drop] at e
  refine i32s_drop j r ?_ e
  unfold i32s at hi
  split at hi
  ·rename_i h;cases h
  ·rename_i h;cases h;exact hi
  ·cases hi
theorem usualS_ok (hX:stOK P X=true) (hXs:sOK P X=true) (hTF:arrB P X.F 8=true) (S:SmallC P X fW fTh fC fWi fF fU fHas fNull fAt G) (hm:P.follows .mixedOrders=true)
  (hf : P.funcs[f]? = some fn) (hb : fn.body.map strip = some (sc_usual X.F X.T X.I X.I64 X.Bs X.U8 X.B X.Ts X.Fs X.Tgs fAt f fUnk fWi fF fSm)) (hnm : (fn.name == "runtime.NumGoroutine") = false) (hn : fn.ntmps = 91) (hr : fn.results = #[.tmp 4]) (cPr : UsualPC G P f) (oUnk : FnOK P fUnk) (cUnk : UnkC G P fUnk)
  (w:World) (h:Hd) (tg of_:Int) (fs:Fs) (sub:Value) (t:Tree) (tv:Value) (hi:i32s fs=true) (hlen63:Fs.len fs < 4294967296) (hfs:FsV w (· < w.heap.size) fs .nil sub) (ht:TV G w (· < w.heap.size) t tv) :
  Calls P f #[fldV 10 h.from_ h.to h.null tg h.dflt of_ sub,tv] w fun e w'=>e=.returned (.bool (usFs fs t.l && decide (unknown t.u=[])))/\Below w.heap.size w w':=by
 have hst:=st_facts hX
 obtain ⟨hTF1,iF,zF,hiF,hzF,hzFs⟩:=arr_of hTF
 have hfs0:=hfs
 have oUs:FnOK P f:=fnOK_of hf hb hnm
 refine fCa hf hb hn (by simp) fun a0 hs hd ha=>?_
 have h0:=ha 0 _ rfl
 have h1:=ha 1 _ rfl
 simp only [List.getElem_toArray,List.getElem_cons_zero,List.getElem_cons_succ] at h0 h1
 have ht0:=ht
 cases ht with
 | mk n s tnull l u sb lb ub sc lc uc b o cs hs1 hsc hlc huc hll hrr htt hG hu =>
 refine wSq (wRg (ops_box (B:=w.heap.size) (w0:=w) (by rw [eTm,h0];rfl) (Nat.le_refl _) (Below.refl _ _) fun w1 q1 q2 q3 hc q5=>?_))
 refine ops_box (B:=w.heap.size) (w0:=w) (cs:=#[.int .i64 n,.slice sb s.length sc,.bool tnull,.slice lb l.length lc,.slice ub u.length uc]) (by simp (disch:=(try simp only [sPu]);omega) [h1,treV]) (by omega) q2 fun w2 r1 r2 r3 hd2 r5=>?_
 repeat (apply ops_1;(focus (simp (disch:=(try simp only [sPu]);omega) ;try rfl)))
 refine oNi ?_
 simp only [Exit.then]
 have hc2:∀ j,w2.cell? ⟨w.heap.size,j,none⟩=#[Value.int .i64 10,.int .i64 h.from_,.int .i64 h.to,.int .i64 h.null,.int .i64 tg,.int .i64 h.dflt,.int .i64 of_,sub][j]?:=fun j=>by rw [r1.cell (by show w.heap.size < w1.heap.size;omega)];exact hc j
 rw [q3] at hd2 ⊢
 have hsz2:w2.heap.size=w.heap.size+2:=by omega
 clear hc q1 q2 q3 q5 r1 r3 r5 w1
 refine wSq (wSq (wRg ?_))
 repeat (apply ops_1;(focus (simp (disch:=(try simp only [sPu]);omega) [hst,hc2];try rfl)))
 refine oNi (wBk (wSq (wRg ?_)))
 repeat (apply ops_1;(focus (simp (disch:=(try simp only [sPu]);omega) ;try rfl)))
 refine oNi (wCd (t:=false) (by simp (disch:=(try simp only [sPu]);omega)) ?_)
 rw [if_neg (by simp)]
 refine wSq (wRg ?_)
 repeat (apply ops_1;(focus (simp (disch:=(try simp only [sPu]);omega) ;try rfl)))
 refine oNi (wCd (t:=false) (by simp (disch:=(try simp only [sPu]);omega)) ?_)
 rw [if_neg (by simp)]
 refine wSq (wSq (wRg ?_))
 repeat (apply ops_1;(focus (simp (disch:=(try simp only [sPu]);omega) ;try rfl)))
 refine oNi (wCd (t:=false) (by simp (disch:=(try simp only [sPu]);omega)) ?_)
 rw [if_neg (by simp)]
 refine wRg ?_
 repeat (apply ops_1;(focus (simp (disch:=(try simp only [sPu]);omega) ;try rfl)))
 refine oNi ?_
 simp only [Exit.then]
 refine wCd (t:=false) (by simp (disch:=(try simp only [sPu]);omega)) ?_
 rw [if_neg (by simp)]
 refine wSq (wRg ?_)
 repeat (apply ops_1;(focus (simp (disch:=(try simp only [sPu]);omega) ;try rfl)))
 refine oNi (wCd (t:=false) (by simp (disch:=(try simp only [sPu]);omega)) ?_)
 rw [if_neg (by simp)]
 refine wSq (wRg ?_)
 repeat (apply ops_1;(focus (simp (disch:=(try simp only [sPu]);omega) ;try rfl)))
 refine oNi (wCd (t:=true) (by simp (disch:=(try simp only [sPu]);omega)) ?_)
 rw [if_pos rfl]
 obtain ⟨fb,fcap,rfl,hfs⟩:=hfs
 rw [show Fs.len fs+Fs.len .nil=Fs.len fs from rfl] at hfs hc2 hfs0
 refine wSq (wSq (wRg ?_))
 repeat (apply ops_1;(focus (simp (disch:=(try simp only [sPu]);omega) [hst,hc2];try rfl)))
 refine oNi ?_
 simp only [Exit.then]
 have fin:∀ (a:Act) (w':World) (v:Bool),a.defers=[]->getT a 4=.bool v->Below w.heap.size w w'->v=(usFs fs l && decide (unknown u=[])) ->
   bodyPost P fn (fun e w'=>e=.returned (.bool (usFs fs (Tree.mk n s tnull l u).l && decide (unknown (Tree.mk n s tnull l u).u=[])))/\Below w.heap.size w w') .ret a w':=by
  intro a w' v z1 z2 z3 z4
  subst z4
  exact ret_tmp hr z1 ⟨by rw [z2];rfl,z3⟩
 refine wBk (wLp (fun a4 w5=>∃ (j:Nat),a4.tmps.size=91/\a4.defers=[]/\getT a4 2=.pointer (some ⟨w.heap.size,0,none⟩)/\getT a4 3=.pointer (some ⟨w.heap.size+1,0,none⟩)/\getT a4 57=.slice fb (Fs.len fs) fcap/\getT a4 58=.int .i64 (Fs.len fs:Int)/\getT a4 59=.int .i64 (j:Int)/\j<=Fs.len fs/\usFs (Fs.drop j fs) (l.drop j)=usFs fs l/\Below w2.heap.size w2 w5)
  (fun a4 _=>match getT a4 59 with | .int _ m=>(Fs.len fs - m).toNat | _=>0) ⟨0,by simp [sPu,hs],by simp [dPu,hd],by simp (disch:=(try simp only [sPu]);omega),by simp (disch:=(try simp only [sPu]);omega),by simp (disch:=(try simp only [sPu]);omega),by simp (disch:=(try simp only [sPu]);omega),by simp (disch:=(try simp only [sPu]);omega),by omega,by simp [Fs.drop],Below.refl _ _⟩ ?_)
 clear hs hd h0 h1 ha a0
 rintro a4 w5 ⟨j,q,qd,q2,q3,q57,q58,q59,hj,hus,hb5⟩
 have hsz5:w.heap.size+2<=w5.heap.size:=by have:=hb5.size;omega
 have hbw5:Below w.heap.size w w5:=r2.trans (hb5.mono (by omega))
 have hc5:∀ i,w5.cell? ⟨w.heap.size,i,none⟩=#[Value.int .i64 10,.int .i64 h.from_,.int .i64 h.to,.int .i64 h.null,.int .i64 tg,.int .i64 h.dflt,.int .i64 of_,.slice fb (Fs.len fs) fcap][i]?:=fun i=>by rw [hb5.cell (by show w.heap.size < w2.heap.size;omega)];exact hc2 i
 have hd5:∀ i,w5.cell? ⟨w.heap.size+1,i,none⟩=#[.int .i64 n,.slice sb s.length sc,.bool tnull,.slice lb l.length lc,.slice ub u.length uc][i]?:=fun i=>by rw [hb5.cell (by show w.heap.size+1 < w2.heap.size;omega)];exact hd2 i
 refine wSq (wRg ?_)
 repeat (apply ops_1;(focus (simp (disch:=(try simp only [sPu]);omega) [hst,q58,q59];try rfl)))
 refine oNi ?_
 simp only [Exit.then]
 refine wSq (wCd (t:=decide ((j:Int) < (Fs.len fs:Int))) (by simp (disch:=(try simp only [sPu]);omega)) ?_)
 cases e1:decide ((j:Int) < (Fs.len fs:Int))
 ·have hje:j=Fs.len fs:=by simp at e1;omega
  subst hje
  rw [drop_len] at hus
  rw [if_neg (by simp)]
  refine wXt ?_
  simp only [Exit.then,Exit.inBlock,if_true]
  refine wSq (wRg ?_)
  iterate 4 (apply ops_1;(focus (simp (disch:=(try simp only [sPu]);omega) [hst,q2,q3,hc5,hd5];try rfl)))
  refine ops_call oUnk (cUnk w5 (· < w5.heap.size) fs .nil _ ub u uc (fun _ h=>h) (FsV.down hbw5 (by omega) hfs0) (by show _+0 < _;omega) hG (tagsAt_mono hu (fun k hk=>by have:k < w.heap.size:=hk;show k < w5.heap.size;omega) (fun k hk=>hbw5.block k hk)) huc) (by simp (disch:=(try simp only [sPu]);omega)) ?_
  rintro e w6 ⟨ub',uc',rfl,-,hb6⟩
  refine ⟨_,rfl,?_⟩
  rw [unkK_nil]
  have hed:decide (unknown u=[])=decide (((unknown u).length:Int)=0):=by
   cases unknown u with
   | nil=>rfl
   | cons x r=>rw [decide_eq_false (by simp),decide_eq_false (by simp;omega)]
  rw [hed] at fin
  generalize (unknown u).length=ll at *
  repeat (apply ops_1;(focus (simp (disch:=(try simp only [sPu]);omega) [hst];try rfl)))
  refine oNi (wRt ?_)
  simp only [Exit.then,Exit.inBlock]
  refine fin _ _ (decide ((ll:Int)=0)) (by simp [dPu,qd]) (by simp (disch:=(try simp only [sPu]);omega);try (rw [Bool.eq_iff_iff];simp)) (hbw5.trans (hb6.mono (by omega))) ?_
  rw [<- hus]
  simp [usFs]
 ·have hjl:j < Fs.len fs:=by simp at e1;omega
  rw [if_pos rfl]
  refine wSk ?_
  simp only [Exit.then]
  obtain ⟨h',ty',hdrop⟩:=drop_cons j fs hjl
  rcases hfs with hfs | ⟨b',o',rfl,hbF,hfs,-⟩
  ·omega
  have hfj:=fsAt_drop j fs b' o' hfs
  rw [hdrop] at hfj hus
  obtain rfl:=i32s_drop j fs hi hdrop
  simp only [FsAt] at hfj
  obtain ⟨⟨of',sub',hr8,h1c,hof,hsub⟩,_⟩:=hfj
  simp only [usFs,headD_drop] at hus
  have hr8':=(rangeV_mono (w:=w5) (hbw5.block b' hbF) 8 (o'+j * 8)).trans hr8
  have ej:(0:Int)<=(j:Int)/\(j:Int) < (Fs.len fs:Int):=by omega
  refine wSq (wBk (wSq (wRg ?_)))
  iterate 3 (apply ops_1;(focus (simp (disch:=(try simp only [sPu]);omega) [hst,q57,q59,ej,hr8',hjl];try rfl)))
  refine oNo rfl (opw_alloc hiF hzF ?_)
  iterate 1 (apply ops_1;(focus (simp (disch:=(try simp only [sPu]);omega) ;try rfl)))
  refine oNo rfl (opw_store_agg (b:=w5.heap.size) (cs:=[.int .i64 3,.int .i64 h'.from_,.int .i64 h'.to,.int .i64 h'.null,.int .i64 (-1),.int .i64 h'.dflt,.int .i64 of',sub']) hTF1 (by simp (disch:=(try simp only [sPu]);omega)) (by simp (disch:=(try simp only [sPu]);omega) [kindOf]) (heap_alloc_new w5 _) (by simp [hzFs]) (by
   intro v hv
   simp only [List.mem_cons,List.not_mem_nil,or_false] at hv
   rcases hv with rfl | rfl | rfl | rfl | rfl | rfl | rfl | rfl <;> first | rfl | exact h1c) (oNi ?_))
  have hnew:((w5.alloc (.cells zF.cells X.F)).setRow w5.heap.size #[.int .i64 3,.int .i64 h'.from_,.int .i64 h'.to,.int .i64 h'.null,.int .i64 (-1),.int .i64 h'.dflt,.int .i64 of',sub']).heap[w5.heap.size]?=some (.cells #[.int .i64 3,.int .i64 h'.from_,.int .i64 h'.to,.int .i64 h'.null,.int .i64 (-1),.int .i64 h'.dflt,.int .i64 of',sub'] X.F (0,0)):=setRow_heap _ _ _ _ _ _ (heap_alloc_new w5 _)
  have hb6:Below w5.heap.size w5 ((w5.alloc (.cells zF.cells X.F)).setRow w5.heap.size #[.int .i64 3,.int .i64 h'.from_,.int .i64 h'.to,.int .i64 h'.null,.int .i64 (-1),.int .i64 h'.dflt,.int .i64 of',sub']):=below_setRow ((Below.refl _ _).alloc (Nat.le_refl _) _) (Nat.le_refl _) _
  have hsz6:((w5.alloc (.cells zF.cells X.F)).setRow w5.heap.size #[.int .i64 3,.int .i64 h'.from_,.int .i64 h'.to,.int .i64 h'.null,.int .i64 (-1),.int .i64 h'.dflt,.int .i64 of',sub']).heap.size=w5.heap.size+1:=by simp
  simp only [Exit.then,pNo]
  generalize ((w5.alloc (.cells zF.cells X.F)).setRow w5.heap.size #[.int .i64 3,.int .i64 h'.from_,.int .i64 h'.to,.int .i64 h'.null,.int .i64 (-1),.int .i64 h'.dflt,.int .i64 of',sub'])=w6 at *
  have hc6:∀ i,w6.cell? ⟨w5.heap.size,i,none⟩=#[Value.int .i64 3,.int .i64 h'.from_,.int .i64 h'.to,.int .i64 h'.null,.int .i64 (-1),.int .i64 h'.dflt,.int .i64 of',sub'][i]?:=fun i=>cell_of_row _ _ _ _ _ _ hnew
  have hbw6:Below w.heap.size w w6:=hbw5.trans (hb6.mono (by omega))
  have hb26:Below w2.heap.size w2 w6:=hb5.trans (hb6.mono hb5.size)
  have ew:IntKind.i64.wrap ((j:Int)+1)=((j+1:Nat):Int):=by rw [wrap_i64'];split <;> omega
  refine gen_act (fun a=>a.tmps.size=91/\a.defers=[]/\getT a 2=.pointer (some ⟨w.heap.size,0,none⟩)/\getT a 3=.pointer (some ⟨w.heap.size+1,0,none⟩)/\getT a 57=.slice (some ⟨b',o',none⟩) (Fs.len fs) fcap/\getT a 58=.int .i64 (Fs.len fs:Int)/\getT a 59=.int .i64 (j:Int)/\getT a 7=.int .i64 (j:Int)/\getT a 8=.pointer (some ⟨w5.heap.size,0,none⟩))
   ⟨by simp [sPu,q],by simp [dPu,qd],by simp (disch:=(try simp only [sPu]);omega) [q2],by simp (disch:=(try simp only [sPu]);omega) [q3],by simp (disch:=(try simp only [sPu]);omega) [q57],by simp (disch:=(try simp only [sPu]);omega) [q58],by simp (disch:=(try simp only [sPu]);omega) [q59],by simp (disch:=(try simp only [sPu]);omega),by simp (disch:=(try simp only [sPu]);omega)⟩ ?_
  rintro a ⟨p,pd,p2,p3,p57,p58,p59,p7,p8⟩
  have hF8d:rangeV w6.drew w5.heap.size 0 8=some [.int .i64 3,.int .i64 h'.from_,.int .i64 h'.to,.int .i64 h'.null,.int .i64 (-1),.int .i64 h'.dflt,.int .i64 of',sub']:=by
   have:rangeV w6 w5.heap.size 0 8=some [.int .i64 3,.int .i64 h'.from_,.int .i64 h'.to,.int .i64 h'.null,.int .i64 (-1),.int .i64 h'.dflt,.int .i64 of',sub']:=by simp [rangeV,hc6]
   exact this
  have hT5d:rangeV w6.drew (w.heap.size+1) 0 5=some [.int .i64 n,.slice sb s.length sc,.bool tnull,.slice lb l.length lc,.slice ub u.length uc]:=by
   have:rangeV w6 (w.heap.size+1) 0 5=some [.int .i64 n,.slice sb s.length sc,.bool tnull,.slice lb l.length lc,.slice ub u.length uc]:=by
    have hcc:∀ i,w6.cell? ⟨w.heap.size+1,i,none⟩=#[.int .i64 n,.slice sb s.length sc,.bool tnull,.slice lb l.length lc,.slice ub u.length uc][i]?:=fun i=>by rw [hb6.cell (by show w.heap.size+1 < w5.heap.size;omega)];exact hd5 i
    simp [rangeV,hcc]
   exact this
  refine wSq (wDr hm (Keeps (fun b=>b == w.heap.size+1 || b == w5.heap.size) w6.drew) [(0,true),(1,true),(2,true),(3,false),(4,false),(5,true)] (by rfl) (by rfl) (by decide) (fun _ _=>rfl) ?_)
  iterate 3 (apply dk_1;(focus rfl);(focus (simp (disch:=(try simp only [sPu]);omega) [hst,p3,p7,p8,hF8d,hT5d];try rfl)))
  have hkeep:∀ (wa wb:World),w5.heap.size+1<=wa.heap.size->Below wa.heap.size wa wb->Keeps (fun b=>b == w.heap.size+1 || b == w5.heap.size) w6.drew wa->Keeps (fun b=>b == w.heap.size+1 || b == w5.heap.size) w6.drew wb:=by
   intro wa wb z1 z2 z3 bb hbb
   have:bb < wa.heap.size:=by
    simp only [Bool.or_eq_true,beq_iff_eq] at hbb
    omega
   exact (z2.block bb this).trans (z3 bb hbb)
  refine dreg_call rfl S.oA (S.cA w6.drew (.mk n s tnull l u) _ j (TV.down hbw6.drew (by show w.heap.size<=w6.heap.size;omega) ht0)) (by simp (disch:=(try simp only [sPu]);omega) [treV]) ?_
  rintro e w8 ⟨tv,rfl,htv,hb8⟩
  have hb8:Below w6.heap.size w6.drew w8:=hb8
  have hk8:=hkeep w6.drew w8 (by show _<=w6.heap.size;omega) hb8 (fun _ _=>rfl)
  have s8:w6.heap.size<=w8.heap.size:=hb8.size
  refine ⟨tv,rfl,hk8,?_⟩
  change TV G w6.drew (· < w6.drew.heap.size) ((l.drop j).headD Tree.zero) tv at htv
  refine dreg_call rfl oUs (cPr w8 h' (-1) of' sub' _ tv (TV.down hb8 (by omega) htv)) (by simp (disch:=(try simp only [sPu]);omega) [fldV]) ?_
  rintro e w9 ⟨rfl,hb9⟩
  have hk9:=hkeep w8 w9 (by omega) hb9 hk8
  refine ⟨_,rfl,hk9,?_⟩
  have hb69:Below w6.heap.size w6 w9:=(Below.trans (Below.refl _ w6).drew hb8).trans (hb9.mono s8)
  repeat (apply dk_1;(focus rfl);(focus (simp (disch:=(try simp only [sPu]);omega) [hst];try rfl)))
  refine dreg_nil ?_
  simp only [Exit.then]
  refine wCd (t:=!(usP h' ((l.drop j).headD Tree.zero))) (by simp (disch:=(try simp only [sPu]);omega)) ?_
  cases hup:usP h' ((l.drop j).headD Tree.zero)
  ·rw [if_pos (by decide)]
   refine wSq (wRg ?_)
   repeat (apply ops_1;(focus (simp (disch:=(try simp only [sPu]);omega) ;try rfl)))
   refine oNi (wRt ?_)
   simp only [Exit.then,Exit.inBlock]
   refine fin _ _ false (by simp [dPu,pd]) (by simp (disch:=(try simp only [sPu]);omega)) (hbw6.trans (hb69.mono (by omega))) ?_
   rw [<- hus,hup]
   simp
  ·rw [if_neg (by decide)]
   refine wSk ?_
   simp only [Exit.inBlock,Exit.then]
   refine wRg ?_
   repeat (apply ops_1;(focus (simp (disch:=(try simp only [sPu]);omega) [p59,ew];try rfl)))
   refine oNi ⟨⟨j+1,by simp [sPu,p],by simp [dPu,pd],by simp (disch:=(try simp only [sPu]);omega) [p2],by simp (disch:=(try simp only [sPu]);omega) [p3],by simp (disch:=(try simp only [sPu]);omega) [p57],by simp (disch:=(try simp only [sPu]);omega) [p58],by simp (disch:=(try simp only [sPu]);omega),by omega,?_,hb26.trans (hb69.mono (by have:=hb26.size;omega))⟩,?_⟩
   ·rw [<- hus,hup,Bool.true_and]
   ·rw [q59]
    simp (disch:=(try simp only [sPu]);omega);omega
theorem usual_ok (hX:stOK P X=true) (hXs:sOK P X=true) (hTF:arrB P X.F 8=true) (S:SmallC P X fW fTh fC fWi fF fU fHas fNull fAt G) (hm:P.follows .mixedOrders=true)
  (hf : P.funcs[f]? = some fn) (hb : fn.body.map strip = some (sc_usual X.F X.T X.I X.I64 X.Bs X.U8 X.B X.Ts X.Fs X.Tgs fAt f fUnk fWi fF fSm)) (hnm : (fn.name == "runtime.NumGoroutine") = false) (hn : fn.ntmps = 91) (hr : fn.results = #[.tmp 4]) (oSm : FnOK P fSm) (cSm : SameC P fSm) (oUnk : FnOK P fUnk) (cUnk : UnkC G P fUnk) : UsualC G P f := by
 intro w h tg ty of_ sub t tv hk hsub ht
 have hp:=usualP_ok hX hXs hTF S hm oSm cSm hf hb hnm hn hr
 cases ty with
 | prim k=>simp [knTy] at hk
 | list a b c d =>
  exact usualL_ok hX hXs hTF S hm hf hb hnm hn hr w h tg of_ sub t tv ht
 | struct a b c d fs kn =>
  cases kn with
  | cons _ _ _=>simp [knTy] at hk
  | nil =>
   simp only [knTy,Bool.and_eq_true,decide_eq_true_eq] at hk
   exact usualS_ok hX hXs hTF S hm hf hb hnm hn hr hp oUnk cUnk w h tg of_ fs sub t tv hk.1 hk.2 (by simpa only [SubV,FsV] using hsub) ht
end
section
variable {G:List (Nat × Bytes)->Prop} {P:Program} {X:STy} {f:FuncId} {fn:Func} {fW fTh fC fWi fF fU fHas fNull fAt fPart fVal fFld fKn fUs fUnk:FuncId}
theorem opw_appendU8G {a:Act} {w:World} {K:Act->World->Prop} {d:Option Tmp} {g:Option (Nat × Bool)} {T tU8 B:Nat} {x y:Operand} {dv xv:Value} {xs bs:Bytes} {ts:Array TypeId} (hT:u8sB P T tU8=true) (hx:a.eval x=dv) (hy:a.eval y=xv) (hts:ts=#[T,T]) (ho:Own tU8 w B dv xs) (hB:B<=w.heap.size)
  (hs:Src P 1 T xv bs.length (cellsOf bs) w) (hlen:xs.length+bs.length<=lim)
  (h:∀ dv' w',Own tU8 w' B dv' (xs ++ bs)->Below B w w'->B<=w'.heap.size->w.grownBy w' dv.ownBlock->(dv'.ownBlock=dv.ownBlock∨∃ b,dv'.ownBlock=some b/\w.heap.size<=b)->K (a.put d dv') w'):opw P ⟨d,.call ⟨.builtin .append,#[x,y],ts⟩,g⟩ a w K:=by
 subst hts
 obtain ⟨hu,i,hi,hz,hs1,hby⟩:=u8s_of hT
 have hlim:lim=4294967295:=rfl
 refine opw_of fun o next Q hd hop hn=>?_
 obtain ⟨v',w',hr,h2,h3,h4⟩:=run_append_src2 (P:=P) w B T T o.type tU8 i (.int .u8 0) 1 1 hu hi hz hs1 hby rfl (by decide) dv xs.length (cellsOf xs) ho xv bs.length (cellsOf bs) hs (by simp only [maxLen];omega) (by omega) hB
 have hop':o.op=.call ⟨.builtin .append,#[x,y],#[T,T]⟩:=stripOp_eq (by simp) hop
 have hr':(execOp a.eval o).run P w=.ok (.value v') w':=by
  simp [execOp,hop',resolve,invoke,builtin,hx,hy,hr]
 rw [hr',Oper.upon_value,hd]
 refine hn _ _ (h v' w' ?_ ((Below.refl B w).grown h3 hB (fun k hk=>own_u8 ho k hk)) (Nat.le_trans hB h3.size) h3 h4)
 unfold Own
 rw [cellsOf_append,List.length_append]
 exact h2
theorem tags_loop (hX:stOK P X=true) (hTg:arrB P X.Tg 2=true) (S:SmallC P X fW fTh fC fWi fF fU fHas fNull fAt G) (oUnk:FnOK P fUnk) (cUnk:UnkC G P fUnk)
  {a:Act} {w1:World} {Q:Exit->Act->World->Prop} (fs kn:Fs) (fv:Value) (hfs:FsV w1 (· < w1.heap.size) fs kn fv) (hlen63:Fs.len fs+Fs.len kn < 4294967296) {B:Nat} {F:Nat->Prop} (x0:Bytes) (c0:Nat) (hc0:c0<=1) (hB:B<=w1.heap.size) (hF:∀ k,F k->k < B) (b7:Nat) (hb7:b7 < w1.heap.size) (n:Int) (s l:Value) (tnull:Bool) (ub:Option Addr) (u:List (Nat × Bytes)) (uc:Nat) (huc:u.length<=uc) (hG:G u) (hu:UTagsAt w1 F ub u)
  (hc7:∀ i,w1.cell? ⟨b7,i,none⟩=#[Value.int .i64 n,s,.bool tnull,l,.slice ub u.length uc][i]?)
  (g:a.tmps.size=132) (g0:getT a 0=fv) (g7:getT a 7=.pointer (some ⟨b7,0,none⟩)) (g10:Own X.U8 w1 B (getT a 10) x0) (g11:getT a 11=.int .i64 (c0:Int))
  (hl:x0.length+((unkK kn u).flatMap wTag).length<=lim) (hul:(unkK kn u).length<=most)
  (hQ:∀ (a':Act) (w':World),a'.tmps.size=132->a'.defers=a.defers->(∀ s,s < 10->getT a' s=getT a s)->Own X.U8 w' B (getT a' 10) (x0 ++ (unkK kn u).flatMap wTag)->getT a' 11=.int .i64 ((c0+(unkK kn u).length:Nat):Int)->Below B w1 w'->Q .normal a' w') :
  SC.wp P (.seq (.reg [mv 97 0,fa 98 X.T 7 4,ld 99 X.Tgs 98,cal 100 fUnk [97,99],lenOp 101 X.Tgs 100,⟨some 102,.move (.const (.int .i64 0)),none⟩]) (.block 6 (.loop (.seq (.reg [⟨some 103,.binOp .lss X.I (.tmp 102) (.tmp 101) X.I,none⟩]) (.seq (.cond (.tmp 103) (.skip) (.exit 6)) (.seq (.block 7 (.seq (.reg [⟨some 104,.indexAddr X.Tgs (.tmp 100) (.tmp 102),none⟩,ld 105 X.Tg 104,⟨some 19,.alloc X.Tg,none⟩,⟨none,.store X.Tg (.tmp 19) (.tmp 105),none⟩]) (.seq (.reg [fa 106 X.Tg 19 1,ld 107 X.Bs 106,cal 108 fW [107],asg 20 108]) (.seq (.reg [mv 109 10,fa 110 X.Tg 19 0,ld 111 X.U32 110,⟨some 112,.convert X.U32 X.U64 (.tmp 111),none⟩,cal 113 fU [112],⟨some 114,.call ⟨.builtin .append,#[(.tmp 109),(.tmp 113)],#[X.Bs,X.Bs]⟩,none⟩,mv 115 20,lenOp 116 X.Bs 115,⟨some 117,.convert X.I X.U64 (.tmp 116),none⟩,cal 118 fU [117],⟨some 119,.call ⟨.builtin .append,#[(.tmp 114),(.tmp 118)],#[X.Bs,X.Bs]⟩,none⟩,mv 120 20,⟨some 121,.call ⟨.builtin .append,#[(.tmp 119),(.tmp 120)],#[X.Bs,X.Bs]⟩,none⟩,asg 10 121]) (.reg [mv 122 11,⟨some 123,.binOp .add X.I (.tmp 122) (.const (.int .i64 1)) X.I,none⟩,asg 11 123]))))) (.reg [⟨some 124,.binOp .add X.I (.tmp 102) (.const (.int .i64 1)) X.I,none⟩,mv 102 124]))))))) Q a w1:=by
 have hst:=st_facts hX
 have hU8s:=hst.2.2.1.1
 have hlim:lim=4294967295:=rfl
 have hmost:most=32767:=rfl
 obtain ⟨hTg1,iF,zF,hiF,hzF,hzFs⟩:=arr_of hTg
 refine wSq (wRg ?_)
 iterate 3 (apply ops_1;(focus (simp (disch:=(try simp only [sPu]);omega) [hst,g0,g7,hc7];try rfl)))
 refine ops_call oUnk (cUnk w1 F fs kn fv ub u uc (fun k hk=>Nat.lt_of_lt_of_le (hF k hk) hB) hfs hlen63 hG hu huc) (by simp (disch:=(try simp only [sPu]);omega)) ?_
 rintro e w2 ⟨ub',uc',rfl,hu2,hb2⟩
 refine ⟨_,rfl,?_⟩
 generalize unkK kn u=us at *
 repeat (apply ops_1;(focus (simp (disch:=(try simp only [sPu]);omega) [hst];try rfl)))
 refine oNi ?_
 simp only [Exit.then]
 have hsz2:w1.heap.size<=w2.heap.size:=hb2.size
 obtain ⟨F',hF'⟩:∃ F':Nat->Prop,F'=fun k=>F k∨(w1.heap.size<=k/\k < w2.heap.size):=⟨_,rfl⟩
 rw [<- hF'] at hu2
 have hF2:∀ k,F' k->k < w2.heap.size:=fun k hk=>by
  rw [hF'] at hk
  rcases hk with hk | hk
  ·have:=hF k hk;omega
  ·exact hk.2
 have hF3:∀ k,F' k->k < B∨w1.heap.size<=k:=fun k hk=>by
  rw [hF'] at hk
  rcases hk with hk | hk
  ·exact .inl (hF k hk)
  ·exact .inr hk.1
 refine wBk (wLp (fun a4 w5=>∃ (j:Nat),a4.tmps.size=132/\a4.defers=a.defers/\(∀ s,s < 10->getT a4 s=getT a s)/\getT a4 100=.slice ub' us.length uc'/\getT a4 101=.int .i64 (us.length:Int)/\getT a4 102=.int .i64 (j:Int)/\j<=us.length/\getT a4 11=.int .i64 ((c0+j:Nat):Int) /\
   Own X.U8 w5 B (getT a4 10) (x0 ++ (us.take j).flatMap wTag)/\(∀ k,F' k->(getT a4 10).ownBlock ≠ some k)/\(∀ k,F' k->w5.heap[k]?=w2.heap[k]?)/\Below B w2 w5)
  (fun a4 _=>match getT a4 102 with | .int _ m=>(us.length - m).toNat | _=>0) ⟨0,by simp [sPu,g],by simp [dPu],?_,by simp (disch:=(try simp only [sPu]);omega),by simp (disch:=(try simp only [sPu]);omega),by simp (disch:=(try simp only [sPu]);omega),by omega,by simp (disch:=(try simp only [sPu]);omega) [g11],?_,?_,fun _ _=>rfl,Below.refl _ _⟩ ?_)
 ·intro s h1
  simp (disch:=omega) [gTn]
 ·refine own_eq (xs:=x0) (own_keep g10 hb2) ?_ |> fun h=>by simpa using h
  simp (disch:=(try simp only [sPu]);omega)
 ·intro k hk e
  have e':(getT a 10).ownBlock=some k:=by rw [<- e];simp (disch:=(try simp only [sPu]);omega)
  have h1:=own_lt g10 k e'
  rcases hF3 k hk with h | h <;> omega
 rintro a4 w5 ⟨j,q,qd,qs,q100,q101,q102,hj,q11,ho,hno,hk5,hb5⟩
 have hsz5:w2.heap.size<=w5.heap.size:=hb5.size
 refine wSq (wRg ?_)
 repeat (apply ops_1;(focus (simp (disch:=(try simp only [sPu]);omega) [hst,q101,q102];try rfl)))
 refine oNi ?_
 simp only [Exit.then]
 refine wSq (wCd (t:=decide ((j:Int) < (us.length:Int))) (by simp (disch:=(try simp only [sPu]);omega)) ?_)
 cases e1:decide ((j:Int) < (us.length:Int))
 ·have hje:j=us.length:=by simp at e1;omega
  subst hje
  rw [if_neg (by simp)]
  refine wXt ?_
  simp only [Exit.then,Exit.inBlock,if_true]
  rw [List.take_length] at ho
  refine hQ _ _ (by simp [sPu,q]) (by simp [dPu,qd]) ?_ ?_ (by simp (disch:=(try simp only [sPu]);omega) [q11]) ((hb2.mono hB).trans hb5)
  ·intro s h1
   rw [<- qs s h1]
   simp (disch:=omega) [gTn]
  ·refine own_eq ho ?_
   simp (disch:=(try simp only [sPu]);omega)
 ·have hjl:j < us.length:=by simp at e1;omega
  rw [if_pos rfl]
  refine wSk ?_
  simp only [Exit.then]
  rcases hu2 with hu2 | ⟨b,o,rfl,hbF,hu2⟩
  ·subst hu2;simp at hjl
  obtain ⟨hx32,vb,vc,hr2,hvb,hvc⟩:=hu2 j _ (List.getElem?_eq_getElem hjl)
  have hr2':=(rangeV_mono (w:=w5) (hk5 b hbF) 2 (o+j * 2)).trans hr2
  have ej:(0:Int)<=(j:Int)/\(j:Int) < (us.length:Int):=by omega
  obtain ⟨tf1,tf2⟩:=take_flat us wTag j hjl
  have hcj:(wTag us[j]).length=(uvarint us[j].1).length+((uvarint (whole us[j].2).length).length+(whole us[j].2).length):=by simp [wTag,Nat.add_assoc]
  have hwt:wTag us[j]=uvarint us[j].1 ++ uvarint (whole us[j].2).length ++ whole us[j].2:=rfl
  generalize us[j]=x at *
  refine wSq (wBk (wSq (wRg ?_)))
  iterate 2 (apply ops_1;(focus (simp (disch:=(try simp only [sPu]);omega) [hst,q100,q102,ej,hr2',hjl];try rfl)))
  refine oNo rfl (opw_alloc hiF hzF ?_)
  refine oNo rfl (opw_store_agg (b:=w5.heap.size) (cs:=[.int .u32 (x.1:Int),.slice vb x.2.length vc]) hTg1 (by simp (disch:=(try simp only [sPu]);omega)) (by simp (disch:=(try simp only [sPu]);omega)) (heap_alloc_new w5 _) (by simp [hzFs]) (by simp [Value.oneCell']) (oNi ?_))
  have hnew:((w5.alloc (.cells zF.cells X.Tg)).setRow w5.heap.size #[.int .u32 (x.1:Int),.slice vb x.2.length vc]).heap[w5.heap.size]?=some (.cells #[.int .u32 (x.1:Int),.slice vb x.2.length vc] X.Tg (0,0)):=setRow_heap _ _ _ _ _ _ (heap_alloc_new w5 _)
  have hb6:Below w5.heap.size w5 ((w5.alloc (.cells zF.cells X.Tg)).setRow w5.heap.size #[.int .u32 (x.1:Int),.slice vb x.2.length vc]):=below_setRow ((Below.refl _ _).alloc (Nat.le_refl _) _) (Nat.le_refl _) _
  have hsz6:((w5.alloc (.cells zF.cells X.Tg)).setRow w5.heap.size #[.int .u32 (x.1:Int),.slice vb x.2.length vc]).heap.size=w5.heap.size+1:=by simp
  simp only [Exit.then,pNo]
  generalize ((w5.alloc (.cells zF.cells X.Tg)).setRow w5.heap.size #[.int .u32 (x.1:Int),.slice vb x.2.length vc])=w6 at *
  have hc6:∀ i,w6.cell? ⟨w5.heap.size,i,none⟩=#[Value.int .u32 (x.1:Int),.slice vb x.2.length vc][i]?:=fun i=>cell_of_row _ _ _ _ _ _ hnew
  refine wSq (wRg ?_)
  iterate 2 (apply ops_1;(focus (simp (disch:=(try simp only [sPu]);omega) [hst,hc6];try rfl)))
  refine ops_call S.oW (S.cW w6 vb x.2.length vc hvc) (by simp (disch:=(try simp only [sPu]);omega)) ?_
  rintro e w7 ⟨rfl,rfl⟩
  refine ⟨_,rfl,?_⟩
  repeat (apply ops_1;(focus (simp (disch:=(try simp only [sPu]);omega) ;try rfl)))
  refine oNi ?_
  simp only [Exit.then]
  have ewl:(whole x.2).length=min x.2.length most:=by simp [whole,Nat.min_comm]
  refine gen_act (fun a6=>a6.tmps.size=132/\a6.defers=a.defers/\(∀ s,s < 10->getT a6 s=getT a s)/\getT a6 10=getT a4 10/\getT a6 11=.int .i64 ((c0+j:Nat):Int)/\getT a6 100=.slice (some ⟨b,o,none⟩) us.length uc'/\getT a6 101=.int .i64 (us.length:Int)/\getT a6 102=.int .i64 (j:Int)/\getT a6 19=.pointer (some ⟨w5.heap.size,0,none⟩)/\getT a6 20=.slice vb (whole x.2).length vc)
   ⟨by simp [sPu,q],by simp [dPu,qd],?_,by simp (disch:=(try simp only [sPu]);omega),by simp (disch:=(try simp only [sPu]);omega) [q11],by simp (disch:=(try simp only [sPu]);omega) [q100],by simp (disch:=(try simp only [sPu]);omega) [q101],by simp (disch:=(try simp only [sPu]);omega) [q102],by simp (disch:=(try simp only [sPu]);omega),by simp (disch:=(try simp only [sPu]);omega) [ewl]⟩ ?_
  ·intro s h1
   rw [<- qs s h1]
   simp (disch:=omega) [gTn]
  rintro a6 ⟨p,pd,ps,p10,p11,p100,p101,p102,p19,p20⟩
  have hwl:(whole x.2).length<=most:=by rw [ewl];omega
  have ek:(x.1:Int) % 18446744073709551616=(x.1:Int):=by omega
  have el:((whole x.2).length:Int) % 18446744073709551616=((whole x.2).length:Int):=by omega
  have hkF6:∀ k,F' k->w6.heap[k]?=w2.heap[k]?:=fun k hk=>(hb6.block k (by have:=hF2 k hk;omega)).trans (hk5 k hk)
  have hBv6:BytesAt w6 F' vb (whole x.2):=bytesAt_mono (bytesAt_whole hvb most) (fun _ h=>h) hkF6
  generalize whole x.2=wx at *
  have hl':(x0 ++ (us.take j).flatMap wTag).length+(uvarint x.1).length+(uvarint wx.length).length+wx.length<=lim:=by rw [List.length_append];omega
  have ho6:Own X.U8 w6 B (getT a4 10) (x0 ++ (us.take j).flatMap wTag):=own_keep ho hb6
  generalize hxsj:x0 ++ (us.take j).flatMap wTag=xsj at *
  have hfresh:∀ (d:Value),(∃ b,d.ownBlock=some b/\w2.heap.size<=b)->∀ k,F' k->d.ownBlock ≠ some k:=by
   rintro d ⟨b,e,hb⟩ k hk e2
   rw [e] at e2
   cases e2
   have:=hF2 b hk
   omega
  refine wSq (wRg ?_)
  iterate 4 (apply ops_1;(focus (simp (disch:=(try simp only [sPu]);omega) [hst,hc6,p10,p19,wrap_u64,ek];try rfl)))
  refine ops_call S.oU (S.cU w6 x.1 (by omega)) (by simp (disch:=(try simp only [sPu]);omega)) ?_
  rintro e w7 ⟨v1,rfl,o1,b1⟩
  refine ⟨v1,rfl,?_⟩
  have s7:w6.heap.size<=w7.heap.size:=b1.size
  refine oNo rfl (opw_appendU8G (B:=B) (dv:=getT a4 10) (xv:=v1) (xs:=xsj) (bs:=uvarint x.1) hU8s (by simp (disch:=(try simp only [sPu]);omega) [p10]) (by simp (disch:=(try simp only [sPu]);omega)) rfl (own_keep ho6 b1) (by omega) (src_own hU8s o1) (by omega) ?_)
  intro v2 w8 o2 b2 s8 g8 t8
  have s8':w7.heap.size<=w8.heap.size:=g8.size
  have n2:∀ k,F' k->v2.ownBlock ≠ some k:=by
   rcases t8 with e | ⟨b',e,hb'⟩
   ·rw [e];exact hno
   ·exact hfresh v2 ⟨b',e,by omega⟩
  have kF8:∀ k,F' k->w8.heap[k]?=w2.heap[k]?:=fun k hk=>(g8.block k (by have:=hF2 k hk;omega) (fun e=>hno k hk e.symm)).trans ((b1.block k (by have:=hF2 k hk;omega)).trans (hkF6 k hk))
  iterate 3 (apply ops_1;(focus (simp (disch:=(try simp only [sPu]);omega) [hst,p20,wrap_u64,el];try rfl)))
  refine ops_call S.oU (S.cU w8 wx.length (by omega)) (by simp (disch:=(try simp only [sPu]);omega)) ?_
  rintro e w9 ⟨v3,rfl,o3,b3⟩
  refine ⟨v3,rfl,?_⟩
  have s9:w8.heap.size<=w9.heap.size:=b3.size
  refine oNo rfl (opw_appendU8G (B:=B) (dv:=v2) (xv:=v3) (xs:=xsj ++ uvarint x.1) (bs:=uvarint wx.length) hU8s (by simp (disch:=(try simp only [sPu]);omega)) (by simp (disch:=(try simp only [sPu]);omega)) rfl (own_keep o2 b3) (by omega) (src_own hU8s o3) (by rw [List.length_append];omega) ?_)
  intro v4 w10 o4 b4 s10 g10' t10
  have s10':w9.heap.size<=w10.heap.size:=g10'.size
  have n4:∀ k,F' k->v4.ownBlock ≠ some k:=by
   rcases t10 with e | ⟨b',e,hb'⟩
   ·rw [e];exact n2
   ·exact hfresh v4 ⟨b',e,by omega⟩
  have kF10:∀ k,F' k->w10.heap[k]?=w2.heap[k]?:=fun k hk=>(g10'.block k (by have:=hF2 k hk;omega) (fun e=>n2 k hk e.symm)).trans ((b3.block k (by have:=hF2 k hk;omega)).trans (kF8 k hk))
  have b610:Below B w6 w10:=(b1.mono (by omega)).trans (b2.trans ((b3.mono (by omega)).trans b4))
  iterate 1 (apply ops_1;(focus (simp (disch:=(try simp only [sPu]);omega) [p20];try rfl)))
  refine oNo rfl (opw_appendU8G (B:=B) (dv:=v4) (xv:=.slice vb wx.length vc) (xs:=xsj ++ uvarint x.1 ++ uvarint wx.length) (bs:=wx) hU8s (by simp (disch:=(try simp only [sPu]);omega)) (by simp (disch:=(try simp only [sPu]);omega)) rfl o4 s10 (src_bytes hU8s (bytesAt_mono (F':=fun _=>True) hBv6 (fun _ _=>trivial) (fun k hk=>(kF10 k hk).trans (hkF6 k hk).symm)) vc) (by rw [List.length_append,List.length_append];omega) ?_)
  intro v5 w11 o5 b5 s11 g11' t11
  have n5:∀ k,F' k->v5.ownBlock ≠ some k:=by
   rcases t11 with e | ⟨b',e,hb'⟩
   ·rw [e];exact n4
   ·exact hfresh v5 ⟨b',e,by omega⟩
  have kF11:∀ k,F' k->w11.heap[k]?=w2.heap[k]?:=fun k hk=>(g11'.block k (by have:=hF2 k hk;omega) (fun e=>n4 k hk e.symm)).trans (kF10 k hk)
  repeat (apply ops_1;(focus (simp (disch:=(try simp only [sPu]);omega) ;try rfl)))
  refine oNi ?_
  simp only [Exit.then]
  have ew:IntKind.i64.wrap ((j:Int)+1)=((j+1:Nat):Int):=by rw [wrap_i64'];split <;> omega
  have ewc:IntKind.i64.wrap (((c0+j:Nat):Int)+1)=((c0+(j+1):Nat):Int):=by rw [wrap_i64'];split <;> omega
  have ewc2:IntKind.i64.wrap ((c0:Int)+(j:Int)+1)=(c0:Int)+((j:Int)+1):=by rw [wrap_i64'];split <;> omega
  refine wRg ?_
  repeat (apply ops_1;(focus (simp (disch:=(try simp only [sPu]);omega) [p11,ewc,ewc2];try rfl)))
  refine oNi ?_
  simp only [Exit.inBlock,Exit.then]
  refine wRg ?_
  repeat (apply ops_1;(focus (simp (disch:=(try simp only [sPu]);omega) [p102,ew];try rfl)))
  refine oNi ?_
  refine ⟨⟨j+1,by simp [sPu,p],by simp [dPu,pd],?_,by simp (disch:=(try simp only [sPu]);omega) [p100],by simp (disch:=(try simp only [sPu]);omega) [p101],by simp (disch:=(try simp only [sPu]);omega),by omega,by simp (disch:=(try simp only [sPu]);omega) [ewc2],?_,?_,kF11,hb5.trans ((hb6.mono (by omega)).trans (b610.trans b5))⟩,?_⟩
  ·intro s h1
   rw [<- ps s h1]
   simp (disch:=omega) [gTn]
  ·rw [tf1,hwt,<- List.append_assoc,<- List.append_assoc,<- List.append_assoc,hxsj]
   refine own_eq o5 ?_
   simp (disch:=(try simp only [sPu]);omega)
  ·intro k hk e
   refine n5 k hk ?_
   rw [<- e]
   simp (disch:=(try simp only [sPu]);omega)
  ·rw [q102]
   simp (disch:=(try simp only [sPu]);omega);omega
end
end Go.Proofs.YtdnpafdgglpagaaGreatDoor.K
namespace Go.Proofs.YtdnpafdgglpagaaGreatDoor.K
open Go Go.RowKit Go.Proofs.YtdnpafdgglpagaaGreatDoor.T
set_option linter.unusedSimpArgs false
set_option linter.unusedVariables false
def alwB (h:Hd):Bool:=decide (h.from_<=0) && decide (h.to < 0)
def alwFs:Fs->Bool
 | .nil=>true
 | .cons h _ r=>alwB h && alwFs r
def alwTy:Ty->Bool
 | .struct _ _ _ _ fs _=>alwFs fs
 | _=>true
theorem alwB_has {h:Hd} {ver:Int} (ha:alwB h=true) (hv:0<=ver):h.has ver=true:=by
 simp only [alwB,Bool.and_eq_true,decide_eq_true_eq] at ha
 simp only [Hd.has,Bool.and_eq_true,Bool.or_eq_true,decide_eq_true_eq]
 omega
theorem uv_head {n m:Nat} (hn:m < n) (hm:m<=127) (r:Bytes):uvarint n ++ r ≠ [UInt8.ofNat m]:=by
 intro e
 unfold uvarint at e
 split at e
 ·simp only [List.cons_append,List.nil_append,List.cons.injEq] at e
  have:=congrArg UInt8.toNat e.1
  simp only [UInt8.toNat_ofNat'] at this
  omega
 ·simp only [List.cons_append,List.cons.injEq] at e
  have:=congrArg UInt8.toNat e.1
  simp only [UInt8.toNat_ofNat'] at this
  omega
theorem uv_small {m:Nat} (hm:m<=127):uvarint m=[UInt8.ofNat m]:=by
 unfold uvarint
 rw [dif_pos hm]
theorem wF_i32 {ver:Int} (hv:0<=ver) (flex:Bool) {h:Hd} {r:Fs} (ha:alwB h=true) (ts:List Tree):wFs ver flex (.cons h (.prim .i32) r) ts=fixed (ts.headD Tree.zero).n 4 ++ wFs ver flex r ts.tail:=by
 rw [wFs_cons,alwB_has ha hv,if_pos rfl]
 rfl
theorem i32s_cons {h:Hd} {ty:Ty} {r:Fs} (hi:i32s (.cons h ty r)=true):ty=.prim .i32/\i32s r=true:=by
 unfold i32s at hi
 split at hi
 ·rename_i h;cases h
 ·rename_i h;cases h;exact ⟨rfl,hi⟩
 ·cases hi
theorem usFs_law {ver:Int} (hv:0<=ver) (flex:Bool):∀ (fs:Fs) (ts:List Tree),i32s fs=true->alwFs fs=true->(wFs ver flex fs ts).length=(wFs ver flex fs (dFs fs)).length/\(usFs fs ts=true ↔ wFs ver flex fs ts=wFs ver flex fs (dFs fs))
 | .nil,ts,_,_=>by simp [usFs,wFs]
 | .cons h ty r,ts,hi,ha=>by
  obtain ⟨rfl,hi'⟩:=i32s_cons hi
  simp only [alwFs,Bool.and_eq_true] at ha
  obtain ⟨q1,q2⟩:=usFs_law hv flex r ts.tail hi' ha.2
  rw [wF_i32 hv flex ha.1,wF_i32 hv flex ha.1]
  simp only [dFs,dT,List.headD_cons,List.tail_cons,usFs,usP,Bool.and_eq_true,decide_eq_true_eq,List.length_append,fixed_len]
  refine ⟨by omega,?_⟩
  rw [q2]
  constructor
  ·rintro ⟨h1,h2⟩
   rw [h1,h2]
   rfl
  ·intro e
   exact List.append_inj e (by rw [fixed_len,fixed_len])
theorem usTy_law {ver:Int} (hv:0<=ver) (h:Hd) (ty:Ty) (t:Tree) (hk:knTy ty=true) (ha:alwTy ty=true):usTy ty t=true ↔ wTy ver true ty false t=wTy ver true ty false (dT h ty):=by
 obtain ⟨n,s,nl,l,u⟩:=t
 have e0:wTags true []=[UInt8.ofNat 0]:=by
  show uvarint 0 ++ []=_
  rw [uv_small (by decide)]
  rfl
 have e1:counted true false 0 4=[UInt8.ofNat 1]:=by
  show uvarint 1=_
  exact uv_small (by decide)
 cases ty with
 | prim k=>simp [knTy] at hk
 | list a b c d =>
  have r1:wTy ver true (.list a b c d) false (.mk n s nl l u)=uvarint ((l.take most).length+1) ++ (l.take most).flatMap (fun x=>wTy ver true d false x):=by
   simp [wTy,counted,Tree.l]
  have r2:wTy ver true (.list a b c d) false (dT h (.list a b c d))=[UInt8.ofNat 1]:=by
   rw [<- e1]
   simp [wTy,dT,Tree.l]
  rw [r1,r2]
  constructor
  ·intro e
   have e:l=[]:=of_decide_eq_true e
   subst e
   rw [List.take_nil]
   show uvarint 1 ++ []=_
   rw [uv_small (by decide)]
   rfl
  ·intro e
   by_cases hl:l=[]
   ·exact decide_eq_true hl
   ·exfalso
    have hpos:0 < (l.take most).length:=by
     rw [List.length_take]
     have:=List.length_pos_iff.2 hl
     have:most=32767:=rfl
     omega
    exact uv_head (by omega) (by decide) _ e
 | struct a b c d fs kn =>
  cases kn with
  | cons _ _ _=>simp [knTy] at hk
  | nil =>
   simp only [knTy,Bool.and_eq_true,decide_eq_true_eq] at hk
   obtain ⟨q1,q2⟩:=usFs_law hv true fs l hk.1 ha
   have r1:wTy ver true (.struct a b c d fs .nil) false (.mk n s nl l u)=wFs ver true fs l ++ wTags true u:=by
    simp [wTy,wKn,wTagsB,Tree.l,Tree.u]
   have r2:wTy ver true (.struct a b c d fs .nil) false (dT h (.struct a b c d fs .nil))=wFs ver true fs (dFs fs) ++ [UInt8.ofNat 0]:=by
    rw [<- e0]
    simp [wTy,wKn,wTagsB,Tree.l,Tree.u,dT]
   rw [r1,r2]
   have r3:wTags true u=uvarint (unknown u).length ++ (unknown u).flatMap wTag:=rfl
   show (usFs fs l && decide (unknown u=[]))=true ↔ _
   rw [Bool.and_eq_true]
   constructor
   ·rintro ⟨h1,h2⟩
    have h2:unknown u=[]:=of_decide_eq_true h2
    rw [q2.1 h1,r3,h2,<- e0]
    rfl
   ·intro e
    obtain ⟨h1,h2⟩:=List.append_inj e q1
    refine ⟨q2.2 h1,?_⟩
    rw [r3] at h2
    refine decide_eq_true ?_
    cases hu:unknown u with
    | nil=>rfl
    | cons x r =>
     rw [hu] at h2
     exact absurd h2 (uv_head (by simp) (by decide) _)
def tagX (ver:Int):Fs->List Tree->Bytes × Nat
 | .nil,_=>([],0)
 | .cons _ ty _,ts=>if usTy ty (ts.headD Tree.zero) then ([],0) else (uvarint 0 ++ (uvarint (wTy ver true ty false (ts.headD Tree.zero)).length ++ wTy ver true ty false (ts.headD Tree.zero)),1)
def knB:Fs->Bool
 | .nil=>true
 | .cons h ty .nil=>knTy ty && alwTy ty && decide (h.null < 0)
 | _=>false
theorem tagX_le (ver:Int) (kn:Fs) (ts:List Tree):(tagX ver kn ts).2<=1:=by
 cases kn with
 | nil=>simp [tagX]
 | cons h ty r =>
  simp only [tagX]
  split <;> simp
theorem wTagsB_tagX {ver:Int} (hv:0<=ver) {kn:Fs} (hk:knB kn=true) (ts:List Tree) (u:List (Nat × Bytes)) :
  wTagsB true (wKn ver true kn ts) u=uvarint ((tagX ver kn ts).2+(unkK kn u).length) ++ ((tagX ver kn ts).1 ++ (unkK kn u).flatMap wTag):=by
 cases kn with
 | nil=>simp [wKn,wTagsB,tagX,unkK_nil,wTags]
 | cons h ty r =>
  cases r with
  | cons _ _ _=>simp [knB] at hk
  | nil =>
   simp only [knB,Bool.and_eq_true] at hk
   have hl:=usTy_law hv h ty (ts.headD Tree.zero) hk.1.1 hk.1.2
   rw [unkK_cons]
   simp only [wKn,tagX]
   cases hus:usTy ty (ts.headD Tree.zero)
   ·have hne:¬ wTy ver true ty false (ts.headD Tree.zero)=wTy ver true ty false (dT h ty):=fun e=>by
     have:=hl.2 e
     rw [hus] at this
     cases this
    rw [if_neg hne]
    simp [wTagsB,List.append_assoc]
   ·rw [if_pos (hl.1 hus)]
    simp [wTagsB]
theorem unkK_length (kn:Fs) (u:List (Nat × Bytes)):(unkK kn u).length<=most:=by
 have hins:∀ (t:Nat × Bytes) (l:List (Nat × Bytes)),(insTag t l).length<=l.length+1:=by
  intro t l
  induction l with
  | nil=>simp [insTag]
  | cons x r ih =>
   simp only [insTag]
   split
   ·simp;omega
   ·split <;> simp
 have hf:∀ (l acc:List (Nat × Bytes)),(l.foldl (fun acc t=>insTag t acc) acc).length<=l.length+acc.length:=by
  intro l
  induction l with
  | nil=>intro acc;simp
  | cons x l ih =>
   intro acc
   have h1:=ih (insTag x acc)
   have h2:=hins x acc
   simp only [List.foldl_cons,List.length_cons]
   omega
 have h:=hf ((u.take most).filter fun t=>decide (knK kn<=t.1)) []
 have h2:=List.length_filter_le (fun t:Nat × Bytes=>decide (knK kn<=t.1)) (u.take most)
 have h3:(u.take most).length<=most:=by rw [List.length_take];omega
 unfold unkK
 simp only [List.length_nil] at h
 omega
end Go.Proofs.YtdnpafdgglpagaaGreatDoor.K
namespace Go.Proofs.YtdnpafdgglpagaaGreatDoor.K
open Go Go.RowKit Go.Proofs.YtdnpafdgglpagaaGreatDoor.T
attribute [local simp] eTm eCo pNo gTp gTn qv qcall vop iop
set_option linter.unusedSimpArgs false
set_option linter.unusedVariables false
set_option maxHeartbeats 4000000
theorem drop_appT:∀ (fs kn:Fs) (j:Nat) {h:Hd} {ty:Ty} {r:Fs},Fs.drop j (Fs.app fs kn)=.cons h ty r->(j < Fs.len fs/\((tgOf fs kn).drop j).headD (-1)=-1)∨(Fs.len fs<=j/\Fs.drop (j - Fs.len fs) kn=.cons h ty r)
 | .nil,kn,j,_,_,_,e=>.inr ⟨by simp [Fs.len],by simpa [Fs.app,Fs.len] using e⟩
 | .cons h ty r,kn,0,_,_,_,_=>.inl ⟨by simp [Fs.len],by simp [tgOf,Fs.len,List.replicate_succ]⟩
 | .cons h ty r,kn,j+1,h',ty',r',e=>by
  have e':Fs.drop j (Fs.app r kn)=.cons h' ty' r':=by simpa only [Fs.app,Fs.drop] using e
  rcases drop_appT r kn j e' with ⟨h1,h2⟩ | ⟨h1,h2⟩
  ·refine .inl ⟨by simp only [Fs.len];omega,?_⟩
   simpa only [tgOf,Fs.len,List.replicate_succ,List.cons_append,List.drop_succ_cons] using h2
  ·refine .inr ⟨by simp only [Fs.len];omega,?_⟩
   simpa only [Fs.len,Nat.add_sub_add_right] using h2
theorem tgOf_at {fs:Fs} {h:Hd} {ty:Ty}:((tgOf fs (.cons h ty .nil)).drop (Fs.len fs)).headD (-1)=0:=by
 simp [tgOf,Fs.len]
theorem wField_wTy {ver:Int} {flex:Bool} {h:Hd} {ty:Ty} {t:Tree} (hn:h.null < 0):wField ver flex h ty t=wTy ver flex ty false t:=by
 have h0:¬ 0<=h.null:=by omega
 have h1:h.isNull ver t=false:=by simp [Hd.isNull,h0]
 cases ty <;> simp [wField,h0,h1]
theorem wTagsB_false (kn:List (Option Bytes)) (u:List (Nat × Bytes)):wTagsB false kn u=[]:=by
 unfold wTagsB
 split <;> simp [wTags]
section
variable {G:List (Nat × Bytes)->Prop} {P:Program} {X:STy} {f:FuncId} {fn:Func} {fW fTh fC fWi fF fU fHas fNull fAt fPart fVal fFld fKn fUs fUnk:FuncId}
theorem part_ok (hX:stOK P X=true) (hTF:arrB P X.F 8=true) (hTg:arrB P X.Tg 2=true) (S:SmallC P X fW fTh fC fWi fF fU fHas fNull fAt G) (hm:P.follows .mixedOrders=true) (oF:FnOK P fFld) (cFd:FieldC G P X fFld fPart)
  (oK:FnOK P fKn) (cK:KnownC P fKn) (oUnk:FnOK P fUnk) (cUnk:UnkC G P fUnk) (oUs:FnOK P fUs) (cUs:UsualC G P fUs)
  (hf:P.funcs[f]?=some fn) (hb:fn.body.map strip=some (sc_part X.T X.Fs X.I X.F X.Bs X.B X.U32 X.U64 X.Tgs X.Tg fHas fAt fFld fKn fUs fU fUnk fW)) (hn:fn.ntmps=132) (hr:fn.results=#[.tmp 8])
  (fs kn:Fs) (hlen63:Fs.len fs+Fs.len kn < 4294967296) (hknB:knB kn=true) (cP:SubsC (PartC G P X fPart) fs) (cPk:SubsC (PartC G P X fPart) kn):PartC G P X f fs kn:=by
 intro w fv ver flex tv t hver hfv ht hl
 have hst:=st_facts hX
 have hU8s:=hst.2.2.1.1
 have hlim:lim=4294967295:=rfl
 obtain ⟨hTF1,iF,zF,hiF,hzF,hzFs⟩:=arr_of hTF
 have hmost:most=32767:=rfl
 refine fCa hf hb hn (by simp) fun a0 hs hd ha=>?_
 have h0:=ha 0 _ rfl
 have h1:=ha 1 _ rfl
 have h2:=ha 2 _ rfl
 have h3:=ha 3 _ rfl
 simp only [List.getElem_toArray,List.getElem_cons_zero,List.getElem_cons_succ] at h0 h1 h2 h3
 have ht0:=ht
 have hfv0:=hfv
 cases ht with
 | mk n s tnull l u sb lb ub sc lc uc b o cs hs1 hsc hlc huc hll hrr htt hG hu =>
 obtain ⟨fb,fcap,rfl,hfs⟩:=fsVT_of hfv
 have htg:=tgOf_ok fs kn
 obtain ⟨L,hL⟩:∃ L,L=Fs.len (Fs.app fs kn):=⟨_,rfl⟩
 have hLl:L=Fs.len fs+Fs.len kn:=by rw [hL,Fs.len_app]
 have hL32:Fs.len (Fs.app fs kn) < 4294967296:=by omega
 refine wSq (wRg (ops_box (B:=w.heap.size) (w0:=w) (by rw [eTm,h3];rfl) (Nat.le_refl _) (Below.refl _ _) fun w1 q1 q2 q3 hc q5=>?_))
 repeat (apply ops_1;(focus (simp (disch:=(try simp only [sPu]);omega) ;try rfl)))
 refine oNi (wSq (wRg ?_))
 repeat (apply ops_1;(focus (simp (disch:=(try simp only [sPu]);omega) ;try rfl)))
 refine oNi (wSq (wRg ?_))
 repeat (apply ops_1;(focus (simp (disch:=(try simp only [sPu]);omega) ;try rfl)))
 refine oNi ?_
 simp only [Exit.then]
 clear q1 q5
 have hT5:rangeV w1 w.heap.size 0 5=some [.int .i64 n,.slice sb s.length sc,.bool tnull,.slice lb l.length lc,.slice ub u.length uc]:=by simp [rangeV,hc]
 have hlF:(wFsT ver flex (Fs.app fs kn) (tgOf fs kn) (Tree.mk n s tnull l u).l).length<=lim:=by rw [wFsT_app];rw [List.length_append] at hl;omega
 have fin:∀ (a:Act) (w':World) (v:Value) (out:Bytes),a.defers=[]->getT a 8=v->Own X.U8 w' w.heap.size v out->Below w.heap.size w w'->out=wFs ver flex fs (Tree.mk n s tnull l u).l ++ wTagsB flex (wKn ver flex kn ((Tree.mk n s tnull l u).l.drop (Fs.len fs))) (Tree.mk n s tnull l u).u ->
   bodyPost P fn (RetOwn X.U8 w (wFs ver flex fs (Tree.mk n s tnull l u).l ++ wTagsB flex (wKn ver flex kn ((Tree.mk n s tnull l u).l.drop (Fs.len fs))) (Tree.mk n s tnull l u).u)) .ret a w':=by
  intro a w' v out p1 p2 p3 p4 p5
  subst p5
  exact ret_tmp hr p1 ⟨v,by rw [p2],p3,p4⟩
 refine wSq (fieldsT_loop hX hTF S hm oF cFd (w:=w) (Fs.app fs kn) (tgOf fs kn) htg fb fcap (subsC_app fs kn cP cPk) hfs hL32 ver hver flex _ n _ _ _ tnull ht0 q2 (by omega) hT5 (by simp [sPu,hs]) (by simp (disch:=(try simp only [sPu]);omega) [h0]) (by simp (disch:=(try simp only [sPu]);omega) [h1]) (by simp (disch:=(try simp only [sPu]);omega) [h2]) (by simp (disch:=(try simp only [sPu]);omega)) (by simp (disch:=(try simp only [sPu]);omega)) hlF ?_)
 intro a2 w2 p pd ps po hb2
 rw [wFsT_app] at po
 rw [<- hL] at hfs hfv0
 have k0:getT a2 0=.slice fb L fcap:=by rw [ps 0 (by decide) (by decide)];simp (disch:=(try simp only [sPu]);omega) [h0,hL]
 have k1:getT a2 1=.int .i64 ver:=by rw [ps 1 (by decide) (by decide)];simp (disch:=(try simp only [sPu]);omega) [h1]
 have k2:getT a2 2=.bool flex:=by rw [ps 2 (by decide) (by decide)];simp (disch:=(try simp only [sPu]);omega) [h2]
 have k7:getT a2 7=.pointer (some ⟨w.heap.size,0,none⟩):=by rw [ps 7 (by decide) (by decide)];simp (disch:=(try simp only [sPu]);omega)
 have k10:getT a2 10=.slice none 0 0:=by rw [ps 10 (by decide) (by decide)];simp (disch:=(try simp only [sPu]);omega)
 have k11:getT a2 11=.int .i64 0:=by rw [ps 11 (by decide) (by decide)];simp (disch:=(try simp only [sPu]);omega)
 have pd2:a2.defers=[]:=by rw [pd];simp [dPu,hd]
 have hsz2:w.heap.size+1<=w2.heap.size:=by have:=hb2.size;omega
 have hbw2:Below w.heap.size w w2:=q2.trans (hb2.mono (by omega))
 clear ps pd hs hd h0 h1 h2 h3 ha
 simp only [Exit.then]
 refine wSq (wSq (wRg ?_))
 repeat (apply ops_1;(focus (simp (disch:=(try simp only [sPu]);omega) [k2];try rfl)))
 refine oNi ?_
 simp only [Exit.then]
 refine wCd (t:=!flex) (by simp (disch:=(try simp only [sPu]);omega)) ?_
 cases flex
 ·rw [if_pos (by rfl)]
  refine wSq (wRg ?_)
  repeat (apply ops_1;(focus (simp (disch:=(try simp only [sPu]);omega) ;try rfl)))
  refine oNi (wRt ?_)
  simp only [Exit.then]
  refine fin _ _ (getT a2 9) _ (by simp [dPu,pd2]) (by simp (disch:=(try simp only [sPu]);omega)) (own_down po (by omega)) hbw2 (by rw [wTagsB_false,List.append_nil])
 ·rw [if_neg (by simp)]
  refine wSk ?_
  simp only [Exit.then]
  rw [wTagsB_tagX hver hknB] at hl
  change (wFs ver true fs l ++ (uvarint ((tagX ver kn (l.drop (Fs.len fs))).2+(unkK kn u).length) ++ ((tagX ver kn (l.drop (Fs.len fs))).1 ++ (unkK kn u).flatMap wTag))).length<=lim at hl
  have hc01:=tagX_le ver kn (l.drop (Fs.len fs))
  have hul:=unkK_length kn u
  have hlx:(wFs ver true fs l).length+((uvarint ((tagX ver kn (l.drop (Fs.len fs))).2+(unkK kn u).length)).length+((tagX ver kn (l.drop (Fs.len fs))).1.length+((unkK kn u).flatMap wTag).length))<=lim:=by
   simpa only [List.length_append] using hl
  refine wSq (wSq (wRg ?_))
  iterate 1 (apply ops_1;(focus (simp (disch:=(try simp only [sPu]);omega) [k0];try rfl)))
  refine ops_call oK (cK w2 fs kn _ (FsV.down hbw2 (by omega) hfv0) hlen63) (by simp (disch:=(try simp only [sPu]);omega)) ?_
  rintro e w3 ⟨rfl,hb3⟩
  refine ⟨_,rfl,?_⟩
  obtain ⟨K,hK⟩:∃ K,K=knK kn:=⟨_,rfl⟩
  have hK1:K<=1:=by rw [hK];cases kn <;> simp [knK]
  rw [<- hK]
  have ewk:IntKind.i64.wrap (K:Int)=(K:Int):=by rw [wrap_i64'];split <;> omega
  repeat (apply ops_1;(focus (simp (disch:=(try simp only [sPu]);omega) [hst,ewk];try rfl)))
  refine oNi ?_
  simp only [Exit.then]
  have hsz3:w2.heap.size<=w3.heap.size:=hb3.size
  have hbw3:Below w.heap.size w w3:=hbw2.trans (hb3.mono (by omega))
  have hc3:∀ j,w3.cell? ⟨w.heap.size,j,none⟩=#[Value.int .i64 n,.slice sb s.length sc,.bool tnull,.slice lb l.length lc,.slice ub u.length uc][j]?:=fun j =>
   (World.cell?_of_block (w:=w1) (w':=w3) (a:=⟨w.heap.size,j,none⟩) ((hb3.block w.heap.size (by omega)).trans (hb2.block w.heap.size (by omega)))).trans (hc j)
  obtain ⟨kx,hkx⟩:∃ kx,kx=(tagX ver kn (l.drop (Fs.len fs))).1:=⟨_,rfl⟩
  obtain ⟨c0,hc0⟩:∃ c0,c0=(tagX ver kn (l.drop (Fs.len fs))).2:=⟨_,rfl⟩
  rw [<- hkx,<- hc0] at hlx
  rw [<- hc0] at hc01
  obtain ⟨C,hC⟩:∃ C:Act->Prop,C=fun a'=>a'.tmps.size=132/\a'.defers=[]/\getT a' 0=.slice fb L fcap/\getT a' 1=.int .i64 ver/\getT a' 2=.bool true/\getT a' 7=.pointer (some ⟨w.heap.size,0,none⟩)/\getT a' 9=getT a2 9/\getT a' 51=.int .i64 (K:Int):=⟨_,rfl⟩
  obtain ⟨St,hSt⟩:∃ St:Bool->Act->World->Prop,St=fun d a' w'=>if d then Own X.U8 w' w3.heap.size (getT a' 10) kx/\getT a' 11=.int .i64 (c0:Int) else getT a' 10=.slice none 0 0/\getT a' 11=.int .i64 0:=⟨_,rfl⟩
  refine wBk (wLp (fun a' w'=>C a'/\(∃ k:Nat,getT a' 52=.int .i64 (k:Int)/\k<=K/\St (decide (1<=k)) a' w')/\Below w3.heap.size w3 w') (fun a' _=>match getT a' 52 with | .int _ m=>(K - m).toNat | _=>0)
   ⟨by rw [hC];exact ⟨by simp [sPu,p],by simp [dPu,pd2],by simp (disch:=(try simp only [sPu]);omega) [k0],by simp (disch:=(try simp only [sPu]);omega) [k1],by simp (disch:=(try simp only [sPu]);omega) [k2],by simp (disch:=(try simp only [sPu]);omega) [k7],by simp (disch:=(try simp only [sPu]);omega),by simp (disch:=(try simp only [sPu]);omega)⟩,⟨0,by simp (disch:=(try simp only [sPu]);omega),by omega,by rw [hSt];exact ⟨by simp (disch:=(try simp only [sPu]);omega) [k10],by simp (disch:=(try simp only [sPu]);omega) [k11]⟩⟩,Below.refl _ _⟩ ?_)
  rintro a6 w6 ⟨hC6,⟨k,z52,hk,hSt6⟩,hb6⟩
  have hC6':=hC6
  rw [hC] at hC6'
  obtain ⟨z,zd,z0,z1,z2,z7,z9,z51⟩:=hC6'
  have hsz6:=hb6.size
  refine wSq (wRg ?_)
  repeat (apply ops_1;(focus (simp (disch:=(try simp only [sPu]);omega) [z51,z52];try rfl)))
  refine oNi ?_
  simp only [Exit.then]
  refine wSq (wCd (t:=decide ((k:Int) < (K:Int))) (by simp (disch:=(try simp only [sPu]);omega)) ?_)
  have ewk1:IntKind.i64.wrap ((k:Int)+1)=((k+1:Nat):Int):=by rw [wrap_i64'];split <;> omega
  cases e1:decide ((k:Int) < (K:Int))
  ·rw [if_neg (by simp)]
   refine wXt ?_
   simp only [Exit.then,Exit.inBlock,if_true]
   have hkK:k=K:=by have:=of_decide_eq_false e1;omega
   have hSt7:Own X.U8 w6 w3.heap.size (getT a6 10) kx/\getT a6 11=.int .i64 (c0:Int):=by
    rw [hSt] at hSt6
    by_cases hk1:1<=k
    ·rw [decide_eq_true hk1,if_pos rfl] at hSt6
     exact hSt6
    ·rw [decide_eq_false hk1,if_neg (by simp)] at hSt6
     have hkn:kn=.nil:=by
      cases kn with
      | nil=>rfl
      | cons _ _ _=>simp [knK] at hK;omega
     subst hkn
     have e1:kx=[]:=hkx
     have e2:c0=0:=hc0
     rw [e1,e2,hSt6.1,hSt6.2]
     exact ⟨own_nil _ _ _,rfl⟩
   obtain ⟨z10,z11⟩:=hSt7
   have hbw6:Below w.heap.size w w6:=hbw3.trans (hb6.mono (by omega))
   have hc6:∀ j,w6.cell? ⟨w.heap.size,j,none⟩=#[Value.int .i64 n,.slice sb s.length sc,.bool tnull,.slice lb l.length lc,.slice ub u.length uc][j]?:=fun j=>by rw [hb6.cell (by show w.heap.size < w3.heap.size;omega)];exact hc3 j
   refine wSq (tags_loop hX hTg S oUnk cUnk fs kn _ (FsV.down hbw6 (by omega) hfv0) hlen63 (B:=w3.heap.size) (F:=fun k=>k < w.heap.size) kx c0 hc01 hsz6 (fun k hk=>by have:k < w.heap.size:=hk;omega) w.heap.size (by omega) n _ _ tnull ub u uc huc hG (tagsAt_mono hu (fun k hk=>hk) (fun k hk=>hbw6.block k hk)) hc6 (by simp [sPu,z]) (by simp (disch:=(try simp only [sPu]);omega) [z0]) (by simp (disch:=(try simp only [sPu]);omega) [z7]) (own_eq z10 (by simp (disch:=(try simp only [sPu]);omega))) (by simp (disch:=(try simp only [sPu]);omega) [z11]) (by omega) hul ?_)
   intro a7 w4 y yd ys yo y11 hb4
   have y9:getT a7 9=getT a2 9:=by rw [ys 9 (by decide)];simp (disch:=(try simp only [sPu]);omega) [z9]
   have yd2:a7.defers=[]:=by rw [yd];simp [dPu,zd]
   have hb34:Below w3.heap.size w3 w4:=hb6.trans hb4
   have hsz4:w3.heap.size<=w4.heap.size:=hb34.size
   simp only [Exit.then]
   obtain ⟨N,hN⟩:∃ N,N=c0+(unkK kn u).length:=⟨_,rfl⟩
   rw [<- hN] at y11 hlx
   have eu:(N:Int) % 18446744073709551616=(N:Int):=by omega
   refine wSq (wRg ?_)
   iterate 3 (apply ops_1;(focus (simp (disch:=(try simp only [sPu]);omega) [hst,y9,y11,wrap_u64,eu];try rfl)))
   refine ops_call S.oU (S.cU w4 N (by omega)) (by simp (disch:=(try simp only [sPu]);omega)) ?_
   rintro e w5 ⟨v1,rfl,o1,b1⟩
   refine ⟨v1,rfl,?_⟩
   have hsz5:w4.heap.size<=w5.heap.size:=b1.size
   have hb25:Below w2.heap.size w2 w5:=hb3.trans ((hb34.mono hsz3).trans (b1.mono (by omega)))
   have po5:Own X.U8 w5 (w.heap.size+1) (getT a2 9) (wFs ver true fs l):=own_keep po hb25
   refine oNo rfl (opw_appendU8 (B:=w.heap.size+1) (dv:=getT a2 9) (xv:=v1) (xs:=wFs ver true fs l) (bs:=uvarint N) hU8s (by simp (disch:=(try simp only [sPu]);omega)) (by simp (disch:=(try simp only [sPu]);omega)) rfl po5 (by omega) (src_own hU8s o1) (by omega) ?_)
   intro v2 w7 o2 b2 s6 g6
   have yo5:=own_keep yo b1
   have yo6:Own X.U8 w7 w3.heap.size (getT a7 10) (kx ++ (unkK kn u).flatMap wTag):=own_same yo5 (fun k hk=>by
    have h1:=own_lt yo5 k hk
    refine g6.block k h1.2 (fun e=>?_)
    have h2:=own_lt po k e.symm
    omega)
   iterate 1 (apply ops_1;(focus (simp (disch:=(try simp only [sPu]);omega) ;try rfl)))
   refine oNo rfl (opw_appendU8 (B:=w.heap.size+1) (dv:=v2) (xv:=getT a7 10) (xs:=wFs ver true fs l ++ uvarint N) (bs:=kx ++ (unkK kn u).flatMap wTag) hU8s (by simp (disch:=(try simp only [sPu]);omega)) (by simp (disch:=(try simp only [sPu]);omega)) rfl o2 s6 (src_own hU8s yo6) (by rw [List.length_append,List.length_append];omega) ?_)
   intro v3 w8 o3 b3 s7 _
   repeat (apply ops_1;(focus (simp (disch:=(try simp only [sPu]);omega) ;try rfl)))
   refine oNi (wRt ?_)
   try simp only [Exit.then]
   refine fin _ _ v3 _ (by simp [dPu,yd2]) (by simp (disch:=(try simp only [sPu]);omega)) (own_down o3 (by omega)) (hbw2.trans ((hb25.mono (by omega)).trans ((b2.mono (by omega)).trans (b3.mono (by omega))))) ?_
   rw [wTagsB_tagX hver hknB,hN,hc0,hkx,List.append_assoc]
   rfl
  ·have hkl:k < K:=by have:=of_decide_eq_true e1;omega
   obtain ⟨h0,ty0,rfl⟩:∃ h0 ty0,kn=.cons h0 ty0 .nil:=by
    cases kn with
    | nil=>simp [knK] at hK;omega
    | cons h ty r =>
     cases r with
     | nil=>exact ⟨h,ty,rfl⟩
     | cons _ _ _=>simp [knB] at hknB
   obtain rfl:k=0:=by omega
   have hSt6':getT a6 10=.slice none 0 0/\getT a6 11=.int .i64 0:=by
    rw [hSt] at hSt6
    exact hSt6
   have z52:getT a6 52=.int .i64 0:=z52
   obtain ⟨z10,z11⟩:=hSt6'
   have ew1:IntKind.i64.wrap 1=1:=rfl
   have hLn:L=Fs.len fs+1:=by rw [hLl];rfl
   have hStT:∀ (d:Bool) (a a':Act) (w w':World),St d a w->getT a' 10=getT a 10->getT a' 11=getT a 11->Below w.heap.size w w'->St d a' w':=by
    intro d a a' w w' h1 h2 h3 h4
    rw [hSt] at h1 ⊢
    cases d with
    | false =>
     rw [if_neg (by simp)] at h1 ⊢
     exact ⟨by rw [h2];exact h1.1,by rw [h3];exact h1.2⟩
    | true =>
     rw [if_pos rfl] at h1 ⊢
     exact ⟨by rw [h2];exact own_keep h1.1 h4,by rw [h3];exact h1.2⟩
   simp only [knB,Bool.and_eq_true,decide_eq_true_eq] at hknB
   rw [if_pos rfl]
   refine wSk ?_
   simp only [Exit.then]
   refine wSq (wBk (wSq (wRg ?_)))
   repeat (apply ops_1;(focus (simp (disch:=(try simp only [sPu]);omega) [z52];try rfl)))
   refine oNi (wSq (wRg ?_))
   repeat (apply ops_1;(focus (simp (disch:=(try simp only [sPu]);omega) [hst,z0];try rfl)))
   refine oNi ?_
   simp only [Exit.then]
   refine wBk (wLp (fun a' w'=>C a'/\getT a' 52=.int .i64 0/\getT a' 14=.int .i64 0/\getT a' 55=.slice fb L fcap/\getT a' 56=.int .i64 (L:Int)/\(∃ j:Nat,getT a' 57=.int .i64 (j:Int)/\j<=L/\St (decide (Fs.len fs < j)) a' w')/\Below w3.heap.size w3 w') (fun a' _=>match getT a' 57 with | .int _ m=>(L - m).toNat | _=>0)
    ⟨by rw [hC];exact ⟨by simp [sPu,z],by simp [dPu,zd],by simp (disch:=(try simp only [sPu]);omega) [z0],by simp (disch:=(try simp only [sPu]);omega) [z1],by simp (disch:=(try simp only [sPu]);omega) [z2],by simp (disch:=(try simp only [sPu]);omega) [z7],by simp (disch:=(try simp only [sPu]);omega) [z9],by simp (disch:=(try simp only [sPu]);omega) [z51]⟩,by simp (disch:=(try simp only [sPu]);omega) [z52],by simp (disch:=(try simp only [sPu]);omega),by simp (disch:=(try simp only [sPu]);omega),by simp (disch:=(try simp only [sPu]);omega),⟨0,by simp (disch:=(try simp only [sPu]);omega),by omega,by rw [decide_eq_false (by omega),hSt];exact ⟨by simp (disch:=(try simp only [sPu]);omega) [z10],by simp (disch:=(try simp only [sPu]);omega) [z11]⟩⟩,hb6⟩ ?_)
   rintro a8 w8 ⟨hC8,x52,x14,x55,x56,⟨j,x57,hj,hSt8⟩,hb8⟩
   rw [hC] at hC8
   obtain ⟨x,xd,x0,x1,x2,x7,x9,x51⟩:=hC8
   have hsz8:=hb8.size
   refine wSq (wRg ?_)
   repeat (apply ops_1;(focus (simp (disch:=(try simp only [sPu]);omega) [x56,x57];try rfl)))
   refine oNi ?_
   simp only [Exit.then]
   refine wSq (wCd (t:=decide ((j:Int) < (L:Int))) (by simp (disch:=(try simp only [sPu]);omega)) ?_)
   cases e2:decide ((j:Int) < (L:Int))
   ·have hjL:j=L:=by have:=of_decide_eq_false e2;omega
    rw [if_neg (by simp)]
    refine wXt ?_
    simp only [Exit.then,Exit.inBlock,if_true]
    rw [decide_eq_true (by omega)] at hSt8
    refine wRg ?_
    repeat (apply ops_1;(focus (simp (disch:=(try simp only [sPu]);omega) [x52,ew1];try rfl)))
    refine oNi ⟨⟨by rw [hC];exact ⟨by simp [sPu,x],by simp [dPu,xd],by simp (disch:=(try simp only [sPu]);omega) [x0],by simp (disch:=(try simp only [sPu]);omega) [x1],by simp (disch:=(try simp only [sPu]);omega) [x2],by simp (disch:=(try simp only [sPu]);omega) [x7],by simp (disch:=(try simp only [sPu]);omega) [x9],by simp (disch:=(try simp only [sPu]);omega) [x51]⟩,⟨1,by simp (disch:=(try simp only [sPu]);omega) [ew1],by omega,hStT _ _ _ _ _ hSt8 (by simp (disch:=(try simp only [sPu]);omega)) (by simp (disch:=(try simp only [sPu]);omega)) (Below.refl _ _)⟩,hb8⟩,?_⟩
    rw [z52]
    simp (disch:=(try simp only [sPu]);omega) [ew1];omega
   ·have hjl:j < L:=by have:=of_decide_eq_true e2;omega
    rw [if_pos rfl]
    refine wSk ?_
    simp only [Exit.then]
    obtain ⟨h,ty,hdrop⟩:=drop_cons j (Fs.app fs (.cons h0 ty0 .nil)) (by omega)
    rcases hfs with hfs | ⟨b,o,rfl,hbF,hfs⟩
    ·omega
    have hfj:=fsAtT_drop j _ _ b o hfs
    rw [hdrop] at hfj
    simp only [FsAtT] at hfj
    obtain ⟨⟨of_,sub,hr8,h1c,hof,hsub⟩,_⟩:=hfj
    have hwh:(j < Fs.len fs/\((tgOf fs (.cons h0 ty0 .nil)).drop j).headD (-1)=-1)∨(j=Fs.len fs/\h=h0/\ty=ty0/\((tgOf fs (.cons h0 ty0 .nil)).drop j).headD (-1)=0):=by
     rcases drop_appT fs _ j hdrop with h1 | ⟨h1,h2⟩
     ·exact .inl h1
     ·obtain rfl:j=Fs.len fs:=by omega
      rw [Nat.sub_self] at h2
      simp only [Fs.drop,Fs.cons.injEq] at h2
      exact .inr ⟨rfl,h2.1.symm,h2.2.1.symm,tgOf_at⟩
    obtain ⟨tj,etj⟩:∃ tj,tj=((tgOf fs (.cons h0 ty0 .nil)).drop j).headD (-1):=⟨_,rfl⟩
    rw [<- etj] at hr8 hwh
    have hbw8:Below w.heap.size w w8:=hbw3.trans (hb8.mono (by omega))
    have hr8':=(rangeV_mono (w:=w8) (hbw8.block b hbF) 8 (o+j * 8)).trans hr8
    have ej:(0:Int)<=(j:Int)/\(j:Int) < (L:Int):=by omega
    have ewj:IntKind.i64.wrap ((j:Int)+1)=((j+1:Nat):Int):=by rw [wrap_i64'];split <;> omega
    refine wSq (wBk (wSq (wRg ?_)))
    iterate 3 (apply ops_1;(focus (simp (disch:=(try simp only [sPu]);omega) [hst,x55,x57,ej,hr8',hjl];try rfl)))
    refine oNo rfl (opw_alloc hiF hzF ?_)
    iterate 1 (apply ops_1;(focus (simp (disch:=(try simp only [sPu]);omega) ;try rfl)))
    refine oNo rfl (opw_store_agg (b:=w8.heap.size) (cs:=[.int .i64 (kindOf ty),.int .i64 h.from_,.int .i64 h.to,.int .i64 h.null,.int .i64 tj,.int .i64 h.dflt,.int .i64 of_,sub]) hTF1 (by simp (disch:=(try simp only [sPu]);omega)) (by simp (disch:=(try simp only [sPu]);omega)) (heap_alloc_new w8 _) (by simp [hzFs]) (by
     intro v hv
     simp only [List.mem_cons,List.not_mem_nil,or_false] at hv
     rcases hv with rfl | rfl | rfl | rfl | rfl | rfl | rfl | rfl <;> first | rfl | exact h1c) (oNi ?_))
    have hnew:((w8.alloc (.cells zF.cells X.F)).setRow w8.heap.size #[.int .i64 (kindOf ty),.int .i64 h.from_,.int .i64 h.to,.int .i64 h.null,.int .i64 tj,.int .i64 h.dflt,.int .i64 of_,sub]).heap[w8.heap.size]?=some (.cells #[.int .i64 (kindOf ty),.int .i64 h.from_,.int .i64 h.to,.int .i64 h.null,.int .i64 tj,.int .i64 h.dflt,.int .i64 of_,sub] X.F (0,0)):=setRow_heap _ _ _ _ _ _ (heap_alloc_new w8 _)
    have hb9:Below w8.heap.size w8 ((w8.alloc (.cells zF.cells X.F)).setRow w8.heap.size #[.int .i64 (kindOf ty),.int .i64 h.from_,.int .i64 h.to,.int .i64 h.null,.int .i64 tj,.int .i64 h.dflt,.int .i64 of_,sub]):=below_setRow ((Below.refl _ _).alloc (Nat.le_refl _) _) (Nat.le_refl _) _
    have hsz9:((w8.alloc (.cells zF.cells X.F)).setRow w8.heap.size #[.int .i64 (kindOf ty),.int .i64 h.from_,.int .i64 h.to,.int .i64 h.null,.int .i64 tj,.int .i64 h.dflt,.int .i64 of_,sub]).heap.size=w8.heap.size+1:=by simp
    simp only [Exit.then,pNo]
    generalize ((w8.alloc (.cells zF.cells X.F)).setRow w8.heap.size #[.int .i64 (kindOf ty),.int .i64 h.from_,.int .i64 h.to,.int .i64 h.null,.int .i64 tj,.int .i64 h.dflt,.int .i64 of_,sub])=w9 at *
    have hc9:∀ i,w9.cell? ⟨w8.heap.size,i,none⟩=#[Value.int .i64 (kindOf ty),.int .i64 h.from_,.int .i64 h.to,.int .i64 h.null,.int .i64 tj,.int .i64 h.dflt,.int .i64 of_,sub][i]?:=fun i=>cell_of_row _ _ _ _ _ _ hnew
    refine gen_act (fun a=>a.tmps.size=132/\a.defers=[]/\getT a 0=.slice (some ⟨b,o,none⟩) L fcap/\getT a 1=.int .i64 ver/\getT a 2=.bool true/\getT a 7=.pointer (some ⟨w.heap.size,0,none⟩)/\getT a 9=getT a2 9/\getT a 10=getT a8 10/\getT a 11=getT a8 11/\getT a 51=.int .i64 (K:Int)/\getT a 52=.int .i64 0/\getT a 14=.int .i64 0/\getT a 55=.slice (some ⟨b,o,none⟩) L fcap/\getT a 56=.int .i64 (L:Int)/\getT a 57=.int .i64 (j:Int)/\getT a 15=.int .i64 (j:Int)/\getT a 16=.pointer (some ⟨w8.heap.size,0,none⟩))
     ⟨by simp [sPu,x],by simp [dPu,xd],by simp (disch:=(try simp only [sPu]);omega) [x0],by simp (disch:=(try simp only [sPu]);omega) [x1],by simp (disch:=(try simp only [sPu]);omega) [x2],by simp (disch:=(try simp only [sPu]);omega) [x7],by simp (disch:=(try simp only [sPu]);omega) [x9],by simp (disch:=(try simp only [sPu]);omega),by simp (disch:=(try simp only [sPu]);omega),by simp (disch:=(try simp only [sPu]);omega) [x51],by simp (disch:=(try simp only [sPu]);omega) [x52],by simp (disch:=(try simp only [sPu]);omega) [x14],by simp (disch:=(try simp only [sPu]);omega) [x55],by simp (disch:=(try simp only [sPu]);omega) [x56],by simp (disch:=(try simp only [sPu]);omega) [x57],by simp (disch:=(try simp only [sPu]);omega),by simp (disch:=(try simp only [sPu]);omega)⟩ ?_
    clear x xd x0 x1 x2 x7 x9 x51 x52 x14 x55 x56
    rintro a9 ⟨x,xd,x0,x1,x2,x7,x9,x10,x11,x51,x52,x14,x55,x56,x57',x15,x16⟩
    have next:∀ (a':Act) (w':World) (Q':Exit->Act->World->Prop),a'.tmps.size=132->a'.defers=[]->(∀ s,s < 62->s ≠ 10->s ≠ 11->s ≠ 17->getT a' s=getT a9 s)->Below w3.heap.size w8 w'->St (decide (Fs.len fs < j+1)) a' w' ->
      (∀ a'',(C a''/\getT a'' 52=.int .i64 0/\getT a'' 14=.int .i64 0/\getT a'' 55=.slice (some ⟨b,o,none⟩) L fcap/\getT a'' 56=.int .i64 (L:Int)/\(∃ j:Nat,getT a'' 57=.int .i64 (j:Int)/\j<=L/\St (decide (Fs.len fs < j)) a'' w')/\Below w3.heap.size w3 w')->(match getT a'' 57 with | .int _ m=>(L - m).toNat | _=>0) < (L - (j:Int)).toNat->Q' .normal a'' w') ->
      SC.wp P (.reg [⟨some 95,.binOp .add X.I (.tmp 57) (.const (.int .i64 1)) X.I,none⟩,mv 57 95]) Q' a' w':=by
     intro a' w' Q' y yd ys yb ySt hq
     have y57:=(ys 57 (by omega) (by omega) (by omega) (by omega)).trans x57'
     refine wRg ?_
     repeat (apply ops_1;(focus (simp (disch:=(try simp only [sPu]);omega) [y57,ewj];try rfl)))
     refine oNi (hq _ ⟨?_,?_,?_,?_,?_,⟨j+1,by simp (disch:=(try simp only [sPu]);omega),by omega,hStT _ _ _ _ _ ySt (by simp (disch:=(try simp only [sPu]);omega)) (by simp (disch:=(try simp only [sPu]);omega)) (Below.refl _ _)⟩,hb8.trans yb⟩ ?_)
     ·rw [hC]
      exact ⟨by simp [sPu,y],by simp [dPu,yd],by simp (disch:=(try simp only [sPu]);omega) [ys 0 (by omega) (by omega) (by omega) (by omega),x0],by simp (disch:=(try simp only [sPu]);omega) [ys 1 (by omega) (by omega) (by omega) (by omega),x1],by simp (disch:=(try simp only [sPu]);omega) [ys 2 (by omega) (by omega) (by omega) (by omega),x2],by simp (disch:=(try simp only [sPu]);omega) [ys 7 (by omega) (by omega) (by omega) (by omega),x7],by simp (disch:=(try simp only [sPu]);omega) [ys 9 (by omega) (by omega) (by omega) (by omega),x9],by simp (disch:=(try simp only [sPu]);omega) [ys 51 (by omega) (by omega) (by omega) (by omega),x51]⟩
     ·simp (disch:=(try simp only [sPu]);omega) [ys 52 (by omega) (by omega) (by omega) (by omega),x52]
     ·simp (disch:=(try simp only [sPu]);omega) [ys 14 (by omega) (by omega) (by omega) (by omega),x14]
     ·simp (disch:=(try simp only [sPu]);omega) [ys 55 (by omega) (by omega) (by omega) (by omega),x55]
     ·simp (disch:=(try simp only [sPu]);omega) [ys 56 (by omega) (by omega) (by omega) (by omega),x56]
     ·simp (disch:=(try simp only [sPu]);omega);omega
    have hF8:∀ w':World,w'.heap[w8.heap.size]?=w9.heap[w8.heap.size]?->rangeV w'.drew w8.heap.size 0 8=some [.int .i64 (kindOf ty),.int .i64 h.from_,.int .i64 h.to,.int .i64 h.null,.int .i64 tj,.int .i64 h.dflt,.int .i64 of_,sub]:=fun w' hw'=>by
     have:rangeV w9 w8.heap.size 0 8=some [.int .i64 (kindOf ty),.int .i64 h.from_,.int .i64 h.to,.int .i64 h.null,.int .i64 tj,.int .i64 h.dflt,.int .i64 of_,sub]:=by simp [rangeV,hc9]
     exact (rangeV_mono (w:=w'.drew) (w0:=w9) hw' 8 0).trans this
    have hc9d:w9.drew.cell? ⟨w8.heap.size,4,none⟩=some (.int .i64 tj):=(hc9 4).trans rfl
    have hbw9:Below w.heap.size w w9:=hbw8.trans (hb9.mono (by omega))
    have hT59:∀ w':World,w'.heap[w.heap.size]?=w9.heap[w.heap.size]?->rangeV w'.drew w.heap.size 0 5=some [.int .i64 n,.slice sb s.length sc,.bool tnull,.slice lb l.length lc,.slice ub u.length uc]:=fun w' hw'=>by
     have:rangeV w9 w.heap.size 0 5=some [.int .i64 n,.slice sb s.length sc,.bool tnull,.slice lb l.length lc,.slice ub u.length uc]:=by
      have hcc:∀ i,w9.cell? ⟨w.heap.size,i,none⟩=#[Value.int .i64 n,.slice sb s.length sc,.bool tnull,.slice lb l.length lc,.slice ub u.length uc][i]?:=fun i=>by rw [hb9.cell (by show w.heap.size < w8.heap.size;omega),hb8.cell (by show w.heap.size < w3.heap.size;omega)];exact hc3 i
      simp [rangeV,hcc]
     exact (rangeV_mono (w:=w'.drew) (w0:=w9) hw' 5 0).trans this
    have hF8a:=hF8 w9 rfl
    have hT5a:=hT59 w9 rfl
    have hlt1:w.heap.size < w9.heap.size:=by omega
    have hlt2:w8.heap.size < w9.heap.size:=by omega
    refine wSq (wDr hm (Below w9.heap.size w9.drew) [(0,true),(1,true),(2,true),(3,true),(4,true),(5,true),(6,true),(7,true),(8,false),(9,false),(10,true),(11,true)] (by rfl) (by rfl) (by decide) (Below.refl _ _) ?_)
    rcases hwh with ⟨hjn,htj⟩ | ⟨hjn,rfl,rfl,htj⟩
    ·subst htj
     repeat (first | (apply dr_1;(focus rfl);(focus (simp (disch:=(try simp only [sPu]);omega) [hst,x16,x14,hc9d,hlt1,hlt2];try rfl))) | (apply dr_y;(focus rfl);(focus rfl);(focus ((try simp only [sPu]);omega));(focus (simp (disch:=(try simp only [sPu]);omega) [hst,x16,x14,hc9d,hlt1,hlt2];done));(focus (simp (disch:=(try simp only [sPu]);omega) [hst,x16,x14,hc9d,hlt1,hlt2];try rfl))) | (apply dr_n;(focus rfl);(focus rfl);(focus ((try simp only [sPu]);omega));(focus (first | (left;simp (disch:=(try simp only [sPu]);omega) [hst,x16,x14,hc9d,hlt1,hlt2];done) | (right;simp (disch:=(try simp only [sPu]);omega);done)))))
     refine dreg_nil ?_
     simp only [Exit.then]
     refine wCd (t:=false) (by simp (disch:=(try simp only [sPu]);omega)) ?_
     rw [if_neg (by simp)]
     refine wSk ?_
     simp only [Exit.inBlock,Exit.then]
     rw [decide_eq_false (by omega)] at hSt8
     refine next _ _ _ (by simp [sPu,x]) (by simp [dPu,xd]) (fun s hs _ _ _=>by simp (disch:=omega) [gTn]) (hb9.drew.mono hsz8) ?_ fun a'' hI hlt=>⟨hI,by rw [x57];exact hlt⟩
     rw [decide_eq_false (by omega)]
     exact hStT _ _ _ _ _ hSt8 (by simp (disch:=(try simp only [sPu]);omega) [x10]) (by simp (disch:=(try simp only [sPu]);omega) [x11]) hb9.drew
    ·subst htj
     subst hjn
     iterate 8 (first | (apply dr_1;(focus rfl);(focus (simp (disch:=(try simp only [sPu]);omega) [hst,x16,x14,x7,x15,hc9d,hF8a,hT5a,hlt1,hlt2];try rfl))) | (apply dr_y;(focus rfl);(focus rfl);(focus ((try simp only [sPu]);omega));(focus (simp (disch:=(try simp only [sPu]);omega) [hst,x16,x14,x7,x15,hc9d,hF8a,hT5a,hlt1,hlt2];done));(focus (simp (disch:=(try simp only [sPu]);omega) [hst,x16,x14,x7,x15,hc9d,hF8a,hT5a,hlt1,hlt2];try rfl))) | (apply dr_n;(focus rfl);(focus rfl);(focus ((try simp only [sPu]);omega));(focus (first | (left;simp (disch:=(try simp only [sPu]);omega) [hst,x16,x14,x7,x15,hc9d,hF8a,hT5a,hlt1,hlt2];done) | (right;simp (disch:=(try simp only [sPu]);omega);done)))))
     have hat:=S.cA w9.drew (Tree.mk n s tnull l u) (treV n (.slice sb s.length sc) tnull (.slice lb l.length lc) (.slice ub u.length uc)) (Fs.len fs) (TV.down hbw9.drew (by show w.heap.size<=w9.heap.size;omega) ht0)
     obtain ⟨fnA,hA1,hA2,hA3⟩:=S.oA
     obtain ⟨xt,hxt⟩:∃ xt,xt=(l.drop (Fs.len fs)).headD Tree.zero:=⟨_,rfl⟩
     change Calls P fAt _ w9.drew (fun e w'=>∃ v,e=.returned v/\TV G w9.drew (· < w9.drew.heap.size) ((l.drop (Fs.len fs)).headD Tree.zero) v/\Below w9.drew.heap.size w9.drew w') at hat
     rw [<- hxt] at hat
     refine dreg_yes rfl rfl rfl (by (try simp only [sPu]);omega) (by simp (disch:=(try simp only [sPu]);omega)) (opw_call hA1 hA2 hA3 (R:=fun e w'=>∃ v,e=.returned v/\TV G w9.drew (· < w9.drew.heap.size) xt v/\Below w9.drew.heap.size w9.drew w') ?_ ?_)
     ·refine Eq.mp (congrArg (fun z=>Calls P fAt z w9.drew _) ?_) hat
      simp (disch:=(try simp only [sPu]);omega) [treV]
     rintro e w10 ⟨v,rfl,htv,hb10⟩
     have hb10:Below w9.heap.size w9.drew w10:=hb10
     refine ⟨_,rfl,hb10,?_⟩
     have hsz10:w9.heap.size<=w10.heap.size:=hb10.size
     have hbw10:Below w.heap.size w w10:=(hbw9.drew).trans (hb10.mono (by omega))
     obtain ⟨fnU,hU1,hU2,hU3⟩:=oUs
     refine dreg_yes rfl rfl rfl (by (try simp only [sPu]);omega) (by simp (disch:=(try simp only [sPu]);omega)) (opw_call hU1 hU2 hU3 (R:=fun e w'=>e=.returned (.bool (usTy ty xt))/\Below w10.heap.size w10 w') ?_ ?_)
     ·refine Eq.mp (congrArg (fun z=>Calls P fUs z w10 _) ?_) (cUs w10 h 0 ty of_ sub xt v hknB.1.1 (SubV.mono (F':=fun x=>x < w10.heap.size) (fun k hk=>by have:k < w.heap.size:=hk;show k < w10.heap.size;omega) (fun k hk=>hbw10.block k hk) ty sub hsub) (TV.down hb10 (by omega) htv))
      simp (disch:=(try simp only [sPu]);omega) [fldV]
     rintro e w11 ⟨rfl,hb11⟩
     refine ⟨_,rfl,hb10.trans (hb11.mono hsz10),?_⟩
     repeat (first | (apply dr_1;(focus rfl);(focus (simp (disch:=(try simp only [sPu]);omega) [hst];try rfl))) | (apply dr_y;(focus rfl);(focus rfl);(focus ((try simp only [sPu]);omega));(focus (simp (disch:=(try simp only [sPu]);omega) [hst];done));(focus (simp (disch:=(try simp only [sPu]);omega) [hst];try rfl))) | (apply dr_n;(focus rfl);(focus rfl);(focus ((try simp only [sPu]);omega));(focus (first | (left;simp (disch:=(try simp only [sPu]);omega) [hst];done) | (right;simp (disch:=(try simp only [sPu]);omega);done)))))
     refine dreg_nil ?_
     simp only [Exit.then]
     have hb911:Below w9.heap.size w9 w11:=(Below.trans (Below.refl _ w9).drew hb10).trans (hb11.mono hsz10)
     have hsz11:w9.heap.size<=w11.heap.size:=hb911.size
     have hb811:Below w8.heap.size w8 w11:=hb9.trans (hb911.mono (by omega))
     have hbw11:Below w.heap.size w w11:=hbw9.trans (hb911.mono (by omega))
     have htx:tagX ver (.cons h ty .nil) (l.drop (Fs.len fs))=if usTy ty xt then ([],0) else (uvarint 0 ++ (uvarint (wTy ver true ty false xt).length ++ wTy ver true ty false xt),1):=by rw [hxt];rfl
     rw [htx] at hkx hc0
     have hSt8n:getT a8 10=.slice none 0 0/\getT a8 11=.int .i64 0:=by
      rw [hSt,decide_eq_false (by omega),if_neg (by simp)] at hSt8
      exact hSt8
     rw [hSt8n.1] at x10
     rw [hSt8n.2] at x11
     refine wCd (t:=!(usTy ty xt)) (by simp (disch:=(try simp only [sPu]);omega)) ?_
     cases hus:usTy ty xt
     ·
      rw [hus,if_neg (by simp)] at hkx hc0
      rw [if_pos (by decide)]
      have hwf:wField ver true h ty xt=wTy ver true ty false xt:=wField_wTy hknB.2
      obtain ⟨cc,hcc⟩:∃ cc,cc=wTy ver true ty false xt:=⟨_,rfl⟩
      rw [<- hcc] at hkx hwf
      have hkx':kx=uvarint 0 ++ (uvarint cc.length ++ cc):=hkx
      have hc0':c0=1:=hc0
      have hlc:(uvarint 0).length+((uvarint cc.length).length+cc.length)<=lim:=by
       rw [hkx'] at hlx
       simp only [List.length_append] at hlx
       omega
      have hF8b:=hF8 w11 (hb911.block _ (by omega))
      have hT5b:=hT59 w11 (hb911.block _ (by omega))
      have hlt3:w.heap.size < w11.heap.size:=by omega
      have hlt4:w8.heap.size < w11.heap.size:=by omega
      refine gen_act (fun a=>a.tmps.size=132/\a.defers=[]/\(∀ s,s < 62->getT a s=getT a9 s)) ⟨by simp [sPu,x],by simp [dPu,xd],fun s hs=>by simp (disch:=omega) [gTn]⟩ ?_
      rintro a10 ⟨y,yd,ys⟩
      have y1:=(ys 1 (by omega)).trans x1
      have y2:=(ys 2 (by omega)).trans x2
      have y7:=(ys 7 (by omega)).trans x7
      have y10:=(ys 10 (by omega)).trans x10
      have y11:=(ys 11 (by omega)).trans x11
      have y14:=(ys 14 (by omega)).trans x14
      have y15:=(ys 15 (by omega)).trans x15
      have y16:=(ys 16 (by omega)).trans x16
      refine wSq (wDr hm (Below w11.heap.size w11.drew) [(0,true),(1,true),(2,true),(3,true),(4,true),(5,false),(6,false),(7,true)] (by rfl) (by rfl) (by decide) (Below.refl _ _) ?_)
      iterate 5 (apply dr_1;(focus rfl);(focus (simp (disch:=(try simp only [sPu]);omega) [hst,y1,y2,y7,y15,y16,hF8b,hT5b,hlt3,hlt4];try rfl)))
      have hat2:=S.cA w11.drew (Tree.mk n s tnull l u) (treV n (.slice sb s.length sc) tnull (.slice lb l.length lc) (.slice ub u.length uc)) (Fs.len fs) (TV.down hbw11.drew (by show w.heap.size<=w11.heap.size;omega) ht0)
      change Calls P fAt _ w11.drew (fun e w'=>∃ v,e=.returned v/\TV G w11.drew (· < w11.drew.heap.size) ((l.drop (Fs.len fs)).headD Tree.zero) v/\Below w11.drew.heap.size w11.drew w') at hat2
      rw [<- hxt] at hat2
      refine dreg_call rfl S.oA hat2 (by simp (disch:=(try simp only [sPu]);omega) [treV]) ?_
      rintro e w12 ⟨v2,rfl,htv2,hb12⟩
      have hb12:Below w11.heap.size w11.drew w12:=hb12
      have hsz12:w11.heap.size<=w12.heap.size:=hb12.size
      have hbw12:Below w.heap.size w w12:=hbw11.drew.trans (hb12.mono (by omega))
      refine ⟨v2,rfl,hb12,?_⟩
      refine dreg_call rfl oF (cFd w12 h 0 ty of_ sub ver true xt v2 hver hof (SubV.mono (w:=w12) (F':=fun x=>x < w12.heap.size) (fun k hk=>by have:k < w.heap.size:=hk;show k < w12.heap.size;omega) (fun k hk=>hbw12.block k hk) ty sub hsub) h1c cPk.1 (TV.down hb12 (by omega) htv2) (by rw [hwf];omega)) (by simp (disch:=(try simp only [sPu]);omega) [fldV]) ?_
      rintro e w13 ⟨v3,rfl,ho3,hb13⟩
      rw [hwf] at ho3
      have hsz13:w12.heap.size<=w13.heap.size:=hb13.size
      refine ⟨v3,rfl,hb12.trans (hb13.mono hsz12),?_⟩
      repeat (apply dr_1;(focus rfl);(focus (simp (disch:=(try simp only [sPu]);omega) [hst];try rfl)))
      refine dreg_nil ?_
      simp only [Exit.then]
      have hb1113:Below w11.heap.size w11 w13:=(Below.trans (Below.refl _ w11).drew hb12).trans (hb13.mono hsz12)
      obtain ⟨g3,cap3,ev3,hB3⟩:=own_bytesAt ho3
      have ho3':=ho3
      rw [ev3] at ho3
      refine gen_act (fun a=>a.tmps.size=132/\a.defers=[]/\(∀ s,s < 62->s ≠ 17->getT a s=getT a9 s)/\getT a 17=.slice g3 cc.length cap3) ⟨by simp [sPu,y],by simp [dPu,yd],fun s hs h17=>by rw [<- ys s hs];simp (disch:=omega) [gTn],by simp (disch:=(try simp only [sPu]);omega) [ev3]⟩ ?_
      clear y yd ys y1 y2 y7 y10 y11 y14 y15 y16
      rintro a11 ⟨y,yd,ys,y17⟩
      have y10:=(ys 10 (by omega) (by omega)).trans x10
      have y11:=(ys 11 (by omega) (by omega)).trans x11
      have y14:=(ys 14 (by omega) (by omega)).trans x14
      have ew00:IntKind.u64.wrap 0=0:=rfl
      have el:(cc.length:Int) % 18446744073709551616=(cc.length:Int):=by omega
      have s13:w3.heap.size<=w13.heap.size:=by omega
      refine wSq (wRg ?_)
      iterate 3 (apply ops_1;(focus (simp (disch:=(try simp only [sPu]);omega) [hst,y10,y14,ew00];try rfl)))
      refine ops_call S.oU (S.cU w13 0 (by omega)) (by simp (disch:=(try simp only [sPu]);omega)) ?_
      rintro e w14 ⟨v4,rfl,o4,b4⟩
      refine ⟨v4,rfl,?_⟩
      have s14:w13.heap.size<=w14.heap.size:=b4.size
      refine oNo rfl (opw_appendU8G (B:=w14.heap.size) (dv:=.slice none 0 0) (xv:=v4) (xs:=[]) (bs:=uvarint 0) hU8s (by simp (disch:=(try simp only [sPu]);omega)) (by simp (disch:=(try simp only [sPu]);omega)) rfl (own_nil _ _ _) (by omega) (src_own hU8s o4) (by simp only [List.length_nil];omega) ?_)
      intro v5 w15 o5 b5 s15 g5 t5
      rw [List.nil_append] at o5
      have s15':w14.heap.size<=w15.heap.size:=g5.size
      iterate 3 (apply ops_1;(focus (simp (disch:=(try simp only [sPu]);omega) [hst,y17,wrap_u64,el];try rfl)))
      refine ops_call S.oU (S.cU w15 cc.length (by omega)) (by simp (disch:=(try simp only [sPu]);omega)) ?_
      rintro e w16 ⟨v6,rfl,o6,b6⟩
      refine ⟨v6,rfl,?_⟩
      have s16:w15.heap.size<=w16.heap.size:=b6.size
      refine oNo rfl (opw_appendU8G (B:=w14.heap.size) (dv:=v5) (xv:=v6) (xs:=uvarint 0) (bs:=uvarint cc.length) hU8s (by simp (disch:=(try simp only [sPu]);omega)) (by simp (disch:=(try simp only [sPu]);omega)) rfl (own_keep o5 b6) (by omega) (src_own hU8s o6) (by omega) ?_)
      intro v7 w17 o7 b7 s17 g7 t7
      have hb1317:Below w13.heap.size w13 w17:=b4.trans ((b5.mono s14).trans ((b6.mono (by omega)).trans (b7.mono s14)))
      iterate 1 (apply ops_1;(focus (simp (disch:=(try simp only [sPu]);omega) [y17];try rfl)))
      refine oNo rfl (opw_appendU8G (B:=w14.heap.size) (dv:=v7) (xv:=.slice g3 cc.length cap3) (xs:=uvarint 0 ++ uvarint cc.length) (bs:=cc) hU8s (by simp (disch:=(try simp only [sPu]);omega)) (by simp (disch:=(try simp only [sPu]);omega)) rfl o7 s17 (src_bytes hU8s (bytesAt_mono (F':=fun _=>True) hB3 (fun _ _=>trivial) (fun k hk=>hb1317.block k hk)) cap3) (by rw [List.length_append];omega) ?_)
      intro v8 w18 o8 b8 s18 g8 t8
      have s18':w17.heap.size<=w18.heap.size:=g8.size
      repeat (apply ops_1;(focus (simp (disch:=(try simp only [sPu]);omega) ;try rfl)))
      refine oNi ?_
      simp only [Exit.then]
      refine wRg ?_
      repeat (apply ops_1;(focus (simp (disch:=(try simp only [sPu]);omega) [y11,ew1];try rfl)))
      refine oNi ?_
      simp only [Exit.inBlock,Exit.then]
      have hb318:Below w3.heap.size w8 w18:=(hb811.mono hsz8).trans ((hb1113.mono (by omega)).trans ((hb1317.mono (by omega)).trans (b8.mono (by omega))))
      refine next _ _ _ (by simp [sPu,y]) (by simp [dPu,yd]) (fun s hs h1 h2 h3=>by rw [<- ys s hs h3];simp (disch:=omega) [gTn]) hb318 ?_ fun a'' hI hlt=>⟨hI,by rw [x57];exact hlt⟩
      rw [decide_eq_true (by omega),hSt]
      show Own X.U8 _ w3.heap.size (getT _ 10) kx/\getT _ 11=.int .i64 (c0:Int)
      refine ⟨?_,by rw [hc0'];simp (disch:=(try simp only [sPu]);omega) [ew1]⟩
      rw [hkx',<- List.append_assoc]
      refine own_eq (own_down o8 (by omega)) ?_
      simp (disch:=(try simp only [sPu]);omega)
     ·rw [hus,if_pos rfl] at hkx hc0
      have hkx':kx=[]:=hkx
      have hc0':c0=0:=hc0
      rw [if_neg (by decide)]
      refine wSk ?_
      simp only [Exit.inBlock,Exit.then]
      refine next _ _ _ (by simp [sPu,x]) (by simp [dPu,xd]) (fun s hs _ _ _=>by simp (disch:=omega) [gTn]) (hb811.mono hsz8) ?_ fun a'' hI hlt=>⟨hI,by rw [x57];exact hlt⟩
      rw [decide_eq_true (by omega),hSt]
      show Own X.U8 _ w3.heap.size (getT _ 10) kx/\getT _ 11=.int .i64 (c0:Int)
      rw [hkx',hc0']
      refine ⟨?_,by simp (disch:=(try simp only [sPu]);omega) [x11]⟩
      refine own_eq (own_nil X.U8 _ _) ?_
      simp (disch:=(try simp only [sPu]);omega) [x10]
end
mutual
def smallTy:Ty->Bool
 | .prim _=>true
 | .struct _ _ _ _ fs kn=>decide (Fs.len fs+Fs.len kn < 4294967296) && knB kn && smallFs fs && smallFs kn
 | .list _ _ _ of=>smallTy of
def smallFs:Fs->Bool
 | .nil=>true
 | .cons _ ty r=>smallTy ty && smallFs r
end
section
variable {G:List (Nat × Bytes)->Prop} {P:Program} {X:STy} {f:FuncId} {fn:Func} {fPart:FuncId}
mutual
theorem subC_all {C:Fs->Fs->Prop} (hC:∀ fs kn,Fs.len fs+Fs.len kn < 4294967296->knB kn=true->SubsC C fs->SubsC C kn->C fs kn):∀ ty,smallTy ty=true->SubC C ty
 | .prim _,_=>by simp [SubC]
 | .struct _ _ _ _ fs kn,h=>by
  simp only [smallTy,Bool.and_eq_true,decide_eq_true_eq] at h
  simp only [SubC]
  exact hC fs kn h.1.1.1 h.1.1.2 (subsC_all hC fs h.1.2) (subsC_all hC kn h.2)
 | .list _ _ _ of,h=>by
  simp only [smallTy] at h
  simp only [SubC]
  exact subC_all hC of h
theorem subsC_all {C:Fs->Fs->Prop} (hC:∀ fs kn,Fs.len fs+Fs.len kn < 4294967296->knB kn=true->SubsC C fs->SubsC C kn->C fs kn):∀ fs,smallFs fs=true->SubsC C fs
 | .nil,_=>by simp [SubsC]
 | .cons h ty r,hh=>by
  simp only [smallFs,Bool.and_eq_true] at hh
  simp only [SubsC]
  exact ⟨subC_all hC ty hh.1,subsC_all hC r hh.2⟩
end
def msgV (fv:Value) (flex:Int):Value:=.agg #[fv,.int .i64 flex]
theorem write_ok (hX:stOK P X=true) (oP:FnOK P fPart) (hf:P.funcs[f]?=some fn) (hb:fn.body.map strip=some (sc_Write X.M X.T X.Fs X.I fPart)) (hn:fn.ntmps=21) (hr:fn.results=#[.tmp 6])
  (fs kn:Fs) (cP:PartC G P X fPart fs kn) (w:World) (fv:Value) (mflex ver:Int) (hver:0<=ver) (t:Tree) (tv:Value) (hfv:FsV w (· < w.heap.size) fs kn fv) (ht:TV G w (· < w.heap.size) t tv)
  (hl:(wFs ver (decide (0<=mflex) && decide (mflex<=ver)) fs t.l ++ wTagsB (decide (0<=mflex) && decide (mflex<=ver)) (wKn ver (decide (0<=mflex) && decide (mflex<=ver)) kn (t.l.drop (Fs.len fs))) t.u).length<=lim) :
  Calls P f #[msgV fv mflex,.int .i64 ver,tv] w (RetOwn X.U8 w (wFs ver (decide (0<=mflex) && decide (mflex<=ver)) fs t.l ++ wTagsB (decide (0<=mflex) && decide (mflex<=ver)) (wKn ver (decide (0<=mflex) && decide (mflex<=ver)) kn (t.l.drop (Fs.len fs))) t.u)):=by
 have hst:=st_facts hX
 refine fCa hf hb hn (by simp) fun a0 hs hd ha=>?_
 have h0:=ha 0 _ rfl
 have h1:=ha 1 _ rfl
 have h2:=ha 2 _ rfl
 simp only [List.getElem_toArray,List.getElem_cons_zero,List.getElem_cons_succ] at h0 h1 h2
 have ht0:=ht
 cases ht with
 | mk n s tnull l u sb lb ub sc lc uc b o cs hs1 hsc hlc huc hll hrr htt hG hu =>
 refine wSq (wRg (ops_box (B:=w.heap.size) (w0:=w) (by rw [eTm,h0];rfl) (Nat.le_refl _) (Below.refl _ _) fun w1 q1 q2 q3 hc q5=>?_))
 refine ops_box (B:=w.heap.size) (w0:=w) (cs:=#[.int .i64 n,.slice sb s.length sc,.bool tnull,.slice lb l.length lc,.slice ub u.length uc]) (by simp (disch:=(try simp only [sPu]);omega) [h2,treV]) (by omega) q2 fun w2 r1 r2 r3 hd2 r5=>?_
 repeat (apply ops_1;(focus (simp (disch:=(try simp only [sPu]);omega) ;try rfl)))
 refine oNi ?_
 have hc2:∀ j,w2.cell? ⟨w.heap.size,j,none⟩=#[fv,.int .i64 mflex][j]?:=fun j=>by rw [r1.cell (by show w.heap.size < w1.heap.size;omega)];exact hc j
 have hsz2:w2.heap.size=w.heap.size+2:=by omega
 rw [q3] at hd2 ⊢
 clear hc q1 q2 q3 q5 r1 r3 r5 w1
 have hT5:rangeV w2 (w.heap.size+1) 0 5=some [.int .i64 n,.slice sb s.length sc,.bool tnull,.slice lb l.length lc,.slice ub u.length uc]:=by simp [rangeV,hd2]
 refine wSq (wRg ?_)
 have fin:∀ (flex:Bool) (a:Act),a.defers=[]->getT a 8=fv->getT a 9=.int .i64 ver->getT a 18=.bool flex->getT a 5=.pointer (some ⟨w.heap.size+1,0,none⟩)->a.tmps.size=21->(decide (0<=mflex) && decide (mflex<=ver))=flex->∀ all,opsw P all [ld 19 X.T 5,cal 20 fPart [8,9,18,19],asg 6 20] (Exit.then (SC.wp P .ret (bodyPost P fn (RetOwn X.U8 w (wFs ver (decide (0<=mflex) && decide (mflex<=ver)) fs (Tree.mk n s tnull l u).l ++ wTagsB (decide (0<=mflex) && decide (mflex<=ver)) (wKn ver (decide (0<=mflex) && decide (mflex<=ver)) kn ((Tree.mk n s tnull l u).l.drop (Fs.len fs))) (Tree.mk n s tnull l u).u)))) (bodyPost P fn (RetOwn X.U8 w (wFs ver (decide (0<=mflex) && decide (mflex<=ver)) fs (Tree.mk n s tnull l u).l ++ wTagsB (decide (0<=mflex) && decide (mflex<=ver)) (wKn ver (decide (0<=mflex) && decide (mflex<=ver)) kn ((Tree.mk n s tnull l u).l.drop (Fs.len fs))) (Tree.mk n s tnull l u).u))) .normal) a w2:=by
  intro flex a pd p8 p9 p18 p5 ps hfl all
  rw [hfl] at hl ⊢
  iterate 1 (apply ops_1;(focus (simp (disch:=(try simp only [sPu]);omega) [hst,p5,hT5];try rfl)))
  refine ops_call oP (cP w2 fv ver flex _ _ hver (FsV.down r2 (by omega) hfv) (TV.down r2 (by omega) ht0) hl) (by simp (disch:=(try simp only [sPu]);omega) [p8,p9,p18,treV]) ?_
  rintro e w3 ⟨v,rfl,o1,b1⟩
  refine ⟨v,rfl,?_⟩
  repeat (apply ops_1;(focus (simp (disch:=(try simp only [sPu]);omega) ;try rfl)))
  refine oNi ?_
  simp only [Exit.then]
  refine wRt (ret_tmp hr (by simp [dPu,pd]) ⟨v,?_,own_down o1 (by omega),r2.trans (b1.mono (by omega))⟩)
  simp (disch:=(try simp only [sPu]);omega)
 cases e1:decide (0<=mflex)
 ·rw [e1] at fin
  iterate 12 (first | (apply ops_1;(focus (simp (disch:=(try simp only [sPu]);omega) [hst,hc2,hT5,h1,e1];try rfl))) | (apply ops_y;(focus rfl);(focus ((try simp only [sPu]);omega));(focus (simp (disch:=(try simp only [sPu]);omega) [hst,hc2,hT5,h1,e1];done));(focus (simp (disch:=(try simp only [sPu]);omega) [hst,hc2,hT5,h1,e1];try rfl))) | (apply ops_n;(focus rfl);(focus ((try simp only [sPu]);omega));(focus (first | (left;simp (disch:=(try simp only [sPu]);omega) [hst,hc2,hT5,h1,e1];done) | (right;simp (disch:=(try simp only [sPu]);omega);done)))))
  refine fin false _ (by simp [dPu,hd]) (by simp (disch:=(try simp only [sPu]);omega)) (by simp (disch:=(try simp only [sPu]);omega)) (by simp (disch:=(try simp only [sPu]);omega)) (by simp (disch:=(try simp only [sPu]);omega)) (by simp [sPu,hs]) (by simp) _
 ·cases e2:decide (mflex<=ver)
  ·rw [e1,e2] at fin
   iterate 12 (first | (apply ops_1;(focus (simp (disch:=(try simp only [sPu]);omega) [hst,hc2,hT5,h1,e1,e2];try rfl))) | (apply ops_y;(focus rfl);(focus ((try simp only [sPu]);omega));(focus (simp (disch:=(try simp only [sPu]);omega) [hst,hc2,hT5,h1,e1,e2];done));(focus (simp (disch:=(try simp only [sPu]);omega) [hst,hc2,hT5,h1,e1,e2];try rfl))) | (apply ops_n;(focus rfl);(focus ((try simp only [sPu]);omega));(focus (first | (left;simp (disch:=(try simp only [sPu]);omega) [hst,hc2,hT5,h1,e1,e2];done) | (right;simp (disch:=(try simp only [sPu]);omega);done)))))
   refine fin false _ (by simp [dPu,hd]) (by simp (disch:=(try simp only [sPu]);omega)) (by simp (disch:=(try simp only [sPu]);omega)) (by simp (disch:=(try simp only [sPu]);omega)) (by simp (disch:=(try simp only [sPu]);omega)) (by simp [sPu,hs]) (by simp) _
  ·rw [e1,e2] at fin
   iterate 12 (first | (apply ops_1;(focus (simp (disch:=(try simp only [sPu]);omega) [hst,hc2,hT5,h1,e1,e2];try rfl))) | (apply ops_y;(focus rfl);(focus ((try simp only [sPu]);omega));(focus (simp (disch:=(try simp only [sPu]);omega) [hst,hc2,hT5,h1,e1,e2];done));(focus (simp (disch:=(try simp only [sPu]);omega) [hst,hc2,hT5,h1,e1,e2];try rfl))) | (apply ops_n;(focus rfl);(focus ((try simp only [sPu]);omega));(focus (first | (left;simp (disch:=(try simp only [sPu]);omega) [hst,hc2,hT5,h1,e1,e2];done) | (right;simp (disch:=(try simp only [sPu]);omega);done)))))
   refine fin true _ (by simp [dPu,hd]) (by simp (disch:=(try simp only [sPu]);omega)) (by simp (disch:=(try simp only [sPu]);omega)) (by simp (disch:=(try simp only [sPu]);omega)) (by simp (disch:=(try simp only [sPu]);omega)) (by simp [sPu,hs]) (by simp) _
end
set_option maxHeartbeats 2000000
def sc_TLen (T0 T1:Nat):SC:=.seq (.reg [⟨some 2,.assign (.const (.int .i64 0)),none⟩]) (.seq (.reg [mv 3 0,nilc 4 3,fa 5 T0 4 0,ld 6 T1 5,lenOp 7 T1 6,asg 2 7]) (.ret))
def mapT (P:Program) (T:TypeId):Bool :=
 match P.underlying T with
 | some (.map _ _)=>true
 | _=>false
section
variable {G:List (Nat × Bytes)->Prop} {P:Program} {f:FuncId} {fn:Func}
theorem hTags_size {w:World} {F:Nat->Prop} {b o:Nat} {u:List (Nat × Bytes)} (h:HTags G w F b o u):∃ v,w.cell? ⟨b,o,none⟩=some v/\(v=.map none/\u=[]∨∃ r es clock,v=.map (some r)/\w.heap[r]?=some (.map es clock)/\es.size=u.length):=by
 obtain ⟨_,_,_,_,⟨h1,h2⟩ | ⟨r,es,clock,h1,_,h2,_,h3,_⟩⟩:=h
 ·exact ⟨_,h1,.inl ⟨rfl,h2⟩⟩
 ·refine ⟨_,h1,.inr ⟨r,es,clock,rfl,h2,?_⟩⟩
  have:=h3.length_eq
  simpa using this
theorem opw_lenMapN {a:Act} {w:World} {K:Act->World->Prop} {d:Option Tmp} {g:Option (Nat × Bool)} {T:TypeId} {x:Operand} {v:Value} {ts:Array TypeId} {n:Nat} (hT:mapT P T=true) (hx:a.eval x=v) (ht:ts=#[T])
  (hv:v=.map none/\n=0∨∃ r es clock,v=.map (some r)/\w.heap[r]?=some (.map es clock)/\es.size=n) (h:K (a.put d (.int .i64 (n:Int))) w):opw P ⟨d,.call ⟨.builtin .len,#[x],ts⟩,g⟩ a w K:=by
 subst ht
 unfold mapT at hT
 split at hT <;> try (simp at hT;done)
 rename_i k e hu
 refine oVa (v:=.int .i64 (n:Int)) (by simp) (fun p hp=>?_) h
 rcases hv with ⟨rfl,rfl⟩ | ⟨r,es,clock,rfl,hr,rfl⟩
 ·simp [execOp,hp,hx,resolve,invoke,builtin,Builtin.len_,run_underlying hu,goInt]
 ·simp [execOp,hp,hx,resolve,invoke,builtin,Builtin.len_,run_underlying hu,goInt,getObj,hr,Sem.run]
theorem tagsLenN_ok {TT TM:Nat} (hTM:mapT P TM=true) (h1:oneB P TM=true) (hF0:fieldOff P TT 0=some 0) (hf:P.funcs[f]?=some fn) (hb:fn.body.map strip=some (sc_TLen TT TM)) (hn:fn.ntmps=8) (hr:fn.results=#[.tmp 2])
  (w:World) (F:Nat->Prop) (b o:Nat) (u:List (Nat × Bytes)) (hu:HTags G w F b o u):Calls P f #[.pointer (some ⟨b,o,none⟩)] w fun e w'=>e=.returned (.int .i64 u.length)/\w=w':=by
 obtain ⟨v,hc,hv⟩:=hTags_size hu
 refine fCa hf hb hn (by simp) fun a0 hs hd ha=>?_
 have h0:=ha 0 _ rfl
 simp only [List.getElem_toArray,List.getElem_cons_zero,List.getElem_cons_succ] at h0
 refine wSq (wRg ?_)
 repeat (apply ops_1;(focus (simp (disch:=(try simp only [sPu]);omega) ;try rfl)))
 refine oNi (wSq (wRg ?_))
 iterate 4 (apply ops_1;(focus (simp (disch:=(try simp only [sPu]);omega) [h0,hF0,h1,hc];try rfl)))
 refine oNo rfl (opw_lenMapN (v:=v) (n:=u.length) hTM (by simp (disch:=(try simp only [sPu]);omega)) rfl (by
  rcases hv with ⟨e1,e2⟩ | h
  ·exact .inl ⟨e1,by rw [e2];rfl⟩
  ·exact .inr h) ?_)
 repeat (apply ops_1;(focus (simp (disch:=(try simp only [sPu]);omega) ;try rfl)))
 refine oNi (wRt (ret_tmp hr (by simp [dPu,hd]) ⟨?_,rfl⟩))
 simp (disch:=(try simp only [sPu]);omega)
end
end Go.Proofs.YtdnpafdgglpagaaGreatDoor.K
