/- Generic texts: R31 Z6 L1 L2 L3 L4. No condition. -/
import Derived.Test.YtmapoohbongifaaGreatDoorB0
namespace Go.Proofs.YtmapoohbongifaaGreatDoor.K
open Go Go.RowKit Go.Proofs.YtmapoohbongifaaGreatDoor.T
attribute [local simp] eTm eCo pNo gTp gTn qv qcall vop iop
set_option linter.unusedVariables false
set_option linter.unusedSimpArgs false
set_option maxHeartbeats 4000000
def sc_LawCut (T0 T1 T2 T3 T4 F0 F1 F2 F3 F4 F5:Nat):SC:=.seq (.reg [⟨some 4,.box T0 (.tmp 1),none⟩,⟨some 6,.assign (.const (.bool false)),none⟩]) (.seq (.seq (.reg [ld 13 T0 4,cal 14 F0 [13],⟨some 15,.unOp .not T1 (.tmp 14),none⟩]) (.cond (.tmp 15) (.seq (.reg [⟨some 6,.assign (.const (.bool true)),none⟩]) (.ret)) (.skip))) (.seq (.reg [cal 16 F1 [],asg 7 16]) (.seq (.seq (.reg [mv 17 7,⟨some 18,.binOp .lss T2 (.tmp 17) (.const (.int .i64 0)) T2,none⟩]) (.cond (.tmp 18) (.seq (.reg [⟨some 6,.assign (.const (.bool false)),none⟩]) (.ret)) (.skip))) (.seq (.dreg [cal 19 F2 [],mv 20 0,mv 21 7,cal 22 F3 [20,21],ld 23 T0 4,cal 24 F4 [19,22,23],asg 8 24] [[],[],[],[1,2,0],[],[0,3,4,3],[5,5,0,1,2,3,4,5]]) (.seq (.reg [mv 26 0,mv 27 7,cal 28 F3 [26,27],mv 29 8,cal 30 F5 [28,29],mv 25 30,⟨some 31,.extract (.tmp 25) 0,none⟩,⟨some 32,.extract (.tmp 25) 1,none⟩,asg 9 31,asg 10 32]) (.seq (.seq (.reg [mv 33 8,lenOp 34 T3 33,⟨some 35,.binOp .eql T2 (.tmp 34) (.const (.int .i64 0)) T2,none⟩]) (.cond (.tmp 35) (.seq (.reg [mv 36 10,asg 6 36]) (.ret)) (.skip))) (.seq (.dreg [mv 38 0,mv 39 7,cal 40 F3 [38,39],mv 41 8,mv 42 2,⟨some 43,.convert T4 T2 (.tmp 42),none⟩,mv 44 8,lenOp 45 T3 44,⟨some 46,.binOp .rem T2 (.tmp 43) (.tmp 45) T2,none⟩,⟨some 47,.slice T3 (.tmp 41) none (some (.tmp 46)) none,none⟩,cal 48 F5 [40,47],mv 37 48,⟨some 49,.extract (.tmp 37) 0,none⟩,⟨some 50,.extract (.tmp 37) 1,none⟩,asg 11 49,asg 12 50] [[],[],[0,1],[],[],[4],[],[6],[5,7],[3,8],[2,9,2],[10],[11],[11],[12,10,0,1,2,3,4,5,6,7,8,9,10,11,12],[13,14,0,1,2,3,4,5,6,7,8,9,10,11,12,13,14]]) (.seq (.reg [mv 51 10,mv 52 51,⟨some 53,.move (.tmp 12),some (1,true)⟩,⟨some 54,.unOp .not T1 (.tmp 53),some (1,true)⟩,⟨some 55,.pick (.tmp 52) (.tmp 54) (.const (.bool false)),none⟩,asg 6 55]) (.ret)))))))))
section
variable {G:List (Nat × Bytes)→Prop} {P:Program} {X:STy} {f:FuncId} {fn:Func}
theorem own_src2 {tU8:Nat} {w:World} {B:Nat} {dv:Value} {xs:Bytes} (h:Own tU8 w B dv xs):∃ S base cap,dv=.slice base xs.length cap∧xs.length≤cap∧SrcAt w S base xs∧∀ sb,S=some sb→B≤sb∧sb < w.heap.size:=by
  obtain ⟨S,base,cap,rfl,q1,q2⟩:=own_src h
  refine ⟨S,base,cap,rfl,?_,q1,q2⟩
  obtain ⟨-,⟨e1,e2⟩ | ⟨g,c3,cur,e1,e2,e3,e4,-⟩⟩:=h
  · rw [e2];exact Nat.zero_le _
  · cases e1;exact e4
theorem lawCut_ok (hX:stOK P X=true) (hm:P.follows .mixedOrders=true) {fFit fMax fSp fVer fWr fAg T1 T4:FuncId} (hT4:intK P T4=some .u16) {gb m:Nat} {Gl:World→Prop} (hm16:m < 32768) (fs:Fs) (mflex:Int) (flexO:Option Int)
    (hfl:∀ v:Nat,flexAt flexO v=(decide (0≤mflex) && decide (mflex≤(v:Int))))
    (oFit:FnOK P fFit) (cFit:∀ (w:World) (t:Tree) (tv:Value),TV G w (· < w.heap.size) t tv→Calls P fFit #[tv] w (Asks w))
    (oMax:FnOK P fMax) (cMax:∀ w:World,Calls P fMax #[] w fun e w'=>e=.returned (.int .i64 (m:Int))∧Below w.heap.size w w')
    (oSp:FnOK P fSp) (cSp:∀ w:World,Calls P fSp #[] w fun e w'=>∃ v,e=.returned (msgV v mflex)∧v.oneCell'=true∧FsV w' (fun k=>w.heap.size≤k∧k < w'.heap.size) fs v∧Below w.heap.size w w')
    (oVer:FnOK P fVer) (cVer:∀ (w:World) (n m:Nat),n < 256→m < 65536→Calls P fVer #[.int .u8 (n:Int),.int .i64 (m:Int)] w fun e w'=>e=.returned (.int .i64 ((n % (m+1):Nat):Int))∧w=w')
    (oWr:FnOK P fWr) (cWr:∀ (w:World) (fv:Value) (mflex ver:Int) (t:Tree) (tv:Value),FsV w (· < w.heap.size) fs fv→TV G w (· < w.heap.size) t tv→(wFs ver (decide (0≤mflex) && decide (mflex≤ver)) fs t.l ++ wTags (decide (0≤mflex) && decide (mflex≤ver)) t.u).length≤lim →
      Calls P fWr #[msgV fv mflex,.int .i64 ver,tv] w (RetOwn X.U8 w (wFs ver (decide (0≤mflex) && decide (mflex≤ver)) fs t.l ++ wTags (decide (0≤mflex) && decide (mflex≤ver)) t.u)))
    (cAg:AgC P X.U8 flexO fs gb m Gl fAg)
    (hf:P.funcs[f]?=some fn) (hb:fn.body.map strip=some (sc_LawCut X.T T1 X.I X.Bs T4 fFit fMax fSp fVer fWr fAg)) (hn:fn.ntmps=56) (hr:fn.results=#[.tmp 6]) (w:World) (n at_:Nat) (hn8:n < 256) (hat:at_ < 65536) (t:Tree) (tv:Value) (ht:TV G w (· < w.heap.size) t tv) (hgb:gb < w.heap.size) (hgl:∀ w',Below w.heap.size w w'→Gl w')
    (hok:∀ v:Nat,v≤m→okFsR v (flexAt flexO v) fs=true) (hk:∀ v:Nat,v≤m→KFs v fs t.l) (hu:∀ x ∈ t.u,x.1 < 4294967296) (hlim:∀ v:Nat,v≤m→(wMsg v (flexAt flexO v) fs t.l t.u).length≤lim) :
    Calls P f #[.int .u8 (n:Int),tv,.int .u16 (at_:Int)] w fun e w'=>e=.returned (.bool true)∧Below w.heap.size w w':=by
  have hst:=st_facts hX
  obtain ⟨vs,hvs,hvs5⟩:∃ vs:List Value,tv=.agg vs.toArray∧vs.length=5:=by
    cases ht
    exact ⟨[_,_,_,_,_],rfl,rfl⟩
  refine fCa hf hb hn (by simp) fun a0 hs hd ha=>?_
  have k0:=ha 0 _ rfl
  have k1:=ha 1 _ rfl
  have k2:=ha 2 _ rfl
  simp only [List.getElem_toArray,List.getElem_cons_zero,List.getElem_cons_succ] at k0 k1 k2
  refine SC.wp_seq (SC.wp_reg (oNo rfl (opw_box (v:=tv) k1 ?_)))
  have hnew:=heap_alloc_new w (.cells tv.cells X.T)
  have hb1:Below w.heap.size w (w.alloc (.cells tv.cells X.T)):=(Below.refl _ _).alloc (Nat.le_refl _) _
  have hs1:(w.alloc (.cells tv.cells X.T)).heap.size=w.heap.size+1:=by simp
  have hbox:rangeV (w.alloc (.cells tv.cells X.T)) w.heap.size 0 5=some vs:=by
    have:=rangeV_of (w:=w.alloc (.cells tv.cells X.T)) (b:=w.heap.size) vs 0 (fun j v hj=>by
      rw [Nat.zero_add,cell_of_row _ _ _ _ _ _ hnew,hvs]
      simpa [Value.cells] using hj)
    rwa [hvs5] at this
  generalize w.alloc (.cells tv.cells X.T)=w1 at hb1 hs1 hbox ⊢
  have ht1:TV G w1 (· < w1.heap.size) t tv:=ht.down hb1 (by omega)
  repeat (first | (apply ops_1;(focus (simp (disch:=(try simp only [sPu]);omega) ;try rfl))) | (apply ops_y;(focus rfl);(focus ((try simp only [sPu]);omega));(focus (simp (disch:=(try simp only [sPu]);omega);done));(focus (simp (disch:=(try simp only [sPu]);omega) ;try rfl))) | (apply ops_n;(focus rfl);(focus ((try simp only [sPu]);omega));(focus (first | (left;simp (disch:=(try simp only [sPu]);omega);done) | (right;simp (disch:=(try simp only [sPu]);omega);done)))))
  refine oNi (SC.wp_seq (SC.wp_seq (SC.wp_reg ?_)))
  iterate 1 (first | (apply ops_1;(focus (simp (disch:=(try simp only [sPu]);omega) [hst,hbox];try rfl))) | (apply ops_y;(focus rfl);(focus ((try simp only [sPu]);omega));(focus (simp (disch:=(try simp only [sPu]);omega) [hst,hbox];done));(focus (simp (disch:=(try simp only [sPu]);omega) [hst,hbox];try rfl))) | (apply ops_n;(focus rfl);(focus ((try simp only [sPu]);omega));(focus (first | (left;simp (disch:=(try simp only [sPu]);omega) [hst,hbox];done) | (right;simp (disch:=(try simp only [sPu]);omega);done)))))
  refine ops_call oFit (cFit w1 t tv ht1) (by rw [hvs];simp (disch:=(try simp only [sPu]);omega)) ?_
  rintro e w2 ⟨⟨bo,rfl⟩,hb2⟩
  refine ⟨_,rfl,?_⟩
  have hbw2:Below w.heap.size w w2:=hb1.trans ⟨hb2.os,hb2.tape,hb2.output,hb2.size,fun k hk=>hb2.block k (by omega)⟩
  repeat (first | (apply ops_1;(focus (simp (disch:=(try simp only [sPu]);omega) ;try rfl))) | (apply ops_y;(focus rfl);(focus ((try simp only [sPu]);omega));(focus (simp (disch:=(try simp only [sPu]);omega);done));(focus (simp (disch:=(try simp only [sPu]);omega) ;try rfl))) | (apply ops_n;(focus rfl);(focus ((try simp only [sPu]);omega));(focus (first | (left;simp (disch:=(try simp only [sPu]);omega);done) | (right;simp (disch:=(try simp only [sPu]);omega);done)))))
  refine oNi (SC.wp_cond (t:=!bo) (by simp (disch:=(try simp only [sPu]);omega)) ?_)
  cases bo
  · rw [if_pos (by rfl)]
    refine SC.wp_seq (SC.wp_reg ?_)
    repeat (first | (apply ops_1;(focus (simp (disch:=(try simp only [sPu]);omega) ;try rfl))) | (apply ops_y;(focus rfl);(focus ((try simp only [sPu]);omega));(focus (simp (disch:=(try simp only [sPu]);omega);done));(focus (simp (disch:=(try simp only [sPu]);omega) ;try rfl))) | (apply ops_n;(focus rfl);(focus ((try simp only [sPu]);omega));(focus (first | (left;simp (disch:=(try simp only [sPu]);omega);done) | (right;simp (disch:=(try simp only [sPu]);omega);done)))))
    refine oNi (SC.wp_ret ?_)
    try simp only [Exit.then]
    exact ret_tmp hr (by simp [dPu,hd]) ⟨by simp (disch:=(try simp only [sPu]);omega),hbw2⟩
  rw [if_neg (by simp)]
  refine SC.wp_skip ?_
  simp only [Exit.then]
  have hs2:=hb2.size
  refine SC.wp_seq (SC.wp_reg (ops_call oMax (cMax w2) (by simp (disch:=(try simp only [sPu]);omega)) ?_))
  rintro e w3 ⟨rfl,hb3⟩
  refine ⟨_,rfl,?_⟩
  repeat (first | (apply ops_1;(focus (simp (disch:=(try simp only [sPu]);omega) ;try rfl))) | (apply ops_y;(focus rfl);(focus ((try simp only [sPu]);omega));(focus (simp (disch:=(try simp only [sPu]);omega);done));(focus (simp (disch:=(try simp only [sPu]);omega) ;try rfl))) | (apply ops_n;(focus rfl);(focus ((try simp only [sPu]);omega));(focus (first | (left;simp (disch:=(try simp only [sPu]);omega);done) | (right;simp (disch:=(try simp only [sPu]);omega);done)))))
  refine oNi (SC.wp_seq (SC.wp_seq (SC.wp_reg ?_)))
  have em:decide ((m:Int) < 0)=false:=by simp
  repeat (first | (apply ops_1;(focus (simp (disch:=(try simp only [sPu]);omega) [em];try rfl))) | (apply ops_y;(focus rfl);(focus ((try simp only [sPu]);omega));(focus (simp (disch:=(try simp only [sPu]);omega) [em];done));(focus (simp (disch:=(try simp only [sPu]);omega) [em];try rfl))) | (apply ops_n;(focus rfl);(focus ((try simp only [sPu]);omega));(focus (first | (left;simp (disch:=(try simp only [sPu]);omega) [em];done) | (right;simp (disch:=(try simp only [sPu]);omega);done)))))
  refine oNi (SC.wp_cond (t:=false) (by simp (disch:=(try simp only [sPu]);omega)) ?_)
  rw [if_neg (by simp)]
  refine SC.wp_skip ?_
  simp only [Exit.then]
  have hs3:=hb3.size
  have hbw3:Below w.heap.size w w3:=hbw2.trans ⟨hb3.os,hb3.tape,hb3.output,hb3.size,fun k hk=>hb3.block k (by omega)⟩
  have hb13:Below w1.heap.size w1 w3:=hb2.trans ⟨hb3.os,hb3.tape,hb3.output,hb3.size,fun k hk=>hb3.block k (by omega)⟩
  have hbox3:rangeV w3.drew w.heap.size 0 5=some vs:=by
    have:rangeV w3 w.heap.size 0 5=some vs:=by rw [rangeV_mono (hb13.block w.heap.size (by omega))];exact hbox
    exact this
  have hbx3:w.heap.size < w3.heap.size:=by omega
  refine SC.wp_seq (SC.wp_dreg hm (Below w3.heap.size w3.drew) [(1,true),(2,true),(4,true),(0,false),(3,false),(5,false),(6,true)] (by rfl) (by rfl) (by decide) (Below.refl _ _) ?_)
  iterate 3 (first | (apply dr_1;(focus rfl);(focus (simp (disch:=(try simp only [sPu]);omega) [hst,k0,hbox3,hbx3];try rfl))) | (apply dr_y;(focus rfl);(focus rfl);(focus ((try simp only [sPu]);omega));(focus (simp (disch:=(try simp only [sPu]);omega) [hst,k0,hbox3,hbx3];done));(focus (simp (disch:=(try simp only [sPu]);omega) [hst,k0,hbox3,hbx3];try rfl))) | (apply dr_n;(focus rfl);(focus rfl);(focus ((try simp only [sPu]);omega));(focus (first | (left;simp (disch:=(try simp only [sPu]);omega) [hst,k0,hbox3,hbx3];done) | (right;simp (disch:=(try simp only [sPu]);omega);done)))))
  refine dreg_call (argsV:=#[]) rfl oSp (cSp w3.drew) (by simp (disch:=(try simp only [sPu]);omega)) ?_
  rintro e w4 ⟨fv,rfl,hfv1,hfv,hb4⟩
  refine ⟨_,rfl,hb4,?_⟩
  refine dreg_call (argsV:=#[.int .u8 (n:Int),.int .i64 (m:Int)]) rfl oVer (cVer w4 n m hn8 (by omega)) (by simp (disch:=(try simp only [sPu]);omega) [k0]) ?_
  rintro e w5 ⟨rfl,rfl⟩
  refine ⟨_,rfl,hb4,?_⟩
  obtain ⟨v,hv⟩:∃ v,v=n % (m+1):=⟨_,rfl⟩
  rw [← hv]
  have hvm:v≤m:=by rw [hv];exact Nat.lt_succ_iff.1 (Nat.mod_lt _ (by omega))
  have hw35:w3.drew.heap.size=w3.heap.size:=rfl
  have hs4:=hb4.size
  have hbw5:Below w.heap.size w w4:=hbw3.trans ⟨hb4.os,hb4.tape,hb4.output,hb4.size,fun k hk=>hb4.block k (by omega)⟩
  have ht5:TV G w4 (· < w4.heap.size) t tv:=ht.down hbw5 (by omega)
  have hfv5:FsV w4 (· < w4.heap.size) fs fv:=FsV.mono (fun k hk=>hk.2) (fun _ _=>rfl) hfv
  have hfv':=hfl v
  obtain ⟨fl,hfl'⟩:∃ fl,fl=flexAt flexO v:=⟨_,rfl⟩
  have hlimv:=hlim v hvm
  refine dreg_call (argsV:=#[msgV fv mflex,.int .i64 (v:Int),tv]) rfl oWr (cWr w4 fv mflex v t tv hfv5 ht5 (by rw [← hfv'];exact hlimv)) (by rw [hvs];simp (disch:=(try simp only [sPu]);omega)) ?_
  rintro e w6 ⟨dv,rfl,hown,hb6⟩
  rw [← hfv'] at hown
  refine ⟨_,rfl,hb4.trans ⟨hb6.os,hb6.tape,hb6.output,hb6.size,fun k hk=>hb6.block k (by omega)⟩,?_⟩
  repeat (first | (apply dr_1;(focus rfl);(focus (simp (disch:=(try simp only [sPu]);omega) ;try rfl))) | (apply dr_y;(focus rfl);(focus rfl);(focus ((try simp only [sPu]);omega));(focus (simp (disch:=(try simp only [sPu]);omega);done));(focus (simp (disch:=(try simp only [sPu]);omega) ;try rfl))) | (apply dr_n;(focus rfl);(focus rfl);(focus ((try simp only [sPu]);omega));(focus (first | (left;simp (disch:=(try simp only [sPu]);omega);done) | (right;simp (disch:=(try simp only [sPu]);omega);done)))))
  refine dreg_nil ?_
  simp only [Exit.then]
  have hs6:=hb6.size
  have hbw6:Below w.heap.size w w6:=hbw5.trans ⟨hb6.os,hb6.tape,hb6.output,hb6.size,fun k hk=>hb6.block k (by omega)⟩
  have hown':Own X.U8 w6 w4.heap.size dv (wMsg v (flexAt flexO v) fs t.l t.u):=hown
  obtain ⟨S,base,cap,rfl,hcapL,hsr,hS⟩:=own_src2 hown'
  refine SC.wp_seq (SC.wp_reg ?_)
  iterate 2 (first | (apply ops_1;(focus (simp (disch:=(try simp only [sPu]);omega) [k0];try rfl))) | (apply ops_y;(focus rfl);(focus ((try simp only [sPu]);omega));(focus (simp (disch:=(try simp only [sPu]);omega) [k0];done));(focus (simp (disch:=(try simp only [sPu]);omega) [k0];try rfl))) | (apply ops_n;(focus rfl);(focus ((try simp only [sPu]);omega));(focus (first | (left;simp (disch:=(try simp only [sPu]);omega) [k0];done) | (right;simp (disch:=(try simp only [sPu]);omega);done)))))
  refine ops_call oVer (cVer w6 n m hn8 (by omega)) (by simp (disch:=(try simp only [sPu]);omega) [k0]) ?_
  rintro e w7 ⟨rfl,rfl⟩
  refine ⟨_,rfl,?_⟩
  rw [← hv]
  iterate 1 (first | (apply ops_1;(focus (simp (disch:=(try simp only [sPu]);omega) ;try rfl))) | (apply ops_y;(focus rfl);(focus ((try simp only [sPu]);omega));(focus (simp (disch:=(try simp only [sPu]);omega);done));(focus (simp (disch:=(try simp only [sPu]);omega) ;try rfl))) | (apply ops_n;(focus rfl);(focus ((try simp only [sPu]);omega));(focus (first | (left;simp (disch:=(try simp only [sPu]);omega);done) | (right;simp (disch:=(try simp only [sPu]);omega);done)))))
  obtain ⟨ts',u',hpm,hft1,hft2,hwm⟩:=msg_again (hok v hvm) (hk v hvm) hu
  refine ops_call cAg.1 (cAg.2 w6 S base _ cap v hvm (by omega) (fun w' h=>hgl w' (hbw6.trans ⟨h.os,h.tape,h.output,h.size,fun k hk=>h.block k (by omega)⟩)) hsr (fun sb h=>(hS sb h).2) hlimv (fun xs u r h=>by
    rw [hpm] at h
    cases h
    exact ⟨hft1,hft2,by rw [hwm];exact hlimv⟩)) (by simp (disch:=(try simp only [sPu]);omega)) ?_
  rw [hpm]
  rintro e w8 ⟨hb8,dv8,rfl,hown8⟩
  rw [hwm] at hown8
  refine ⟨_,rfl,?_⟩
  iterate 1 (first | (apply ops_1;(focus (simp (disch:=(try simp only [sPu]);omega) ;try rfl))) | (apply ops_y;(focus rfl);(focus ((try simp only [sPu]);omega));(focus (simp (disch:=(try simp only [sPu]);omega);done));(focus (simp (disch:=(try simp only [sPu]);omega) ;try rfl))) | (apply ops_n;(focus rfl);(focus ((try simp only [sPu]);omega));(focus (first | (left;simp (disch:=(try simp only [sPu]);omega);done) | (right;simp (disch:=(try simp only [sPu]);omega);done)))))
  refine oNo rfl (opw_extract (vs:=#[dv8,.bool true]) (v:=dv8) (by simp (disch:=(try simp only [sPu]);omega)) rfl ?_)
  refine oNo rfl (opw_extract (vs:=#[dv8,.bool true]) (v:=.bool true) (by simp (disch:=(try simp only [sPu]);omega)) rfl ?_)
  repeat (first | (apply ops_1;(focus (simp (disch:=(try simp only [sPu]);omega) ;try rfl))) | (apply ops_y;(focus rfl);(focus ((try simp only [sPu]);omega));(focus (simp (disch:=(try simp only [sPu]);omega);done));(focus (simp (disch:=(try simp only [sPu]);omega) ;try rfl))) | (apply ops_n;(focus rfl);(focus ((try simp only [sPu]);omega));(focus (first | (left;simp (disch:=(try simp only [sPu]);omega);done) | (right;simp (disch:=(try simp only [sPu]);omega);done)))))
  refine oNi ?_
  simp only [Exit.then]
  have hs8:=hb8.size
  have hbw8:Below w.heap.size w w8:=hbw6.trans ⟨hb8.os,hb8.tape,hb8.output,hb8.size,fun k hk=>hb8.block k (by omega)⟩
  refine SC.wp_seq (SC.wp_seq (SC.wp_reg ?_))
  repeat (first | (apply ops_1;(focus (simp (disch:=(try simp only [sPu]);omega) [hst];try rfl))) | (apply ops_y;(focus rfl);(focus ((try simp only [sPu]);omega));(focus (simp (disch:=(try simp only [sPu]);omega) [hst];done));(focus (simp (disch:=(try simp only [sPu]);omega) [hst];try rfl))) | (apply ops_n;(focus rfl);(focus ((try simp only [sPu]);omega));(focus (first | (left;simp (disch:=(try simp only [sPu]);omega) [hst];done) | (right;simp (disch:=(try simp only [sPu]);omega);done)))))
  refine oNi (SC.wp_cond (t:=(((wMsg v (flexAt flexO v) fs t.l t.u).length:Int) == 0)) (by simp (disch:=(try simp only [sPu]);omega)) ?_)
  by_cases hL:(wMsg v (flexAt flexO v) fs t.l t.u).length=0
  · rw [if_pos (by rw [beq_iff_eq];omega)]
    refine SC.wp_seq (SC.wp_reg ?_)
    repeat (first | (apply ops_1;(focus (simp (disch:=(try simp only [sPu]);omega) ;try rfl))) | (apply ops_y;(focus rfl);(focus ((try simp only [sPu]);omega));(focus (simp (disch:=(try simp only [sPu]);omega);done));(focus (simp (disch:=(try simp only [sPu]);omega) ;try rfl))) | (apply ops_n;(focus rfl);(focus ((try simp only [sPu]);omega));(focus (first | (left;simp (disch:=(try simp only [sPu]);omega);done) | (right;simp (disch:=(try simp only [sPu]);omega);done)))))
    refine oNi (SC.wp_ret ?_)
    simp only [Exit.then]
    exact ret_tmp hr (by simp [dPu,hd]) ⟨by simp (disch:=(try simp only [sPu]);omega),hbw8⟩
  rw [if_neg (by rw [beq_iff_eq];omega)]
  refine SC.wp_skip ?_
  simp only [Exit.then]
  obtain ⟨L,hLe⟩:∃ L,L=(wMsg v (flexAt flexO v) fs t.l t.u).length:=⟨_,rfl⟩
  obtain ⟨q,hq⟩:∃ q,q=at_ % L:=⟨_,rfl⟩
  have hqL:q < L:=by rw [hq];exact Nat.mod_lt _ (by omega)
  have hwat:IntKind.i64.wrap (at_:Int)=(at_:Int):=w64q (by omega) (by omega)
  have hmod:(at_:Int).tmod ((wMsg v (flexAt flexO v) fs t.l t.u).length:Int)=(q:Int):=by
    rw [Int.tmod_eq_emod_of_nonneg (by omega),hq,hLe]
    rfl
  have hmodN:at_ % (wMsg v (flexAt flexO v) fs t.l t.u).length=q:=by rw [hq,hLe]
  have hmodZ:(at_:Int) % ((wMsg v (flexAt flexO v) fs t.l t.u).length:Int)=(q:Int):=by rw [← hmodN];rfl
  have hL0:((wMsg v (flexAt flexO v) fs t.l t.u).length:Int) ≠ 0:=by omega
  have hqc:(0:Int)≤(q:Int)∧(q:Int)≤(cap:Int):=by have:=hcapL;omega
  refine SC.wp_seq (SC.wp_dreg hm (Below w8.heap.size w8.drew) [(0,true),(1,true),(3,true),(4,true),(5,true),(6,true),(7,true),(8,true),(9,true),(2,false),(10,false),(11,true),(12,true),(13,true),(14,true),(15,true)] (by rfl) (by rfl) (by decide) (Below.refl _ _) ?_)
  iterate 9 (first | (apply dr_1;(focus rfl);(focus (simp (disch:=(try simp only [sPu]);omega) [hst,k0,k2,hT4,hwat,hmod,hmodN,hmodZ,hL0,hL,hqc];try rfl))) | (apply dr_y;(focus rfl);(focus rfl);(focus ((try simp only [sPu]);omega));(focus (simp (disch:=(try simp only [sPu]);omega) [hst,k0,k2,hT4,hwat,hmod,hmodN,hmodZ,hL0,hL,hqc];done));(focus (simp (disch:=(try simp only [sPu]);omega) [hst,k0,k2,hT4,hwat,hmod,hmodN,hmodZ,hL0,hL,hqc];try rfl))) | (apply dr_n;(focus rfl);(focus rfl);(focus ((try simp only [sPu]);omega));(focus (first | (left;simp (disch:=(try simp only [sPu]);omega) [hst,k0,k2,hT4,hwat,hmod,hmodN,hmodZ,hL0,hL,hqc];done) | (right;simp (disch:=(try simp only [sPu]);omega);done)))))
  refine dreg_call (argsV:=#[.int .u8 (n:Int),.int .i64 (m:Int)]) rfl oVer (cVer w8.drew n m hn8 (by omega)) (by simp (disch:=(try simp only [sPu]);omega) [k0]) ?_
  rintro e w9 ⟨rfl,hw9⟩
  subst hw9
  refine ⟨_,rfl,Below.refl _ _,?_⟩
  rw [← hv]
  have hcut:=msg_cut (hok v hvm) (hk v hvm) hu (k:=q) (by omega)
  have hlq:((wMsg v (flexAt flexO v) fs t.l t.u).take q).length=q:=by rw [List.length_take];omega
  have hsr8:SrcAt w8.drew S base ((wMsg v (flexAt flexO v) fs t.l t.u).take q):=SrcAt.take (hsr.frame fun sb h=>hb8.block sb (hS sb h).2)
  have hc2:=cAg.2 w8.drew S base ((wMsg v (flexAt flexO v) fs t.l t.u).take q) cap v hvm (by show gb < w8.heap.size;omega) (fun w' h=>hgl w' (hbw8.trans ⟨h.os,h.tape,h.output,h.size,fun k hk=>h.block k (by show k < w8.heap.size;omega)⟩)) hsr8 (fun sb h=>by have:=(hS sb h).2;show sb < w8.heap.size;omega) (by rw [hlq];omega) (fun xs u r h=>by
    rw [hcut] at h
    cases h)
  rw [hcut,hlq] at hc2
  refine dreg_call (argsV:=#[.int .i64 (v:Int),.slice base q cap]) rfl cAg.1 hc2 (by simp (disch:=(try simp only [sPu]);omega)) ?_
  rintro e w10 ⟨hb10,rfl⟩
  refine ⟨_,rfl,hb10,?_⟩
  repeat (first | (apply dr_1;(focus rfl);(focus (simp (disch:=(try simp only [sPu]);omega) ;try rfl))) | (apply dr_y;(focus rfl);(focus rfl);(focus ((try simp only [sPu]);omega));(focus (simp (disch:=(try simp only [sPu]);omega);done));(focus (simp (disch:=(try simp only [sPu]);omega) ;try rfl))) | (apply dr_n;(focus rfl);(focus rfl);(focus ((try simp only [sPu]);omega));(focus (first | (left;simp (disch:=(try simp only [sPu]);omega);done) | (right;simp (disch:=(try simp only [sPu]);omega);done)))))
  refine dreg_nil ?_
  simp only [Exit.then]
  refine SC.wp_seq (SC.wp_reg ?_)
  repeat (first | (apply ops_1;(focus (simp (disch:=(try simp only [sPu]);omega) ;try rfl))) | (apply ops_y;(focus rfl);(focus ((try simp only [sPu]);omega));(focus (simp (disch:=(try simp only [sPu]);omega);done));(focus (simp (disch:=(try simp only [sPu]);omega) ;try rfl))) | (apply ops_n;(focus rfl);(focus ((try simp only [sPu]);omega));(focus (first | (left;simp (disch:=(try simp only [sPu]);omega);done) | (right;simp (disch:=(try simp only [sPu]);omega);done)))))
  refine oNi (SC.wp_ret ?_)
  try simp only [Exit.then]
  exact ret_tmp hr (by simp [dPu,hd]) ⟨by simp (disch:=(try simp only [sPu]);omega),hbw8.trans ⟨hb10.os,hb10.tape,hb10.output,hb10.size,fun k hk=>hb10.block k (by show k < w8.heap.size;omega)⟩⟩
end
end Go.Proofs.YtmapoohbongifaaGreatDoor.K
namespace Go.Proofs.YtmapoohbongifaaGreatDoor.K
open Go Go.RowKit Go.Proofs.YtmapoohbongifaaGreatDoor.T
set_option linter.unusedVariables false
set_option linter.unusedSimpArgs false
def isZTag:List Value→Bool
  | [.int .u32 0,.slice none 0 0]=>true
  | _=>false
theorem tagT_of {P:Program} {X:STy} (h1:aggB P X.Tg 2=true) (h2:P.underlying X.Tgs=some (.slice X.Tg)) (h3:zeroB P X.Tg isZTag=true) (h4:(match P.info? X.Tg with | some i=>i.size == 2 && decide (i.bytes≤1000) | none=>false)=true)
    (h5:P.built X.Tg []=some #[.int .u32 0,.slice none 0 0]):TagT P X:=by
  refine ⟨h1,h2,?_,h5⟩
  obtain ⟨i,z,q1,q2,q3⟩:=zeroB_of h3
  rw [q1] at h4
  simp only [Bool.and_eq_true,beq_iff_eq,decide_eq_true_eq] at h4
  refine ⟨i,z,q1,q2,?_,h4.1,h4.2⟩
  unfold isZTag at q3
  split at q3
  · rename_i e
    rw [← Array.toArray_toList (xs:=z.cells),e]
  · cases q3
end Go.Proofs.YtmapoohbongifaaGreatDoor.K
namespace Go.Proofs.YtmapoohbongifaaGreatDoor.K
open Go Go.RowKit Go.Proofs.YtmapoohbongifaaGreatDoor.T
attribute [local simp] eTm eCo pNo gTp gTn qv qcall vop iop
set_option linter.unusedVariables false
set_option linter.unusedSimpArgs false
set_option maxHeartbeats 4000000
def lateB (h:Hd):Ty→Bool
  | .prim .str=>decide (h.from_ < h.null)
  | .list _ _ _ _=>decide (h.from_ < h.null)
  | _=>false
def nVL (h:Hd) (ty:Ty):Nat:=if lateB h ty then (match ty with | .prim _=>3 | ty=>nV ty) else nV ty+(if h.enum then 1 else 0)
def nVsL:Fs→Nat
  | .nil=>0
  | .cons h ty r=>nVL h ty+nVsL r
def aVTL (c:Ctx) (h:Hd) (ty:Ty):Nat :=
  if lateB h ty then (match ty with | .list _ _ _ of=>6+aLenT c true+aLenT c false+5+aET c of+1 | _=>12+2 * aAppT c .str) else aVT c h ty
def aFTL (c:Ctx):Fs→Nat
  | .nil=>0
  | .cons h ty r=>vTmps h+aVTL c h ty+aFTL c r
def aLate (I:Ids) (c:Ctx) (tStr S p:Nat) (h:Hd) (v t b:Nat):Ty→SC
  | .list T E _ of =>
    .seq (aLoad S p h.idx h.typ v t) (.seq (.seq (.reg [mv (t+4) c.ver,bin .geq (t+5) I.tI16 (t+4) (.const (.int .i16 h.null))]) (.cond (.tmp (t+5)) (aLen I c true T v (t+6)) (aLen I c false T v (t+6+aLenT c true))))
      (aLoop T v (t+6+aLenT c true+aLenT c false) b (aET c of) (aElem I c T E v (v+1) (v+2) (t+6+aLenT c true+aLenT c false+5) (b+2) of) I.tInt))
  | _ =>
    .seq (aLoad S p h.idx h.typ v t) (.seq (.reg [mv (t+4) c.ver,bin .lss (t+5) I.tI16 (t+4) (.const (.int .i16 h.null))]) (.cond (.tmp (t+5))
      (.seq (.reg [⟨some (v+1),.assign (.const (.string ⟨#[]⟩)),none⟩]) (.seq (.seq (.reg [mv (t+6) v,bin .neq (t+7) h.typ (t+6) (.const (.pointer none))]) (.cond (.tmp (t+7)) (.reg [mv (t+8) v,nilc (t+9) (t+8),ld (t+10) tStr (t+9),asg (v+1) (t+10)]) .skip))
        (.seq (.reg [mv (t+11) (v+1),asg (v+2) (t+11)]) (aApp I c false .str (v+2) (t+12)))))
      (aApp I c true .str v (t+12+aAppT c .str))))
def aValL (I:Ids) (c:Ctx) (tStr S p:Nat) (h:Hd) (v t b:Nat) (ty:Ty):SC:=if lateB h ty then aLate I c tStr S p h v t b ty else aVal I c S p h v t b ty
def aFsL (I:Ids) (c:Ctx) (tStr S p v t b:Nat):Fs→List SC
  | .nil=>[]
  | .cons h ty r=>vCond I c h t (aValL I c tStr S p h v (t+vTmps h) b ty) :: aFsL I c tStr S p (v+nVL h ty) (t+vTmps h+aVTL c h ty) (b+nB ty) r
def okValL (P:Program) (I:Ids) (c:Ctx) (tU8 tStr:Nat) (h:Hd) (ty:Ty):Bool :=
  if lateB h ty then !h.enum && decide (0≤h.null) && oneB P h.typ && (match ty with
    | .list T E size of=>h.typ == T && sliceB P T E size && okLen I c true && okLen I c false && okElem P I c tU8 E size of
    | _=>ptrB P h.typ && oneB P tStr && okApp I c true .str && okApp I c false .str)
  else (decide (h.null < 0) || decide (h.null≤h.from_)) && okVal P I c tU8 h ty
def okFsL (P:Program) (I:Ids) (c:Ctx) (tU8 tStr S:Nat):Fs→Bool
  | .nil=>true
  | .cons h ty r=>fieldB P S h.idx h.off && okValL P I c tU8 tStr h ty && okFsL P I c tU8 tStr S r
def NnFs (ver:Int):Fs→List Tree→Prop
  | .nil,_=>True
  | .cons h ty r,ts=>(lateB h ty=true→h.has ver=true→ver < h.null→(ts.headD Tree.zero).null=false)∧NnFs ver r ts.tail
section
variable {P:Program} {a:Act} {w:World} {K:Act→World→Prop} {d:Option Tmp} {g:Option (Nat × Bool)}
theorem opw_neqnil_ptr {T:Nat} {x:Operand} {q:Option Addr} (hT:ptrB P T=true) (hx:a.eval x=.pointer q) (h:K (a.put d (.bool !q.isNone)) w) :
    opw P ⟨d,.binOp .neq T x (.const (.pointer none)) T,g⟩ a w K:=by
  unfold ptrB at hT
  split at hT <;> try (simp at hT;done)
  rename_i e hu
  refine oVa (by simp) (fun p hp=>?_) h
  have hr:(Op.equal T (.pointer q) (.pointer none)).run P w=.ok q.isNone w:=by
    have key:∀ dd,(Op.equalIn (dd+1) T (.pointer q) (.pointer none)).run P w=.ok q.isNone w:=by
      intro dd
      cases q <;> simp [Op.equalIn,run_underlying hu]
    exact key 9999
  simp only [execOp,hp,hx,eCo,binOp,eqGuard]
  simp [hr]
end
section
variable {X:Fix}
theorem verCond_ok {op:BinOp} {n:Int} {r:Bool} {t lo t':Nat} {x y:SC} {pre post:Act→Prop} {out:Bytes} (hX:X.ok) (hop:(op=.lss∧r=decide (X.ver < n))∨(op=.geq∧r=decide (X.ver ≥ n))) (hlo:lo≤X.T0) (hlv:X.c.ver < lo) (hlf:X.c.flex < lo) (ht:X.T0≤t) (htN:t+2≤X.N) (htt:t≤t')
    (hst:∀ a a',Same X a a' lo t→pre a→pre a') (hx:r=true→AFragP X x pre post lo t' out) (hy:r=false→AFragP X y pre post lo t' out) :
    AFragP X (.seq (.reg [mv t X.c.ver,bin op (t+1) X.I.tI16 t (.const (.int .i16 n))]) (.cond (.tmp (t+1)) x y)) pre post lo t out:=by
  intro a w xs Q hi hp hlen hQ
  have hsz:=hi.size
  have h1:=hX.oneT
  refine SC.wp_seq (SC.wp_reg (ops_mv (oNo rfl (opw_cmp (op:=op) (k:=.i16) (m:=X.ver) (n:=n) (r:=r) ?_ rfl ?_ (oNi ?_)))))
  · rw [eTm,gTp (by omega)]
    exact hi.ver
  · rcases hop with ⟨rfl,rfl⟩ | ⟨rfl,rfl⟩ <;> simp
  have hS:Same X a ((a.put (some t) (getT a X.c.ver)).put (some (t+1)) (.bool r)) lo t:=by
    intro s hs1 hs2
    simp (disch:=omega) [gTn]
  have hi':AInv X ((a.put (some t) (getT a X.c.ver)).put (some (t+1)) (.bool r)) w xs:=by
    refine hi.step hX (by simp [sPu]) (by simp [dPu]) hS hlv hlf ?_ (Below.refl _ _) hi.heap
    simp (disch:=omega) [gTn]
    exact hi.own
  refine SC.wp_cond (t:=r) (by simp (disch:=(try simp only [sPu]);omega) [eTm,gTp]) ?_
  cases r with
  | true =>
    rw [if_pos rfl]
    exact hx rfl _ w xs Q hi' (hst _ _ hS hp) hlen fun a' w' h1 h2 h3=>hQ a' w' h1 (hS.trans h2 (Nat.le_refl _) htt) h3
  | false =>
    rw [if_neg (by simp)]
    exact hy rfl _ w xs Q hi' (hst _ _ hS hp) hlen fun a' w' h1 h2 h3=>hQ a' w' h1 (hS.trans h2 (Nat.le_refl _) htt) h3
theorem aLateStr_ok (hX:X.ok) {tStr S p v t bk b o:Nat} {h:Hd} {tr:Tree} (hn0:0≤h.null) (hT:oneB X.P h.typ=true) (hpt:ptrB X.P h.typ=true) (hTs:oneB X.P tStr=true) (ha1:okApp X.I X.c true .str=true) (ha2:okApp X.I X.c false .str=true) (hS:fieldB X.P S h.idx h.off=true)
    (hH:HTy X.G X.w0 (· < X.B) X.ver X.flex (.prim .str) true b (o+h.off) tr) (hnn:X.ver < h.null→tr.null=false) (hb:b < X.B) (hp:p < v) (hp1:p ≠ 1) (hlv:X.c.ver < v) (hlf:X.c.flex < v) (hv2:2≤v) (hvT:v+3≤X.T0) (ht:X.T0≤t) (htN:t+(12+2 * aAppT X.c .str)≤X.N) :
    AFrag X (aLate X.I X.c tStr S p h v t bk (.prim .str)) (fun a=>getT a p=.pointer (some ⟨b,o,none⟩)) v t (wField X.ver X.flex h (.prim .str) tr):=by
  simp only [HTy,HPrim] at hH
  rw [if_neg (by decide)] at hH
  obtain ⟨u,hc,hpv⟩:=hH
  have hload:=aLoad_ok (X:=X) (S:=S) (p:=p) (f:=h.idx) (T:=h.typ) (v:=v) (t:=t) (off:=h.off) (b:=b) (o:=o) (u:=u) (lo:=v) hX (Nat.le_refl _) hlv hlf (by omega) (by omega) ht (by omega) hS hT hb hc
  have hone:=hX.oneT
  unfold aLate
  have hmid:AFrag X (.seq (.reg [mv (t+4) X.c.ver,bin .lss (t+5) X.I.tI16 (t+4) (.const (.int .i16 h.null))]) (.cond (.tmp (t+5))
      (.seq (.reg [⟨some (v+1),.assign (.const (.string ⟨#[]⟩)),none⟩]) (.seq (.seq (.reg [mv (t+6) v,bin .neq (t+7) h.typ (t+6) (.const (.pointer none))]) (.cond (.tmp (t+7)) (.reg [mv (t+8) v,nilc (t+9) (t+8),ld (t+10) tStr (t+9),asg (v+1) (t+10)]) .skip))
        (.seq (.reg [mv (t+11) (v+1),asg (v+2) (t+11)]) (aApp X.I X.c false .str (v+2) (t+12)))))
      (aApp X.I X.c true .str v (t+12+aAppT X.c .str)))) (fun a=>getT a v=u) (v+1) (t+4) (wField X.ver X.flex h (.prim .str) tr):=by
    refine verCond_ok (t':=t+6) (r:=decide (X.ver < h.null)) hX (.inl ⟨rfl,rfl⟩) (by omega) (by omega) (by omega) (by omega) (by omega) (by omega) (stable_slot (by omega) (by omega)) (fun hr=>?_) (fun hr=>?_)
    · have hlt:X.ver < h.null:=of_decide_eq_true hr
      have htn:=hnn hlt
      have hout:wField X.ver X.flex h (.prim .str) tr=wPrim X.flex false tr .str:=by
        have:h.isNull X.ver tr=false:=by simp [Hd.isNull,htn]
        simp only [wField,wTy,this]
      rw [hout]
      have hpv':∃ b' o' s,u=.pointer (some ⟨b',o',none⟩)∧b' < X.B∧X.w0.cell? ⟨b',o',none⟩=some (.string s)∧s.data.toList=tr.s∧tr.s.length≤most:=by
        simpa [PVal,htn] using hpv
      obtain ⟨b',o',s,rfl,hb',hcs,hs1,hs2⟩:=hpv'
      have hap:=aApp_ok (X:=X) (nul:=false) (k:=.str) (x:=v+2) (t:=t+12) (lo:=v+3) (tr:=tr) (v:=.string s) hX ha2 ⟨s,rfl,hs1,hs2⟩ (by omega) (by omega) (by omega) (by omega) (by omega) (by omega) (by omega)
      have q1:AFragP X (.reg [⟨some (v+1),.assign (.const (.string ⟨#[]⟩)),none⟩]) (fun a=>getT a v=.pointer (some ⟨b',o',none⟩)) (fun a=>getT a v=.pointer (some ⟨b',o',none⟩)) (v+1) (t+6) []:=by
        refine AFragP.quiet hX (by omega) (by omega) ?_
        intro a w xs K hi hpre hK
        have hsz:=hi.size
        refine oNo rfl (opw_assign (oNi ?_))
        refine hK _ (by simp [sPu]) (by simp [dPu]) ?_ ?_ ?_
        · intro s' hs1 hs2
          simp (disch:=omega) [gTn]
        · simp (disch:=omega) [gTn]
        · simp (disch:=omega) [gTn,hpre]
      have q2:AFragP X (.seq (.reg [mv (t+6) v,bin .neq (t+7) h.typ (t+6) (.const (.pointer none))]) (.cond (.tmp (t+7)) (.reg [mv (t+8) v,nilc (t+9) (t+8),ld (t+10) tStr (t+9),asg (v+1) (t+10)]) .skip)) (fun a=>getT a v=.pointer (some ⟨b',o',none⟩)) (fun a=>getT a (v+1)=.string s) (v+1) (t+6) []:=by
        intro a w xs Q hi hpre hlen hQ
        have hsz:=hi.size
        refine SC.wp_seq (SC.wp_reg (ops_mv (oNo rfl (opw_neqnil_ptr (q:=some ⟨b',o',none⟩) hpt (by rw [eTm,gTp (by omega)];exact hpre) (oNi ?_)))))
        simp only [Exit.then]
        refine SC.wp_cond (t:=true) (by rw [eTm,gTp (by simp only [sPu];omega)];rfl) ?_
        rw [if_pos rfl]
        refine SC.wp_reg (ops_mv (ops_nilc (ad:=⟨b',o',none⟩) (by simp (disch:=(try simp only [sPu]);omega) [gTp,gTn,hpre]) (ops_ld hTs (ad:=⟨b',o',none⟩) (v:=.string s) (by simp (disch:=(try simp only [sPu]);omega) [gTp,gTn]) (by rw [hi.below.cell hb'];exact hcs) (ops_asg (oNi ?_)))))
        refine hQ _ w (hi.step hX (lo:=v+1) (t:=t+6) (by simp [sPu]) (by simp [dPu]) ?_ (by omega) (by omega) ?_ (Below.refl _ _) hi.heap) ?_ ?_
        · intro s' hs1 hs2
          simp (disch:=omega) [gTn]
        · simp (disch:=omega) [gTn]
          exact hi.own
        · intro s' hs1 hs2
          simp (disch:=omega) [gTn]
        · simp (disch:=(try simp only [sPu]);omega) [gTp]
      have q3:AFragP X (.reg [mv (t+11) (v+1),asg (v+2) (t+11)]) (fun a=>getT a (v+1)=.string s) (fun a=>getT a (v+2)=.string s) (v+2) (t+11) []:=by
        refine AFragP.quiet hX (by omega) (by omega) ?_
        intro a w xs K hi hpre hK
        have hsz:=hi.size
        refine ops_mv (ops_asg (oNi ?_))
        refine hK _ (by simp [sPu]) (by simp [dPu]) ?_ ?_ ?_
        · intro s' hs1 hs2
          simp (disch:=omega) [gTn]
        · simp (disch:=omega) [gTn]
        · simp (disch:=(try simp only [sPu]);omega) [gTp,hpre]
      have h3:=q3.seq hap (fun a a' _ _ hq=>hq) (by omega) (by omega)
      have h2:=q2.seq h3 (fun a a' _ _ hq=>hq) (by omega) (by omega)
      exact q1.seq h2 (fun a a' _ _ hq=>hq) (Nat.le_refl _) (Nat.le_refl _)
    · have hge:h.null≤X.ver:=by have:=of_decide_eq_false hr;omega
      have hout:wField X.ver X.flex h (.prim .str) tr=wPrim X.flex (true && tr.null) tr .str:=by
        have:h.isNull X.ver tr=tr.null:=by simp [Hd.isNull,hn0,hge]
        simp only [wField,wTy,this,Bool.true_and]
      rw [hout]
      exact (aApp_ok (X:=X) (nul:=true) (k:=.str) (x:=v) (t:=t+12+aAppT X.c .str) (lo:=v+1) (tr:=tr) (v:=u) hX ha1 hpv (by omega) (by omega) (by omega) (by omega) (by omega) (by omega) (by omega)).mono (fun _ h=>h) (fun _ h=>h) (Nat.le_refl _) (by omega)
  exact hload.seq hmid (fun a a' _ _ hq=>hq) (by omega) (by omega)
theorem aLateList_ok (hX:X.ok) {tStr T E size S p v t bk b o:Nat} {of:Ty} {h:Hd} {tr:Tree} (hn0:0≤h.null) (hTT:h.typ=T) (hT1:oneB X.P T=true) (hsl:sliceB X.P T E size=true) (hl1:okLen X.I X.c true=true) (hl2:okLen X.I X.c false=true) (hel:okElem X.P X.I X.c X.tU8 E size of=true) (hS:fieldB X.P S h.idx h.off=true)
    (hH:HTy X.G X.w0 (· < X.B) X.ver X.flex (.list T E size of) true b (o+h.off) tr) (hnn:X.ver < h.null→tr.null=false) (hb:b < X.B) (hp:p < v) (hp1:p ≠ 1) (hlv:X.c.ver < v) (hlf:X.c.flex < v) (hv2:2≤v) (hvT:v+nV (.list T E size of)≤X.T0) (ht:X.T0≤t) (htN:t+(6+aLenT X.c true+aLenT X.c false+5+aET X.c of+1)≤X.N) :
    AFrag X (aLate X.I X.c tStr S p h v t bk (.list T E size of)) (fun a=>getT a p=.pointer (some ⟨b,o,none⟩)) v t (wField X.ver X.flex h (.list T E size of) tr):=by
  have hnul:h.isNull X.ver tr=tr.null:=by
    by_cases hlt:X.ver < h.null
    · simp [Hd.isNull,hnn hlt]
    · simp [Hd.isNull,hn0,show h.null≤X.ver by omega]
  have hwf:wField X.ver X.flex h (.list T E size of) tr=wTy X.ver X.flex (.list T E size of) tr.null tr:=by simp only [wField,hnul]
  rw [hwf]
  simp only [nV] at hvT
  simp only [HTy,Bool.true_and] at hH
  obtain ⟨base,cap,hc,hH⟩:=hH
  have hload:=aLoad_ok (X:=X) (S:=S) (p:=p) (f:=h.idx) (T:=h.typ) (v:=v) (t:=t) (off:=h.off) (b:=b) (o:=o) (lo:=v) hX (Nat.le_refl _) hlv hlf (by omega) (by omega) ht (by omega) hS (by rw [hTT];exact hT1) hb hc
  unfold aLate
  generalize hnl:tr.null=nl at hc hH hload hnn ⊢
  have hisn:base.isNone=nl∧(if nl=true then 0 else tr.l.length)≤most:=by
    cases nl with
    | true =>
      simp only [if_true] at hH ⊢
      exact ⟨by simp [hH],Nat.zero_le _⟩
    | false =>
      simp only [Bool.false_eq_true,if_false] at hH ⊢
      refine ⟨?_,hH.1⟩
      have:=hH.2.1 trivial
      cases base <;> simp_all
  have hlen2:AFragP X (.seq (.reg [mv (t+4) X.c.ver,bin .geq (t+5) X.I.tI16 (t+4) (.const (.int .i16 h.null))]) (.cond (.tmp (t+5)) (aLen X.I X.c true T v (t+6)) (aLen X.I X.c false T v (t+6+aLenT X.c true)))) (fun a=>getT a v=.slice base (if nl=true then 0 else tr.l.length) cap) (fun a=>getT a v=.slice base (if nl=true then 0 else tr.l.length) cap) (v+1) (t+4) (counted X.flex nl (if nl=true then 0 else tr.l.length) 4):=by
    refine verCond_ok (t':=t+6) (r:=decide (X.ver ≥ h.null)) hX (.inr ⟨rfl,rfl⟩) (by omega) (by omega) (by omega) (by omega) (by omega) (by omega) (stable_slot (by omega) (by omega)) (fun hr=>?_) (fun hr=>?_)
    · have hlenOk:=aLen_ok (X:=X) (nul:=true) (T:=T) (E:=E) (n:=size) (v:=v) (t:=t+6) (lo:=v+1) (cnt:=if nl=true then 0 else tr.l.length) (cap:=cap) (base:=base) hX (by omega) (by omega) (by omega) (by omega) (by omega) (by omega) (by omega) hsl hl1 hisn.2
      rw [Bool.true_and,hisn.1] at hlenOk
      exact (hlenOk.keep (stable_slot (by omega) (by omega))).mono (fun _ h=>h) (fun _ h=>h.1) (by omega) (Nat.le_refl _)
    · have hlt:X.ver < h.null:=by have:=of_decide_eq_false hr;omega
      have e:nl=false:=hnn hlt
      have hlenOk:=aLen_ok (X:=X) (nul:=false) (T:=T) (E:=E) (n:=size) (v:=v) (t:=t+6+aLenT X.c true) (lo:=v+1) (cnt:=if nl=true then 0 else tr.l.length) (cap:=cap) (base:=base) hX (by omega) (by omega) (by omega) (by omega) (by omega) (by omega) (by omega) hsl hl2 hisn.2
      rw [Bool.false_and] at hlenOk
      subst e
      exact (hlenOk.keep (stable_slot (by omega) (by omega))).mono (fun _ h=>h) (fun _ h=>h.1) (Nat.le_refl _) (Nat.le_add_right _ _)
  have hloop:AFrag X (aLoop T v (t+6+aLenT X.c true+aLenT X.c false) bk (aET X.c of) (aElem X.I X.c T E v (v+1) (v+2) (t+6+aLenT X.c true+aLenT X.c false+5) (bk+2) of) X.I.tInt)
      (fun a=>getT a v=.slice base (if nl=true then 0 else tr.l.length) cap) v (t+6+aLenT X.c true+aLenT X.c false) ((if nl=true then [] else tr.l).flatMap (fun x=>wTy X.ver X.flex of false x)):=by
    have hnV:1≤nV of:=by cases of <;> simp [nV] <;> omega
    rw [← getElem?_map_flatten]
    have hcnt:(if nl=true then 0 else tr.l.length)=((if nl=true then [] else tr.l).map (fun x=>wTy X.ver X.flex of false x)).length:=by split <;> simp
    rw [hcnt]
    refine aLoop_ok (X:=X) (lo:=v) hX (Nat.le_refl _) (by omega) (by omega) hlv hlf (by omega) (by omega) hsl (by rw [← hcnt];exact hisn.2) ?_
    intro i out hout
    rw [← hcnt]
    simp only [List.getElem?_map,Option.map_eq_some_iff] at hout
    obtain ⟨x,hx,rfl⟩:=hout
    cases nl with
    | true=>simp at hx
    | false =>
      simp only [Bool.false_eq_true,if_false] at hx hH ⊢
      obtain ⟨-,-,hH⟩:=hH
      have hlt:i < tr.l.length:=(List.getElem?_eq_some_iff.1 hx).1
      rcases hH with ⟨rfl,hnil⟩ | ⟨b',o',rfl,hF,hels⟩
      · rw [hnil] at hlt
        exact absurd hlt (Nat.not_lt_zero _)
      · have hE:=aElem_ok hX of T E size v (v+1) (v+2) (t+6+aLenT X.c true+aLenT X.c false+5) (bk+2) b' o' cap tr.l.length i x hel hsl (hels i x hx) hF hlt (by omega) (by omega) (by omega) (by omega) (by omega) (by omega) (by omega) (by omega) (by omega) (by omega)
        rw [seqs_cons (aElem_ne _ _ _ _ _ _ _ _ _ _)]
        have hreg:AFragP X (.reg [mv (t+6+aLenT X.c true+aLenT X.c false+4) (t+6+aLenT X.c true+aLenT X.c false+2),asg (v+1) (t+6+aLenT X.c true+aLenT X.c false+4)])
            (fun a=>getT a v=.slice (some ⟨b',o',none⟩) tr.l.length cap∧getT a (t+6+aLenT X.c true+aLenT X.c false+2)=.int .i64 (i:Int))
            (fun a=>getT a v=.slice (some ⟨b',o',none⟩) tr.l.length cap∧getT a (v+1)=.int .i64 (i:Int)) (v+1) (t+6+aLenT X.c true+aLenT X.c false+4) []:=by
          refine AFragP.quiet hX (by omega) (by omega) ?_
          intro a w xs K hi hpre hK
          have hsz:=hi.size
          refine ops_mv (ops_asg (oNi ?_))
          refine hK _ (by simp [sPu]) (by simp [dPu]) ?_ ?_ ⟨?_,?_⟩
          · intro s hs1 hs2
            simp (disch:=omega) [gTn]
          · simp (disch:=omega) [gTn]
          · simp (disch:=omega) [gTn]
            exact hpre.1
          · simp (disch:=(try simp only [sPu]);omega) [gTp]
            exact hpre.2
        exact hreg.seq hE (fun a a' _ _ hq=>hq) (by omega) (by omega)
  have hout:wTy X.ver X.flex (.list T E size of) nl tr=counted X.flex nl (if nl=true then 0 else tr.l.length) 4 ++ (if nl=true then [] else tr.l).flatMap (fun x=>wTy X.ver X.flex of false x):=by
    simp only [wTy]
    cases nl with
    | true=>simp
    | false =>
      simp only [Bool.false_eq_true,if_false] at hH ⊢
      rw [List.take_of_length_le hH.1]
  rw [hout]
  have h2:=(hlen2.mono (lo':=v) (t':=t+4) (fun _ h=>h) (fun _ h=>h) (by omega) (Nat.le_refl _)).seq hloop (fun a a' _ _ hq=>hq) (Nat.le_refl _) (by omega)
  exact hload.seq h2 (fun a a' _ _ hq=>hq) (Nat.le_refl _) (by omega)
theorem aFsL_ok (hX:X.ok) {tStr:Nat}:∀ (fs:Fs) (S p v t bk b o:Nat) (ts:List Tree),okFsL X.P X.I X.c X.tU8 tStr S fs=true→HFs X.G X.w0 (· < X.B) X.ver X.flex fs b o ts→NnFs X.ver fs ts→b < X.B→p < v→p ≠ 1→X.c.ver < v→X.c.flex < v→2≤v →
    v+nVsL fs≤X.T0→X.T0≤t→t+aFTL X.c fs≤X.N→AList X (fun a=>getT a p=.pointer (some ⟨b,o,none⟩)) v t (aFsL X.I X.c tStr S p v t bk fs) (wFs X.ver X.flex fs ts)
  | .nil,S,p,v,t,bk,b,o,ts,hok,hH,hnn,hb,hp,hp1,hlv,hlf,hv2,hvT,ht,htN=>by
    simp only [aFsL,wFs]
    exact .nil
  | .cons h ty r,S,p,v,t,bk,b,o,ts,hok,hH,hnn,hb,hp,hp1,hlv,hlf,hv2,hvT,ht,htN=>by
    unfold okFsL at hok
    simp only [Bool.and_eq_true] at hok
    obtain ⟨⟨hS,hval⟩,hrest⟩:=hok
    simp only [HFs] at hH
    simp only [NnFs] at hnn
    simp only [nVsL] at hvT
    simp only [aFTL] at htN
    rw [wFs_cons]
    unfold aFsL
    refine .cons ?_ ?_
    · refine vCond_ok hX (by omega) hlv hlf ht (by omega) (stable_slot hp hp1) (fun hh=>?_)
      have hfrom:h.from_≤X.ver:=by
        simp only [Hd.has,Bool.and_eq_true,decide_eq_true_eq] at hh
        exact hh.1
      unfold okValL at hval
      unfold aValL
      unfold nVL at hvT
      unfold aVTL at htN
      by_cases hl:lateB h ty=true
      · rw [if_pos hl] at hval hvT htN ⊢
        simp only [Bool.and_eq_true,decide_eq_true_eq] at hval
        obtain ⟨⟨⟨he,hn0⟩,hone⟩,hm⟩:=hval
        have hHt:=hH.1 hh
        rw [decide_eq_true hn0] at hHt
        cases ty with
        | prim k =>
          have hk:k=.str:=by cases k <;> simp_all [lateB]
          subst hk
          simp only [Bool.and_eq_true] at hm
          obtain ⟨⟨⟨m1,m2⟩,m3⟩,m4⟩:=hm
          exact (aLateStr_ok hX hn0 hone m1 m2 m3 m4 hS hHt (hnn.1 hl hh) hb hp hp1 hlv hlf hv2 (by simp only at hvT;omega) (by omega) (by simp only at htN;omega)).mono (fun _ h=>h) (fun _ h=>h) (Nat.le_refl _) (Nat.le_refl _)
        | list T E size of =>
          simp only [Bool.and_eq_true,beq_iff_eq] at hm
          obtain ⟨⟨⟨⟨m1,m2⟩,m3⟩,m4⟩,m5⟩:=hm
          exact (aLateList_ok hX hn0 m1 (by rw [← m1];exact hone) m2 m3 m4 m5 hS hHt (hnn.1 hl hh) hb hp hp1 hlv hlf hv2 (by simp only at hvT;omega) (by omega) (by simp only at htN;omega)).mono (fun _ h=>h) (fun _ h=>h) (Nat.le_refl _) (Nat.le_refl _)
        | struct _ _ _ _ _=>simp [lateB] at hl
      · rw [if_neg hl] at hval hvT htN ⊢
        simp only [Bool.and_eq_true,Bool.or_eq_true,decide_eq_true_eq] at hval
        exact (aVal_ok hX ty S p h v (t+vTmps h) bk b o (ts.headD Tree.zero) hval.2 hS (hval.1.imp id fun e=>Int.le_trans e hfrom) (hH.1 hh) hb hp hp1 hlv hlf hv2 (by omega) (by omega) (by omega)).mono (fun _ h=>h) (fun _ h=>h) (Nat.le_refl _) (Nat.le_refl _)
    · exact (aFsL_ok hX r S p (v+nVL h ty) (t+vTmps h+aVTL X.c h ty) (bk+nB ty) b o ts.tail hrest hH.2 hnn.2 hb (by omega) hp1 (by omega) (by omega) (by omega) (by omega) (by omega) (by omega)).mono (by omega) (by omega)
end
def aTopL (I:Ids) (tStr S t:Nat) (flex:Option Int) (tags:Option (Nat × Nat)) (fs:Fs):SC :=
  seqs ([.reg [⟨some 4,.assign (.const (.slice none 0 0)),none⟩],aLoad S 0 0 I.tI16 5 t,.reg [mv (t+4) 5]] ++ (flexPart I t flex ++
    ((aFsL I (ctxOf flex) tStr S 0 (v0Of flex) (t1Of t flex) 0 fs ++ aTagsL I (ctxOf flex) S 0 tags (t1Of t flex+aFTL (ctxOf flex) fs)) ++
    [.reg [mv (t1Of t flex+aFTL (ctxOf flex) fs+tagsT tags) 1,asg 4 (t1Of t flex+aFTL (ctxOf flex) fs+tagsT tags)],.ret])))
section
variable {X:Fix}
theorem top_midL {tStr:Nat} {S b o:Nat} {tags:Option (Nat × Nat)} {fs:Fs} {v t:Nat} {ts:List Tree} {u:List (Nat × Bytes)} {Q:Exit→Act→World→Prop} {a:Act} {w:World} (hX:X.ok) (hvT:v+nVsL fs≤X.T0) (ht:X.T0≤t) (htN:t+aFTL X.c fs+tagsT tags+1≤X.N)
    (hlv:X.c.ver < v) (hlf:X.c.flex < v) (hv:5 < v) (hb:b < X.B) (htags:okTags X.P X.I X.c S tags=true) (hfs:okFsL X.P X.I X.c X.tU8 tStr S fs=true)
    (hH:HFs X.G X.w0 (· < X.B) X.ver X.flex fs b o ts) (hnn:NnFs X.ver fs ts) (hT:TagsAt X.G X.w0 (· < X.B) X.flex b o tags u) (hi:AInv X a w []) (hp:getT a 0=.pointer (some ⟨b,o,none⟩))
    (hlim:(wFs X.ver X.flex fs ts ++ wTags X.flex u).length≤lim)
    (hQ:∀ a' w' dv,a'.defers=[]→getT a' 4=dv→Own X.tU8 w' X.B dv (wFs X.ver X.flex fs ts ++ wTags X.flex u)→Below X.B X.w0 w'→Q .ret a' w') :
    (seqs ((aFsL X.I X.c tStr S 0 v t 0 fs ++ aTagsL X.I X.c S 0 tags (t+aFTL X.c fs)) ++ [.reg [mv (t+aFTL X.c fs+tagsT tags) 1,asg 4 (t+aFTL X.c fs+tagsT tags)],.ret])).wp X.P Q a w:=by
  have h1:=hX.oneT
  have hA:=aFsL_ok (tStr:=tStr) hX fs S 0 v t 0 b o ts hfs hH hnn hb (by omega) (by omega) hlv hlf (by omega) hvT ht (by omega)
  have hTg:=aTagsL_ok (X:=X) (S:=S) (p:=0) (t:=t+aFTL X.c fs) (b:=b) (o:=o) (lo:=v) (u:=u) hX (by omega) hlv hlf (by omega) (by omega) (by omega) (by omega) hb htags hT
  refine (hA.append (hTg.mono (Nat.le_refl _) (by omega))).wp_append (by simp) (stable_slot (by omega) (by omega)) a w [] hi hp (by simpa using hlim) ?_
  intro a' w' hi' _
  have hsz:=hi'.size
  rw [List.nil_append] at hi'
  refine SC.wp_seq (SC.wp_reg (ops_mv (ops_asg (oNi ?_))))
  refine SC.wp_ret (hQ _ _ (getT a' 1) (by simp [dPu,hi'.defers]) ?_ hi'.own hi'.below)
  rw [gTp (by simp only [sPu];omega),gTp (by omega)]
end
def okTopL (P:Program) (I:Ids) (tU8 tStr S t N:Nat) (flex:Option Int) (tags:Option (Nat × Nat)) (fs:Fs):Bool :=
  decide (v0Of flex+nVsL fs≤t) && decide (t1Of t flex+aFTL (ctxOf flex) fs+tagsT tags+1≤N) && fieldB P S 0 0 && oneB P I.tI16 && okTags P I (ctxOf flex) S tags && okFsL P I (ctxOf flex) tU8 tStr S fs
theorem appendToL_calls {tStr:Nat} {P:Program} {I:Ids} {tU8:Nat} {G:List (Nat × Bytes)→Prop} {f S t:Nat} {fn:Func} {flex:Option Int} {tags:Option (Nat × Nat)} {fs:Fs} (hka:KA G P I tU8)
    (hf:P.funcs[f]?=some fn) (hb:fn.body.map strip=some (aTopL I tStr S t flex tags fs)) (hr:fn.results=#[.tmp 4]) (hok:okTopL P I tU8 tStr S t fn.ntmps flex tags fs=true)
    (w:World) (b o:Nat) (ver:Int) (ts:List Tree) (u:List (Nat × Bytes)) (hbB:b < w.heap.size) (hver:w.cell? ⟨b,o,none⟩=some (.int .i16 ver)) (hv0:0≤ver)
    (hH:HFs G w (· < w.heap.size) ver (flexAt flex ver) fs b o ts) (hnn:NnFs ver fs ts) (hT:TagsAt G w (· < w.heap.size) (flexAt flex ver) b o tags u)
    (hlim:(wFs ver (flexAt flex ver) fs ts ++ wTags (flexAt flex ver) u).length≤lim) :
    Calls P f #[.pointer (some ⟨b,o,none⟩),.slice none 0 0] w fun e w'=>∃ dv,e=.returned dv∧Own tU8 w' w.heap.size dv (wFs ver (flexAt flex ver) fs ts ++ wTags (flexAt flex ver) u)∧Below w.heap.size w w':=by
  unfold okTopL at hok
  simp only [Bool.and_eq_true,decide_eq_true_eq] at hok
  obtain ⟨⟨⟨⟨⟨h1,h2⟩,h3⟩,h4⟩,h5⟩,h6⟩:=hok
  obtain ⟨c,hc,hs⟩:∃ c,fn.body=some c∧strip c=aTopL I tStr S t flex tags fs:=by
    cases hc:fn.body with
    | none=>simp [hc] at hb
    | some c=>exact ⟨c,rfl,by simpa [hc] using hb⟩
  refine calls_of_wp hf hc ?_
  generalize hR:bodyPost P fn _=Q
  suffices h:(aTopL I tStr S t flex tags fs).wp P Q { tmps:=#[.pointer (some ⟨b,o,none⟩),.slice none 0 0] ++ Array.replicate (fn.ntmps - 2) undef,defers:=[] } w from h c hs
  have hQ:∀ a w' dv,a.defers=[]→getT a 4=dv→Own tU8 w' w.heap.size dv (wFs ver (flexAt flex ver) fs ts ++ wTags (flexAt flex ver) u)→Below w.heap.size w w'→Q .ret a w':=by
    intro a w' dv hd h4 ho hbl
    subst hR
    exact bodyPost_ret (results_tmp hr _ _ _) hd ⟨_,rfl,by rw [← h4] at ho;exact ho,hbl⟩
  clear hR hs hc hb hf hr
  have hown0:Own tU8 w w.heap.size (.slice none 0 0) []:=World.ownsRow_nil _ _ _ _
  have ht5:6≤t∧t+6≤fn.ntmps:=by cases flex <;> simp [v0Of,t1Of] at h1 h2 <;> omega
  generalize ha0:({ tmps:=#[.pointer (some ⟨b,o,none⟩),.slice none 0 0] ++ Array.replicate (fn.ntmps - 2) undef,defers:=[] }:Act)=a0
  have h00:getT a0 0=.pointer (some ⟨b,o,none⟩):=by rw [← ha0];simp [getT,Array.getD]
  have h01:getT a0 1=.slice none 0 0:=by
    rw [← ha0]
    simp only [getT,Array.getD_eq_getD_getElem?]
    rw [Array.getElem?_append_left (by simp)]
    rfl
  have hd0:a0.defers=[]:=by rw [← ha0]
  have hs0:a0.tmps.size=fn.ntmps:=by rw [← ha0];simp;omega
  clear ha0
  have fin:∀ a1:Act,a1.tmps.size=fn.ntmps→a1.defers=[]→getT a1 0=.pointer (some ⟨b,o,none⟩)→getT a1 1=.slice none 0 0→getT a1 5=.int .i16 ver →
      (seqs (flexPart I t flex ++ ((aFsL I (ctxOf flex) tStr S 0 (v0Of flex) (t1Of t flex) 0 fs ++ aTagsL I (ctxOf flex) S 0 tags (t1Of t flex+aFTL (ctxOf flex) fs)) ++
        [.reg [mv (t1Of t flex+aFTL (ctxOf flex) fs+tagsT tags) 1,asg 4 (t1Of t flex+aFTL (ctxOf flex) fs+tagsT tags)],.ret]))).wp P Q a1 w:=by
    intro a1 hs1 hd1 h10 h11 h15
    cases flex with
    | none =>
      simp only [v0Of,t1Of,ctxOf,flexAt,flexPart,List.nil_append] at *
      let X:Fix:=⟨P,I,tU8,G,⟨5,5,true⟩,w,w.heap.size,ver,false,t,fn.ntmps⟩
      have hX:X.ok:=⟨hka,(by omega:(5:Nat) ≠ 1),(by omega:(5:Nat) ≠ 1),(by omega:5 < t),(by omega:5 < t),(by omega:1 < t),fun _=>rfl,Nat.le_refl _,hv0⟩
      exact top_midL (tStr:=tStr) (X:=X) hX h1 (by show t≤t+5;omega) h2 (by show 5 < 6;omega) (by show 5 < 6;omega) (by omega) hbB h5 h6 hH hnn hT
        ⟨hs1,hd1,h15,(by intro h;cases h),(by rw [h11];exact hown0),Below.refl _ _,Nat.le_refl _⟩ h10 hlim hQ
    | some n =>
      simp only [v0Of,t1Of,ctxOf,flexAt,flexPart] at *
      rw [List.cons_append,seqs_cons (by simp)]
      refine SC.wp_seq (SC.wp_reg (ops_mv (oNo rfl (opw_cmp (op:=.geq) (k:=.i16) (m:=ver) (n:=n) (r:=decide (n≤ver)) ?_ rfl (by simp) (ops_asg (oNi ?_))))))
      · rw [eTm,gTp (by omega)]
        exact h15
      rw [List.cons_append,List.nil_append,seqs_cons (by simp)]
      refine SC.wp_seq (SC.wp_reg (ops_mv (oNi ?_)))
      let X:Fix:=⟨P,I,tU8,G,⟨5,6,false⟩,w,w.heap.size,ver,decide (n≤ver),t,fn.ntmps⟩
      have hX:X.ok:=⟨hka,(by omega:(5:Nat) ≠ 1),(by omega:(6:Nat) ≠ 1),(by omega:5 < t),(by omega:6 < t),(by omega:1 < t),(fun h=>by cases h),Nat.le_refl _,hv0⟩
      refine top_midL (tStr:=tStr) (X:=X) hX h1 (by show t≤t+8;omega) h2 (by show 5 < 7;omega) (by show 6 < 7;omega) (by omega) hbB h5 h6 hH hnn hT
        ⟨?_,?_,?_,?_,?_,Below.refl _ _,Nat.le_refl _⟩ ?_ hlim hQ
      · simp [sPu,hs1];rfl
      · simp [dPu,hd1]
      · show getT _ 5=_
        simp (disch:=omega) [gTn]
        exact h15
      · intro _
        show getT _ 6=_
        simp (disch:=(try simp only [sPu]);omega) [gTp,gTn]
        rfl
      · simp (disch:=omega) [gTn]
        rw [h11];exact hown0
      · simp (disch:=omega) [gTn]
        exact h10
  obtain ⟨rest,hrest⟩:∃ rest,rest=(flexPart I t flex ++ ((aFsL I (ctxOf flex) tStr S 0 (v0Of flex) (t1Of t flex) 0 fs ++ aTagsL I (ctxOf flex) S 0 tags (t1Of t flex+aFTL (ctxOf flex) fs)) ++
        [.reg [mv (t1Of t flex+aFTL (ctxOf flex) fs+tagsT tags) 1,asg 4 (t1Of t flex+aFTL (ctxOf flex) fs+tagsT tags)],.ret])):=⟨_,rfl⟩
  have htop:aTopL I tStr S t flex tags fs=seqs (.reg [⟨some 4,.assign (.const (.slice none 0 0)),none⟩] :: aLoad S 0 0 I.tI16 5 t :: .reg [mv (t+4) 5] :: rest):=by rw [hrest];rfl
  have hne:rest ≠ []:=by rw [hrest];simp
  rw [← hrest] at fin
  clear hrest
  rw [htop,seqs_cons (by simp)]
  refine SC.wp_seq (SC.wp_reg (oNo rfl (opw_assign (oNi ?_))))
  rw [eCo,seqs_cons (by simp)]
  refine SC.wp_seq (SC.wp_reg (ops_mv (ops_nilc (ad:=⟨b,o,none⟩) ?_ (ops_fa h3 (b:=b) (o:=o) (by rw [gTp (by simp only [sPu];omega)]) ?_))))
  · rw [gTp (by simp only [sPu];omega),gTn (by omega)]
    exact h00
  refine ops_ld h4 (ad:=⟨b,o+0,none⟩) (v:=.int .i16 ver) (by rw [gTp (by simp only [sPu];omega)]) (by rw [Nat.add_zero];exact hver) (ops_asg (oNi ?_))
  rw [seqs_cons hne]
  refine SC.wp_seq (SC.wp_reg (ops_mv (oNi ?_)))
  refine fin _ (by simp [sPu,hs0]) (by simp [dPu,hd0]) ?_ ?_ ?_
  · simp (disch:=omega) [gTn,h00]
  · simp (disch:=omega) [gTn,h01]
  · simp (disch:=(try simp only [sPu]);omega) [gTp,gTn]
end Go.Proofs.YtmapoohbongifaaGreatDoor.K
namespace Go.Proofs.YtmapoohbongifaaGreatDoor.K
open Go Go.RowKit Go.Proofs.YtmapoohbongifaaGreatDoor.T
set_option linter.unusedVariables false
set_option linter.unusedSimpArgs false
set_option maxHeartbeats 4000000
theorem pTy_nn {ver:Int} {flex:Bool} {ty:Ty} {b r:Bytes} {x:Tree} (h:pTy ver flex ty false b=some (x,r)):x.null=false:=by
  cases ty with
  | prim k =>
    cases k <;> simp only [pTy,pPrim,Bool.false_and,Bool.false_eq_true,if_false,Bool.not_false,Bool.true_and] at h
    all_goals obtain ⟨y,r1,h1,h2⟩:=rThen_some h
    case str=>obtain ⟨z,r2,h3,h4⟩:=rThen_some h2;obtain ⟨rfl,rfl⟩:=rOk_some h4;rfl
    case bytes =>
      split at h2
      · obtain ⟨rfl,rfl⟩:=rOk_some h2;rfl
      · obtain ⟨z,r2,h3,h4⟩:=rThen_some h2;obtain ⟨rfl,rfl⟩:=rOk_some h4;rfl
    all_goals (obtain ⟨rfl,rfl⟩:=rOk_some h2;rfl)
  | list _ _ _ of =>
    simp only [pTy,Bool.false_and,Bool.false_eq_true,if_false] at h
    obtain ⟨y,r1,h1,h2⟩:=rThen_some h
    obtain ⟨z,r2,h3,h4⟩:=rThen_some h2
    obtain ⟨rfl,rfl⟩:=rOk_some h4
    rfl
  | struct _ _ _ _ fs =>
    simp only [pTy,Bool.false_and,Bool.false_eq_true,if_false] at h
    obtain ⟨y,r1,h1,h2⟩:=rThen_some h
    obtain ⟨z,r2,h3,h4⟩:=rThen_some h2
    obtain ⟨u,r3,h5,h6⟩:=rThen_some h4
    obtain ⟨rfl,rfl⟩:=rOk_some h6
    rfl
theorem nulAt_late {ver:Int} {h:Hd} {ty:Ty} (hl:lateB h ty=true) (hv:ver < h.null):nulAt ver h ty=false:=by
  cases ty with
  | struct _ _ _ _ _=>simp [lateB] at hl
  | prim k=>simp [nulAt];omega
  | list _ _ _ _=>simp [nulAt];omega
theorem pFs_nn {ver:Int} {flex:Bool}:∀ (fs:Fs) {b r:Bytes} {xs:List Tree},pFs ver flex fs b=some (xs,r)→NnFs ver fs xs
  | .nil,_,_,_,_=>trivial
  | .cons h ty rs,b,r,xs,hp=>by
    simp only [pFs] at hp
    obtain ⟨x,r1,h1,h2⟩:=rThen_some hp
    obtain ⟨ys,r2,h3,h4⟩:=rThen_some h2
    obtain ⟨rfl,rfl⟩:=rOk_some h4
    refine ⟨fun hl hh hv=>?_,pFs_nn rs h3⟩
    rw [if_pos hh,nulAt_late hl hv] at h1
    exact pTy_nn h1
def rGetTo (f v t T:Nat):SC:=.reg [cal t f [7],⟨none,.store T (.tmp v) (.tmp t),none⟩]
def rTwo (t:Nat) (g1 g2 g3 g4:Nat→SC):SC :=
  .seq (.reg [mv t 9]) (.cond (.tmp t) (.seq (.reg [mv (t+1) 2]) (.cond (.tmp (t+1)) (g1 (t+2)) (g2 (t+3)))) (.seq (.reg [mv (t+4) 2]) (.cond (.tmp (t+4)) (g3 (t+5)) (g4 (t+6)))))
def rVL (h:Hd) (ty:Ty):Nat:=match ty with | .prim .str=>if lateB h ty then 2 else rV h ty | _=>rV h ty
def rVsL:Fs→Nat
  | .nil=>0
  | .cons h ty r=>rVL h ty+rVsL r
def rVTL (c:Ctx) (h:Hd) (ty:Ty):Nat:=match ty with | .prim .str=>if lateB h ty then 20 else rVT c h ty | _=>rVT c h ty
def rFTL (c:Ctx):Fs→Nat
  | .nil=>0
  | .cons h ty r=>vTmps h+rVTL c h ty+rFTL c r
def rLate (I:RIds) (c:Ctx) (tStr S p:Nat) (h:Hd) (v t:Nat):SC :=
  .seq (cset v (.pointer none)) (.seq (.seq (.reg [mv t c.ver,bin .lss (t+1) I.tI16 t (.const (.int .i16 h.null))]) (.cond (.tmp (t+1))
      (.seq (.reg [⟨some (v+1),.alloc tStr,none⟩]) (.seq (rTwo (t+2) (fun t=>rGetTo I.rUCStr (v+1) t tStr) (fun t=>rGetTo I.rCStr (v+1) t tStr) (fun t=>rGetTo I.rUStr (v+1) t tStr) (fun t=>rGetTo I.rStr (v+1) t tStr)) (.reg [asg v (v+1)])))
      (rTwo (t+9) (rGet I.rUCNStr v) (rGet I.rCNStr v) (rGet I.rUNStr v) (rGet I.rNStr v))))
    (rStore p v (t+16) S h.idx h.typ))
def rValL (I:RIds) (c:Ctx) (tStr S p:Nat) (h:Hd) (v t b:Nat) (ty:Ty):SC:=match ty with | .prim .str=>if lateB h ty then rLate I c tStr S p h v t else rVal I c S p h v t b ty | _=>rVal I c S p h v t b ty
def rFsL (I:RIds) (c:Ctx) (tStr S p v t b:Nat):Fs→List SC
  | .nil=>[]
  | .cons h ty r=>rvCond I c h t (rValL I c tStr S p h v (t+vTmps h) b ty) :: rFsL I c tStr S p (v+rVL h ty) (t+vTmps h+rVTL c h ty) (b+rB ty) r
def okRValL (P:Program) (I:RIds) (c:Ctx) (tStr:Nat) (h:Hd) (ty:Ty):Bool:=match ty with
  | .prim .str=>if lateB h ty then !c.never && !h.enum && decide (0≤h.null) && oneB P h.typ && okRP I c true .str && okRP I c false .str && oneB P tStr && (match (P.info? tStr).bind (·.zero) with | some z=>z.cells.size == 1 | none=>false) else (decide (h.null < 0) || decide (h.null≤h.from_)) && okRVal P I c h ty
  | _=>(decide (h.null < 0) || decide (h.null≤h.from_)) && okRVal P I c h ty
def okRFsL (P:Program) (I:RIds) (c:Ctx) (tStr S:Nat):Fs→Bool
  | .nil=>true
  | .cons h ty r=>fieldB P S h.idx h.off && okRValL P I c tStr h ty && okRFsL P I c tStr S r
section
variable {X:RX} {a:Act} {w:World} {st:Option Bytes} {Q:Exit→Act→World→Prop}
theorem rTwo_ok {t:Nat} {g1 g2 g3 g4:Nat→SC} (hX:X.ok) (hn:X.c.never=false) (hi:RInv X a w st) (ht:X.T0≤t) (htN:t+7≤X.N)
    (h1:X.flex=true→∀ a',RInv X a' w st→(∀ s,s < t→getT a' s=getT a s)→(g2 (t+3)).wp X.P Q a' w) (h2:X.flex=false→∀ a',RInv X a' w st→(∀ s,s < t→getT a' s=getT a s)→(g4 (t+6)).wp X.P Q a' w) :
    (rTwo t g1 g2 g3 g4).wp X.P Q a w:=by
  have hten:=hX.ten
  refine mvCond_ok hi (by omega) (by omega) (hi.flex hn) fun a1 hi1 hs1=>?_
  cases hf:X.flex with
  | true =>
    simp only [if_true]
    refine mvCond_ok hi1 (by omega) (by omega) hi1.uns fun a2 hi2 hs2=>?_
    simp only [Bool.false_eq_true,if_false]
    exact h1 hf a2 hi2 fun s hs=>by rw [hs2 s (by omega),hs1 s (by omega)]
  | false =>
    simp only [Bool.false_eq_true,if_false]
    refine mvCond_ok hi1 (by omega) (by omega) hi1.uns fun a2 hi2 hs2=>?_
    simp only [Bool.false_eq_true,if_false]
    exact h2 hf a2 hi2 fun s hs=>by rw [hs2 s (by omega),hs1 s (by omega)]
theorem lssCond_ok {t:Nat} {n:Int} {y z:SC} (hX:X.ok) (hi:RInv X a w st) (ht:10≤t) (htN:t+2≤X.N)
    (hQ:∀ a',RInv X a' w st→(∀ s,s < t→getT a' s=getT a s)→(if decide (X.ver < n) then y else z).wp X.P Q a' w) :
    (SC.seq (.reg [mv t X.c.ver,bin .lss (t+1) X.I.tI16 t (.const (.int .i16 n))]) (.cond (.tmp (t+1)) y z)).wp X.P Q a w:=by
  have hsz:=hi.size
  have hcv:=hX.cver
  refine SC.wp_seq (SC.wp_reg (ops_mv (oNo rfl (opw_cmp (op:=.lss) (k:=.i16) (m:=X.ver) (n:=n) (r:=decide (X.ver < n)) ?_ rfl (by simp) (oNi ?_)))))
  · rw [eTm,gTp (by omega),hcv]
    exact hi.ver
  refine SC.wp_cond (t:=decide (X.ver < n)) (by rw [eTm,gTp (by simp only [sPu];omega)]) ?_
  refine hQ _ (hi.act (by simp [sPu]) (by simp [dPu]) fun s hs=>?_) fun s h1=>?_
  · rw [gTn (by omega),gTn (by omega)]
  · rw [gTn (by omega),gTn (by omega)]
theorem rGetTo_ok {f v t T vb:Nat} {z0:Value} {p:Rd Tree} {ty:Value→Prop} {ok:World→(Nat→Prop)→Tree→Value→Prop} (hX:X.ok) (hf:RC X.P X.TR X.gb f p ty ok) (hty:∀ v,ty v→v.oneCell'=true) (hT:oneB X.P T=true) (hi:RInv X a w st) (hv:getT a v=.pointer (some ⟨vb,0,none⟩)) (hvt:v < t) (ht:10≤t) (htN:t < X.N)
    (hrow:w.heap[vb]?=some (.cells #[z0] T (0,0))) (hn:vb ≠ X.rb) (hS:X.S ≠ some vb) (hB:X.B≤vb)
    (hQ:∀ a' w' w1 y,RInv X a' w' (after st p)→(∀ s,s < t→getT a' s=getT a s)→Only X.rb w w1→w'=w1.setRow vb #[y]→w1.heap[vb]?=some (.cells #[z0] T (0,0))→ty y→(∀ b x r,st=some b→p b=some (x,r)→ok w1 (NewF X.S w w1) x y)→Q .normal a' w') :
    (rGetTo f v t T).wp X.P Q a w:=by
  have hsz:=hi.size
  have hlt:vb < w.heap.size:=(Array.getElem?_eq_some_iff.1 hrow).1
  refine SC.wp_reg (ops_cal hf.1 (R:=fun e w'=>∃ y,e=.returned y∧RdAt X.TR w' X.S X.rb (after st p)∧Only X.rb w w'∧ty y∧∀ b x r,st=some b→p b=some (x,r)→ok w' (NewF X.S w w') x y) ?_ ?_)
  · have:=hf.2 w X.S X.rb st (Nat.lt_of_lt_of_le hX.hgb hi.heap) hi.at_ hi.src
    rw [show (([7].map (getT a)).toArray:Array Value)=#[.pointer (some ⟨X.rb,0,none⟩)] by simp [hi.rd]]
    exact this
  · rintro e w1 ⟨y,rfl,h1,h2,h3,h4⟩
    have hrow1:w1.heap[vb]?=some (.cells #[z0] T (0,0)):=by rw [h2.block vb hlt hn];exact hrow
    refine ⟨y,rfl,oNo rfl (opw_store_one (ad:=⟨vb,0,none⟩) (v:=y) (v0:=z0) hT ?_ ?_ (hty y h3) ?_ ?_ (oNi ?_))⟩
    · rw [eTm,gTn (by omega)];exact hv
    · rw [eTm,gTp (by omega)]
    · rw [cell_of_row _ _ _ _ _ _ hrow1];rfl
    · simp [World.frozen?,hrow1]
    · rw [pNo,setCell_eq_setRow _ _ _ _ _ _ _ hrow1]
      have e1:(#[z0]:Array Value).setIfInBounds 0 y=#[y]:=rfl
      rw [e1]
      refine hQ _ _ w1 y (((hi.only hX h2 h1).setRow hn hS hB _).act (by simp [sPu]) (by simp [dPu]) fun s hs=>?_) (fun s hs=>?_) h2 rfl hrow1 h3 h4
      · rw [gTn (by omega)]
      · rw [gTn (by omega)]
theorem rLate_ok {tStr S p v t b o:Nat} {h:Hd} {O:Nat→Prop} (hX:X.ok) (hn:X.c.never=false) (hl:lateB h (.prim .str)=true) (hn0:0≤h.null) (hone:oneB X.P h.typ=true) (ok1:okRP X.I X.c true .str=true) (ok2:okRP X.I X.c false .str=true) (hT:oneB X.P tStr=true) (hz:(match (X.P.info? tStr).bind (·.zero) with | some z=>z.cells.size == 1 | none=>false)=true)
    (hS:fieldB X.P S h.idx h.off=true) (hi:RInv X a w st) (hp:getT a p=.pointer (some ⟨b,o,none⟩)) (ho:Opn X O b w) (hrow:RowAt w b (o+h.off) 1) (hpv:p < v) (hv:10≤v) (hvT:v+2≤X.T0) (ht:X.T0≤t) (htN:t+20≤X.N)
    (hQ:∀ a' w',RInv X a' w' (after st (pTy X.ver X.flex (.prim .str) (nulAt X.ver h (.prim .str))))→RSame X a a' v t→Foot X.rb b (o+h.off) (o+h.off+1) w w' →
      (∀ r x r',st=some r→pTy X.ver X.flex (.prim .str) (nulAt X.ver h (.prim .str)) r=some (x,r')→FitTy X.ver (.prim .str) x→HTy X.G w' (FO O w') X.ver X.flex (.prim .str) true b (o+h.off) x)→Q .normal a' w') :
    (rLate X.I X.c tStr S p h v t).wp X.P Q a w:=by
  have hten:=hX.ten
  have hbS:X.S ≠ some b:=fun e=>ho.src b e ho.ob
  have hnever:∀ {c d:Bool},(X.c.never || c)=true→c=true:=fun h=>by simpa [hn] using h
  obtain ⟨cs,E,hcs,hlen⟩:=hrow
  unfold rLate
  refine SC.wp_seq (cset_ok hi (by omega) (by omega) fun a1 hi1 hv1 hs1=>?_)
  simp only [Exit.then]
  refine SC.wp_seq (lssCond_ok hX hi1 (by omega) (by omega) fun a2 hi2 hs2=>?_)
  have hp2:getT a2 p=.pointer (some ⟨b,o,none⟩):=by rw [hs2 p (by omega),hs1 p (by omega)];exact hp
  have fin:∀ (a':Act) (w':World) (y:Value) (cs':Array Value),RInv X a' w' (after st (pTy X.ver X.flex (.prim .str) (nulAt X.ver h (.prim .str))))→getT a' v=y→y.oneCell'=true→(∀ s,s ≠ v→s ≠ v+1→s < t→getT a' s=getT a s) →
      w'.heap[b]?=some (.cells cs E (0,0))→w.heap.size≤w'.heap.size→(∀ k,k < w.heap.size→k ≠ X.rb→k ≠ b→w'.heap[k]?=w.heap[k]?) →
      (∀ r x r',st=some r→pTy X.ver X.flex (.prim .str) (nulAt X.ver h (.prim .str)) r=some (x,r')→FitTy X.ver (.prim .str) x→PVal (w'.setRow b (cs.setIfInBounds (o+h.off) y)) (FO O (w'.setRow b (cs.setIfInBounds (o+h.off) y))) true x .str y) →
      (rStore p v (t+16) S h.idx h.typ).wp X.P Q a' w':=by
    intro a' w' y cs' q1 q2 q3 q4 q5 q6 q7 q8
    refine rStore_ok hX q1 (by rw [q4 p (by omega) (by omega) (by omega)];exact hp) q2 q3 (by omega) (by omega) (by omega) (by omega) hS hone q5 (by omega) ho.ne hbS ho.hB fun a5 hi5 hs5=>?_
    refine hQ a5 _ hi5 (fun s hs=>?_) ⟨by simpa using q6,fun k hk h1 h2=>?_,fun cs2 T2 h2=>?_⟩ ?_
    · rw [hs5 s (by omega),q4 s (by omega) (by omega) (by omega)]
    · rw [setRow_other _ _ _ _ h2];exact q7 k hk h1 h2
    · rw [hcs] at h2
      simp only [Option.some.injEq,Obj.cells.injEq,and_true] at h2
      obtain ⟨rfl,rfl⟩:=h2
      exact ⟨_,setRow_heap _ _ _ _ _ _ q5,by simp,fun j hj=>Array.getElem?_setIfInBounds_ne (by omega)⟩
    · intro r x r' e1 e2 e3
      simp only [HTy,HPrim]
      rw [if_neg (by decide)]
      refine ⟨y,?_,q8 r x r' e1 e2 e3⟩
      rw [cell_setRow_same _ _ _ _ _ _ _ q5]
      simp [Array.getElem?_setIfInBounds,show o+h.off < cs.size by omega]
  by_cases hlt:X.ver < h.null
  · rw [if_pos (decide_eq_true hlt)]
    have hna:nulAt X.ver h (.prim .str)=false:=nulAt_late hl hlt
    rw [hna] at fin hQ
    unfold okRP at ok2
    simp only [Bool.false_eq_true,if_false,Bool.and_eq_true,bne_iff_ne,ne_eq] at ok2
    obtain ⟨o1,o2⟩:=ok2
    obtain ⟨zi,zz,hzi,hzz,hz1⟩:∃ i z,X.P.info? tStr=some i∧i.zero=some z∧z.cells.size=1:=by
      split at hz
      · rename_i z hb
        obtain ⟨i,hi,hz'⟩:=Option.bind_eq_some_iff.1 hb
        exact ⟨i,z,hi,hz',by simpa using hz⟩
      · cases hz
    obtain ⟨z0,hz0⟩:∃ z0,zz.cells=#[z0]:=⟨zz.cells[0],Array.ext (by simp [hz1]) fun i h1 h2=>by
      have:i=0:=by simp at h2;exact h2
      subst this;rfl⟩
    refine SC.wp_seq (SC.wp_reg (oNo rfl (opw_alloc hzi hzz (oNi ?_))))
    simp only [Exit.then]
    have hrbl:X.rb < w.heap.size:=hi.at_.lt
    have hnew:=heap_alloc_new w (.cells zz.cells tStr)
    rw [hz0] at hnew ⊢
    have hold:∀ k,k < w.heap.size→(w.alloc (.cells #[z0] tStr)).heap[k]?=w.heap[k]?:=fun k hk=>Below.heap_alloc _ _ _ hk
    have hsz1:(w.alloc (.cells #[z0] tStr)).heap.size=w.heap.size+1:=by simp
    have hsz2:=hi2.size
    have hi3:RInv X (a2.put (some (v+1)) (.pointer (some ⟨w.heap.size,0,none⟩))) (w.alloc (.cells #[z0] tStr)) st:=(hi2.alloc _).act (by simp [sPu]) (by simp [dPu]) fun s hs=>by rw [gTn (by omega)]
    have hv3:getT (a2.put (some (v+1)) (.pointer (some ⟨w.heap.size,0,none⟩))) (v+1)=.pointer (some ⟨w.heap.size,0,none⟩):=gTp (by omega)
    have hs3:∀ s,s ≠ v+1→getT (a2.put (some (v+1)) (.pointer (some ⟨w.heap.size,0,none⟩))) s=getT a2 s:=fun s hs=>gTn hs
    generalize a2.put (some (v+1)) (.pointer (some ⟨w.heap.size,0,none⟩))=a3 at hi3 hv3 hs3 ⊢
    generalize w.alloc (.cells #[z0] tStr)=w1 at hnew hold hsz1 hi3 ⊢
    have hbl:b < w.heap.size:=(Array.getElem?_eq_some_iff.1 hcs).1
    have get:∀ {f:Nat} (a4:Act) (t':Nat),RC X.P X.TR X.gb f (pPrim X.flex false .str) (tyP false .str) (okP false .str)→RInv X a4 w1 st→(∀ s,s < t+2→getT a4 s=getT a3 s)→t+2≤t'→t' < X.N →
        (rGetTo f (v+1) t' tStr).wp X.P (Exit.then ((SC.reg [asg v (v+1)]).wp X.P (Exit.then ((rStore p v (t+16) S h.idx h.typ).wp X.P Q) Q)) (Exit.then ((rStore p v (t+16) S h.idx h.typ).wp X.P Q) Q)) a4 w1:=by
      intro f a4 t' hf hi4 hs4 ht1 ht2
      refine rGetTo_ok (z0:=z0) (vb:=w.heap.size) hX hf (fun y hy=>by
        simp only [tyP,Bool.false_eq_true,if_false] at hy
        obtain ⟨q,rfl⟩:=hy
        rfl) hT hi4 (by rw [hs4 (v+1) (by omega)];exact hv3) (by omega) (by omega) ht2 hnew (by omega) (fun e=>by have:=(hi.src _ e).2;omega) hi.heap fun a5 w5 w4 y q1 q2 q3 q4 q5 q6 q7=>?_
      simp only [Exit.then]
      have hsz5:=q1.size
      refine SC.wp_reg (ops_asg (oNi ?_))
      simp only [Exit.then]
      have hw5:∀ k,k ≠ w.heap.size→w5.heap[k]?=w4.heap[k]?:=fun k hk=>by rw [q4];exact setRow_other _ _ _ _ hk
      have hw5v:w5.heap[w.heap.size]?=some (.cells #[y] tStr (0,0)):=by rw [q4];exact setRow_heap _ _ _ _ _ _ q5
      have hsz45:w5.heap.size=w4.heap.size:=by rw [q4];simp
      have hsz34:=q3.size
      refine fin _ w5 (.pointer (some ⟨w.heap.size,0,none⟩)) cs (q1.act (by simp [sPu]) (by simp [dPu]) fun s hs=>by rw [gTn (by omega)]) ?_ rfl (fun s e1 e2 e3=>?_) ?_ (by omega) (fun k e1 e2 e3=>?_) ?_
      · rw [gTp (by omega),q2 (v+1) (by omega),hs4 (v+1) (by omega)]
        exact hv3
      · rw [gTn e1,q2 s (by omega),hs4 s (by omega),hs3 s e2,hs2 s (by omega),hs1 s e1]
      · rw [hw5 b (by omega),q3.block b (by omega) ho.ne,hold b hbl];exact hcs
      · rw [hw5 k (by omega),q3.block k (by omega) e2,hold k e1]
      · intro r x r' e1 e2 e3
        have hq:=q7 r x r' e1 e2 e3
        rw [if_neg (by decide)] at hq
        simp only [PVal,Bool.false_eq_true,if_false] at hq
        obtain ⟨s,rfl,hs1',hs2'⟩:=hq
        have hxn:x.null=false:=pTy_nn e2
        simp only [PVal,if_true,hxn,Bool.false_eq_true,if_false]
        refine ⟨w.heap.size,0,s,rfl,⟨by simp;omega,fun hO=>by have:=ho.lt _ hO;omega⟩,?_,hs1',hs2'⟩
        have hrow6:(w5.setRow b (cs.setIfInBounds (o+h.off) (.pointer (some ⟨w.heap.size,0,none⟩)))).heap[w.heap.size]?=some (.cells #[.string s] tStr (0,0)):=by
          rw [setRow_other _ _ _ _ (by omega)];exact hw5v
        rw [cell_of_row _ _ _ _ _ _ hrow6]
        rfl
    refine SC.wp_seq (rTwo_ok hX hn hi3 (by omega) (by omega) (fun hf a4 hi4 hs4=>?_) (fun hf a4 hi4 hs4=>?_))
    · have hrc:=hX.kr.cstr (by simpa [hn] using o1)
      exact get a4 (t+2+3) (by rw [hf];exact hrc) hi4 hs4 (by omega) (by omega)
    · have hrc:=hX.kr.str o2
      exact get a4 (t+2+6) (by rw [hf];exact hrc) hi4 hs4 (by omega) (by omega)
  · rw [if_neg (by simpa using hlt)]
    have hna:nulAt X.ver h (.prim .str)=true:=by simp [nulAt,hn0,show h.null≤X.ver by omega]
    rw [hna] at fin hQ
    unfold okRP at ok1
    simp only [if_true,Bool.and_eq_true,bne_iff_ne,ne_eq] at ok1
    obtain ⟨o1,o2⟩:=ok1
    have get:∀ {f:Nat} (a3:Act) (t':Nat),RC X.P X.TR X.gb f (pPrim X.flex true .str) (tyP true .str) (okP true .str)→RInv X a3 w st→(∀ s,s < t+9→getT a3 s=getT a2 s)→t+9≤t'→t' < X.N →
        (rGet f v t').wp X.P (Exit.then ((rStore p v (t+16) S h.idx h.typ).wp X.P Q) Q) a3 w:=by
      intro f a3 t' hf hi3 hs3 ht1 ht2
      refine rGet_ok hX hf hi3 (by omega) (by omega) (by omega) ht2 fun a4 w4 y q1 q2 q3 q4 q5 q6=>?_
      simp only [Exit.then]
      refine fin a4 w4 y cs q1 q2 ?_ (fun s e1 e2 e3=>?_) ?_ q4.size (fun k e1 e2 e3=>q4.block k e1 e2) ?_
      · simp only [tyP,if_true] at q5
        obtain ⟨q,rfl⟩:=q5
        rfl
      · rw [q3 s e1 (by omega),hs3 s (by omega),hs2 s (by omega),hs1 s e1]
      · rw [q4.block b (Array.getElem?_eq_some_iff.1 hcs).1 ho.ne];exact hcs
      · intro r x r' e1 e2 e3
        have:=q6 r x r' e1 e2 e3
        rw [if_neg (by decide)] at this
        have hb4:b < w4.heap.size:=Nat.lt_of_lt_of_le (Array.getElem?_eq_some_iff.1 hcs).1 q4.size
        refine pVal_frame (fun k hk=>?_) this
        have hfo:=newF_fo (X:=X) (b:=b) ho q4.size (fun sb hsb=>(hi.src sb hsb).2) k hk
        exact ⟨⟨by simpa using hfo.1,hfo.2⟩,setRow_other _ _ _ _ fun e=>hfo.2 (e ▸ ho.ob)⟩
    refine rTwo_ok hX hn hi2 (by omega) (by omega) (fun hf a3 hi3 hs3=>?_) (fun hf a3 hi3 hs3=>?_)
    · have hrc:=hX.kr.cnstr (by simpa [hn] using o1)
      exact get a3 (t+9+3) (by rw [hf];exact hrc) hi3 hs3 (by omega) (by omega)
    · have hrc:=hX.kr.nstr o2
      exact get a3 (t+9+6) (by rw [hf];exact hrc) hi3 hs3 (by omega) (by omega)
end
end Go.Proofs.YtmapoohbongifaaGreatDoor.K
namespace Go.Proofs.YtmapoohbongifaaGreatDoor.K
open Go Go.RowKit Go.Proofs.YtmapoohbongifaaGreatDoor.T
attribute [local simp] eTm eCo pNo gTp gTn qv qcall vop iop
set_option linter.unusedVariables false
set_option linter.unusedSimpArgs false
set_option maxHeartbeats 4000000
section
variable {X:RX}
theorem valL_ok (hX:X.ok) {tStr S p v t bk b o:Nat} {h:Hd} {ty:Ty} {O:Nat→Prop} {a:Act} {w:World} {st:Option Bytes} {Q:Exit→Act→World→Prop}
    (hok:okRValL X.P X.I X.c tStr h ty=true) (hlay:layTy (nuOf h) ty=true) (hdef:DefTy X.P ty) (hS:fieldB X.P S h.idx h.off=true) (hh:h.has X.ver=true)
    (hi:RInv X a w st) (hp:getT a p=.pointer (some ⟨b,o,none⟩)) (ho:Opn X O b w) (hrow:RowAt w b (o+h.off) (szTy (nuOf h) ty)) (hfr:FrTy w b (nuOf h) ty (o+h.off))
    (hpv:p < v) (hv:10≤v) (hvT:v+rVL h ty≤X.T0) (ht:X.T0≤t) (htN:t+rVTL X.c h ty≤X.N)
    (hQ:∀ a' w',RInv X a' w' (after st (pTy X.ver X.flex ty (nulAt X.ver h ty)))→RSame X a a' v t→Foot X.rb b (o+h.off) (o+h.off+szTy (nuOf h) ty) w w' →
      (∀ r x r',st=some r→pTy X.ver X.flex ty (nulAt X.ver h ty) r=some (x,r')→FitTy X.ver ty x→HTy X.G w' (FO O w') X.ver X.flex ty (nuOf h) b (o+h.off) x)→Q .normal a' w')
    (hR:RetOK X Q (after st (pTy X.ver X.flex ty (nulAt X.ver h ty))=none)):(rValL X.I X.c tStr S p h v t bk ty).wp X.P Q a w:=by
  have std:((decide (h.null < 0) || decide (h.null≤h.from_)) && okRVal X.P X.I X.c h ty)=true→v+rV h ty≤X.T0→t+rVT X.c h ty≤X.N→(rVal X.I X.c S p h v t bk ty).wp X.P Q a w:=by
    intro hval hvT htN
    simp only [Bool.and_eq_true,Bool.or_eq_true,decide_eq_true_eq] at hval
    have hver:h.null < 0∨h.null≤X.ver:=by
      rcases hval.1 with e | e
      · exact .inl e
      · right
        have:h.from_≤X.ver:=by
          simp only [Hd.has,Bool.and_eq_true,decide_eq_true_eq] at hh
          exact hh.1
        omega
    have hnat:nulAt X.ver h ty=nuOf h:=by
      unfold nuOf
      rcases hver with e | e
      · cases ty <;> simp [nulAt,show ¬ (0≤h.null) by omega]
      · cases ty <;> simp [nulAt,e]
    rw [hnat] at hQ hR
    exact (val_all hX ty).1 S p h v t bk b o O a w st Q hval.2 hlay hdef hS hver hi hp ho hrow hfr hpv hv hvT ht htN hQ hR
  by_cases hs:ty=.prim .str
  · subst hs
    simp only [okRValL,rValL,rVL,rVTL] at hok hvT htN ⊢
    by_cases hl:lateB h (.prim .str)=true
    · rw [if_pos hl] at hok hvT htN ⊢
      simp only [Bool.and_eq_true,Bool.not_eq_true',decide_eq_true_eq] at hok
      obtain ⟨⟨⟨⟨⟨⟨⟨q1,q2⟩,q3⟩,q4⟩,q5⟩,q6⟩,q7⟩,q8⟩:=hok
      have hnu:nuOf h=true:=by simp [nuOf,q3]
      rw [hnu] at hrow hQ
      have e1:szTy true (.prim .str)=1:=rfl
      rw [e1] at hrow hQ
      exact rLate_ok hX q1 hl q3 q4 q5 q6 q7 q8 hS hi hp ho hrow hpv hv hvT ht htN hQ
    · rw [if_neg hl] at hok hvT htN ⊢
      exact std hok hvT htN
  · have e1:okRValL X.P X.I X.c tStr h ty=((decide (h.null < 0) || decide (h.null≤h.from_)) && okRVal X.P X.I X.c h ty):=by
      cases ty with
      | prim k=>cases k <;> first | rfl | exact absurd rfl hs
      | _=>rfl
    have e2:rVL h ty=rV h ty:=by
      cases ty with
      | prim k=>cases k <;> first | rfl | exact absurd rfl hs
      | _=>rfl
    have e3:rVTL X.c h ty=rVT X.c h ty:=by
      cases ty with
      | prim k=>cases k <;> first | rfl | exact absurd rfl hs
      | _=>rfl
    have e4:rValL X.I X.c tStr S p h v t bk ty=rVal X.I X.c S p h v t bk ty:=by
      cases ty with
      | prim k=>cases k <;> first | rfl | exact absurd rfl hs
      | _=>rfl
    rw [e1] at hok
    rw [e2] at hvT
    rw [e3] at htN
    rw [e4]
    exact std hok hvT htN
def FsOKL (X:RX) (tStr:Nat) (fs:Fs):Prop:=∀ (S p v t bk b o lo n:Nat) (O:Nat→Prop) (a:Act) (w:World) (st:Option Bytes) (Q:Exit→Act→World→Prop) (rest:List SC),
  okRFsL X.P X.I X.c tStr S fs=true→layFs lo n fs=true→DefFs X.P fs →
  RInv X a w st→getT a p=.pointer (some ⟨b,o,none⟩)→Opn X O b w→RowAt w b o n→FrFs w b fs o →
  p < v→10≤v→v+rVsL fs≤X.T0→X.T0≤t→t+rFTL X.c fs≤X.N →
  (∀ a' w',RInv X a' w' (after st (pFs X.ver X.flex fs))→RSame X a a' v t→Foot X.rb b (o+lo) (o+n) w w' →
    (∀ r xs r',st=some r→pFs X.ver X.flex fs r=some (xs,r')→FitFs X.ver fs xs→HFs X.G w' (FO O w') X.ver X.flex fs b o xs)→wpL X.P Q rest a' w') →
  RetOK X Q (after st (pFs X.ver X.flex fs)=none) →
  wpL X.P Q (rFsL X.I X.c tStr S p v t bk fs ++ rest) a w
theorem fsL_nil {tStr:Nat}:FsOKL X tStr .nil:=by
  intro S p v t bk b o lo n O a w st Q rest hok hlay hdef hi hp ho hrow hfr hpv hv hvT ht htN hQ hR
  exact fsOK_nil S p v t bk b o lo n O a w st Q rest rfl hlay hdef hi hp ho hrow hfr hpv hv hvT ht htN hQ hR
theorem fsL_cons (hX:X.ok) {tStr:Nat} {h:Hd} {ty:Ty} {r:Fs} (hF:FsOKL X tStr r):FsOKL X tStr (.cons h ty r):=by
  intro S p v t bk b o lo n O a w st Q rest hok hlay hdef hi hp ho hrow hfr hpv hv hvT ht htN hQ hR
  simp only [okRFsL,Bool.and_eq_true] at hok
  obtain ⟨⟨hS,hval⟩,hrest⟩:=hok
  have hlay0:=hlay
  simp only [layFs,Bool.and_eq_true,decide_eq_true_eq] at hlay
  obtain ⟨⟨⟨l1,l2⟩,l3⟩,l4⟩:=hlay
  simp only [DefFs] at hdef
  simp only [FrFs] at hfr
  simp only [rVsL] at hvT
  simp only [rFTL] at htN
  simp only [rFsL,List.cons_append,wpL]
  refine rvCond_ok hX hi ht (by omega) fun a1 hi1 hs1=>?_
  by_cases hh:h.has X.ver=true
  · rw [if_pos hh]
    have hpf:pFs X.ver X.flex (.cons h ty r)=rThen (pTy X.ver X.flex ty (nulAt X.ver h ty)) fun x=>rThen (pFs X.ver X.flex r) fun xs=>rOk (x :: xs):=by
      simp only [pFs]
      rw [if_pos hh]
    refine valL_ok hX hval l3 hdef.1 hS hh hi1 ((hs1 p (by omega)).trans hp) ho (hrow.mono (by omega)) hfr.1 hpv hv (by omega) (by omega) (by omega) ?_ ?_
    · intro a2 w2 hi2 hs2 hf2 hv2
      have hs12:RSame X a a2 v t:=fun s hs=>(hs2 s (by omega)).trans (hs1 s (by omega))
      refine hF S p (v+rVL h ty) _ _ b o (h.off+szTy (nuOf h) ty) n O a2 w2 _ Q rest hrest l4 hdef.2 hi2 ((hs12 p (.inl hpv)).trans hp) (ho.mono hf2.size) (hf2.rowAt hrow) ?_ (by omega) (by omega) (by omega) (by omega) (by omega) ?_ ?_
      · exact frFs_frame r _ n o l4 (fun j h1 h2=>hf2.cell hrow (by omega)) hfr.2
      · intro a3 w3 hi3 hs3 hf3 hv3
        have hle:h.off+szTy (nuOf h) ty≤n:=l2
        refine hQ a3 w3 ?_ (hs12.trans hs3 (by omega) (by omega)) ((hf2.mono (by omega) (by omega)).trans (hf3.mono (by omega) (Nat.le_refl _))) ?_
        · rw [hpf]
          have e:after st (rThen (pTy X.ver X.flex ty (nulAt X.ver h ty)) fun x=>rThen (pFs X.ver X.flex r) fun xs=>rOk (x :: xs))=after (after st (pTy X.ver X.flex ty (nulAt X.ver h ty))) (pFs X.ver X.flex r):=by
            cases st with
            | none=>rfl
            | some bb =>
              cases hp1:pTy X.ver X.flex ty (nulAt X.ver h ty) bb with
              | none=>simp [after,rThen,hp1]
              | some z =>
                rw [after_then _ _ _ rfl hp1,after_ok hp1]
                cases hp2:pFs X.ver X.flex r z.2 with
                | none=>simp [after,rThen,hp2]
                | some y=>rw [after_then _ _ _ rfl hp2,after_ok hp2];exact after_rOk _ _
          rw [e]
          exact hi3
        · intro bb xs rr hst hpx hfit
          rw [hpf] at hpx
          obtain ⟨x,r1,q1,q2⟩:=rThen_some hpx
          obtain ⟨ys,r2,q3,q4⟩:=rThen_some q2
          obtain ⟨rfl,rfl⟩:=rOk_some q4
          simp only [FitFs,List.headD_cons,List.tail_cons] at hfit
          simp only [HFs,List.headD_cons,List.tail_cons]
          have hst2:after st (pTy X.ver X.flex ty (nulAt X.ver h ty))=some r1:=by rw [hst];exact after_ok q1
          refine ⟨fun _=>?_,hv3 r1 ys _ hst2 q3 hfit.2⟩
          have:=hv2 bb x r1 hst q1 (hfit.1 hh)
          exact hTy_frame (hf3.fo (ho.mono hf2.size)) X.ver X.flex ty _ b (o+h.off) x l3 (fun j h1 h2=>hf3.cell (hf2.rowAt hrow) (by unfold nuOf at *;omega)) this
      · intro a' w' h1 h2 h3 h4
        refine hR a' w' h1 h2 h3 ?_
        rw [hpf]
        cases st with
        | none=>rfl
        | some bb =>
          cases hp1:pTy X.ver X.flex ty (nulAt X.ver h ty) bb with
          | none=>simp [after,rThen,hp1]
          | some z =>
            rw [after_ok hp1] at h4
            rw [after_then _ _ _ rfl hp1]
            exact after_then_none h4
    · intro a' w' h1 h2 h3 h4
      refine hR a' w' h1 h2 h3 ?_
      rw [hpf]
      exact after_then_none h4
  · rw [if_neg hh]
    have hpf:pFs X.ver X.flex (.cons h ty r)=rThen (rOk Tree.zero) fun x=>rThen (pFs X.ver X.flex r) fun xs=>rOk (x :: xs):=by
      simp only [pFs]
      rw [if_neg hh]
    have e:after st (pFs X.ver X.flex (.cons h ty r))=after st (pFs X.ver X.flex r):=by
      rw [hpf]
      cases st with
      | none=>rfl
      | some bb =>
        rw [after_then (x:=Tree.zero) (r:=bb) _ _ _ rfl rfl]
        cases hp2:pFs X.ver X.flex r bb with
        | none=>simp [after,rThen,hp2]
        | some y=>rw [after_then _ _ _ rfl hp2,after_ok hp2];exact after_rOk _ _
    simp only [Exit.then]
    refine hF S p (v+rVL h ty) _ _ b o (h.off+szTy (nuOf h) ty) n O a1 w st Q rest hrest l4 hdef.2 hi1 ((hs1 p (by omega)).trans hp) ho hrow hfr.2 (by omega) (by omega) (by omega) (by omega) (by omega) ?_ ?_
    · intro a3 w3 hi3 hs3 hf3 hv3
      refine hQ a3 w3 (by rw [e];exact hi3) (RSame.trans (fun s hs=>hs1 s (by omega)) hs3 (by omega) (by omega)) (hf3.mono (by omega) (Nat.le_refl _)) ?_
      intro bb xs rr hst hpx hfit
      rw [hpf] at hpx
      obtain ⟨x,r1,q1,q2⟩:=rThen_some hpx
      obtain ⟨rfl,rfl⟩:=rOk_some q1
      obtain ⟨ys,r2,q3,q4⟩:=rThen_some q2
      obtain ⟨rfl,rfl⟩:=rOk_some q4
      simp only [FitFs,List.headD_cons,List.tail_cons] at hfit
      simp only [HFs,List.headD_cons,List.tail_cons]
      exact ⟨fun h=>absurd h hh,hv3 bb ys _ hst q3 hfit.2⟩
    · intro a' w' h1 h2 h3 h4
      exact hR a' w' h1 h2 h3 (by rw [e];exact h4)
theorem fsL_all (hX:X.ok) {tStr:Nat}:∀ fs:Fs,FsOKL X tStr fs
  | .nil=>fsL_nil
  | .cons _ _ r=>fsL_cons hX (fsL_all hX r)
end
theorem top_bodyL {X:RX} {tStr:Nat} {fs:Fs} {S p v t bk b o lo size:Nat} {tags:Option (Nat × Nat)} {O:Nat→Prop} {a:Act} {w:World} {st:Option Bytes} {Q:Exit→Act→World→Prop} {rest:List SC} (hX:X.ok)
    (hok:okRFsL X.P X.I X.c tStr S fs=true) (hokt:okRTags X.P X.I X.c S tags=true) (hlay:layFs lo (topEnd size tags) fs=true) (hszt:∀ f off,tags=some (f,off)→off < size∧lo≤off) (hlo:lo≤size) (hdef:DefFs X.P fs) (hi:RInv X a w st) (hp:getT a p=.pointer (some ⟨b,o,none⟩)) (ho:Opn X O b w) (hrow:RowAt w b o size) (hfr:FrFs w b fs o)
    (hpv:p < v) (hv:10≤v) (hvT:v+rVsL fs≤X.T0) (ht:X.T0≤t) (htN:t+rFTL X.c fs+rTagsT tags≤X.N)
    (hQ:∀ a' w',RInv X a' w' (after st (pBody X.ver X.flex fs))→RSame X a a' v t→Foot X.rb b (o+lo) (o+size) w w' →
      (∀ r x r',st=some r→pBody X.ver X.flex fs r=some (x,r')→FitFs X.ver fs x.l→FitTags x.u→HFs X.G w' (FO O w') X.ver X.flex fs b o x.l∧TagsAt X.G w' (FO O w') X.flex b o tags x.u)→wpL X.P Q rest a' w')
    (hR:RetOK X Q (after st (pBody X.ver X.flex fs)=none)) :
    wpL X.P Q (rFsL X.I X.c tStr S p v t bk fs ++ (rTagsL X.I S p tags (t+rFTL X.c fs) ++ rest)) a w:=by
  obtain ⟨n,hlf,hns,hn⟩:∃ n,layFs lo n fs=true∧n≤size∧(tags=none∧n=size∨∃ f,tags=some (f,n)):=by
    cases tags with
    | none=>exact ⟨size,hlay,Nat.le_refl _,.inl ⟨rfl,rfl⟩⟩
    | some z=>exact ⟨z.2,hlay,Nat.le_of_lt (hszt z.1 z.2 rfl).1,.inr ⟨z.1,rfl⟩⟩
  have hln:lo≤n:=by
    rcases hn with ⟨rfl,rfl⟩ | ⟨f,rfl⟩
    · exact hlo
    · exact (hszt f n rfl).2
  refine fsL_all (tStr:=tStr) hX fs S p v t bk b o lo n O a w st Q _ hok hlf hdef hi hp ho (hrow.mono (by omega)) hfr hpv hv hvT ht (by omega) ?_ ?_
  · intro a1 w1 hi1 hs1 hf1 hv1
    refine rTags_ok hX hokt hi1 ((hs1 p (.inl hpv)).trans hp) (ho.mono hf1.size) (hf1.rowAt hrow) (fun f off e=>(hszt f off e).1) (by omega) (by omega) htN ?_
    intro a2 w2 hi2 hs2 hf2 hv2
    refine hQ a2 w2 (by rw [after_body];exact hi2) (fun s hs=>(hs2 s (by omega)).trans (hs1 s hs)) ?_ ?_
    · refine (hf1.mono (by omega) (by omega)).trans (hf2.mono ?_ (Nat.le_refl _))
      rcases hn with ⟨rfl,rfl⟩ | ⟨f,rfl⟩
      · simp only;omega
      · simp only;omega
    · intro r x r' hst hpx hfit hfu
      unfold pBody at hpx
      obtain ⟨xs,r1,q1,q2⟩:=rThen_some hpx
      obtain ⟨u,r2,q3,q4⟩:=rThen_some q2
      obtain ⟨rfl,rfl⟩:=rOk_some q4
      have hst2:after st (pFs X.ver X.flex fs)=some r1:=by rw [hst];exact after_ok q1
      refine ⟨?_,hv2 r1 u _ hst2 q3 hfu⟩
      have h1:=hv1 r xs r1 hst q1 hfit
      refine hFs_frame (hf2.fo (ho.mono hf1.size)) X.ver X.flex fs lo n b o xs hlf (fun j h1 h2=>hf2.cell (hf1.rowAt hrow) ?_) h1
      rcases hn with ⟨rfl,rfl⟩ | ⟨f,rfl⟩
      · left;simp only;omega
      · left;simp only;omega
  · intro a' w' h1 h2 h3 h4
    refine hR a' w' h1 h2 h3 ?_
    rw [after_body,h4]
    rfl
def rTopL (I:RIds) (tStr S d t:Nat) (flex:Option Int) (tags:Option (Nat × Nat)) (fs:Fs):SC :=
  seqs ([cset 6 .nilIface,.reg [mv t 0,cal (t+1) d [t]],
    .reg [mv (t+2) 1,⟨some (t+3),.build I.tRd #[(0,.tmp (t+2))],none⟩,⟨some 7,.alloc I.tRd,none⟩,⟨none,.store I.tRd (.tmp 7) (.tmp (t+3)),none⟩],
    .reg [mv (t+4) 0,nilc (t+5) (t+4),fa (t+6) S (t+5) 0,ld (t+7) I.tI16 (t+6),asg 8 (t+7)],.reg [mv (t+8) 8]] ++
    (rFlexL I t flex ++ ([.reg [mv (rT1 t flex) 0,asg (rS flex) (rT1 t flex)]] ++
      ((rFsL I (rCtx flex) tStr S (rS flex) (rS flex+1) (rT1 t flex+1) 0 fs ++ rTagsL I S (rS flex) tags (rT1 t flex+1+rFTL (rCtx flex) fs)) ++
      [.reg [cal (rT1 t flex+1+rFTL (rCtx flex) fs+rTagsT tags) I.rCompl [7],asg 6 (rT1 t flex+1+rFTL (rCtx flex) fs+rTagsT tags)],.ret]))))
def RTop.chkL (P:Program) (I:RIds) (tStr:Nat) (M:RTop):Bool :=
  okRFsL P I (rCtx M.flex) tStr M.S M.fs && okRTags P I (rCtx M.flex) M.S M.tags && layFs 1 (topEnd M.size M.tags) M.fs && (match M.tags with | none=>true | some (_,off)=>decide (off < M.size∧1≤off)) &&
  decide (1≤M.size∧rS M.flex+1+rVsL M.fs≤M.t∧rT1 M.t M.flex+1+rFTL (rCtx M.flex) M.fs+rTagsT M.tags+1≤M.N) && fieldB P M.S 0 0 && intB P I.tI16 .i16 && oneB P I.tI16 && rdNew P I.tRd
section
variable {P:Program} {I:RIds} {M:RTop} {B:Nat} {G:List (Nat × Bytes)→Prop} {err:Value} {Gl:World→Prop} {gb:Nat} {f:FuncId} {fn:Func} {w0:World}
theorem readFromL_ok {tStr:Nat} {out:List (Nat × Value)} (hk:KR P I I.tRd gb err Gl) (hG:∀ u,G u) (hgl:∀ w,Below B w0 w→Gl w) (hgb:gb < B) (hchk:M.chkL P I tStr=true) (hdef:DefFs P M.fs) (hd:DefAt P M.d M.size out) (hout:outFs out M.fs 0=true) (hoa:(out.all fun x=>decide (x.1 < M.size∧0 < x.1))=true)
    (hf:P.funcs[f]?=some fn) (hb:fn.body.map strip=some (rTopL I tStr M.S M.d M.t M.flex M.tags M.fs)) (hn:fn.ntmps=M.N) (hr:fn.results=#[.tmp 6]):ReadC P I M B G err f w0:=by
  intro S b cs E base src cap ver hver hBb hBw hcs hlen hvc hfr hcap hsr hsrc
  simp only [RTop.chkL,Bool.and_eq_true,decide_eq_true_eq] at hchk
  obtain ⟨⟨⟨⟨⟨⟨⟨⟨c1,c2⟩,c3⟩,c4⟩,c5,c6,c7⟩,c8⟩,c9⟩,c10⟩,c11⟩:=hchk
  obtain ⟨r1,⟨rit,rz,rzi,rzz,rzc⟩,r3⟩:=rdNew_of c11
  have hrS:9≤rS M.flex:=by cases M.flex <;> simp [rS]
  have hbl:b < w0.heap.size:=(Array.getElem?_eq_some_iff.1 hcs).1
  have hoa':∀ x ∈ out,x.1 < M.size∧0 < x.1:=fun x hx=>by simpa using (List.all_eq_true.1 hoa) x hx
  have hT1:M.t+9≤rT1 M.t M.flex:=by cases M.flex <;> simp [rT1]
  refine fCa hf hb hn (by simp;omega) fun a0 hs hdf ha=>?_
  have h0:=ha 0 _ rfl
  have h1:=ha 1 _ rfl
  have h2:=ha 2 _ rfl
  simp only [List.getElem_toArray,List.getElem_cons_zero,List.getElem_cons_succ] at h0 h1 h2
  refine wpL_seqs _ _ _ ?_
  simp only [List.cons_append,List.nil_append,wpL]
  refine SC.wp_reg (oNo rfl (opw_assign (oNi ?_)))
  simp only [Exit.then,eCo]
  refine SC.wp_reg (ops_mv (ops_call (argsV:=#[.pointer (some ⟨b,0,none⟩)]) hd.1 (hd.2 w0 b 0 cs E hcs (by omega)) (by simp (disch:=(try simp only [sPu]);omega) [h0]) ?_))
  rintro e w1 ⟨rfl,hw1⟩
  refine ⟨_,rfl,oNi ?_⟩
  simp only [Exit.then]
  have hds:(dSetAll 0 out cs).size=cs.size:=dSetAll_size _ _ _
  have hrow1:w1.heap[b]?=some (.cells (dSetAll 0 out cs) E (0,0)):=by rw [hw1];exact setRow_heap _ _ _ _ _ _ hcs
  have hoth1:∀ k,k ≠ b→w1.heap[k]?=w0.heap[k]?:=fun k hk=>by rw [hw1];exact setRow_other _ _ _ _ hk
  have hsz1:w1.heap.size=w0.heap.size:=by rw [hw1];simp
  have hbelow1:Below B w0 w1:=by rw [hw1];exact ⟨rfl,rfl,rfl,by simp,fun k hk=>setRow_other _ _ _ _ (by omega)⟩
  have hv1:(dSetAll 0 out cs)[0]?=some (.int .i16 ver):=by
    rw [dSetAll_other out cs fun x hx=>by have:=(hoa' x hx).2;omega]
    exact hvc
  have hfr1:FrFs w1 b M.fs 0:=by
    have:=outFs_ok (w:=w0) (w':=w1) (b:=b) (q:=0) (out:=out) (fun j hj=>by
      rw [Nat.zero_add,cell_of_row _ _ _ _ _ _ hrow1,cell_of_row _ _ _ _ _ _ hcs]
      exact dSetAll_other out cs fun x hx=>by rw [Nat.zero_add];exact hj x hx) M.fs 0 hout (by simpa using hfr)
    simpa using this
  refine SC.wp_reg (ops_mv (oNo rfl (opw_build (cs:=#[.slice base src.length cap,.bool false]) ?_ (oNo rfl (opw_alloc rzi rzz ?_)))))
  · have:(#[(0,Operand.tmp (M.t+2))].map fun x:Nat × Operand=>(x.1,Act.eval (((((a0.put (some 6) .nilIface).put (some M.t) (getT (a0.put (some 6) .nilIface) 0)).put (some (M.t+1)) (.tuple #[])).put (some (M.t+2)) (getT (((a0.put (some 6) .nilIface).put (some M.t) (getT (a0.put (some 6) .nilIface) 0)).put (some (M.t+1)) (.tuple #[])) 1))) x.2)).toList=[(0,.slice base src.length cap)]:=by
      simp only [List.map_toArray,List.map_cons,List.map_nil]
      rw [eTm,gTp (by simp only [sPu];omega),gTn (by omega),gTn (by omega),gTn (by omega),h1]
    rw [this]
    exact r3 _ rfl
  have hnew:=heap_alloc_new w1 (.cells rz.cells I.tRd)
  refine oNo rfl (opw_store_agg (cs:=[.slice base src.length cap,.bool false]) (cur:=rz.cells) (b:=w1.heap.size) (E:=I.tRd) r1 (by simp (disch:=(try simp only [sPu]);omega)) (by simp (disch:=(try simp only [sPu]);omega)) hnew (by rw [rzc];rfl) (by intro v hv;simp at hv;rcases hv with rfl | rfl <;> rfl) (oNi ?_))
  rw [pNo]
  simp only [Exit.then]
  obtain ⟨rb,hrb⟩:∃ rb,rb=w1.heap.size:=⟨_,rfl⟩
  rw [← hrb] at hnew ⊢
  obtain ⟨w2,hw2⟩:∃ w2,w2=(w1.alloc (.cells rz.cells I.tRd)).setRow rb [Value.slice base src.length cap,.bool false].toArray:=⟨_,rfl⟩
  rw [← hw2]
  have hrow2:w2.heap[rb]?=some (.cells #[.slice base src.length cap,.bool false] I.tRd (0,0)):=by rw [hw2];exact setRow_heap _ _ _ _ _ _ hnew
  have hoth2:∀ k,k < w1.heap.size→w2.heap[k]?=w1.heap[k]?:=fun k hk=>by
    rw [hw2,setRow_other _ _ _ _ (by omega)]
    exact Below.heap_alloc _ _ _ hk
  have hsz2:w2.heap.size=w1.heap.size+1:=by rw [hw2];simp
  have hbelow2:Below B w0 w2:=by
    rw [hw2]
    exact (hbelow1.alloc (by omega) _).trans ⟨rfl,rfl,rfl,by simp,fun k hk=>setRow_other _ _ _ _ (by omega)⟩
  have hrb2:w2.heap[b]?=some (.cells (dSetAll 0 out cs) E (0,0)):=by rw [hoth2 b (by omega)];exact hrow1
  have hvc2:w2.cell? ⟨b,0,none⟩=some (.int .i16 ver):=by rw [cell_of_row _ _ _ _ _ _ hrb2];exact hv1
  refine SC.wp_reg (ops_mv (ops_nilc (ad:=⟨b,0,none⟩) (by simp (disch:=(try simp only [sPu]);omega) [h0]) (ops_fa c8 (b:=b) (o:=0) (by simp (disch:=(try simp only [sPu]);omega)) (ops_ld c10 (ad:=⟨b,0,none⟩) (v:=.int .i16 ver) (by simp (disch:=(try simp only [sPu]);omega)) hvc2 (ops_asg (oNi ?_))))))
  simp only [Exit.then]
  refine SC.wp_reg (ops_mv (oNi ?_))
  simp only [Exit.then]
  refine wpL_gen (fun a=>a.tmps.size=M.N∧a.defers=[]∧getT a 2=.bool false∧getT a 7=.pointer (some ⟨rb,0,none⟩)∧getT a 8=.int .i16 ver∧getT a 0=.pointer (some ⟨b,0,none⟩)) ⟨by simp [sPu,hs,hn],by simp [dPu,hdf],by simp (disch:=(try simp only [sPu]);omega) [h2],by simp (disch:=(try simp only [sPu]);omega),by simp (disch:=(try simp only [sPu]);omega),by simp (disch:=(try simp only [sPu]);omega) [h0]⟩ fun a2 ⟨p1,p2,p3,p4,p5,p6⟩=>?_
  have mid:∀ a:Act,a.tmps.size=M.N∧a.defers=[]∧getT a 2=.bool false∧getT a 7=.pointer (some ⟨rb,0,none⟩)∧getT a 8=.int .i16 ver∧getT a 0=.pointer (some ⟨b,0,none⟩)∧(M.flex ≠ none→getT a 9=.bool (flexAt M.flex ver)) →
      wpL P (bodyPost P fn (fun e w'=>Below B w0 w'∧B≤w'.heap.size ∧
      match pBody ver (flexAt M.flex ver) M.fs src with
      | none=>e=.returned err
      | some (x,r)=>e=.returned .nilIface∧b < w'.heap.size∧w'.cell? ⟨b,0,none⟩=some (.int .i16 ver) ∧
        (FitFs ver M.fs x.l→FitTags x.u→∃ F:Nat→Prop,(∀ k,F k→k < w'.heap.size)∧HFs G w' F ver (flexAt M.flex ver) M.fs b 0 x.l∧TagsAt G w' F (flexAt M.flex ver) b 0 M.tags x.u))) (.reg [mv (rT1 M.t M.flex) 0,asg (rS M.flex) (rT1 M.t M.flex)] :: (rFsL I (rCtx M.flex) tStr M.S (rS M.flex) (rS M.flex+1) (rT1 M.t M.flex+1) 0 M.fs ++ rTagsL I M.S (rS M.flex) M.tags (rT1 M.t M.flex+1+rFTL (rCtx M.flex) M.fs) ++
        [.reg [cal (rT1 M.t M.flex+1+rFTL (rCtx M.flex) M.fs+rTagsT M.tags) I.rCompl [7],asg 6 (rT1 M.t M.flex+1+rFTL (rCtx M.flex) M.fs+rTagsT M.tags)],.ret])) a w2:=by
    clear p1 p2 p3 p4 p5 p6
    rintro a ⟨p1,p2,p3,p4,p5,p6,p7⟩
    simp only [wpL]
    refine SC.wp_reg (ops_mv (ops_asg (oNi ?_)))
    simp only [Exit.then]
    obtain ⟨X,hX⟩:∃ X:RX,X=⟨P,I,I.tRd,S,rb,G,rCtx M.flex,w0,B,ver,flexAt M.flex ver,M.t,M.N,err,Gl,gb⟩:=⟨_,rfl⟩
    have hXok:X.ok:=by
      rw [hX]
      refine ⟨hk,hgb,by cases M.flex <;> rfl,by simp only;omega,?_,by simp only;omega,hver,hG,hgl⟩
      intro h
      cases hfl:M.flex with
      | none=>rfl
      | some n=>rw [hfl] at h;cases h
    have hg:∀ s,s < 9→getT ((a.put (some (rT1 M.t M.flex)) (getT a 0)).put (some (rS M.flex)) (getT (a.put (some (rT1 M.t M.flex)) (getT a 0)) (rT1 M.t M.flex))) s=getT a s:=fun s h=>by
      rw [gTn (by omega),gTn (by omega)]
    have hpS:getT ((a.put (some (rT1 M.t M.flex)) (getT a 0)).put (some (rS M.flex)) (getT (a.put (some (rT1 M.t M.flex)) (getT a 0)) (rT1 M.t M.flex))) (rS M.flex)=.pointer (some ⟨b,0,none⟩):=by
      rw [gTp (by simp only [sPu];omega),gTp (by omega)]
      exact p6
    have hg9:M.flex ≠ none→getT ((a.put (some (rT1 M.t M.flex)) (getT a 0)).put (some (rS M.flex)) (getT (a.put (some (rT1 M.t M.flex)) (getT a 0)) (rT1 M.t M.flex))) 9=.bool (flexAt M.flex ver):=fun h=>by
      have:rS M.flex=10:=by cases hfl:M.flex <;> simp_all [rS]
      rw [gTn (by omega),gTn (by omega)]
      exact p7 h
    have hs3:((a.put (some (rT1 M.t M.flex)) (getT a 0)).put (some (rS M.flex)) (getT (a.put (some (rT1 M.t M.flex)) (getT a 0)) (rT1 M.t M.flex))).tmps.size=M.N:=by simp only [sPu];exact p1
    have hd3:((a.put (some (rT1 M.t M.flex)) (getT a 0)).put (some (rS M.flex)) (getT (a.put (some (rT1 M.t M.flex)) (getT a 0)) (rT1 M.t M.flex))).defers=[]:=by simp only [dPu];exact p2
    generalize ((a.put (some (rT1 M.t M.flex)) (getT a 0)).put (some (rS M.flex)) (getT (a.put (some (rT1 M.t M.flex)) (getT a 0)) (rT1 M.t M.flex)))=a3 at hg hpS hg9 hs3 hd3 ⊢
    rw [List.append_assoc]
    have hi:RInv X a3 w2 (some src):=by
      rw [hX]
      refine ⟨hs3,hd3,by rw [hg 2 (by omega)];exact p3,by rw [hg 7 (by omega)];exact p4,by rw [hg 8 (by omega)];exact p5,fun h=>?_,⟨base,cap,hrow2,hcap,?_⟩,fun sb hsb=>⟨by have:=(hsrc sb hsb).2;show sb ≠ rb;omega,by have:=(hsrc sb hsb).2;show sb < w2.heap.size;omega⟩,hbelow2,by show B≤w2.heap.size;omega⟩
      · refine hg9 fun e=>?_
        rw [e] at h
        cases h
      · have:SrcAt w2 S base src:=hsr.frame fun sb hsb=>by rw [hoth2 sb (by have:=(hsrc sb hsb).2;omega),hoth1 sb (hsrc sb hsb).1]
        cases S <;> exact this
    have hopn:Opn X (fun k=>k=rb∨k=b) b w2:=by
      rw [hX]
      refine ⟨.inl rfl,.inr rfl,fun k hk=>by rcases hk with rfl | rfl <;> omega,fun sb hsb h=>?_,by simp only;omega,hBb⟩
      have:=hsrc sb hsb
      rcases h with h | h
      · omega
      · exact this.1 h
    have hfr2:FrFs w2 b M.fs 0:=by
      refine frFs_frame (w:=w1) M.fs 1 (topEnd M.size M.tags) 0 c3 (fun j h1 h2=>World.cell?_of_block (hoth2 b (by omega))) hfr1
    subst hX
    refine top_bodyL (tStr:=tStr) (X:=⟨P,I,I.tRd,S,rb,G,rCtx M.flex,w0,B,ver,flexAt M.flex ver,M.t,M.N,err,Gl,gb⟩) (fs:=M.fs) (S:=M.S) (p:=rS M.flex) (v:=rS M.flex+1) (t:=rT1 M.t M.flex+1) (bk:=0) (b:=b) (o:=0) (tags:=M.tags) (lo:=1) (size:=M.size) (O:=fun k=>k=rb∨k=b) (st:=some src) hXok c1 c2 c3 (fun f off e=>by rw [e] at c4;simpa using c4) c5 hdef hi hpS hopn ⟨_,_,hrb2,by omega⟩ hfr2 (by omega) (by omega) c6 (by simp only;omega) (by simp only;omega) ?_ ?_
    · intro a4 w4 hi4 hs4 hf4 hv4
      simp only [wpL]
      refine SC.wp_reg (ops_call (argsV:=#[.pointer (some ⟨rb,0,none⟩)]) hk.complF (hk.compl w4 S rb _ (hgl _ hi4.below) hi4.at_) ?_ ?_)
      · simp only [List.map_cons,List.map_nil,List.map_toArray,eTm]
        rw [hi4.rd]
      rintro e w5 ⟨rfl,rfl⟩
      refine ⟨_,rfl,ops_asg (oNi ?_)⟩
      simp only [Exit.then]
      refine SC.wp_ret ?_
      simp only [Exit.then]
      have hsz4:a4.tmps.size=M.N:=hi4.size
      refine ret_tmp hr (by simp only [dPu];exact hi4.defers) ⟨hi4.below,hi4.heap,?_⟩
      have hres:getT ((a4.put (some (rT1 M.t M.flex+1+rFTL (rCtx M.flex) M.fs+rTagsT M.tags)) (if (after (some src) (pBody ver (flexAt M.flex ver) M.fs)).isSome=true then Value.nilIface else err)).put (some 6) (getT (a4.put (some (rT1 M.t M.flex+1+rFTL (rCtx M.flex) M.fs+rTagsT M.tags)) (if (after (some src) (pBody ver (flexAt M.flex ver) M.fs)).isSome=true then Value.nilIface else err)) (rT1 M.t M.flex+1+rFTL (rCtx M.flex) M.fs+rTagsT M.tags))) 6=(if (after (some src) (pBody ver (flexAt M.flex ver) M.fs)).isSome=true then Value.nilIface else err):=by
        rw [gTp (by simp only [sPu];omega),gTp (by omega)]
      rw [hres]
      cases hp:pBody ver (flexAt M.flex ver) M.fs src with
      | none=>simp [after_no hp]
      | some z =>
        obtain ⟨x,r⟩:=z
        have hlt4:b < w5.heap.size:=Nat.lt_of_lt_of_le (by omega) hf4.size
        refine ⟨by simp [after_ok hp],hlt4,?_,fun hfit hfu=>⟨FO (fun k=>k=rb∨k=b) w5,fun k hk=>hk.1,hv4 src x r rfl hp hfit hfu⟩⟩
        rw [hf4.cell (q:=0) (n:=0) ⟨_,_,hrb2,Nat.zero_le _⟩ (j:=0) (by omega)]
        exact hvc2
    · intro a' w' e1 e2 e3 e4
      refine ret_tmp hr e1 ⟨e3,Nat.le_trans hBw e3.size,?_⟩
      cases hp:pBody ver (flexAt M.flex ver) M.fs src with
      | none=>simp only;rw [e2]
      | some z =>
        rw [after_ok hp] at e4
        cases e4
  cases hfl:M.flex with
  | none =>
    rw [hfl] at mid
    simp only [rFlexL,List.nil_append]
    exact mid a2 ⟨p1,p2,p3,p4,p5,p6,fun h=>absurd rfl h⟩
  | some n =>
    rw [hfl] at mid
    simp only [rFlexL,List.cons_append,List.nil_append,wpL]
    have ht1:rT1 M.t (some n)=M.t+12:=rfl
    rw [hfl] at c7 hT1
    refine SC.wp_reg (ops_mv (ops_1 (v:=.bool (decide (n≤ver))) (by simp (disch:=(try simp only [sPu]);omega) [p5,qv,vop,iop]) (ops_asg (oNi ?_))))
    simp only [Exit.then]
    refine SC.wp_reg (ops_mv (oNi ?_))
    simp only [Exit.then]
    exact mid _ ⟨by simp [sPu,p1],by simp [dPu,p2],by simp (disch:=(try simp only [sPu]);omega) [p3],by simp (disch:=(try simp only [sPu]);omega) [p4],by simp (disch:=(try simp only [sPu]);omega) [p5],by simp (disch:=(try simp only [sPu]);omega) [p6],fun _=>by simp (disch:=(try simp only [sPu]);omega) [flexAt]⟩
end
end Go.Proofs.YtmapoohbongifaaGreatDoor.K
namespace Go.Proofs.YtmapoohbongifaaGreatDoor.K
open Go Go.RowKit Go.Proofs.YtmapoohbongifaaGreatDoor.T
attribute [local simp] eTm eCo pNo gTp gTn qv qcall vop iop
set_option linter.unusedVariables false
set_option linter.unusedSimpArgs false
set_option maxHeartbeats 2000000
section
variable {P:Program} {f:FuncId} {fn:Func}
theorem pMsg_nn {ver:Int} {flex:Bool} {fs:Fs} {src r:Bytes} {xs:List Tree} {u:List (Nat × Bytes)} (h:pMsg ver flex fs src=some ((xs,u),r)):NnFs ver fs xs:=by
  obtain ⟨ys,r1,h1,h2⟩:=rThen_some h
  obtain ⟨u',r2,h3,h4⟩:=rThen_some h2
  obtain ⟨e,rfl⟩:=rOk_some h4
  cases e
  exact pFs_nn fs h1
theorem againL_ok {I:RIds} {M:RTop} {tU8 gb m T0 T1 T2 T3 F0 F1 F2 F3 FR:Nat} {G:List (Nat × Bytes)→Prop} {Gl:World→Prop} {err:Value} {cs:Array Value} {T:TypeId}
    (h0k:intK P T0=some .i64) (h1k:intK P T1=some .i16) (hT2:u8sB P T2 tU8=true) (hT3:ifaceT P T3=true) (hm:m < 32768) (herr:∃ t y,err=.iface t y)
    (oNP:FnOK P F0) (cNP:∀ w:World,Calls P F0 #[] w fun e w'=>∃ b,e=.returned (.pointer (some ⟨b,0,none⟩))∧w.heap.size≤b∧w'.heap[b]?=some (.cells cs T (0,0))∧Below w.heap.size w w')
    (oSV:FnOK P F1) (cSV:∀ (w:World) (b:Nat) (cs:Array Value) (E:TypeId),w.heap[b]?=some (.cells cs E (0,0))→0 < cs.size→∀ n:Int,Calls P F1 #[.pointer (some ⟨b,0,none⟩),.int .i16 n] w fun e w'=>e=.returned (.tuple #[])∧w'=w.setRow b (cs.setIfInBounds 0 (.int .i16 n)))
    (oRF:FnOK P F2) (cRF:∀ (w:World) (x y:Value) (R:Ending→World→Prop),(Calls P FR #[x,y,.bool false] w fun e w'=>∃ v,e=.returned v∧R e w')→Calls P F2 #[x,y] w R)
    (cR:∀ (B:Nat) (w0:World),gb < B→(∀ w',Below B w0 w'→Gl w')→ReadC P I M B G err FR w0)
    (oAT:FnOK P F3) (cAT:∀ (w:World) (b:Nat) (ver:Int) (ts:List Tree) (u:List (Nat × Bytes)),b < w.heap.size→w.cell? ⟨b,0,none⟩=some (.int .i16 ver)→0≤ver→HFs G w (· < w.heap.size) ver (flexAt M.flex ver) M.fs b 0 ts→TagsAt G w (· < w.heap.size) (flexAt M.flex ver) b 0 M.tags u→NnFs ver M.fs ts →
      (wFs ver (flexAt M.flex ver) M.fs ts ++ wTags (flexAt M.flex ver) u).length≤lim→Calls P F3 #[.pointer (some ⟨b,0,none⟩),.slice none 0 0] w fun e w'=>∃ dv,e=.returned dv∧Own tU8 w' w.heap.size dv (wFs ver (flexAt M.flex ver) M.fs ts ++ wTags (flexAt M.flex ver) u)∧Below w.heap.size w w')
    (hsz:M.size≤cs.size) (hs1:1≤M.size) (hlay:layFs 1 (topEnd M.size M.tags) M.fs=true) (hfr:frFsB (fun j=>cs[j]?) M.fs 0=true)
    (hf : P.funcs[f]? = some fn) (hb : fn.body.map strip = some (sc_Again T0 T1 T2 T3 F0 F1 F2 F3)) (hnm : (fn.name == "runtime.NumGoroutine") = false) (hn : fn.ntmps = 19) (hr : fn.results = #[.tmp 4, .tmp 5]) : AgC P tU8 M.flex M.fs gb m Gl f := by
  refine ⟨fnOK_of hf hb hnm,fun w S base src cap v hv hgb hgl hsr hS hlen hfit=>?_⟩
  refine fCa hf hb hn (by simp) fun a0 hs hd ha=>?_
  have h0:=ha 0 _ rfl
  have h1:=ha 1 _ rfl
  simp only [List.getElem_toArray,List.getElem_cons_zero,List.getElem_cons_succ] at h0 h1
  refine SC.wp_seq (SC.wp_reg ?_)
  repeat (apply ops_1;(focus (simp (disch:=(try simp only [sPu]);omega) ;try rfl)))
  refine oNi (SC.wp_seq (SC.wp_reg ?_))
  refine ops_call oNP (cNP w) (by simp (disch:=(try simp only [sPu]);omega)) ?_
  rintro e w1 ⟨b,rfl,hbw,hrow,hb1⟩
  refine ⟨_,rfl,?_⟩
  have hbl1:b < w1.heap.size:=(Array.getElem?_eq_some_iff.1 hrow).1
  repeat (apply ops_1;(focus (simp (disch:=(try simp only [sPu]);omega) ;try rfl)))
  refine oNi (SC.wp_seq (SC.wp_reg ?_))
  have hwv:IntKind.i16.wrap (v:Int)=(v:Int):=by
    simp only [IntKind.wrap,IntKind.bits,IntKind.signed]
    simp
    split <;> omega
  iterate 3 (apply ops_1;(focus (simp (disch:=(try simp only [sPu]);omega) [h0,h0k,h1k,hwv];try rfl)))
  refine ops_call oSV (cSV w1 b cs T hrow (by omega) (v:Int)) (by simp (disch:=(try simp only [sPu]);omega)) ?_
  rintro e w2 ⟨rfl,hw2⟩
  refine ⟨_,rfl,oNi ?_⟩
  simp only [Exit.then]
  have hrow2:w2.heap[b]?=some (.cells (cs.setIfInBounds 0 (.int .i16 v)) T (0,0)):=by rw [hw2];exact setRow_heap _ _ _ _ _ _ hrow
  have hb2:Below w.heap.size w w2:=by rw [hw2];exact hb1.trans ⟨rfl,rfl,rfl,by simp,fun k hk=>setRow_other _ _ _ _ (by omega)⟩
  have hsz2:w2.heap.size=w1.heap.size:=by rw [hw2];simp
  refine SC.wp_seq (SC.wp_seq (SC.wp_reg ?_))
  iterate 2 (apply ops_1;(focus (simp (disch:=(try simp only [sPu]);omega) [h1];try rfl)))
  have hS2:SrcAt w2 S base src:=hsr.frame fun sb h=>hb2.block sb (hS sb h)
  have hu8:=(u8s_of hT2).1
  have hsrc:Src P 1 T2 (.slice base src.length cap) src.length (cellsOf src) w2:=by
    cases S with
    | none =>
      obtain ⟨rfl,rfl⟩:=hS2
      exact Src.ofNil w2 hu8 _
    | some sb =>
      obtain ⟨o,rfl,hc⟩:=hS2
      refine Src.ofSlice w2 hu8 ⟨sb,o,none⟩ src.length cap (cellsOf src) (by simp [cLen]) (fun j u hj=>?_) (fun u hu=>?_)
      · rw [add_none]
        simp only [cellsOf,List.getElem?_map,Option.map_eq_some_iff] at hj
        obtain ⟨u',hu',rfl⟩:=hj
        exact hc j u' hu'
      · simp only [cellsOf,List.mem_map] at hu
        obtain ⟨u',_,rfl⟩:=hu
        rfl
  refine oNo rfl (opw_appendU8 (B:=w2.heap.size) (xs:=[]) (bs:=src) (dv:=.slice none 0 0) (xv:=.slice base src.length cap) hT2 (eCo _ _) (by simp (disch:=(try simp only [sPu]);omega)) rfl (World.ownsRow_nil _ _ _ _) (Nat.le_refl _) hsrc (by simpa using hlen) fun dv w3 ho hb3 hbs3 _=>?_)
  rw [List.nil_append] at ho
  have hrow3:w3.heap[b]?=some (.cells (cs.setIfInBounds 0 (.int .i16 v)) T (0,0)):=by rw [hb3.block b (by omega)];exact hrow2
  have hb3':Below w.heap.size w w3:=hb2.trans ⟨hb3.os,hb3.tape,hb3.output,hb3.size,fun k hk=>hb3.block k (by have:=hb2.size;omega)⟩
  obtain ⟨S3,base3,cap3,rfl,hcap3,hsr3,hS3⟩:∃ S3 base3 cap3,dv=.slice base3 src.length cap3∧src.length≤cap3∧SrcAt w3 S3 base3 src∧∀ sb,S3=some sb→sb ≠ b∧sb < w3.heap.size:=by
    obtain ⟨ho1,⟨e1,e2⟩ | ⟨g,c3,cur,e1,e2,e3,e4,e5,e6,e7⟩⟩:=ho
    · have hnil:src=[]:=List.length_eq_zero_iff.1 e2
      subst hnil
      exact ⟨none,none,0,e1,Nat.le_refl _,⟨rfl,rfl⟩,fun sb h=>by cases h⟩
    · refine ⟨some g,some ⟨g,0,none⟩,c3,e1,e4,⟨0,rfl,fun j u hu=>?_⟩,fun sb h=>by cases h;exact ⟨by omega,(Array.getElem?_eq_some_iff.1 e3).1⟩⟩
      rw [cell_of_row _ _ _ _ _ _ e3,Nat.zero_add]
      have hj:(cellsOf src)[j]?=some (cell u):=by simp [cellsOf,hu]
      rw [← e7,List.getElem?_take] at hj
      split at hj
      · rwa [Array.getElem?_toList] at hj
      · cases hj
  have hfr1:FrFs w1 b M.fs 0:=by
    have:=frFsB_ok (w:=w1) (b:=b) (q:=0) (get:=fun j=>cs[j]?) (fun j v hj=>by rw [Nat.zero_add,cell_of_row _ _ _ _ _ _ hrow];exact hj) M.fs 0 hfr
    simpa using this
  have hfr3:FrFs w3 b M.fs 0:=by
    refine frFs_frame (w:=w1) M.fs 1 (topEnd M.size M.tags) 0 hlay (fun j h1 h2=>?_) hfr1
    rw [cell_of_row _ _ _ _ _ _ hrow,cell_of_row _ _ _ _ _ _ hrow3]
    exact Array.getElem?_setIfInBounds_ne (by omega)
  have hcr:=cR w.heap.size w3 hgb (fun w' h=>hgl w' (hb3'.trans h)) S3 b _ T base3 src cap3 (v:Int) (by omega) hbw (by have:=hb3'.size;omega) hrow3 (by rw [Array.size_setIfInBounds];exact hsz) (by simp [show 0 < cs.size by omega]) hfr3 hcap3 hsr3 hS3
  obtain ⟨R,hR⟩:∃ R:Ending→World→Prop,R=fun e w'=>∃ v',e=.returned v'∧((v'=.nilIface∨∃ t y,v'=.iface t y)∧Below w.heap.size w3 w'∧w.heap.size≤w'.heap.size ∧
      match pMsg v (flexAt M.flex v) M.fs src with
      | none=>v'=err
      | some ((xs,u),r)=>v'=.nilIface∧b < w'.heap.size∧w'.cell? ⟨b,0,none⟩=some (.int .i16 v)∧HFs G w' (· < w'.heap.size) v (flexAt M.flex v) M.fs b 0 xs∧TagsAt G w' (· < w'.heap.size) (flexAt M.flex v) b 0 M.tags u):=⟨_,rfl⟩
  refine ops_call oRF (cRF w3 (.pointer (some ⟨b,0,none⟩)) (.slice base3 src.length cap3) R (hcr.mono fun e w' h=>?_)) (by simp (disch:=(try simp only [sPu]);omega)) ?_
  · obtain ⟨z1,z2,z3⟩:=h
    rw [hR]
    simp only [pMsg_body]
    cases hp:pBody v (flexAt M.flex v) M.fs src with
    | none =>
      rw [hp] at z3
      simp only at z3
      subst z3
      exact ⟨_,rfl,_,rfl,.inr herr,z1,z2,rfl⟩
    | some zz =>
      obtain ⟨x,r⟩:=zz
      rw [hp] at z3
      obtain ⟨rfl,y1,y2,y3⟩:=z3
      have hft:=hfit x.l x.u r (by rw [pMsg_body,hp];rfl)
      obtain ⟨F,hF,q1,q2⟩:=y3 hft.1 hft.2.1
      refine ⟨_,rfl,_,rfl,.inl rfl,z1,z2,rfl,y1,y2,?_,?_⟩
      · exact hFs_frame (fun k hk=>⟨hF k hk,rfl⟩) _ _ M.fs 1 (topEnd M.size M.tags) b 0 x.l hlay (fun _ _ _=>rfl) q1
      · cases ht:M.tags with
        | none=>rw [ht] at q2;exact q2
        | some z =>
          rw [ht] at q2
          exact fun hfl=>hTags_frame (fun k hk=>⟨hF k hk,rfl⟩) rfl (q2 hfl)
  rw [hR]
  rintro e w4 ⟨v',rfl,hv',hb4,hs4,hpost⟩
  refine ⟨_,rfl,?_⟩
  refine oNo rfl (opw_isErr (v:=v') hT3 (by simp (disch:=(try simp only [sPu]);omega)) hv' (oNi ?_))
  simp only [Exit.then]
  refine SC.wp_cond (t:=isErr v') (by simp (disch:=(try simp only [sPu]);omega)) ?_
  have hb4':Below w.heap.size w w4:=hb3'.trans hb4
  cases hp:pMsg v (flexAt M.flex v) M.fs src with
  | none =>
    rw [hp] at hpost
    simp only at hpost
    subst hpost
    obtain ⟨t,y,rfl⟩:=herr
    simp only [isErr,if_true]
    refine SC.wp_seq (SC.wp_reg ?_)
    repeat (apply ops_1;(focus (simp (disch:=(try simp only [sPu]);omega) ;try rfl)))
    refine oNi (SC.wp_ret ?_)
    try simp only [Exit.then]
    exact bodyPost_ret_by (v:=.tuple #[.slice none 0 0,.bool false]) (res2 hr (by simp (disch:=(try simp only [sPu]);omega)) (by simp (disch:=(try simp only [sPu]);omega))) (by simp [dPu,hd]) ⟨hb4',rfl⟩
  | some zz =>
    obtain ⟨⟨xs,u⟩,r⟩:=zz
    rw [hp] at hpost
    obtain ⟨rfl,y1,y2,y3,y4⟩:=hpost
    simp only [isErr,Bool.false_eq_true,if_false]
    refine SC.wp_skip ?_
    simp only [Exit.then]
    refine SC.wp_seq (SC.wp_reg ?_)
    iterate 1 (apply ops_1;(focus (simp (disch:=(try simp only [sPu]);omega) ;try rfl)))
    refine ops_call oAT (cAT w4 b v xs u y1 y2 (by omega) y3 y4 (pMsg_nn hp) (hfit xs u r hp).2.2) (by simp (disch:=(try simp only [sPu]);omega)) ?_
    rintro e w5 ⟨dv5,rfl,ho5,hb5⟩
    refine ⟨_,rfl,?_⟩
    repeat (apply ops_1;(focus (simp (disch:=(try simp only [sPu]);omega) ;try rfl)))
    refine oNi (SC.wp_ret ?_)
    try simp only [Exit.then]
    exact bodyPost_ret_by (v:=.tuple #[dv5,.bool true]) (res2 hr (by simp (disch:=(try simp only [sPu]);omega)) (by simp (disch:=(try simp only [sPu]);omega))) (by simp [dPu,hd]) ⟨hb4'.trans ⟨hb5.os,hb5.tape,hb5.output,hb5.size,fun k hk=>hb5.block k (by omega)⟩,dv5,rfl,own_base ho5 (by omega)⟩
end
end Go.Proofs.YtmapoohbongifaaGreatDoor.K
