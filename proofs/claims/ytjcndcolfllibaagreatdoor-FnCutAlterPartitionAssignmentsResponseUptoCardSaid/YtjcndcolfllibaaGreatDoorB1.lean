/- Generic texts: R31 Z6. No condition. -/
import Derived.Test.YtjcndcolfllibaaGreatDoorB0
namespace Go.Proofs.YtjcndcolfllibaaGreatDoor.K
open Go Go.RowKit Go.Proofs.YtjcndcolfllibaaGreatDoor.T
attribute [local simp] eTm eCo pNo gTp gTn qv qcall vop iop
set_option linter.unusedVariables false
set_option linter.unusedSimpArgs false
set_option maxHeartbeats 4000000
def sc_LawCut (T0 T1 T2 T3 T4 F0 F1 F2 F3 F4 F5:Nat):SC:=.seq (.reg [⟨some 4,.box T0 (.tmp 1),none⟩,⟨some 6,.assign (.const (.bool false)),none⟩]) (.seq (.seq (.reg [ld 13 T0 4,cal 14 F0 [13],⟨some 15,.unOp .not T1 (.tmp 14),none⟩]) (.cond (.tmp 15) (.seq (.reg [⟨some 6,.assign (.const (.bool true)),none⟩]) (.ret)) (.skip))) (.seq (.reg [cal 16 F1 [],asg 7 16]) (.seq (.seq (.reg [mv 17 7,⟨some 18,.binOp .lss T2 (.tmp 17) (.const (.int .i64 0)) T2,none⟩]) (.cond (.tmp 18) (.seq (.reg [⟨some 6,.assign (.const (.bool false)),none⟩]) (.ret)) (.skip))) (.seq (.dreg [cal 19 F2 [],mv 20 0,mv 21 7,cal 22 F3 [20,21],ld 23 T0 4,cal 24 F4 [19,22,23],asg 8 24] [[],[],[],[1,2,0],[],[0,3,4,3],[5,5,0,1,2,3,4,5]]) (.seq (.reg [mv 26 0,mv 27 7,cal 28 F3 [26,27],mv 29 8,cal 30 F5 [28,29],mv 25 30,⟨some 31,.extract (.tmp 25) 0,none⟩,⟨some 32,.extract (.tmp 25) 1,none⟩,asg 9 31,asg 10 32]) (.seq (.seq (.reg [mv 33 8,lenOp 34 T3 33,⟨some 35,.binOp .eql T2 (.tmp 34) (.const (.int .i64 0)) T2,none⟩]) (.cond (.tmp 35) (.seq (.reg [mv 36 10,asg 6 36]) (.ret)) (.skip))) (.seq (.dreg [mv 38 0,mv 39 7,cal 40 F3 [38,39],mv 41 8,mv 42 2,⟨some 43,.convert T4 T2 (.tmp 42),none⟩,mv 44 8,lenOp 45 T3 44,⟨some 46,.binOp .rem T2 (.tmp 43) (.tmp 45) T2,none⟩,⟨some 47,.slice T3 (.tmp 41) none (some (.tmp 46)) none,none⟩,cal 48 F5 [40,47],mv 37 48,⟨some 49,.extract (.tmp 37) 0,none⟩,⟨some 50,.extract (.tmp 37) 1,none⟩,asg 11 49,asg 12 50] [[],[],[0,1],[],[],[4],[],[6],[5,7],[3,8],[2,9,2],[10],[11],[11],[12,10,0,1,2,3,4,5,6,7,8,9,10,11,12],[13,14,0,1,2,3,4,5,6,7,8,9,10,11,12,13,14]]) (.seq (.reg [mv 51 10,mv 52 51,⟨some 53,.move (.tmp 12),some (1,true)⟩,⟨some 54,.unOp .not T1 (.tmp 53),some (1,true)⟩,⟨some 55,.pick (.tmp 52) (.tmp 54) (.const (.bool false)),none⟩,asg 6 55]) (.ret)))))))))
section
variable {G:List (Nat × Bytes)→Prop} {P:Program} {X:STy} {f:FuncId} {fn:Func}
theorem own_src2 {tU8:Nat} {w:World} {B:Nat} {dv:Value} {xs:Bytes} (h:Own tU8 w B dv xs):∃ S base cap,dv=.slice base xs.length cap∧xs.length≤cap∧SrcAt w S base xs∧∀ sb,S=some sb→B≤sb∧sb < w.heap.size:=by
  obtain ⟨S,base,cap,rfl,q1,q2⟩:=own_src h
  refine ⟨S,base,cap,rfl,?_,q1,q2⟩
  obtain ⟨-,⟨e1,e2⟩ | ⟨g,c3,cur,e1,e2,e3,e4,-⟩⟩:=h
  · rw [e2];exact Nat.zero_le _
  · cases e1;exact e4
theorem lawCut_ok (hX:stOK P X=true) (hm:P.follows .mixedOrders=true) {fFit fMax fSp fVer fWr fAg T1 T4:FuncId} (hT4:intK P T4=some .u16) {gb m:Nat} {Gl:World→Prop} (hm16:m < 32768) (fs:Fs) (mflex:Int) (flexO:Option Int)
    (hfl:∀ v:Nat,flexAt flexO v=(decide (0≤mflex) && decide (mflex≤(v:Int))))
    (oFit:FnOK P fFit) (cFit:∀ (w:World) (t:Tree) (tv:Value),TV G w (· < w.heap.size) t tv→Calls P fFit #[tv] w (Asks w))
    (oMax:FnOK P fMax) (cMax:∀ w:World,Calls P fMax #[] w fun e w'=>e=.returned (.int .i64 (m:Int))∧Below w.heap.size w w')
    (oSp:FnOK P fSp) (cSp:∀ w:World,Calls P fSp #[] w fun e w'=>∃ v,e=.returned (msgV v mflex)∧v.oneCell'=true∧FsV w' (fun k=>w.heap.size≤k∧k < w'.heap.size) fs v∧Below w.heap.size w w')
    (oVer:FnOK P fVer) (cVer:∀ (w:World) (n m:Nat),n < 256→m < 65536→Calls P fVer #[.int .u8 (n:Int),.int .i64 (m:Int)] w fun e w'=>e=.returned (.int .i64 ((n % (m+1):Nat):Int))∧w=w')
    (oWr:FnOK P fWr) (cWr:∀ (w:World) (fv:Value) (mflex ver:Int) (t:Tree) (tv:Value),FsV w (· < w.heap.size) fs fv→TV G w (· < w.heap.size) t tv→(wFs ver (decide (0≤mflex) && decide (mflex≤ver)) fs t.l ++ wTags (decide (0≤mflex) && decide (mflex≤ver)) t.u).length≤lim →
      Calls P fWr #[msgV fv mflex,.int .i64 ver,tv] w (RetOwn X.U8 w (wFs ver (decide (0≤mflex) && decide (mflex≤ver)) fs t.l ++ wTags (decide (0≤mflex) && decide (mflex≤ver)) t.u)))
    (cAg:AgC P X.U8 flexO fs gb m Gl fAg)
    (hf:P.funcs[f]?=some fn) (hb:fn.body.map strip=some (sc_LawCut X.T T1 X.I X.Bs T4 fFit fMax fSp fVer fWr fAg)) (hn:fn.ntmps=56) (hr:fn.results=#[.tmp 6]) (w:World) (n at_:Nat) (hn8:n < 256) (hat:at_ < 65536) (t:Tree) (tv:Value) (ht:TV G w (· < w.heap.size) t tv) (hgb:gb < w.heap.size) (hgl:∀ w',Below w.heap.size w w'→Gl w')
    (hok:∀ v:Nat,v≤m→okFsR v (flexAt flexO v) fs=true) (hk:∀ v:Nat,v≤m→KFs v fs t.l) (hu:∀ x ∈ t.u,x.1 < 4294967296) (hlim:∀ v:Nat,v≤m→(wMsg v (flexAt flexO v) fs t.l t.u).length≤lim) :
    Calls P f #[.int .u8 (n:Int),tv,.int .u16 (at_:Int)] w fun e w'=>e=.returned (.bool true)∧Below w.heap.size w w':=by
  have hst:=st_facts hX
  obtain ⟨vs,hvs,hvs5⟩:∃ vs:List Value,tv=.agg vs.toArray∧vs.length=5:=by
    cases ht
    exact ⟨[_,_,_,_,_],rfl,rfl⟩
  refine fCa hf hb hn (by simp) fun a0 hs hd ha=>?_
  have k0:=ha 0 _ rfl
  have k1:=ha 1 _ rfl
  have k2:=ha 2 _ rfl
  simp only [List.getElem_toArray,List.getElem_cons_zero,List.getElem_cons_succ] at k0 k1 k2
  refine SC.wp_seq (SC.wp_reg (oNo rfl (opw_box (v:=tv) k1 ?_)))
  have hnew:=heap_alloc_new w (.cells tv.cells X.T)
  have hb1:Below w.heap.size w (w.alloc (.cells tv.cells X.T)):=(Below.refl _ _).alloc (Nat.le_refl _) _
  have hs1:(w.alloc (.cells tv.cells X.T)).heap.size=w.heap.size+1:=by simp
  have hbox:rangeV (w.alloc (.cells tv.cells X.T)) w.heap.size 0 5=some vs:=by
    have:=rangeV_of (w:=w.alloc (.cells tv.cells X.T)) (b:=w.heap.size) vs 0 (fun j v hj=>by
      rw [Nat.zero_add,cell_of_row _ _ _ _ _ _ hnew,hvs]
      simpa [Value.cells] using hj)
    rwa [hvs5] at this
  generalize w.alloc (.cells tv.cells X.T)=w1 at hb1 hs1 hbox ⊢
  have ht1:TV G w1 (· < w1.heap.size) t tv:=ht.down hb1 (by omega)
  repeat (first | (apply ops_1;(focus (simp (disch:=(try simp only [sPu]);omega) ;try rfl))) | (apply ops_y;(focus rfl);(focus ((try simp only [sPu]);omega));(focus (simp (disch:=(try simp only [sPu]);omega);done));(focus (simp (disch:=(try simp only [sPu]);omega) ;try rfl))) | (apply ops_n;(focus rfl);(focus ((try simp only [sPu]);omega));(focus (first | (left;simp (disch:=(try simp only [sPu]);omega);done) | (right;simp (disch:=(try simp only [sPu]);omega);done)))))
  refine oNi (SC.wp_seq (SC.wp_seq (SC.wp_reg ?_)))
  iterate 1 (first | (apply ops_1;(focus (simp (disch:=(try simp only [sPu]);omega) [hst,hbox];try rfl))) | (apply ops_y;(focus rfl);(focus ((try simp only [sPu]);omega));(focus (simp (disch:=(try simp only [sPu]);omega) [hst,hbox];done));(focus (simp (disch:=(try simp only [sPu]);omega) [hst,hbox];try rfl))) | (apply ops_n;(focus rfl);(focus ((try simp only [sPu]);omega));(focus (first | (left;simp (disch:=(try simp only [sPu]);omega) [hst,hbox];done) | (right;simp (disch:=(try simp only [sPu]);omega);done)))))
  refine ops_call oFit (cFit w1 t tv ht1) (by rw [hvs];simp (disch:=(try simp only [sPu]);omega)) ?_
  rintro e w2 ⟨⟨bo,rfl⟩,hb2⟩
  refine ⟨_,rfl,?_⟩
  have hbw2:Below w.heap.size w w2:=hb1.trans ⟨hb2.os,hb2.tape,hb2.output,hb2.size,fun k hk=>hb2.block k (by omega)⟩
  repeat (first | (apply ops_1;(focus (simp (disch:=(try simp only [sPu]);omega) ;try rfl))) | (apply ops_y;(focus rfl);(focus ((try simp only [sPu]);omega));(focus (simp (disch:=(try simp only [sPu]);omega);done));(focus (simp (disch:=(try simp only [sPu]);omega) ;try rfl))) | (apply ops_n;(focus rfl);(focus ((try simp only [sPu]);omega));(focus (first | (left;simp (disch:=(try simp only [sPu]);omega);done) | (right;simp (disch:=(try simp only [sPu]);omega);done)))))
  refine oNi (SC.wp_cond (t:=!bo) (by simp (disch:=(try simp only [sPu]);omega)) ?_)
  cases bo
  · rw [if_pos (by rfl)]
    refine SC.wp_seq (SC.wp_reg ?_)
    repeat (first | (apply ops_1;(focus (simp (disch:=(try simp only [sPu]);omega) ;try rfl))) | (apply ops_y;(focus rfl);(focus ((try simp only [sPu]);omega));(focus (simp (disch:=(try simp only [sPu]);omega);done));(focus (simp (disch:=(try simp only [sPu]);omega) ;try rfl))) | (apply ops_n;(focus rfl);(focus ((try simp only [sPu]);omega));(focus (first | (left;simp (disch:=(try simp only [sPu]);omega);done) | (right;simp (disch:=(try simp only [sPu]);omega);done)))))
    refine oNi (SC.wp_ret ?_)
    try simp only [Exit.then]
    exact ret_tmp hr (by simp [dPu,hd]) ⟨by simp (disch:=(try simp only [sPu]);omega),hbw2⟩
  rw [if_neg (by simp)]
  refine SC.wp_skip ?_
  simp only [Exit.then]
  have hs2:=hb2.size
  refine SC.wp_seq (SC.wp_reg (ops_call oMax (cMax w2) (by simp (disch:=(try simp only [sPu]);omega)) ?_))
  rintro e w3 ⟨rfl,hb3⟩
  refine ⟨_,rfl,?_⟩
  repeat (first | (apply ops_1;(focus (simp (disch:=(try simp only [sPu]);omega) ;try rfl))) | (apply ops_y;(focus rfl);(focus ((try simp only [sPu]);omega));(focus (simp (disch:=(try simp only [sPu]);omega);done));(focus (simp (disch:=(try simp only [sPu]);omega) ;try rfl))) | (apply ops_n;(focus rfl);(focus ((try simp only [sPu]);omega));(focus (first | (left;simp (disch:=(try simp only [sPu]);omega);done) | (right;simp (disch:=(try simp only [sPu]);omega);done)))))
  refine oNi (SC.wp_seq (SC.wp_seq (SC.wp_reg ?_)))
  have em:decide ((m:Int) < 0)=false:=by simp
  repeat (first | (apply ops_1;(focus (simp (disch:=(try simp only [sPu]);omega) [em];try rfl))) | (apply ops_y;(focus rfl);(focus ((try simp only [sPu]);omega));(focus (simp (disch:=(try simp only [sPu]);omega) [em];done));(focus (simp (disch:=(try simp only [sPu]);omega) [em];try rfl))) | (apply ops_n;(focus rfl);(focus ((try simp only [sPu]);omega));(focus (first | (left;simp (disch:=(try simp only [sPu]);omega) [em];done) | (right;simp (disch:=(try simp only [sPu]);omega);done)))))
  refine oNi (SC.wp_cond (t:=false) (by simp (disch:=(try simp only [sPu]);omega)) ?_)
  rw [if_neg (by simp)]
  refine SC.wp_skip ?_
  simp only [Exit.then]
  have hs3:=hb3.size
  have hbw3:Below w.heap.size w w3:=hbw2.trans ⟨hb3.os,hb3.tape,hb3.output,hb3.size,fun k hk=>hb3.block k (by omega)⟩
  have hb13:Below w1.heap.size w1 w3:=hb2.trans ⟨hb3.os,hb3.tape,hb3.output,hb3.size,fun k hk=>hb3.block k (by omega)⟩
  have hbox3:rangeV w3.drew w.heap.size 0 5=some vs:=by
    have:rangeV w3 w.heap.size 0 5=some vs:=by rw [rangeV_mono (hb13.block w.heap.size (by omega))];exact hbox
    exact this
  have hbx3:w.heap.size < w3.heap.size:=by omega
  refine SC.wp_seq (SC.wp_dreg hm (Below w3.heap.size w3.drew) [(1,true),(2,true),(4,true),(0,false),(3,false),(5,false),(6,true)] (by rfl) (by rfl) (by decide) (Below.refl _ _) ?_)
  iterate 3 (first | (apply dr_1;(focus rfl);(focus (simp (disch:=(try simp only [sPu]);omega) [hst,k0,hbox3,hbx3];try rfl))) | (apply dr_y;(focus rfl);(focus rfl);(focus ((try simp only [sPu]);omega));(focus (simp (disch:=(try simp only [sPu]);omega) [hst,k0,hbox3,hbx3];done));(focus (simp (disch:=(try simp only [sPu]);omega) [hst,k0,hbox3,hbx3];try rfl))) | (apply dr_n;(focus rfl);(focus rfl);(focus ((try simp only [sPu]);omega));(focus (first | (left;simp (disch:=(try simp only [sPu]);omega) [hst,k0,hbox3,hbx3];done) | (right;simp (disch:=(try simp only [sPu]);omega);done)))))
  refine dreg_call (argsV:=#[]) rfl oSp (cSp w3.drew) (by simp (disch:=(try simp only [sPu]);omega)) ?_
  rintro e w4 ⟨fv,rfl,hfv1,hfv,hb4⟩
  refine ⟨_,rfl,hb4,?_⟩
  refine dreg_call (argsV:=#[.int .u8 (n:Int),.int .i64 (m:Int)]) rfl oVer (cVer w4 n m hn8 (by omega)) (by simp (disch:=(try simp only [sPu]);omega) [k0]) ?_
  rintro e w5 ⟨rfl,rfl⟩
  refine ⟨_,rfl,hb4,?_⟩
  obtain ⟨v,hv⟩:∃ v,v=n % (m+1):=⟨_,rfl⟩
  rw [← hv]
  have hvm:v≤m:=by rw [hv];exact Nat.lt_succ_iff.1 (Nat.mod_lt _ (by omega))
  have hw35:w3.drew.heap.size=w3.heap.size:=rfl
  have hs4:=hb4.size
  have hbw5:Below w.heap.size w w4:=hbw3.trans ⟨hb4.os,hb4.tape,hb4.output,hb4.size,fun k hk=>hb4.block k (by omega)⟩
  have ht5:TV G w4 (· < w4.heap.size) t tv:=ht.down hbw5 (by omega)
  have hfv5:FsV w4 (· < w4.heap.size) fs fv:=FsV.mono (fun k hk=>hk.2) (fun _ _=>rfl) hfv
  have hfv':=hfl v
  obtain ⟨fl,hfl'⟩:∃ fl,fl=flexAt flexO v:=⟨_,rfl⟩
  have hlimv:=hlim v hvm
  refine dreg_call (argsV:=#[msgV fv mflex,.int .i64 (v:Int),tv]) rfl oWr (cWr w4 fv mflex v t tv hfv5 ht5 (by rw [← hfv'];exact hlimv)) (by rw [hvs];simp (disch:=(try simp only [sPu]);omega)) ?_
  rintro e w6 ⟨dv,rfl,hown,hb6⟩
  rw [← hfv'] at hown
  refine ⟨_,rfl,hb4.trans ⟨hb6.os,hb6.tape,hb6.output,hb6.size,fun k hk=>hb6.block k (by omega)⟩,?_⟩
  repeat (first | (apply dr_1;(focus rfl);(focus (simp (disch:=(try simp only [sPu]);omega) ;try rfl))) | (apply dr_y;(focus rfl);(focus rfl);(focus ((try simp only [sPu]);omega));(focus (simp (disch:=(try simp only [sPu]);omega);done));(focus (simp (disch:=(try simp only [sPu]);omega) ;try rfl))) | (apply dr_n;(focus rfl);(focus rfl);(focus ((try simp only [sPu]);omega));(focus (first | (left;simp (disch:=(try simp only [sPu]);omega);done) | (right;simp (disch:=(try simp only [sPu]);omega);done)))))
  refine dreg_nil ?_
  simp only [Exit.then]
  have hs6:=hb6.size
  have hbw6:Below w.heap.size w w6:=hbw5.trans ⟨hb6.os,hb6.tape,hb6.output,hb6.size,fun k hk=>hb6.block k (by omega)⟩
  have hown':Own X.U8 w6 w4.heap.size dv (wMsg v (flexAt flexO v) fs t.l t.u):=hown
  obtain ⟨S,base,cap,rfl,hcapL,hsr,hS⟩:=own_src2 hown'
  refine SC.wp_seq (SC.wp_reg ?_)
  iterate 2 (first | (apply ops_1;(focus (simp (disch:=(try simp only [sPu]);omega) [k0];try rfl))) | (apply ops_y;(focus rfl);(focus ((try simp only [sPu]);omega));(focus (simp (disch:=(try simp only [sPu]);omega) [k0];done));(focus (simp (disch:=(try simp only [sPu]);omega) [k0];try rfl))) | (apply ops_n;(focus rfl);(focus ((try simp only [sPu]);omega));(focus (first | (left;simp (disch:=(try simp only [sPu]);omega) [k0];done) | (right;simp (disch:=(try simp only [sPu]);omega);done)))))
  refine ops_call oVer (cVer w6 n m hn8 (by omega)) (by simp (disch:=(try simp only [sPu]);omega) [k0]) ?_
  rintro e w7 ⟨rfl,rfl⟩
  refine ⟨_,rfl,?_⟩
  rw [← hv]
  iterate 1 (first | (apply ops_1;(focus (simp (disch:=(try simp only [sPu]);omega) ;try rfl))) | (apply ops_y;(focus rfl);(focus ((try simp only [sPu]);omega));(focus (simp (disch:=(try simp only [sPu]);omega);done));(focus (simp (disch:=(try simp only [sPu]);omega) ;try rfl))) | (apply ops_n;(focus rfl);(focus ((try simp only [sPu]);omega));(focus (first | (left;simp (disch:=(try simp only [sPu]);omega);done) | (right;simp (disch:=(try simp only [sPu]);omega);done)))))
  obtain ⟨ts',u',hpm,hft1,hft2,hwm⟩:=msg_again (hok v hvm) (hk v hvm) hu
  refine ops_call cAg.1 (cAg.2 w6 S base _ cap v hvm (by omega) (fun w' h=>hgl w' (hbw6.trans ⟨h.os,h.tape,h.output,h.size,fun k hk=>h.block k (by omega)⟩)) hsr (fun sb h=>(hS sb h).2) hlimv (fun xs u r h=>by
    rw [hpm] at h
    cases h
    exact ⟨hft1,hft2,by rw [hwm];exact hlimv⟩)) (by simp (disch:=(try simp only [sPu]);omega)) ?_
  rw [hpm]
  rintro e w8 ⟨hb8,dv8,rfl,hown8⟩
  rw [hwm] at hown8
  refine ⟨_,rfl,?_⟩
  iterate 1 (first | (apply ops_1;(focus (simp (disch:=(try simp only [sPu]);omega) ;try rfl))) | (apply ops_y;(focus rfl);(focus ((try simp only [sPu]);omega));(focus (simp (disch:=(try simp only [sPu]);omega);done));(focus (simp (disch:=(try simp only [sPu]);omega) ;try rfl))) | (apply ops_n;(focus rfl);(focus ((try simp only [sPu]);omega));(focus (first | (left;simp (disch:=(try simp only [sPu]);omega);done) | (right;simp (disch:=(try simp only [sPu]);omega);done)))))
  refine oNo rfl (opw_extract (vs:=#[dv8,.bool true]) (v:=dv8) (by simp (disch:=(try simp only [sPu]);omega)) rfl ?_)
  refine oNo rfl (opw_extract (vs:=#[dv8,.bool true]) (v:=.bool true) (by simp (disch:=(try simp only [sPu]);omega)) rfl ?_)
  repeat (first | (apply ops_1;(focus (simp (disch:=(try simp only [sPu]);omega) ;try rfl))) | (apply ops_y;(focus rfl);(focus ((try simp only [sPu]);omega));(focus (simp (disch:=(try simp only [sPu]);omega);done));(focus (simp (disch:=(try simp only [sPu]);omega) ;try rfl))) | (apply ops_n;(focus rfl);(focus ((try simp only [sPu]);omega));(focus (first | (left;simp (disch:=(try simp only [sPu]);omega);done) | (right;simp (disch:=(try simp only [sPu]);omega);done)))))
  refine oNi ?_
  simp only [Exit.then]
  have hs8:=hb8.size
  have hbw8:Below w.heap.size w w8:=hbw6.trans ⟨hb8.os,hb8.tape,hb8.output,hb8.size,fun k hk=>hb8.block k (by omega)⟩
  refine SC.wp_seq (SC.wp_seq (SC.wp_reg ?_))
  repeat (first | (apply ops_1;(focus (simp (disch:=(try simp only [sPu]);omega) [hst];try rfl))) | (apply ops_y;(focus rfl);(focus ((try simp only [sPu]);omega));(focus (simp (disch:=(try simp only [sPu]);omega) [hst];done));(focus (simp (disch:=(try simp only [sPu]);omega) [hst];try rfl))) | (apply ops_n;(focus rfl);(focus ((try simp only [sPu]);omega));(focus (first | (left;simp (disch:=(try simp only [sPu]);omega) [hst];done) | (right;simp (disch:=(try simp only [sPu]);omega);done)))))
  refine oNi (SC.wp_cond (t:=(((wMsg v (flexAt flexO v) fs t.l t.u).length:Int) == 0)) (by simp (disch:=(try simp only [sPu]);omega)) ?_)
  by_cases hL:(wMsg v (flexAt flexO v) fs t.l t.u).length=0
  · rw [if_pos (by rw [beq_iff_eq];omega)]
    refine SC.wp_seq (SC.wp_reg ?_)
    repeat (first | (apply ops_1;(focus (simp (disch:=(try simp only [sPu]);omega) ;try rfl))) | (apply ops_y;(focus rfl);(focus ((try simp only [sPu]);omega));(focus (simp (disch:=(try simp only [sPu]);omega);done));(focus (simp (disch:=(try simp only [sPu]);omega) ;try rfl))) | (apply ops_n;(focus rfl);(focus ((try simp only [sPu]);omega));(focus (first | (left;simp (disch:=(try simp only [sPu]);omega);done) | (right;simp (disch:=(try simp only [sPu]);omega);done)))))
    refine oNi (SC.wp_ret ?_)
    simp only [Exit.then]
    exact ret_tmp hr (by simp [dPu,hd]) ⟨by simp (disch:=(try simp only [sPu]);omega),hbw8⟩
  rw [if_neg (by rw [beq_iff_eq];omega)]
  refine SC.wp_skip ?_
  simp only [Exit.then]
  obtain ⟨L,hLe⟩:∃ L,L=(wMsg v (flexAt flexO v) fs t.l t.u).length:=⟨_,rfl⟩
  obtain ⟨q,hq⟩:∃ q,q=at_ % L:=⟨_,rfl⟩
  have hqL:q < L:=by rw [hq];exact Nat.mod_lt _ (by omega)
  have hwat:IntKind.i64.wrap (at_:Int)=(at_:Int):=w64q (by omega) (by omega)
  have hmod:(at_:Int).tmod ((wMsg v (flexAt flexO v) fs t.l t.u).length:Int)=(q:Int):=by
    rw [Int.tmod_eq_emod_of_nonneg (by omega),hq,hLe]
    rfl
  have hmodN:at_ % (wMsg v (flexAt flexO v) fs t.l t.u).length=q:=by rw [hq,hLe]
  have hmodZ:(at_:Int) % ((wMsg v (flexAt flexO v) fs t.l t.u).length:Int)=(q:Int):=by rw [← hmodN];rfl
  have hL0:((wMsg v (flexAt flexO v) fs t.l t.u).length:Int) ≠ 0:=by omega
  have hqc:(0:Int)≤(q:Int)∧(q:Int)≤(cap:Int):=by have:=hcapL;omega
  refine SC.wp_seq (SC.wp_dreg hm (Below w8.heap.size w8.drew) [(0,true),(1,true),(3,true),(4,true),(5,true),(6,true),(7,true),(8,true),(9,true),(2,false),(10,false),(11,true),(12,true),(13,true),(14,true),(15,true)] (by rfl) (by rfl) (by decide) (Below.refl _ _) ?_)
  iterate 9 (first | (apply dr_1;(focus rfl);(focus (simp (disch:=(try simp only [sPu]);omega) [hst,k0,k2,hT4,hwat,hmod,hmodN,hmodZ,hL0,hL,hqc];try rfl))) | (apply dr_y;(focus rfl);(focus rfl);(focus ((try simp only [sPu]);omega));(focus (simp (disch:=(try simp only [sPu]);omega) [hst,k0,k2,hT4,hwat,hmod,hmodN,hmodZ,hL0,hL,hqc];done));(focus (simp (disch:=(try simp only [sPu]);omega) [hst,k0,k2,hT4,hwat,hmod,hmodN,hmodZ,hL0,hL,hqc];try rfl))) | (apply dr_n;(focus rfl);(focus rfl);(focus ((try simp only [sPu]);omega));(focus (first | (left;simp (disch:=(try simp only [sPu]);omega) [hst,k0,k2,hT4,hwat,hmod,hmodN,hmodZ,hL0,hL,hqc];done) | (right;simp (disch:=(try simp only [sPu]);omega);done)))))
  refine dreg_call (argsV:=#[.int .u8 (n:Int),.int .i64 (m:Int)]) rfl oVer (cVer w8.drew n m hn8 (by omega)) (by simp (disch:=(try simp only [sPu]);omega) [k0]) ?_
  rintro e w9 ⟨rfl,hw9⟩
  subst hw9
  refine ⟨_,rfl,Below.refl _ _,?_⟩
  rw [← hv]
  have hcut:=msg_cut (hok v hvm) (hk v hvm) hu (k:=q) (by omega)
  have hlq:((wMsg v (flexAt flexO v) fs t.l t.u).take q).length=q:=by rw [List.length_take];omega
  have hsr8:SrcAt w8.drew S base ((wMsg v (flexAt flexO v) fs t.l t.u).take q):=SrcAt.take (hsr.frame fun sb h=>hb8.block sb (hS sb h).2)
  have hc2:=cAg.2 w8.drew S base ((wMsg v (flexAt flexO v) fs t.l t.u).take q) cap v hvm (by show gb < w8.heap.size;omega) (fun w' h=>hgl w' (hbw8.trans ⟨h.os,h.tape,h.output,h.size,fun k hk=>h.block k (by show k < w8.heap.size;omega)⟩)) hsr8 (fun sb h=>by have:=(hS sb h).2;show sb < w8.heap.size;omega) (by rw [hlq];omega) (fun xs u r h=>by
    rw [hcut] at h
    cases h)
  rw [hcut,hlq] at hc2
  refine dreg_call (argsV:=#[.int .i64 (v:Int),.slice base q cap]) rfl cAg.1 hc2 (by simp (disch:=(try simp only [sPu]);omega)) ?_
  rintro e w10 ⟨hb10,rfl⟩
  refine ⟨_,rfl,hb10,?_⟩
  repeat (first | (apply dr_1;(focus rfl);(focus (simp (disch:=(try simp only [sPu]);omega) ;try rfl))) | (apply dr_y;(focus rfl);(focus rfl);(focus ((try simp only [sPu]);omega));(focus (simp (disch:=(try simp only [sPu]);omega);done));(focus (simp (disch:=(try simp only [sPu]);omega) ;try rfl))) | (apply dr_n;(focus rfl);(focus rfl);(focus ((try simp only [sPu]);omega));(focus (first | (left;simp (disch:=(try simp only [sPu]);omega);done) | (right;simp (disch:=(try simp only [sPu]);omega);done)))))
  refine dreg_nil ?_
  simp only [Exit.then]
  refine SC.wp_seq (SC.wp_reg ?_)
  repeat (first | (apply ops_1;(focus (simp (disch:=(try simp only [sPu]);omega) ;try rfl))) | (apply ops_y;(focus rfl);(focus ((try simp only [sPu]);omega));(focus (simp (disch:=(try simp only [sPu]);omega);done));(focus (simp (disch:=(try simp only [sPu]);omega) ;try rfl))) | (apply ops_n;(focus rfl);(focus ((try simp only [sPu]);omega));(focus (first | (left;simp (disch:=(try simp only [sPu]);omega);done) | (right;simp (disch:=(try simp only [sPu]);omega);done)))))
  refine oNi (SC.wp_ret ?_)
  try simp only [Exit.then]
  exact ret_tmp hr (by simp [dPu,hd]) ⟨by simp (disch:=(try simp only [sPu]);omega),hbw8.trans ⟨hb10.os,hb10.tape,hb10.output,hb10.size,fun k hk=>hb10.block k (by show k < w8.heap.size;omega)⟩⟩
end
end Go.Proofs.YtjcndcolfllibaaGreatDoor.K
namespace Go.Proofs.YtjcndcolfllibaaGreatDoor.K
open Go Go.RowKit Go.Proofs.YtjcndcolfllibaaGreatDoor.T
set_option linter.unusedVariables false
set_option linter.unusedSimpArgs false
def isZTag:List Value→Bool
  | [.int .u32 0,.slice none 0 0]=>true
  | _=>false
theorem tagT_of {P:Program} {X:STy} (h1:aggB P X.Tg 2=true) (h2:P.underlying X.Tgs=some (.slice X.Tg)) (h3:zeroB P X.Tg isZTag=true) (h4:(match P.info? X.Tg with | some i=>i.size == 2 && decide (i.bytes≤1000) | none=>false)=true)
    (h5:P.built X.Tg []=some #[.int .u32 0,.slice none 0 0]):TagT P X:=by
  refine ⟨h1,h2,?_,h5⟩
  obtain ⟨i,z,q1,q2,q3⟩:=zeroB_of h3
  rw [q1] at h4
  simp only [Bool.and_eq_true,beq_iff_eq,decide_eq_true_eq] at h4
  refine ⟨i,z,q1,q2,?_,h4.1,h4.2⟩
  unfold isZTag at q3
  split at q3
  · rename_i e
    rw [← Array.toArray_toList (xs:=z.cells),e]
  · cases q3
end Go.Proofs.YtjcndcolfllibaaGreatDoor.K
