/- Generic texts: R31 Z6 G0 G1 G2 G3 G4. No condition. -/
import Derived.Test.YtgaplicnofhliabDoorB0
namespace Go.Proofs.YtgaplicnofhliabDoor.K
open Go Go.RowKit Go.Proofs.YtgaplicnofhliabDoor.T
attribute [local simp] eTm eCo pNo gTp gTn qv qcall vop iop
set_option linter.unusedVariables false
set_option linter.unusedSimpArgs false
set_option maxHeartbeats 4000000
def sc_LawCut (T0 T1 T2 T3 T4 F0 F1 F2 F3 F4 F5:Nat):SC:=.seq (.reg [⟨some 4,.box T0 (.tmp 1),none⟩,⟨some 6,.assign (.const (.bool false)),none⟩]) (.seq (.seq (.reg [ld 13 T0 4,cal 14 F0 [13],⟨some 15,.unOp .not T1 (.tmp 14),none⟩]) (.cond (.tmp 15) (.seq (.reg [⟨some 6,.assign (.const (.bool true)),none⟩]) (.ret)) (.skip))) (.seq (.reg [cal 16 F1 [],asg 7 16]) (.seq (.seq (.reg [mv 17 7,⟨some 18,.binOp .lss T2 (.tmp 17) (.const (.int .i64 0)) T2,none⟩]) (.cond (.tmp 18) (.seq (.reg [⟨some 6,.assign (.const (.bool false)),none⟩]) (.ret)) (.skip))) (.seq (.dreg [cal 19 F2 [],mv 20 0,mv 21 7,cal 22 F3 [20,21],ld 23 T0 4,cal 24 F4 [19,22,23],asg 8 24] [[],[],[],[1,2,0],[],[0,3,4,3],[5,5,0,1,2,3,4,5]]) (.seq (.reg [mv 26 0,mv 27 7,cal 28 F3 [26,27],mv 29 8,cal 30 F5 [28,29],mv 25 30,⟨some 31,.extract (.tmp 25) 0,none⟩,⟨some 32,.extract (.tmp 25) 1,none⟩,asg 9 31,asg 10 32]) (.seq (.seq (.reg [mv 33 8,lenOp 34 T3 33,⟨some 35,.binOp .eql T2 (.tmp 34) (.const (.int .i64 0)) T2,none⟩]) (.cond (.tmp 35) (.seq (.reg [mv 36 10,asg 6 36]) (.ret)) (.skip))) (.seq (.dreg [mv 38 0,mv 39 7,cal 40 F3 [38,39],mv 41 8,mv 42 2,⟨some 43,.convert T4 T2 (.tmp 42),none⟩,mv 44 8,lenOp 45 T3 44,⟨some 46,.binOp .rem T2 (.tmp 43) (.tmp 45) T2,none⟩,⟨some 47,.slice T3 (.tmp 41) none (some (.tmp 46)) none,none⟩,cal 48 F5 [40,47],mv 37 48,⟨some 49,.extract (.tmp 37) 0,none⟩,⟨some 50,.extract (.tmp 37) 1,none⟩,asg 11 49,asg 12 50] [[],[],[0,1],[],[],[4],[],[6],[5,7],[3,8],[2,9,2],[10],[11],[11],[12,10,0,1,2,3,4,5,6,7,8,9,10,11,12],[13,14,0,1,2,3,4,5,6,7,8,9,10,11,12,13,14]]) (.seq (.reg [mv 51 10,mv 52 51,⟨some 53,.move (.tmp 12),some (1,true)⟩,⟨some 54,.unOp .not T1 (.tmp 53),some (1,true)⟩,⟨some 55,.pick (.tmp 52) (.tmp 54) (.const (.bool false)),none⟩,asg 6 55]) (.ret)))))))))
section
variable {G:List (Nat × Bytes)→Prop} {P:Program} {X:STy} {f:FuncId} {fn:Func}
theorem own_src2 {tU8:Nat} {w:World} {B:Nat} {dv:Value} {xs:Bytes} (h:Own tU8 w B dv xs):∃ S base cap,dv=.slice base xs.length cap∧xs.length≤cap∧SrcAt w S base xs∧∀ sb,S=some sb→B≤sb∧sb < w.heap.size:=by
  obtain ⟨S,base,cap,rfl,q1,q2⟩:=own_src h
  refine ⟨S,base,cap,rfl,?_,q1,q2⟩
  obtain ⟨-,⟨e1,e2⟩ | ⟨g,c3,cur,e1,e2,e3,e4,-⟩⟩:=h
  · rw [e2];exact Nat.zero_le _
  · cases e1;exact e4
theorem lawCut_ok (hX:stOK P X=true) (hm:P.follows .mixedOrders=true) {fFit fMax fSp fVer fWr fAg T1 T4:FuncId} (hT4:intK P T4=some .u16) {gb m:Nat} {Gl:World→Prop} (hm16:m < 32768) (fs:Fs) (mflex:Int) (flexO:Option Int)
    (hfl:∀ v:Nat,flexAt flexO v=(decide (0≤mflex) && decide (mflex≤(v:Int))))
    (oFit:FnOK P fFit) (cFit:∀ (w:World) (t:Tree) (tv:Value),TV G w (· < w.heap.size) t tv→Calls P fFit #[tv] w (Asks w))
    (oMax:FnOK P fMax) (cMax:∀ w:World,Calls P fMax #[] w fun e w'=>e=.returned (.int .i64 (m:Int))∧Below w.heap.size w w')
    (oSp:FnOK P fSp) (cSp:∀ w:World,Calls P fSp #[] w fun e w'=>∃ v,e=.returned (msgV v mflex)∧v.oneCell'=true∧FsV w' (fun k=>w.heap.size≤k∧k < w'.heap.size) fs v∧Below w.heap.size w w')
    (oVer:FnOK P fVer) (cVer:∀ (w:World) (n m:Nat),n < 256→m < 65536→Calls P fVer #[.int .u8 (n:Int),.int .i64 (m:Int)] w fun e w'=>e=.returned (.int .i64 ((n % (m+1):Nat):Int))∧w=w')
    (oWr:FnOK P fWr) (cWr:∀ (w:World) (fv:Value) (mflex ver:Int) (t:Tree) (tv:Value),FsV w (· < w.heap.size) fs fv→TV G w (· < w.heap.size) t tv→(wFs ver (decide (0≤mflex) && decide (mflex≤ver)) fs t.l ++ wTags (decide (0≤mflex) && decide (mflex≤ver)) t.u).length≤lim →
      Calls P fWr #[msgV fv mflex,.int .i64 ver,tv] w (RetOwn X.U8 w (wFs ver (decide (0≤mflex) && decide (mflex≤ver)) fs t.l ++ wTags (decide (0≤mflex) && decide (mflex≤ver)) t.u)))
    (cAg:AgC P X.U8 flexO fs gb m Gl fAg)
    (hf:P.funcs[f]?=some fn) (hb:fn.body.map strip=some (sc_LawCut X.T T1 X.I X.Bs T4 fFit fMax fSp fVer fWr fAg)) (hn:fn.ntmps=56) (hr:fn.results=#[.tmp 6]) (w:World) (n at_:Nat) (hn8:n < 256) (hat:at_ < 65536) (t:Tree) (tv:Value) (ht:TV G w (· < w.heap.size) t tv) (hgb:gb < w.heap.size) (hgl:∀ w',Below w.heap.size w w'→Gl w')
    (hok:∀ v:Nat,v≤m→okFsR v (flexAt flexO v) fs=true) (hk:∀ v:Nat,v≤m→KFs v fs t.l) (hu:∀ x ∈ t.u,x.1 < 4294967296) (hlim:∀ v:Nat,v≤m→(wMsg v (flexAt flexO v) fs t.l t.u).length≤lim) :
    Calls P f #[.int .u8 (n:Int),tv,.int .u16 (at_:Int)] w fun e w'=>e=.returned (.bool true)∧Below w.heap.size w w':=by
  have hst:=st_facts hX
  obtain ⟨vs,hvs,hvs5⟩:∃ vs:List Value,tv=.agg vs.toArray∧vs.length=5:=by
    cases ht
    exact ⟨[_,_,_,_,_],rfl,rfl⟩
  refine fCa hf hb hn (by simp) fun a0 hs hd ha=>?_
  have k0:=ha 0 _ rfl
  have k1:=ha 1 _ rfl
  have k2:=ha 2 _ rfl
  simp only [List.getElem_toArray,List.getElem_cons_zero,List.getElem_cons_succ] at k0 k1 k2
  refine SC.wp_seq (SC.wp_reg (oNo rfl (opw_box (v:=tv) k1 ?_)))
  have hnew:=heap_alloc_new w (.cells tv.cells X.T)
  have hb1:Below w.heap.size w (w.alloc (.cells tv.cells X.T)):=(Below.refl _ _).alloc (Nat.le_refl _) _
  have hs1:(w.alloc (.cells tv.cells X.T)).heap.size=w.heap.size+1:=by simp
  have hbox:rangeV (w.alloc (.cells tv.cells X.T)) w.heap.size 0 5=some vs:=by
    have:=rangeV_of (w:=w.alloc (.cells tv.cells X.T)) (b:=w.heap.size) vs 0 (fun j v hj=>by
      rw [Nat.zero_add,cell_of_row _ _ _ _ _ _ hnew,hvs]
      simpa [Value.cells] using hj)
    rwa [hvs5] at this
  generalize w.alloc (.cells tv.cells X.T)=w1 at hb1 hs1 hbox ⊢
  have ht1:TV G w1 (· < w1.heap.size) t tv:=ht.down hb1 (by omega)
  repeat (first | (apply ops_1;(focus (simp (disch:=(try simp only [sPu]);omega) ;try rfl))) | (apply ops_y;(focus rfl);(focus ((try simp only [sPu]);omega));(focus (simp (disch:=(try simp only [sPu]);omega);done));(focus (simp (disch:=(try simp only [sPu]);omega) ;try rfl))) | (apply ops_n;(focus rfl);(focus ((try simp only [sPu]);omega));(focus (first | (left;simp (disch:=(try simp only [sPu]);omega);done) | (right;simp (disch:=(try simp only [sPu]);omega);done)))))
  refine oNi (SC.wp_seq (SC.wp_seq (SC.wp_reg ?_)))
  iterate 1 (first | (apply ops_1;(focus (simp (disch:=(try simp only [sPu]);omega) [hst,hbox];try rfl))) | (apply ops_y;(focus rfl);(focus ((try simp only [sPu]);omega));(focus (simp (disch:=(try simp only [sPu]);omega) [hst,hbox];done));(focus (simp (disch:=(try simp only [sPu]);omega) [hst,hbox];try rfl))) | (apply ops_n;(focus rfl);(focus ((try simp only [sPu]);omega));(focus (first | (left;simp (disch:=(try simp only [sPu]);omega) [hst,hbox];done) | (right;simp (disch:=(try simp only [sPu]);omega);done)))))
  refine ops_call oFit (cFit w1 t tv ht1) (by rw [hvs];simp (disch:=(try simp only [sPu]);omega)) ?_
  rintro e w2 ⟨⟨bo,rfl⟩,hb2⟩
  refine ⟨_,rfl,?_⟩
  have hbw2:Below w.heap.size w w2:=hb1.trans ⟨hb2.os,hb2.tape,hb2.output,hb2.size,fun k hk=>hb2.block k (by omega)⟩
  repeat (first | (apply ops_1;(focus (simp (disch:=(try simp only [sPu]);omega) ;try rfl))) | (apply ops_y;(focus rfl);(focus ((try simp only [sPu]);omega));(focus (simp (disch:=(try simp only [sPu]);omega);done));(focus (simp (disch:=(try simp only [sPu]);omega) ;try rfl))) | (apply ops_n;(focus rfl);(focus ((try simp only [sPu]);omega));(focus (first | (left;simp (disch:=(try simp only [sPu]);omega);done) | (right;simp (disch:=(try simp only [sPu]);omega);done)))))
  refine oNi (SC.wp_cond (t:=!bo) (by simp (disch:=(try simp only [sPu]);omega)) ?_)
  cases bo
  · rw [if_pos (by rfl)]
    refine SC.wp_seq (SC.wp_reg ?_)
    repeat (first | (apply ops_1;(focus (simp (disch:=(try simp only [sPu]);omega) ;try rfl))) | (apply ops_y;(focus rfl);(focus ((try simp only [sPu]);omega));(focus (simp (disch:=(try simp only [sPu]);omega);done));(focus (simp (disch:=(try simp only [sPu]);omega) ;try rfl))) | (apply ops_n;(focus rfl);(focus ((try simp only [sPu]);omega));(focus (first | (left;simp (disch:=(try simp only [sPu]);omega);done) | (right;simp (disch:=(try simp only [sPu]);omega);done)))))
    refine oNi (SC.wp_ret ?_)
    try simp only [Exit.then]
    exact ret_tmp hr (by simp [dPu,hd]) ⟨by simp (disch:=(try simp only [sPu]);omega),hbw2⟩
  rw [if_neg (by simp)]
  refine SC.wp_skip ?_
  simp only [Exit.then]
  have hs2:=hb2.size
  refine SC.wp_seq (SC.wp_reg (ops_call oMax (cMax w2) (by simp (disch:=(try simp only [sPu]);omega)) ?_))
  rintro e w3 ⟨rfl,hb3⟩
  refine ⟨_,rfl,?_⟩
  repeat (first | (apply ops_1;(focus (simp (disch:=(try simp only [sPu]);omega) ;try rfl))) | (apply ops_y;(focus rfl);(focus ((try simp only [sPu]);omega));(focus (simp (disch:=(try simp only [sPu]);omega);done));(focus (simp (disch:=(try simp only [sPu]);omega) ;try rfl))) | (apply ops_n;(focus rfl);(focus ((try simp only [sPu]);omega));(focus (first | (left;simp (disch:=(try simp only [sPu]);omega);done) | (right;simp (disch:=(try simp only [sPu]);omega);done)))))
  refine oNi (SC.wp_seq (SC.wp_seq (SC.wp_reg ?_)))
  have em:decide ((m:Int) < 0)=false:=by simp
  repeat (first | (apply ops_1;(focus (simp (disch:=(try simp only [sPu]);omega) [em];try rfl))) | (apply ops_y;(focus rfl);(focus ((try simp only [sPu]);omega));(focus (simp (disch:=(try simp only [sPu]);omega) [em];done));(focus (simp (disch:=(try simp only [sPu]);omega) [em];try rfl))) | (apply ops_n;(focus rfl);(focus ((try simp only [sPu]);omega));(focus (first | (left;simp (disch:=(try simp only [sPu]);omega) [em];done) | (right;simp (disch:=(try simp only [sPu]);omega);done)))))
  refine oNi (SC.wp_cond (t:=false) (by simp (disch:=(try simp only [sPu]);omega)) ?_)
  rw [if_neg (by simp)]
  refine SC.wp_skip ?_
  simp only [Exit.then]
  have hs3:=hb3.size
  have hbw3:Below w.heap.size w w3:=hbw2.trans ⟨hb3.os,hb3.tape,hb3.output,hb3.size,fun k hk=>hb3.block k (by omega)⟩
  have hb13:Below w1.heap.size w1 w3:=hb2.trans ⟨hb3.os,hb3.tape,hb3.output,hb3.size,fun k hk=>hb3.block k (by omega)⟩
  have hbox3:rangeV w3.drew w.heap.size 0 5=some vs:=by
    have:rangeV w3 w.heap.size 0 5=some vs:=by rw [rangeV_mono (hb13.block w.heap.size (by omega))];exact hbox
    exact this
  have hbx3:w.heap.size < w3.heap.size:=by omega
  refine SC.wp_seq (SC.wp_dreg hm (Below w3.heap.size w3.drew) [(1,true),(2,true),(4,true),(0,false),(3,false),(5,false),(6,true)] (by rfl) (by rfl) (by decide) (Below.refl _ _) ?_)
  iterate 3 (first | (apply dr_1;(focus rfl);(focus (simp (disch:=(try simp only [sPu]);omega) [hst,k0,hbox3,hbx3];try rfl))) | (apply dr_y;(focus rfl);(focus rfl);(focus ((try simp only [sPu]);omega));(focus (simp (disch:=(try simp only [sPu]);omega) [hst,k0,hbox3,hbx3];done));(focus (simp (disch:=(try simp only [sPu]);omega) [hst,k0,hbox3,hbx3];try rfl))) | (apply dr_n;(focus rfl);(focus rfl);(focus ((try simp only [sPu]);omega));(focus (first | (left;simp (disch:=(try simp only [sPu]);omega) [hst,k0,hbox3,hbx3];done) | (right;simp (disch:=(try simp only [sPu]);omega);done)))))
  refine dreg_call (argsV:=#[]) rfl oSp (cSp w3.drew) (by simp (disch:=(try simp only [sPu]);omega)) ?_
  rintro e w4 ⟨fv,rfl,hfv1,hfv,hb4⟩
  refine ⟨_,rfl,hb4,?_⟩
  refine dreg_call (argsV:=#[.int .u8 (n:Int),.int .i64 (m:Int)]) rfl oVer (cVer w4 n m hn8 (by omega)) (by simp (disch:=(try simp only [sPu]);omega) [k0]) ?_
  rintro e w5 ⟨rfl,rfl⟩
  refine ⟨_,rfl,hb4,?_⟩
  obtain ⟨v,hv⟩:∃ v,v=n % (m+1):=⟨_,rfl⟩
  rw [← hv]
  have hvm:v≤m:=by rw [hv];exact Nat.lt_succ_iff.1 (Nat.mod_lt _ (by omega))
  have hw35:w3.drew.heap.size=w3.heap.size:=rfl
  have hs4:=hb4.size
  have hbw5:Below w.heap.size w w4:=hbw3.trans ⟨hb4.os,hb4.tape,hb4.output,hb4.size,fun k hk=>hb4.block k (by omega)⟩
  have ht5:TV G w4 (· < w4.heap.size) t tv:=ht.down hbw5 (by omega)
  have hfv5:FsV w4 (· < w4.heap.size) fs fv:=FsV.mono (fun k hk=>hk.2) (fun _ _=>rfl) hfv
  have hfv':=hfl v
  obtain ⟨fl,hfl'⟩:∃ fl,fl=flexAt flexO v:=⟨_,rfl⟩
  have hlimv:=hlim v hvm
  refine dreg_call (argsV:=#[msgV fv mflex,.int .i64 (v:Int),tv]) rfl oWr (cWr w4 fv mflex v t tv hfv5 ht5 (by rw [← hfv'];exact hlimv)) (by rw [hvs];simp (disch:=(try simp only [sPu]);omega)) ?_
  rintro e w6 ⟨dv,rfl,hown,hb6⟩
  rw [← hfv'] at hown
  refine ⟨_,rfl,hb4.trans ⟨hb6.os,hb6.tape,hb6.output,hb6.size,fun k hk=>hb6.block k (by omega)⟩,?_⟩
  repeat (first | (apply dr_1;(focus rfl);(focus (simp (disch:=(try simp only [sPu]);omega) ;try rfl))) | (apply dr_y;(focus rfl);(focus rfl);(focus ((try simp only [sPu]);omega));(focus (simp (disch:=(try simp only [sPu]);omega);done));(focus (simp (disch:=(try simp only [sPu]);omega) ;try rfl))) | (apply dr_n;(focus rfl);(focus rfl);(focus ((try simp only [sPu]);omega));(focus (first | (left;simp (disch:=(try simp only [sPu]);omega);done) | (right;simp (disch:=(try simp only [sPu]);omega);done)))))
  refine dreg_nil ?_
  simp only [Exit.then]
  have hs6:=hb6.size
  have hbw6:Below w.heap.size w w6:=hbw5.trans ⟨hb6.os,hb6.tape,hb6.output,hb6.size,fun k hk=>hb6.block k (by omega)⟩
  have hown':Own X.U8 w6 w4.heap.size dv (wMsg v (flexAt flexO v) fs t.l t.u):=hown
  obtain ⟨S,base,cap,rfl,hcapL,hsr,hS⟩:=own_src2 hown'
  refine SC.wp_seq (SC.wp_reg ?_)
  iterate 2 (first | (apply ops_1;(focus (simp (disch:=(try simp only [sPu]);omega) [k0];try rfl))) | (apply ops_y;(focus rfl);(focus ((try simp only [sPu]);omega));(focus (simp (disch:=(try simp only [sPu]);omega) [k0];done));(focus (simp (disch:=(try simp only [sPu]);omega) [k0];try rfl))) | (apply ops_n;(focus rfl);(focus ((try simp only [sPu]);omega));(focus (first | (left;simp (disch:=(try simp only [sPu]);omega) [k0];done) | (right;simp (disch:=(try simp only [sPu]);omega);done)))))
  refine ops_call oVer (cVer w6 n m hn8 (by omega)) (by simp (disch:=(try simp only [sPu]);omega) [k0]) ?_
  rintro e w7 ⟨rfl,rfl⟩
  refine ⟨_,rfl,?_⟩
  rw [← hv]
  iterate 1 (first | (apply ops_1;(focus (simp (disch:=(try simp only [sPu]);omega) ;try rfl))) | (apply ops_y;(focus rfl);(focus ((try simp only [sPu]);omega));(focus (simp (disch:=(try simp only [sPu]);omega);done));(focus (simp (disch:=(try simp only [sPu]);omega) ;try rfl))) | (apply ops_n;(focus rfl);(focus ((try simp only [sPu]);omega));(focus (first | (left;simp (disch:=(try simp only [sPu]);omega);done) | (right;simp (disch:=(try simp only [sPu]);omega);done)))))
  obtain ⟨ts',u',hpm,hft1,hft2,hwm⟩:=msg_again (hok v hvm) (hk v hvm) hu
  refine ops_call cAg.1 (cAg.2 w6 S base _ cap v hvm (by omega) (fun w' h=>hgl w' (hbw6.trans ⟨h.os,h.tape,h.output,h.size,fun k hk=>h.block k (by omega)⟩)) hsr (fun sb h=>(hS sb h).2) hlimv (fun xs u r h=>by
    rw [hpm] at h
    cases h
    exact ⟨hft1,hft2,by rw [hwm];exact hlimv⟩)) (by simp (disch:=(try simp only [sPu]);omega)) ?_
  rw [hpm]
  rintro e w8 ⟨hb8,dv8,rfl,hown8⟩
  rw [hwm] at hown8
  refine ⟨_,rfl,?_⟩
  iterate 1 (first | (apply ops_1;(focus (simp (disch:=(try simp only [sPu]);omega) ;try rfl))) | (apply ops_y;(focus rfl);(focus ((try simp only [sPu]);omega));(focus (simp (disch:=(try simp only [sPu]);omega);done));(focus (simp (disch:=(try simp only [sPu]);omega) ;try rfl))) | (apply ops_n;(focus rfl);(focus ((try simp only [sPu]);omega));(focus (first | (left;simp (disch:=(try simp only [sPu]);omega);done) | (right;simp (disch:=(try simp only [sPu]);omega);done)))))
  refine oNo rfl (opw_extract (vs:=#[dv8,.bool true]) (v:=dv8) (by simp (disch:=(try simp only [sPu]);omega)) rfl ?_)
  refine oNo rfl (opw_extract (vs:=#[dv8,.bool true]) (v:=.bool true) (by simp (disch:=(try simp only [sPu]);omega)) rfl ?_)
  repeat (first | (apply ops_1;(focus (simp (disch:=(try simp only [sPu]);omega) ;try rfl))) | (apply ops_y;(focus rfl);(focus ((try simp only [sPu]);omega));(focus (simp (disch:=(try simp only [sPu]);omega);done));(focus (simp (disch:=(try simp only [sPu]);omega) ;try rfl))) | (apply ops_n;(focus rfl);(focus ((try simp only [sPu]);omega));(focus (first | (left;simp (disch:=(try simp only [sPu]);omega);done) | (right;simp (disch:=(try simp only [sPu]);omega);done)))))
  refine oNi ?_
  simp only [Exit.then]
  have hs8:=hb8.size
  have hbw8:Below w.heap.size w w8:=hbw6.trans ⟨hb8.os,hb8.tape,hb8.output,hb8.size,fun k hk=>hb8.block k (by omega)⟩
  refine SC.wp_seq (SC.wp_seq (SC.wp_reg ?_))
  repeat (first | (apply ops_1;(focus (simp (disch:=(try simp only [sPu]);omega) [hst];try rfl))) | (apply ops_y;(focus rfl);(focus ((try simp only [sPu]);omega));(focus (simp (disch:=(try simp only [sPu]);omega) [hst];done));(focus (simp (disch:=(try simp only [sPu]);omega) [hst];try rfl))) | (apply ops_n;(focus rfl);(focus ((try simp only [sPu]);omega));(focus (first | (left;simp (disch:=(try simp only [sPu]);omega) [hst];done) | (right;simp (disch:=(try simp only [sPu]);omega);done)))))
  refine oNi (SC.wp_cond (t:=(((wMsg v (flexAt flexO v) fs t.l t.u).length:Int) == 0)) (by simp (disch:=(try simp only [sPu]);omega)) ?_)
  by_cases hL:(wMsg v (flexAt flexO v) fs t.l t.u).length=0
  · rw [if_pos (by rw [beq_iff_eq];omega)]
    refine SC.wp_seq (SC.wp_reg ?_)
    repeat (first | (apply ops_1;(focus (simp (disch:=(try simp only [sPu]);omega) ;try rfl))) | (apply ops_y;(focus rfl);(focus ((try simp only [sPu]);omega));(focus (simp (disch:=(try simp only [sPu]);omega);done));(focus (simp (disch:=(try simp only [sPu]);omega) ;try rfl))) | (apply ops_n;(focus rfl);(focus ((try simp only [sPu]);omega));(focus (first | (left;simp (disch:=(try simp only [sPu]);omega);done) | (right;simp (disch:=(try simp only [sPu]);omega);done)))))
    refine oNi (SC.wp_ret ?_)
    simp only [Exit.then]
    exact ret_tmp hr (by simp [dPu,hd]) ⟨by simp (disch:=(try simp only [sPu]);omega),hbw8⟩
  rw [if_neg (by rw [beq_iff_eq];omega)]
  refine SC.wp_skip ?_
  simp only [Exit.then]
  obtain ⟨L,hLe⟩:∃ L,L=(wMsg v (flexAt flexO v) fs t.l t.u).length:=⟨_,rfl⟩
  obtain ⟨q,hq⟩:∃ q,q=at_ % L:=⟨_,rfl⟩
  have hqL:q < L:=by rw [hq];exact Nat.mod_lt _ (by omega)
  have hwat:IntKind.i64.wrap (at_:Int)=(at_:Int):=w64q (by omega) (by omega)
  have hmod:(at_:Int).tmod ((wMsg v (flexAt flexO v) fs t.l t.u).length:Int)=(q:Int):=by
    rw [Int.tmod_eq_emod_of_nonneg (by omega),hq,hLe]
    rfl
  have hmodN:at_ % (wMsg v (flexAt flexO v) fs t.l t.u).length=q:=by rw [hq,hLe]
  have hmodZ:(at_:Int) % ((wMsg v (flexAt flexO v) fs t.l t.u).length:Int)=(q:Int):=by rw [← hmodN];rfl
  have hL0:((wMsg v (flexAt flexO v) fs t.l t.u).length:Int) ≠ 0:=by omega
  have hqc:(0:Int)≤(q:Int)∧(q:Int)≤(cap:Int):=by have:=hcapL;omega
  refine SC.wp_seq (SC.wp_dreg hm (Below w8.heap.size w8.drew) [(0,true),(1,true),(3,true),(4,true),(5,true),(6,true),(7,true),(8,true),(9,true),(2,false),(10,false),(11,true),(12,true),(13,true),(14,true),(15,true)] (by rfl) (by rfl) (by decide) (Below.refl _ _) ?_)
  iterate 9 (first | (apply dr_1;(focus rfl);(focus (simp (disch:=(try simp only [sPu]);omega) [hst,k0,k2,hT4,hwat,hmod,hmodN,hmodZ,hL0,hL,hqc];try rfl))) | (apply dr_y;(focus rfl);(focus rfl);(focus ((try simp only [sPu]);omega));(focus (simp (disch:=(try simp only [sPu]);omega) [hst,k0,k2,hT4,hwat,hmod,hmodN,hmodZ,hL0,hL,hqc];done));(focus (simp (disch:=(try simp only [sPu]);omega) [hst,k0,k2,hT4,hwat,hmod,hmodN,hmodZ,hL0,hL,hqc];try rfl))) | (apply dr_n;(focus rfl);(focus rfl);(focus ((try simp only [sPu]);omega));(focus (first | (left;simp (disch:=(try simp only [sPu]);omega) [hst,k0,k2,hT4,hwat,hmod,hmodN,hmodZ,hL0,hL,hqc];done) | (right;simp (disch:=(try simp only [sPu]);omega);done)))))
  refine dreg_call (argsV:=#[.int .u8 (n:Int),.int .i64 (m:Int)]) rfl oVer (cVer w8.drew n m hn8 (by omega)) (by simp (disch:=(try simp only [sPu]);omega) [k0]) ?_
  rintro e w9 ⟨rfl,hw9⟩
  subst hw9
  refine ⟨_,rfl,Below.refl _ _,?_⟩
  rw [← hv]
  have hcut:=msg_cut (hok v hvm) (hk v hvm) hu (k:=q) (by omega)
  have hlq:((wMsg v (flexAt flexO v) fs t.l t.u).take q).length=q:=by rw [List.length_take];omega
  have hsr8:SrcAt w8.drew S base ((wMsg v (flexAt flexO v) fs t.l t.u).take q):=SrcAt.take (hsr.frame fun sb h=>hb8.block sb (hS sb h).2)
  have hc2:=cAg.2 w8.drew S base ((wMsg v (flexAt flexO v) fs t.l t.u).take q) cap v hvm (by show gb < w8.heap.size;omega) (fun w' h=>hgl w' (hbw8.trans ⟨h.os,h.tape,h.output,h.size,fun k hk=>h.block k (by show k < w8.heap.size;omega)⟩)) hsr8 (fun sb h=>by have:=(hS sb h).2;show sb < w8.heap.size;omega) (by rw [hlq];omega) (fun xs u r h=>by
    rw [hcut] at h
    cases h)
  rw [hcut,hlq] at hc2
  refine dreg_call (argsV:=#[.int .i64 (v:Int),.slice base q cap]) rfl cAg.1 hc2 (by simp (disch:=(try simp only [sPu]);omega)) ?_
  rintro e w10 ⟨hb10,rfl⟩
  refine ⟨_,rfl,hb10,?_⟩
  repeat (first | (apply dr_1;(focus rfl);(focus (simp (disch:=(try simp only [sPu]);omega) ;try rfl))) | (apply dr_y;(focus rfl);(focus rfl);(focus ((try simp only [sPu]);omega));(focus (simp (disch:=(try simp only [sPu]);omega);done));(focus (simp (disch:=(try simp only [sPu]);omega) ;try rfl))) | (apply dr_n;(focus rfl);(focus rfl);(focus ((try simp only [sPu]);omega));(focus (first | (left;simp (disch:=(try simp only [sPu]);omega);done) | (right;simp (disch:=(try simp only [sPu]);omega);done)))))
  refine dreg_nil ?_
  simp only [Exit.then]
  refine SC.wp_seq (SC.wp_reg ?_)
  repeat (first | (apply ops_1;(focus (simp (disch:=(try simp only [sPu]);omega) ;try rfl))) | (apply ops_y;(focus rfl);(focus ((try simp only [sPu]);omega));(focus (simp (disch:=(try simp only [sPu]);omega);done));(focus (simp (disch:=(try simp only [sPu]);omega) ;try rfl))) | (apply ops_n;(focus rfl);(focus ((try simp only [sPu]);omega));(focus (first | (left;simp (disch:=(try simp only [sPu]);omega);done) | (right;simp (disch:=(try simp only [sPu]);omega);done)))))
  refine oNi (SC.wp_ret ?_)
  try simp only [Exit.then]
  exact ret_tmp hr (by simp [dPu,hd]) ⟨by simp (disch:=(try simp only [sPu]);omega),hbw8.trans ⟨hb10.os,hb10.tape,hb10.output,hb10.size,fun k hk=>hb10.block k (by show k < w8.heap.size;omega)⟩⟩
end
end Go.Proofs.YtgaplicnofhliabDoor.K
namespace Go.Proofs.YtgaplicnofhliabDoor.K
open Go Go.RowKit Go.Proofs.YtgaplicnofhliabDoor.T
set_option linter.unusedVariables false
set_option linter.unusedSimpArgs false
def isZTag:List Value→Bool
  | [.int .u32 0,.slice none 0 0]=>true
  | _=>false
theorem tagT_of {P:Program} {X:STy} (h1:aggB P X.Tg 2=true) (h2:P.underlying X.Tgs=some (.slice X.Tg)) (h3:zeroB P X.Tg isZTag=true) (h4:(match P.info? X.Tg with | some i=>i.size == 2 && decide (i.bytes≤1000) | none=>false)=true)
    (h5:P.built X.Tg []=some #[.int .u32 0,.slice none 0 0]):TagT P X:=by
  refine ⟨h1,h2,?_,h5⟩
  obtain ⟨i,z,q1,q2,q3⟩:=zeroB_of h3
  rw [q1] at h4
  simp only [Bool.and_eq_true,beq_iff_eq,decide_eq_true_eq] at h4
  refine ⟨i,z,q1,q2,?_,h4.1,h4.2⟩
  unfold isZTag at q3
  split at q3
  · rename_i e
    rw [← Array.toArray_toList (xs:=z.cells),e]
  · cases q3
end Go.Proofs.YtgaplicnofhliabDoor.K
namespace Go.Proofs.YtgaplicnofhliabDoor.K
open Go Go.RowKit Go.Proofs.YtgaplicnofhliabDoor.T
attribute [local simp] eTm eCo pNo gTp gTn qv qcall vop iop
set_option linter.unusedSimpArgs false
set_option linter.unusedVariables false
set_option maxHeartbeats 2000000
section
variable {P:Program} {R:RTy} {f:FuncId} {fn:Func}
theorem rNumZ_ok {TR BE F gb T T' nb : Nat} {ks : IntKind} (hTR : R.TR = TR) (hR : rdOK P R = true) (hnb : 0 < nb) (hf : P.funcs[f]? = some fn) (hb : fn.body.map strip = some (sc_RNumS R BE F gb T T' (nb : Int) ks)) (hnm : (fn.name == "runtime.NumGoroutine") = false) (hn : fn.ntmps = 32) (hr : fn.results = #[.tmp 2])
    (w:World) (S:Option Nat) (rb:Nat) (st:Option Bytes) (hrd:RdAt TR w S rb st) (hno:after st (pInt nb)=none) :
    Calls P f #[.pointer (some ⟨rb,0,none⟩)] w fun e w'=>e=.returned (.int ks 0)∧RdAt TR w' S rb none∧Only rb w w':=by
  subst hTR
  have hst:=rd_facts hR
  refine fCa hf hb hn (by simp) fun a0 hs hd ha=>?_
  have h0:=ha 0 _ rfl
  simp only [List.getElem_toArray,List.getElem_cons_zero,List.getElem_cons_succ] at h0
  refine SC.wp_seq (SC.wp_reg ?_)
  repeat (apply ops_1;(focus (simp (disch:=(try simp only [sPu]);omega) ;try rfl)))
  refine oNi (SC.wp_seq (SC.wp_seq (SC.wp_reg ?_)))
  rcases rdAt_row hrd with ⟨rfl,hrow⟩ | ⟨rest,base,cap,rfl,hrow,hcap,hsr⟩
  · have hc:=rdRow_cells hrow
    have hnbi:decide ((0:Int) < (nb:Int))=true:=by simpa using hnb
    repeat (apply ops_1;(focus (simp (disch:=(try simp only [sPu]);omega) [hst,h0,hc];try rfl)))
    refine oNi (SC.wp_cond (t:=true) (by simp (disch:=(try simp only [sPu]);omega) [hnb]) ?_)
    rw [if_pos rfl]
    refine rFail_ok (S:=S) hR hrow (by simp (disch:=(try simp only [sPu]);omega) [h0]) (by omega) (by simp [sPu,hs]) (by simp [sPu,hs]) fun a' w' q1 q2 q3 q4=>?_
    simp only [Exit.then]
    exact ret_tmp hr (by rw [q1];simp [dPu,hd]) ⟨by rw [q2],q3,q4⟩
  · have hc:=rdRow_cells hrow
    have hl:rest.length < nb:=by
      apply Classical.byContradiction
      intro h
      rw [after_ok (pInt_of (by omega))] at hno
      cases hno
    repeat (apply ops_1;(focus (simp (disch:=(try simp only [sPu]);omega) [hst,h0,hc];try rfl)))
    refine oNi (SC.wp_cond (t:=decide ((rest.length:Int) < (nb:Int))) (by simp (disch:=(try simp only [sPu]);omega)) ?_)
    rw [if_pos (decide_eq_true (by omega))]
    refine rFail_ok (S:=S) hR hrow (by simp (disch:=(try simp only [sPu]);omega) [h0]) (by omega) (by simp [sPu,hs]) (by simp [sPu,hs]) fun a' w' q1 q2 q3 q4=>?_
    simp only [Exit.then]
    exact ret_tmp hr (by rw [q1];simp [dPu,hd]) ⟨by rw [q2],q3,q4⟩
end
end Go.Proofs.YtgaplicnofhliabDoor.K
namespace Go.Proofs.YtgaplicnofhliabDoor.K
open Go Go.RowKit Go.Proofs.YtgaplicnofhliabDoor.T
attribute [local simp] eTm eCo pNo gTp gTn qv qcall vop iop
set_option linter.unusedVariables false
set_option linter.unusedSimpArgs false
set_option maxHeartbeats 2000000
structure KTop where
  S:Nat
  size:Nat
  d:Nat
  t:Nat
  N:Nat
  fs:Fs
def kTop (I:RIds) (S d t:Nat) (fs:Fs):SC :=
  seqs ([cset 6 .nilIface,.reg [mv t 0,cal (t+1) d [t]],
    .reg [mv (t+2) 1,⟨some (t+3),.build I.tRd #[(0,.tmp (t+2))],none⟩,⟨some 7,.alloc I.tRd,none⟩,⟨none,.store I.tRd (.tmp 7) (.tmp (t+3)),none⟩],
    .reg [mv (t+4) 0,cal (t+5) I.rI16 [7],nilc (t+6) (t+4),fa (t+7) S (t+6) 0,⟨none,.store I.tI16 (.tmp (t+7)) (.tmp (t+5)),none⟩],
    .reg [mv (t+8) 0,nilc (t+9) (t+8),fa (t+10) S (t+9) 0,ld (t+11) I.tI16 (t+10),asg 8 (t+11)],.reg [mv (t+12) 8],.reg [mv (t+13) 0,asg 9 (t+13)]] ++
      (rFs I (rCtx none) S 9 10 (t+14) 0 fs ++ [.reg [cal (t+14+rFT (rCtx none) fs) I.rCompl [7],asg 6 (t+14+rFT (rCtx none) fs)],.ret]))
def KTop.chk (P:Program) (I:RIds) (M:KTop):Bool :=
  okRFs P I (rCtx none) M.S M.fs && layFs 1 M.size M.fs && decide (1≤M.size∧10+rVs M.fs≤M.t∧M.t+14+rFT (rCtx none) M.fs+1≤M.N) && fieldB P M.S 0 0 && intB P I.tI16 .i16 && oneB P I.tI16 && rdNew P I.tRd
def ReadKC (P:Program) (I:RIds) (M:KTop) (B:Nat) (G:List (Nat × Bytes)→Prop) (err:Value) (F:FuncId) (w0:World):Prop :=
  ∀ (S:Option Nat) (b:Nat) (cs:Array Value) (E:TypeId) (base:Option Addr) (src:Bytes) (cap:Nat),(∀ n r,pInt 2 src=some (n,r)→0≤n)→B≤b→B≤w0.heap.size→w0.heap[b]?=some (.cells cs E (0,0))→M.size≤cs.size →
    FrFs w0 b M.fs 0→src.length≤cap→SrcAt w0 S base src→(∀ sb,S=some sb→sb ≠ b∧sb < w0.heap.size) →
    Calls P F #[.pointer (some ⟨b,0,none⟩),.slice base src.length cap,.bool false] w0 fun e w'=>Below B w0 w'∧B≤w'.heap.size ∧
      match pInt 2 src with
      | none=>e=.returned err
      | some (ver,rest)=>match pBody ver false M.fs rest with
        | none=>e=.returned err
        | some (x,r)=>e=.returned .nilIface∧b < w'.heap.size∧w'.cell? ⟨b,0,none⟩=some (.int .i16 ver) ∧
          (FitFs ver M.fs x.l→FitTags x.u→∃ F:Nat→Prop,(∀ k,F k→k < w'.heap.size)∧HFs G w' F ver false M.fs b 0 x.l∧TagsAt G w' F false b 0 none x.u)
section
variable {P:Program} {I:RIds} {M:KTop} {B:Nat} {G:List (Nat × Bytes)→Prop} {err:Value} {Gl:World→Prop} {gb:Nat} {f:FuncId} {fn:Func} {w0:World}
theorem readKept_ok {out:List (Nat × Value)} (hk:KR P I I.tRd gb err Gl) (hG:∀ u,G u) (hgl:∀ w,Below B w0 w→Gl w) (hgb:gb < B)
    (h16:RC P I.tRd gb I.rI16 (pInt 2) (fun v=>∃ n,v=.int .i16 n) (fun _ _ n v=>v=.int .i16 n))
    (h16z:∀ (w:World) (S:Option Nat) (rb:Nat) (st:Option Bytes),RdAt I.tRd w S rb st→after st (pInt 2)=none→Calls P I.rI16 #[.pointer (some ⟨rb,0,none⟩)] w fun e w'=>e=.returned (.int .i16 0)∧RdAt I.tRd w' S rb none∧Only rb w w')
    (hchk:M.chk P I=true) (hdef:DefFs P M.fs) (hd:DefAt P M.d M.size out) (hout:outFs out M.fs 0=true) (hoa:(out.all fun x=>decide (x.1 < M.size∧0 < x.1))=true)
    (hf:P.funcs[f]?=some fn) (hb:fn.body.map strip=some (kTop I M.S M.d M.t M.fs)) (hn:fn.ntmps=M.N) (hr:fn.results=#[.tmp 6]):ReadKC P I M B G err f w0:=by
  intro S b cs E base src cap hpos hBb hBw hcs hlen hfr hcap hsr hsrc
  simp only [KTop.chk,Bool.and_eq_true,decide_eq_true_eq] at hchk
  obtain ⟨⟨⟨⟨⟨⟨c1,c3⟩,c5,c6,c7⟩,c8⟩,c9⟩,c10⟩,c11⟩:=hchk
  obtain ⟨r1,⟨rit,rz,rzi,rzz,rzc⟩,r3⟩:=rdNew_of c11
  have hbl:b < w0.heap.size:=(Array.getElem?_eq_some_iff.1 hcs).1
  have hoa':∀ x ∈ out,x.1 < M.size∧0 < x.1:=fun x hx=>by simpa using (List.all_eq_true.1 hoa) x hx
  refine fCa hf hb hn (by simp;omega) fun a0 hs hdf ha=>?_
  have h0:=ha 0 _ rfl
  have h1:=ha 1 _ rfl
  have h2:=ha 2 _ rfl
  simp only [List.getElem_toArray,List.getElem_cons_zero,List.getElem_cons_succ] at h0 h1 h2
  refine wpL_seqs _ _ _ ?_
  simp only [List.cons_append,List.nil_append,wpL]
  refine SC.wp_reg (oNo rfl (opw_assign (oNi ?_)))
  simp only [Exit.then,eCo]
  refine SC.wp_reg (ops_mv (ops_call (argsV:=#[.pointer (some ⟨b,0,none⟩)]) hd.1 (hd.2 w0 b 0 cs E hcs (by omega)) (by simp (disch:=(try simp only [sPu]);omega) [h0]) ?_))
  rintro e w1 ⟨rfl,hw1⟩
  refine ⟨_,rfl,oNi ?_⟩
  simp only [Exit.then]
  have hds:(dSetAll 0 out cs).size=cs.size:=dSetAll_size _ _ _
  have hrow1:w1.heap[b]?=some (.cells (dSetAll 0 out cs) E (0,0)):=by rw [hw1];exact setRow_heap _ _ _ _ _ _ hcs
  have hoth1:∀ k,k ≠ b→w1.heap[k]?=w0.heap[k]?:=fun k hk=>by rw [hw1];exact setRow_other _ _ _ _ hk
  have hsz1:w1.heap.size=w0.heap.size:=by rw [hw1];simp
  have hbelow1:Below B w0 w1:=by rw [hw1];exact ⟨rfl,rfl,rfl,by simp,fun k hk=>setRow_other _ _ _ _ (by omega)⟩
  have hfr1:FrFs w1 b M.fs 0:=by
    have:=outFs_ok (w:=w0) (w':=w1) (b:=b) (q:=0) (out:=out) (fun j hj=>by
      rw [Nat.zero_add,cell_of_row _ _ _ _ _ _ hrow1,cell_of_row _ _ _ _ _ _ hcs]
      exact dSetAll_other out cs fun x hx=>by rw [Nat.zero_add];exact hj x hx) M.fs 0 hout (by simpa using hfr)
    simpa using this
  refine SC.wp_reg (ops_mv (oNo rfl (opw_build (cs:=#[.slice base src.length cap,.bool false]) ?_ (oNo rfl (opw_alloc rzi rzz ?_)))))
  · have:(#[(0,Operand.tmp (M.t+2))].map fun x:Nat × Operand=>(x.1,Act.eval (((((a0.put (some 6) .nilIface).put (some M.t) (getT (a0.put (some 6) .nilIface) 0)).put (some (M.t+1)) (.tuple #[])).put (some (M.t+2)) (getT (((a0.put (some 6) .nilIface).put (some M.t) (getT (a0.put (some 6) .nilIface) 0)).put (some (M.t+1)) (.tuple #[])) 1))) x.2)).toList=[(0,.slice base src.length cap)]:=by
      simp only [List.map_toArray,List.map_cons,List.map_nil]
      rw [eTm,gTp (by simp only [sPu];omega),gTn (by omega),gTn (by omega),gTn (by omega),h1]
    rw [this]
    exact r3 _ rfl
  have hnew:=heap_alloc_new w1 (.cells rz.cells I.tRd)
  refine oNo rfl (opw_store_agg (cs:=[.slice base src.length cap,.bool false]) (cur:=rz.cells) (b:=w1.heap.size) (E:=I.tRd) r1 (by simp (disch:=(try simp only [sPu]);omega)) (by simp (disch:=(try simp only [sPu]);omega)) hnew (by rw [rzc];rfl) (by intro v hv;simp at hv;rcases hv with rfl | rfl <;> rfl) (oNi ?_))
  rw [pNo]
  simp only [Exit.then]
  obtain ⟨rb,hrb⟩:∃ rb,rb=w1.heap.size:=⟨_,rfl⟩
  rw [← hrb] at hnew ⊢
  obtain ⟨w2,hw2⟩:∃ w2,w2=(w1.alloc (.cells rz.cells I.tRd)).setRow rb [Value.slice base src.length cap,.bool false].toArray:=⟨_,rfl⟩
  rw [← hw2]
  have hrow2:w2.heap[rb]?=some (.cells #[.slice base src.length cap,.bool false] I.tRd (0,0)):=by rw [hw2];exact setRow_heap _ _ _ _ _ _ hnew
  have hoth2:∀ k,k < w1.heap.size→w2.heap[k]?=w1.heap[k]?:=fun k hk=>by
    rw [hw2,setRow_other _ _ _ _ (by omega)]
    exact Below.heap_alloc _ _ _ hk
  have hsz2:w2.heap.size=w1.heap.size+1:=by rw [hw2];simp
  have hbelow2:Below B w0 w2:=by
    rw [hw2]
    exact (hbelow1.alloc (by omega) _).trans ⟨rfl,rfl,rfl,by simp,fun k hk=>setRow_other _ _ _ _ (by omega)⟩
  have hrb2:w2.heap[b]?=some (.cells (dSetAll 0 out cs) E (0,0)):=by rw [hoth2 b (by omega)];exact hrow1
  have hat2:RdAt I.tRd w2 S rb (some src):=by
    refine ⟨base,cap,hrow2,hcap,?_⟩
    have:SrcAt w2 S base src:=hsr.frame fun sb hsb=>by rw [hoth2 sb (by have:=(hsrc sb hsb).2;omega),hoth1 sb (hsrc sb hsb).1]
    cases S <;> exact this
  have hsr2:∀ sb,S=some sb→sb ≠ rb∧sb < w2.heap.size:=fun sb hsb=>⟨by have:=(hsrc sb hsb).2;omega,by have:=(hsrc sb hsb).2;omega⟩
  have hver:Calls P I.rI16 #[.pointer (some ⟨rb,0,none⟩)] w2 fun e w3=>∃ n:Int,e=.returned (.int .i16 n)∧0≤n∧RdAt I.tRd w3 S rb (after (some src) (pInt 2))∧Only rb w2 w3∧∀ n' r,pInt 2 src=some (n',r)→n=n':=by
    cases hp:pInt 2 src with
    | none =>
      refine (h16z w2 S rb (some src) hat2 (after_no hp)).mono fun e w3 h=>?_
      obtain ⟨q1,q2,q3⟩:=h
      exact ⟨0,q1,Int.le_refl _,by rw [after_no hp];exact q2,q3,fun n' r h=>by cases h⟩
    | some z =>
      obtain ⟨n',r⟩:=z
      refine (h16.2 w2 S rb (some src) (by omega) hat2 hsr2).mono fun e w3 h=>?_
      obtain ⟨v,q1,q2,q3,q4,q5⟩:=h
      have q6:v=.int .i16 n':=q5 src n' r rfl hp
      exact ⟨n',by rw [q1,q6],hpos n' r hp,q2,q3,fun n2 r2 h=>by cases h;rfl⟩
  refine SC.wp_reg (ops_mv (ops_call (argsV:=#[.pointer (some ⟨rb,0,none⟩)]) h16.1 hver (by simp (disch:=(try simp only [sPu]);omega)) ?_))
  rintro e w3 ⟨ver,rfl,hv0,hat3,ho3,hvn⟩
  refine ⟨_,rfl,?_⟩
  have hrb3:w3.heap[b]?=some (.cells (dSetAll 0 out cs) E (0,0)):=by rw [ho3.block b (by omega) (by omega)];exact hrb2
  refine ops_nilc (ad:=⟨b,0,none⟩) (by simp (disch:=(try simp only [sPu]);omega) [h0]) (ops_fa c8 (b:=b) (o:=0) (by simp (disch:=(try simp only [sPu]);omega)) ?_)
  refine oNo rfl (opw_store_one (ad:=⟨b,0,none⟩) (v:=.int .i16 ver) (v0:=(dSetAll 0 out cs)[0]'(by omega)) c10 (by simp (disch:=(try simp only [sPu]);omega)) (by simp (disch:=(try simp only [sPu]);omega)) rfl (by rw [cell_of_row _ _ _ _ _ _ hrb3];exact Array.getElem?_eq_getElem (by omega)) (by simp [World.frozen?,hrb3]) (oNi ?_))
  rw [setCell_eq_setRow _ _ _ _ _ _ _ hrb3,pNo]
  simp only [Exit.then]
  obtain ⟨w4,hw4⟩:∃ w4,w4=w3.setRow b ((dSetAll 0 out cs).setIfInBounds 0 (.int .i16 ver)):=⟨_,rfl⟩
  rw [← hw4]
  have hrb4:w4.heap[b]?=some (.cells ((dSetAll 0 out cs).setIfInBounds 0 (.int .i16 ver)) E (0,0)):=by rw [hw4];exact setRow_heap _ _ _ _ _ _ hrb3
  have hoth4:∀ k,k ≠ b→w4.heap[k]?=w3.heap[k]?:=fun k hk=>by rw [hw4];exact setRow_other _ _ _ _ hk
  have hsz4:w4.heap.size=w3.heap.size:=by rw [hw4];simp
  have hs3:=ho3.size
  have hbelow4:Below B w0 w4:=by
    rw [hw4]
    exact (hbelow2.trans (ho3.below (by omega) (by omega))).trans ⟨rfl,rfl,rfl,by simp,fun k hk=>setRow_other _ _ _ _ (by omega)⟩
  have hat4:RdAt I.tRd w4 S rb (after (some src) (pInt 2)):=by
    cases hp:after (some src) (pInt 2) with
    | none=>rw [hp] at hat3;exact (hoth4 rb (by omega)).trans hat3
    | some rest =>
      rw [hp] at hat3
      obtain ⟨base3,cap3,q1,q2,q3⟩:=hat3
      refine ⟨base3,cap3,(hoth4 rb (by omega)).trans q1,q2,?_⟩
      cases S with
      | none=>exact q3
      | some sb =>
        obtain ⟨o,q4,q5⟩:=q3
        exact ⟨o,q4,fun j u hj=>(World.cell?_of_block (hoth4 sb (hsrc sb rfl).1)).trans (q5 j u hj)⟩
  have hvc4:w4.cell? ⟨b,0,none⟩=some (.int .i16 ver):=by rw [cell_of_row _ _ _ _ _ _ hrb4];exact Array.getElem?_setIfInBounds_self_of_lt (by omega)
  refine SC.wp_reg (ops_mv (ops_nilc (ad:=⟨b,0,none⟩) (by simp (disch:=(try simp only [sPu]);omega) [h0]) (ops_fa c8 (b:=b) (o:=0) (by simp (disch:=(try simp only [sPu]);omega)) (ops_ld c10 (ad:=⟨b,0,none⟩) (v:=.int .i16 ver) (by simp (disch:=(try simp only [sPu]);omega)) hvc4 (ops_asg (oNi ?_))))))
  simp only [Exit.then]
  refine SC.wp_reg (ops_mv (oNi ?_))
  simp only [Exit.then]
  refine SC.wp_reg (ops_mv (ops_asg (oNi ?_)))
  simp only [Exit.then]
  refine wpL_gen (fun a=>a.tmps.size=M.N∧a.defers=[]∧getT a 2=.bool false∧getT a 7=.pointer (some ⟨rb,0,none⟩)∧getT a 8=.int .i16 ver∧getT a 9=.pointer (some ⟨b,0,none⟩)) ⟨by simp [sPu,hs,hn],by simp [dPu,hdf],by simp (disch:=(try simp only [sPu]);omega) [h2],by simp (disch:=(try simp only [sPu]);omega),by simp (disch:=(try simp only [sPu]);omega),by simp (disch:=(try simp only [sPu]);omega) [h0]⟩ fun a2 ⟨p1,p2,p3,p4,p5,p6⟩=>?_
  obtain ⟨X,hX⟩:∃ X:RX,X=⟨P,I,I.tRd,S,rb,G,rCtx none,w0,B,ver,false,M.t,M.N,err,Gl,gb⟩:=⟨_,rfl⟩
  have hXok:X.ok:=by
    rw [hX]
    exact ⟨hk,hgb,rfl,by simp only;omega,fun _=>rfl,by simp only;omega,hv0,hG,hgl⟩
  have hi:RInv X a2 w4 (after (some src) (pInt 2)):=by
    rw [hX]
    exact ⟨p1,p2,p3,p4,p5,fun h=>(by cases h),hat4,fun sb hsb=>⟨(hsr2 sb hsb).1,by have:=(hsr2 sb hsb).2;show sb < w4.heap.size;omega⟩,hbelow4,by show B≤w4.heap.size;omega⟩
  have hopn:Opn X (fun k=>k=rb∨k=b) b w4:=by
    rw [hX]
    refine ⟨.inl rfl,.inr rfl,fun k hk=>by rcases hk with rfl | rfl <;> omega,fun sb hsb h=>?_,by simp only;omega,hBb⟩
    have:=hsrc sb hsb
    rcases h with h | h
    · omega
    · exact this.1 h
  have hfr4:FrFs w4 b M.fs 0:=by
    refine frFs_frame (w:=w1) M.fs 1 M.size 0 c3 (fun j h1 h2=>?_) hfr1
    rw [cell_of_row _ _ _ _ _ _ hrow1,cell_of_row _ _ _ _ _ _ hrb4]
    exact Array.getElem?_setIfInBounds_ne (by omega)
  subst hX
  have hgoal:∀ (e:Ending) (w':World),Below B w0 w'→B≤w'.heap.size→(after (after (some src) (pInt 2)) (pBody ver false M.fs)=none→e=.returned err) →
      (∀ rest x r,pInt 2 src=some (ver,rest)→pBody ver false M.fs rest=some (x,r)→e=.returned .nilIface∧b < w'.heap.size∧w'.cell? ⟨b,0,none⟩=some (.int .i16 ver)∧(FitFs ver M.fs x.l→FitTags x.u→∃ F:Nat→Prop,(∀ k,F k→k < w'.heap.size)∧HFs G w' F ver false M.fs b 0 x.l∧TagsAt G w' F false b 0 none x.u)) →
      Below B w0 w'∧B≤w'.heap.size∧match pInt 2 src with
      | none=>e=.returned err
      | some (ver,rest)=>match pBody ver false M.fs rest with
        | none=>e=.returned err
        | some (x,r)=>e=.returned .nilIface∧b < w'.heap.size∧w'.cell? ⟨b,0,none⟩=some (.int .i16 ver) ∧
          (FitFs ver M.fs x.l→FitTags x.u→∃ F:Nat→Prop,(∀ k,F k→k < w'.heap.size)∧HFs G w' F ver false M.fs b 0 x.l∧TagsAt G w' F false b 0 none x.u):=by
    intro e w' g1 g2 g3 g4
    refine ⟨g1,g2,?_⟩
    cases hp:pInt 2 src with
    | none=>exact g3 (by rw [after_no hp];rfl)
    | some z =>
      obtain ⟨n',rest⟩:=z
      obtain rfl:=hvn n' rest hp
      simp only
      cases hq:pBody ver false M.fs rest with
      | none=>exact g3 (by rw [after_ok hp];exact after_no hq)
      | some z2 =>
        obtain ⟨x,r⟩:=z2
        exact g4 rest x r hp hq
  have hcalls:=top_body (X:=⟨P,I,I.tRd,S,rb,G,rCtx none,w0,B,ver,false,M.t,M.N,err,Gl,gb⟩) (fs:=M.fs) (S:=M.S) (p:=9) (v:=10) (t:=M.t+14) (bk:=0) (b:=b) (o:=0) (tags:=none) (lo:=1) (size:=M.size) (O:=fun k=>k=rb∨k=b) (st:=after (some src) (pInt 2)) (a:=a2) (w:=w4) (rest:=[.reg [cal (M.t+14+rFT (rCtx none) M.fs) I.rCompl [7],asg 6 (M.t+14+rFT (rCtx none) M.fs)],.ret]) (Q:=bodyPost P fn fun e w'=>Below B w0 w'∧B≤w'.heap.size∧match pInt 2 src with
      | none=>e=.returned err
      | some (ver,rest)=>match pBody ver false M.fs rest with
        | none=>e=.returned err
        | some (x,r)=>e=.returned .nilIface∧b < w'.heap.size∧w'.cell? ⟨b,0,none⟩=some (.int .i16 ver) ∧
          (FitFs ver M.fs x.l→FitTags x.u→∃ F:Nat→Prop,(∀ k,F k→k < w'.heap.size)∧HFs G w' F ver false M.fs b 0 x.l∧TagsAt G w' F false b 0 none x.u)) hXok c1 rfl c3 (fun f off e=>by cases e) c5 hdef hi p6 hopn ⟨_,_,hrb4,by simp;omega⟩ hfr4 (by omega) (by omega) c6 (by simp only;omega) (by simp only [rTagsT,Option.isSome_none,Bool.false_eq_true,if_false];omega) ?_ ?_
  · simpa only [rTagsL,List.nil_append] using hcalls
  · intro a4 w5 hi5 hs5 hf5 hv5
    simp only [wpL]
    refine SC.wp_reg (ops_call (argsV:=#[.pointer (some ⟨rb,0,none⟩)]) hk.complF (hk.compl w5 S rb _ (hgl _ hi5.below) hi5.at_) ?_ ?_)
    · simp only [List.map_cons,List.map_nil,List.map_toArray,eTm]
      rw [hi5.rd]
    rintro e w6 ⟨rfl,rfl⟩
    refine ⟨_,rfl,ops_asg (oNi ?_)⟩
    simp only [Exit.then]
    refine SC.wp_ret ?_
    simp only [Exit.then]
    have hsz5:a4.tmps.size=M.N:=hi5.size
    have hres:getT ((a4.put (some (M.t+14+rFT (rCtx none) M.fs)) (if (after (after (some src) (pInt 2)) (pBody ver false M.fs)).isSome=true then Value.nilIface else err)).put (some 6) (getT (a4.put (some (M.t+14+rFT (rCtx none) M.fs)) (if (after (after (some src) (pInt 2)) (pBody ver false M.fs)).isSome=true then Value.nilIface else err)) (M.t+14+rFT (rCtx none) M.fs))) 6=(if (after (after (some src) (pInt 2)) (pBody ver false M.fs)).isSome=true then Value.nilIface else err):=by
      rw [gTp (by simp only [sPu];omega),gTp (by omega)]
    refine ret_tmp hr (by simp only [dPu];exact hi5.defers) ?_
    rw [hres]
    refine hgoal _ _ hi5.below hi5.heap (fun h=>by rw [h];rfl) fun rest x r hp hq=>?_
    have hst:after (some src) (pInt 2)=some rest:=after_ok hp
    refine ⟨by rw [hst,after_ok hq];rfl,Nat.lt_of_lt_of_le (by omega) hf5.size,?_,fun hfit hfu=>⟨FO (fun k=>k=rb∨k=b) w6,fun k hk=>hk.1,hv5 rest x r hst hq hfit hfu⟩⟩
    rw [hf5.cell (q:=0) (n:=0) ⟨_,_,hrb4,Nat.zero_le _⟩ (j:=0) (by omega)]
    exact hvc4
  · intro a' w' e1 e2 e3 e4
    exact ret_tmp hr e1 (hgoal _ _ e3 (Nat.le_trans hBw e3.size) (fun _=>by rw [e2]) fun rest x r hp hq=>by
      rw [after_ok hp,after_ok hq] at e4
      cases e4)
end
end Go.Proofs.YtgaplicnofhliabDoor.K
namespace Go.Proofs.YtgaplicnofhliabDoor.K
open Go Go.RowKit Go.Proofs.YtgaplicnofhliabDoor.T
attribute [local simp] eTm eCo pNo gTp gTn qv qcall vop iop
set_option linter.unusedVariables false
set_option linter.unusedSimpArgs false
set_option maxHeartbeats 4000000
def sc_NewV (T0 F0:Nat):SC:=.seq (.reg [⟨some 0,.alloc T0,none⟩]) (.seq (.reg [⟨some 1,.alloc T0,none⟩]) (.seq (.reg [cal 2 F0 [1]]) (.seq (.reg [ld 3 T0 1,⟨none,.store T0 (.tmp 0) (.tmp 3),none⟩]) (.ret))))
def sc_AgainK (T0 T1 T2 F0 F1 F2:Nat):SC:=.seq (.reg [⟨some 2,.assign (.const (.slice none 0 0)),none⟩,⟨some 3,.assign (.const (.bool false)),none⟩]) (.seq (.reg [cal 5 F0 [],⟨some 4,.alloc T0,none⟩,⟨none,.store T0 (.tmp 4) (.tmp 5),none⟩]) (.seq (.seq (.reg [mv 6 0,⟨some 7,.call ⟨.builtin .append,#[(.const (.slice none 0 0)),(.tmp 6)],#[T1,T1]⟩,none⟩,cal 8 F1 [4,7],⟨some 9,.binOp .neq T2 (.tmp 8) (.const .nilIface) T2,none⟩]) (.cond (.tmp 9) (.seq (.reg [⟨some 2,.assign (.const (.slice none 0 0)),none⟩,⟨some 3,.assign (.const (.bool false)),none⟩]) (.ret)) (.skip))) (.seq (.reg [⟨some 10,.call ⟨.value (.func F2),#[(.tmp 4),(.const (.slice none 0 0))],#[]⟩,none⟩,asg 2 10,⟨some 3,.assign (.const (.bool true)),none⟩]) (.ret))))
section
variable {P:Program} {f:FuncId} {fn:Func}
theorem newV_ok {T fDef n:Nat} {cs0 cs:Array Value} (hT:∃ i z,P.info? T=some i∧i.zero=some z∧z.cells=cs0) (hA:aggB P T n=true) (h0:cs0.size=n) (h1:cs.size=n) (hone:∀ v ∈ cs.toList,v.oneCell'=true) (hD:DefFn P fDef T cs0 cs) (hf:P.funcs[f]?=some fn) (hb:fn.body.map strip=some (sc_NewV T fDef)) (hn:fn.ntmps=4) (hr:fn.results=#[.cell 0 T]) (w:World) :
    Calls P f #[] w fun e w'=>e=.returned (.agg cs.toList.toArray)∧Below w.heap.size w w':=by
  obtain ⟨i,z,hi,hz,rfl⟩:=hT
  refine fCa hf hb hn (by simp) fun a0 hs hd ha=>?_
  refine SC.wp_seq (SC.wp_reg (oNo rfl (opw_alloc hi hz (oNi ?_))))
  simp only [Exit.then]
  refine SC.wp_seq (SC.wp_reg (oNo rfl (opw_alloc hi hz (oNi ?_))))
  simp only [Exit.then]
  have hn1:=heap_alloc_new w (.cells z.cells T)
  have hb1:Below w.heap.size w (w.alloc (.cells z.cells T)):=(Below.refl _ _).alloc (Nat.le_refl _) _
  have hs1:(w.alloc (.cells z.cells T)).heap.size=w.heap.size+1:=by simp
  generalize w.alloc (.cells z.cells T)=w1 at hn1 hb1 hs1 ⊢
  have hn2:=heap_alloc_new w1 (.cells z.cells T)
  have hn1':(w1.alloc (.cells z.cells T)).heap[w.heap.size]?=some (.cells z.cells T (0,0)):=by rw [Below.heap_alloc _ _ _ (by omega)];exact hn1
  have hb2:Below w.heap.size w (w1.alloc (.cells z.cells T)):=hb1.alloc (by omega) _
  have hs2:(w1.alloc (.cells z.cells T)).heap.size=w.heap.size+2:=by simp;omega
  generalize w1.alloc (.cells z.cells T)=w2 at hn2 hn1' hb2 hs2 ⊢
  refine SC.wp_seq (SC.wp_reg (ops_cal hD.1 (R:=fun e w'=>e=.returned (.tuple #[])∧w'=w2.setRow w1.heap.size cs) ?_ ?_))
  · refine Eq.mp (congrArg (fun z=>Calls P fDef z w2 _) ?_) (hD.2 w2 w1.heap.size hn2)
    simp (disch:=(try simp only [sPu]);omega)
  rintro e w3 ⟨rfl,hw3⟩
  refine ⟨_,rfl,oNi ?_⟩
  simp only [Exit.then]
  have hn3:w3.heap[w1.heap.size]?=some (.cells cs T (0,0)):=by rw [hw3];exact setRow_heap _ _ _ _ _ _ hn2
  have hn3':w3.heap[w.heap.size]?=some (.cells z.cells T (0,0)):=by rw [hw3,setRow_other _ _ _ _ (by omega)];exact hn1'
  have hb3:Below w.heap.size w w3:=by rw [hw3];exact hb2.trans ⟨rfl,rfl,rfl,by simp,fun k hk=>setRow_other _ _ _ _ (by omega)⟩
  have hlen:cs.toList.length=n:=by simpa using h1
  refine SC.wp_seq (SC.wp_reg ?_)
  refine oNo rfl (opw_load_agg (cs:=cs.toList) (b:=w1.heap.size) (o:=0) (by rw [hlen];exact hA) (by simp (disch:=(try simp only [sPu]);omega)) (fun j v hj=>by rw [Nat.zero_add,cell_of_row _ _ _ _ _ _ hn3];simpa using hj) ?_)
  refine oNo rfl (opw_store_agg (cs:=cs.toList) (cur:=z.cells) (b:=w.heap.size) (E:=T) (by rw [hlen];exact hA) (by simp (disch:=(try simp only [sPu]);omega)) (by simp (disch:=(try simp only [sPu]);omega)) hn3' (by rw [hlen];exact h0) hone (oNi ?_))
  simp only [Exit.then,pNo]
  have hn4:=setRow_heap w3 w.heap.size z.cells cs.toList.toArray T (0,0) hn3'
  refine SC.wp_ret ?_
  refine ret_cellAgg (cs:=cs.toList) hr (by rw [hlen];exact hA) (b:=w.heap.size) (by simp (disch:=(try simp only [sPu]);omega)) (fun j v hj=>by rw [cell_of_row _ _ _ _ _ _ hn4];simpa using hj) (by simp [dPu,hd]) ⟨rfl,hb3.trans ⟨rfl,rfl,rfl,by simp,fun k hk=>setRow_other _ _ _ _ (by omega)⟩⟩
def pKept (fs:Fs):Rd (Int × List Tree):=rThen (pInt 2) fun n=>rThen (pFs n false fs) fun xs=>rOk (n,xs)
def AgKC (P:Program) (tU8:Nat) (fs:Fs) (gb:Nat) (Gl:World→Prop) (F:FuncId):Prop:=FnOK P F∧∀ (w:World) (S:Option Nat) (base:Option Addr) (src:Bytes) (cap:Nat),gb < w.heap.size→(∀ w',Below w.heap.size w w'→Gl w')→SrcAt w S base src→(∀ sb,S=some sb→sb < w.heap.size)→src.length≤lim →
  (∀ n r,pInt 2 src=some (n,r)→0≤n) →
  (∀ n xs r,pKept fs src=some ((n,xs),r)→FitFs n fs xs∧(fixed n 2 ++ wFs n false fs xs).length≤lim) →
  Calls P F #[.slice base src.length cap] w fun e w'=>Below w.heap.size w w' ∧
    match pKept fs src with
    | none=>e=.returned (.tuple #[.slice none 0 0,.bool false])
    | some ((n,xs),r)=>∃ dv,e=.returned (.tuple #[dv,.bool true])∧Own tU8 w' w.heap.size dv (fixed n 2 ++ wFs n false fs xs)
def hdV (T16:Nat):Hd:=⟨0,-1,-1,0,0,0,T16,false⟩
theorem wFs_ver {n:Int} {T16:Nat} {fs:Fs} {xs:List Tree} (h:0≤n):wFs n false (.cons (hdV T16) (.prim .i16) fs) (Tree.mk n [] false [] [] :: xs)=fixed n 2 ++ wFs n false fs xs:=by
  have:(hdV T16).has n=true:=by simp [Hd.has,hdV,h]
  simp [wFs,this,wField,wTy,wPrim,PK.width,Tree.n]
theorem againK_ok {I:RIds} {M:KTop} {tU8 gb n T16 T0 T1 T2 F0 F1 F2 FR:Nat} {G:List (Nat × Bytes)→Prop} {Gl:World→Prop} {err:Value} {cs:Array Value}
    (hT:((P.info? T0).bind (·.zero)).isSome=true) (hA:aggB P T0 n=true) (hz:(zcOf P T0).size=n) (hcs:cs.size=n) (hone:∀ v ∈ cs.toList,v.oneCell'=true) (hT1:u8sB P T1 tU8=true) (hT2:ifaceT P T2=true) (herr:∃ t y,err=.iface t y)
    (oNV:FnOK P F0) (cNV:∀ w:World,Calls P F0 #[] w fun e w'=>e=.returned (.agg cs.toList.toArray)∧Below w.heap.size w w')
    (oRF:FnOK P F1) (cRF:∀ (w:World) (x y:Value) (R:Ending→World→Prop),(Calls P FR #[x,y,.bool false] w fun e w'=>∃ v,e=.returned v∧R e w')→Calls P F1 #[x,y] w R)
    (cR:∀ (B:Nat) (w0:World),gb < B→(∀ w',Below B w0 w'→Gl w')→ReadKC P I M B G err FR w0)
    (oAT:FnOK P F2) (cAT:∀ (w:World) (b:Nat) (ver:Int) (ts:List Tree) (u:List (Nat × Bytes)),b < w.heap.size→w.cell? ⟨b,0,none⟩=some (.int .i16 ver)→0≤ver→HFs G w (· < w.heap.size) ver (flexAt none ver) (.cons (hdV T16) (.prim .i16) M.fs) b 0 ts→TagsAt G w (· < w.heap.size) (flexAt none ver) b 0 none u →
      (wFs ver (flexAt none ver) (.cons (hdV T16) (.prim .i16) M.fs) ts ++ wTags (flexAt none ver) u).length≤lim→Calls P F2 #[.pointer (some ⟨b,0,none⟩),.slice none 0 0] w fun e w'=>∃ dv,e=.returned dv∧Own tU8 w' w.heap.size dv (wFs ver (flexAt none ver) (.cons (hdV T16) (.prim .i16) M.fs) ts ++ wTags (flexAt none ver) u)∧Below w.heap.size w w')
    (hsz:M.size=n) (hs1:1≤M.size) (hlay:layFs 1 M.size M.fs=true) (hfr:frFsB (fun j=>cs[j]?) M.fs 0=true)
    (hf : P.funcs[f]? = some fn) (hb : fn.body.map strip = some (sc_AgainK T0 T1 T2 F0 F1 F2)) (hnm : (fn.name == "runtime.NumGoroutine") = false) (hn : fn.ntmps = 11) (hr : fn.results = #[.tmp 2, .tmp 3]) : AgKC P tU8 M.fs gb Gl f := by
  refine ⟨fnOK_of hf hb hnm,fun w S base src cap hgb hgl hsr hS hlen hpos hfit=>?_⟩
  obtain ⟨zi,zz,hzi,hzz,hzc⟩:=zc_of hT
  have hcl:cs.toList.length=n:=by simpa using hcs
  refine fCa hf hb hn (by simp) fun a0 hs hd ha=>?_
  have h0:=ha 0 _ rfl
  simp only [List.getElem_toArray,List.getElem_cons_zero,List.getElem_cons_succ] at h0
  refine SC.wp_seq (SC.wp_reg ?_)
  repeat (apply ops_1;(focus (simp (disch:=(try simp only [sPu]);omega) ;try rfl)))
  refine oNi (SC.wp_seq (SC.wp_reg ?_))
  refine ops_call oNV (cNV w) (by simp (disch:=(try simp only [sPu]);omega)) ?_
  rintro e w1 ⟨rfl,hb1⟩
  refine ⟨_,rfl,?_⟩
  refine oNo rfl (opw_alloc hzi hzz ?_)
  have hn1:=heap_alloc_new w1 (.cells zz.cells T0)
  have hb1':Below w.heap.size w (w1.alloc (.cells zz.cells T0)):=hb1.alloc hb1.size _
  obtain ⟨b,hb⟩:∃ b,b=w1.heap.size:=⟨_,rfl⟩
  have hs1':(w1.alloc (.cells zz.cells T0)).heap.size=b+1:=by simp [hb]
  have hbw:w.heap.size≤b:=by rw [hb];exact hb1.size
  rw [← hb] at hn1 ⊢
  generalize w1.alloc (.cells zz.cells T0)=w1' at hn1 hb1' hs1' ⊢
  refine oNo rfl (opw_store_agg (cs:=cs.toList) (cur:=zz.cells) (b:=b) (E:=T0) (by rw [hcl];exact hA) (by simp (disch:=(try simp only [sPu]);omega)) (by simp (disch:=(try simp only [sPu]);omega)) hn1 (by rw [hcl,hzc];exact hz) hone (oNi ?_))
  simp only [Exit.then,pNo]
  obtain ⟨w2,hw2⟩:∃ w2,w2=w1'.setRow b cs.toList.toArray:=⟨_,rfl⟩
  rw [← hw2]
  have hrow2:w2.heap[b]?=some (.cells cs T0 (0,0)):=by rw [hw2];simpa using setRow_heap w1' b _ cs.toList.toArray _ _ hn1
  have hsz2:w2.heap.size=b+1:=by rw [hw2];simpa using hs1'
  have hb2:Below w.heap.size w w2:=by rw [hw2];exact hb1'.trans ⟨rfl,rfl,rfl,by simp,fun k hk=>setRow_other _ _ _ _ (by omega)⟩
  refine SC.wp_seq (SC.wp_seq (SC.wp_reg ?_))
  iterate 1 (apply ops_1;(focus (simp (disch:=(try simp only [sPu]);omega) [h0];try rfl)))
  have hS2:SrcAt w2 S base src:=hsr.frame fun sb h=>hb2.block sb (hS sb h)
  have hu8:=(u8s_of hT1).1
  have hsrc:Src P 1 T1 (.slice base src.length cap) src.length (cellsOf src) w2:=by
    cases S with
    | none =>
      obtain ⟨rfl,rfl⟩:=hS2
      exact Src.ofNil w2 hu8 _
    | some sb =>
      obtain ⟨o,rfl,hc⟩:=hS2
      refine Src.ofSlice w2 hu8 ⟨sb,o,none⟩ src.length cap (cellsOf src) (by simp [cLen]) (fun j u hj=>?_) (fun u hu=>?_)
      · rw [add_none]
        simp only [cellsOf,List.getElem?_map,Option.map_eq_some_iff] at hj
        obtain ⟨u',hu',rfl⟩:=hj
        exact hc j u' hu'
      · simp only [cellsOf,List.mem_map] at hu
        obtain ⟨u',_,rfl⟩:=hu
        rfl
  refine oNo rfl (opw_appendU8 (B:=w2.heap.size) (xs:=[]) (bs:=src) (dv:=.slice none 0 0) (xv:=.slice base src.length cap) hT1 (eCo _ _) (by simp (disch:=(try simp only [sPu]);omega)) rfl (World.ownsRow_nil _ _ _ _) (Nat.le_refl _) hsrc (by simpa using hlen) fun dv w3 ho hb3 hbs3 _=>?_)
  rw [List.nil_append] at ho
  have hrow3:w3.heap[b]?=some (.cells cs T0 (0,0)):=by rw [hb3.block b (by omega)];exact hrow2
  have hb3':Below w.heap.size w w3:=hb2.trans ⟨hb3.os,hb3.tape,hb3.output,hb3.size,fun k hk=>hb3.block k (by have:=hb2.size;omega)⟩
  obtain ⟨S3,base3,cap3,rfl,hcap3,hsr3,hS3⟩:∃ S3 base3 cap3,dv=.slice base3 src.length cap3∧src.length≤cap3∧SrcAt w3 S3 base3 src∧∀ sb,S3=some sb→sb ≠ b∧sb < w3.heap.size:=by
    obtain ⟨ho1,⟨e1,e2⟩ | ⟨g,c3,cur,e1,e2,e3,e4,e5,e6,e7⟩⟩:=ho
    · have hnil:src=[]:=List.length_eq_zero_iff.1 e2
      subst hnil
      exact ⟨none,none,0,e1,Nat.le_refl _,⟨rfl,rfl⟩,fun sb h=>by cases h⟩
    · refine ⟨some g,some ⟨g,0,none⟩,c3,e1,e4,⟨0,rfl,fun j u hu=>?_⟩,fun sb h=>by cases h;exact ⟨by omega,(Array.getElem?_eq_some_iff.1 e3).1⟩⟩
      rw [cell_of_row _ _ _ _ _ _ e3,Nat.zero_add]
      have hj:(cellsOf src)[j]?=some (cell u):=by simp [cellsOf,hu]
      rw [← e7,List.getElem?_take] at hj
      split at hj
      · rwa [Array.getElem?_toList] at hj
      · cases hj
  have hfr3:FrFs w3 b M.fs 0:=by
    have:=frFsB_ok (w:=w3) (b:=b) (q:=0) (get:=fun j=>cs[j]?) (fun j v hj=>by rw [Nat.zero_add,cell_of_row _ _ _ _ _ _ hrow3];exact hj) M.fs 0 hfr
    simpa using this
  have hs3:=hb3'.size
  have hcr:=cR w.heap.size w3 hgb (fun w' h=>hgl w' (hb3'.trans h)) S3 b cs T0 base3 src cap3 hpos hbw hs3 hrow3 (by omega) hfr3 hcap3 hsr3 hS3
  obtain ⟨R,hR⟩:∃ R:Ending→World→Prop,R=fun e w'=>∃ v',e=.returned v'∧((v'=.nilIface∨∃ t y,v'=.iface t y)∧Below w.heap.size w3 w'∧w.heap.size≤w'.heap.size ∧
      match pKept M.fs src with
      | none=>v'=err
      | some ((v,xs),r)=>v'=.nilIface∧0≤v∧b < w'.heap.size∧w'.cell? ⟨b,0,none⟩=some (.int .i16 v)∧HFs G w' (· < w'.heap.size) v false M.fs b 0 xs):=⟨_,rfl⟩
  refine ops_call oRF (cRF w3 (.pointer (some ⟨b,0,none⟩)) (.slice base3 src.length cap3) R (hcr.mono fun e w' h=>?_)) (by simp (disch:=(try simp only [sPu]);omega)) ?_
  · obtain ⟨z1,z2,z3⟩:=h
    rw [hR]
    cases hp:pInt 2 src with
    | none =>
      rw [hp] at z3
      simp only at z3
      subst z3
      have hk:pKept M.fs src=none:=by simp [pKept,rThen,hp]
      exact ⟨_,rfl,_,rfl,.inr herr,z1,z2,by rw [hk]⟩
    | some zn =>
      obtain ⟨v,rest⟩:=zn
      rw [hp] at z3
      simp only at z3
      cases hq:pBody v false M.fs rest with
      | none =>
        rw [hq] at z3
        simp only at z3
        subst z3
        have hk:pKept M.fs src=none:=by
          have:pFs v false M.fs rest=none:=by
            cases h:pFs v false M.fs rest with
            | none=>rfl
            | some y =>
              obtain ⟨xs,r⟩:=y
              simp [pBody,rThen,h,pTags,rOk] at hq
          simp [pKept,rThen,hp,this]
        exact ⟨_,rfl,_,rfl,.inr herr,z1,z2,by rw [hk]⟩
      | some y =>
        obtain ⟨x,r⟩:=y
        rw [hq] at z3
        obtain ⟨rfl,y1,y2,y3⟩:=z3
        obtain ⟨xs,r1,hx1,hx2⟩:=rThen_some (by simpa only [pBody] using hq)
        obtain ⟨u,r2,hu1,hu2⟩:=rThen_some hx2
        obtain ⟨rfl,rfl⟩:=rOk_some hu2
        have hu:u=[]:=by
          simp only [pTags,Bool.false_eq_true,if_false] at hu1
          exact (rOk_some hu1).1.symm
        subst hu
        have hk:pKept M.fs src=some ((v,xs),r1):=by simp [pKept,rThen,hp,hx1,rOk]
        obtain ⟨hf1,hf2⟩:=hfit v xs r1 hk
        obtain ⟨F,hF,q1,q2⟩:=y3 hf1 ⟨rfl,Nat.zero_le _,fun x hx=>by cases hx⟩
        refine ⟨_,rfl,_,rfl,.inl rfl,z1,z2,?_⟩
        rw [hk]
        exact ⟨rfl,hpos v rest hp,y1,y2,hFs_frame (fun k hk=>⟨hF k hk,rfl⟩) _ _ M.fs 1 M.size b 0 xs hlay (fun _ _ _=>rfl) q1⟩
  rw [hR]
  rintro e w4 ⟨v',rfl,hv',hb4,hs4,hpost⟩
  refine ⟨_,rfl,?_⟩
  refine oNo rfl (opw_isErr (v:=v') hT2 (by simp (disch:=(try simp only [sPu]);omega)) hv' (oNi ?_))
  simp only [Exit.then]
  refine SC.wp_cond (t:=isErr v') (by simp (disch:=(try simp only [sPu]);omega)) ?_
  have hb4':Below w.heap.size w w4:=hb3'.trans hb4
  cases hp:pKept M.fs src with
  | none =>
    rw [hp] at hpost
    simp only at hpost
    subst hpost
    obtain ⟨t,y,rfl⟩:=herr
    simp only [isErr,if_true]
    refine SC.wp_seq (SC.wp_reg ?_)
    repeat (apply ops_1;(focus (simp (disch:=(try simp only [sPu]);omega) ;try rfl)))
    refine oNi (SC.wp_ret ?_)
    try simp only [Exit.then]
    exact bodyPost_ret_by (v:=.tuple #[.slice none 0 0,.bool false]) (res2 hr (by simp (disch:=(try simp only [sPu]);omega)) (by simp (disch:=(try simp only [sPu]);omega))) (by simp [dPu,hd]) ⟨hb4',rfl⟩
  | some zz =>
    obtain ⟨⟨v,xs⟩,r⟩:=zz
    rw [hp] at hpost
    obtain ⟨rfl,hv0,y1,y2,y3⟩:=hpost
    simp only [isErr,Bool.false_eq_true,if_false]
    refine SC.wp_skip ?_
    simp only [Exit.then]
    refine SC.wp_seq (SC.wp_reg ?_)
    have hw:wFs v (flexAt none v) (.cons (hdV T16) (.prim .i16) M.fs) (Tree.mk v [] false [] [] :: xs) ++ wTags (flexAt none v) []=fixed v 2 ++ wFs v false M.fs xs:=by
      have:flexAt none v=false:=rfl
      rw [this,wFs_ver hv0]
      simp [wTags]
    have hH:HFs G w4 (· < w4.heap.size) v (flexAt none v) (.cons (hdV T16) (.prim .i16) M.fs) b 0 (Tree.mk v [] false [] [] :: xs):=by
      refine ⟨fun _=>?_,y3⟩
      simp only [HTy,HPrim]
      rw [if_neg (by decide)]
      exact ⟨_,y2,rfl⟩
    have hcat:=cAT w4 b v (Tree.mk v [] false [] [] :: xs) [] y1 y2 hv0 hH rfl (by rw [hw];exact (hfit v xs r hp).2)
    rw [hw] at hcat
    refine ops_call oAT hcat (by simp (disch:=(try simp only [sPu]);omega)) ?_
    rintro e w5 ⟨dv5,rfl,ho5,hb5⟩
    refine ⟨_,rfl,?_⟩
    repeat (apply ops_1;(focus (simp (disch:=(try simp only [sPu]);omega) ;try rfl)))
    refine oNi (SC.wp_ret ?_)
    try simp only [Exit.then]
    exact bodyPost_ret_by (v:=.tuple #[dv5,.bool true]) (res2 hr (by simp (disch:=(try simp only [sPu]);omega)) (by simp (disch:=(try simp only [sPu]);omega))) (by simp [dPu,hd]) ⟨hb4'.trans ⟨hb5.os,hb5.tape,hb5.output,hb5.size,fun k hk=>hb5.block k (by omega)⟩,dv5,rfl,own_base ho5 (by omega)⟩
end
end Go.Proofs.YtgaplicnofhliabDoor.K
namespace Go.Proofs.YtgaplicnofhliabDoor.K
open Go Go.RowKit Go.Proofs.YtgaplicnofhliabDoor.T
attribute [local simp] eTm eCo pNo gTp gTn qv qcall vop iop
set_option linter.unusedVariables false
set_option linter.unusedSimpArgs false
set_option maxHeartbeats 4000000
def sc_Kept (T0 T1 T2 F0 F1:Nat):SC:=.seq (.reg [⟨some 3,.box T0 (.tmp 0),none⟩,⟨some 5,.box T1 (.tmp 2),none⟩,⟨some 6,.assign (.const (.slice none 0 0)),none⟩]) (.seq (.dreg [mv 7 1,⟨some 8,.call ⟨.value (.func F0),#[(.tmp 7),(.const (.int .i64 2))],#[]⟩,none⟩,ld 9 T0 3,mv 10 1,ld 11 T1 5,cal 12 F1 [9,10,11],⟨some 13,.call ⟨.builtin .append,#[(.tmp 8),(.tmp 12)],#[T2,T2]⟩,none⟩,asg 6 13] [[],[0],[],[],[],[2,3,4,1],[1,5,5],[6,6,0,1,2,3,4,5,6]]) (.ret))
def sc_LawAgainK (T0 T1 T2 T3 F0 F1 F2 F3 F4:Nat):SC:=.seq (.reg [⟨some 3,.box T0 (.tmp 1),none⟩,⟨some 4,.assign (.const (.bool false)),none⟩]) (.seq (.seq (.reg [ld 8 T0 3,cal 9 F0 [8],⟨some 10,.unOp .not T1 (.tmp 9),none⟩]) (.cond (.tmp 10) (.seq (.reg [⟨some 4,.assign (.const (.bool true)),none⟩]) (.ret)) (.skip))) (.seq (.dreg [cal 11 F1 [],mv 12 0,⟨some 13,.convert T2 T3 (.tmp 12),none⟩,⟨some 14,.binOp .rem T3 (.tmp 13) (.const (.int .i64 2)) T3,none⟩,ld 15 T0 3,cal 16 F2 [11,14,15],asg 5 16] [[],[],[1],[2],[],[0,3,4,0],[5,5,0,1,2,3,4,5]]) (.seq (.reg [mv 18 5,cal 19 F3 [18],mv 17 19,⟨some 20,.extract (.tmp 17) 0,none⟩,⟨some 21,.extract (.tmp 17) 1,none⟩,asg 6 20,asg 7 21]) (.seq (.reg [mv 22 7,mv 23 22,⟨some 24,.move (.tmp 6),some (1,true)⟩,⟨some 25,.move (.tmp 5),some (1,true)⟩,⟨some 26,.call ⟨.value (.func F4),#[(.tmp 24),(.tmp 25)],#[]⟩,some (1,true)⟩,⟨some 27,.pick (.tmp 23) (.tmp 26) (.const (.bool false)),none⟩,asg 4 27]) (.ret)))))
def sc_LawCutK (T0 T1 T2 T3 T4 T5 F0 F1 F2 F3:Nat):SC:=.seq (.reg [⟨some 4,.box T0 (.tmp 1),none⟩,⟨some 6,.assign (.const (.bool false)),none⟩]) (.seq (.seq (.reg [ld 12 T0 4,cal 13 F0 [12],⟨some 14,.unOp .not T1 (.tmp 13),none⟩]) (.cond (.tmp 14) (.seq (.reg [⟨some 6,.assign (.const (.bool true)),none⟩]) (.ret)) (.skip))) (.seq (.dreg [cal 15 F1 [],mv 16 0,⟨some 17,.convert T2 T3 (.tmp 16),none⟩,⟨some 18,.binOp .rem T3 (.tmp 17) (.const (.int .i64 2)) T3,none⟩,ld 19 T0 4,cal 20 F2 [15,18,19],asg 7 20] [[],[],[1],[2],[],[0,3,4,0],[5,5,0,1,2,3,4,5]]) (.seq (.reg [mv 22 7,cal 23 F3 [22],mv 21 23,⟨some 24,.extract (.tmp 21) 0,none⟩,⟨some 25,.extract (.tmp 21) 1,none⟩,asg 8 24,asg 9 25]) (.seq (.reg [mv 27 7,mv 28 2,⟨some 29,.convert T4 T3 (.tmp 28),none⟩,mv 30 7,lenOp 31 T5 30,⟨some 32,.binOp .rem T3 (.tmp 29) (.tmp 31) T3,none⟩,⟨some 33,.slice T5 (.tmp 27) none (some (.tmp 32)) none,none⟩,cal 34 F3 [33],mv 26 34,⟨some 35,.extract (.tmp 26) 0,none⟩,⟨some 36,.extract (.tmp 26) 1,none⟩,asg 10 35,asg 11 36]) (.seq (.reg [mv 37 9,mv 38 37,⟨some 39,.move (.tmp 11),some (1,true)⟩,⟨some 40,.unOp .not T1 (.tmp 39),some (1,true)⟩,⟨some 41,.pick (.tmp 38) (.tmp 40) (.const (.bool false)),none⟩,asg 6 41]) (.ret))))))
section
variable {G:List (Nat × Bytes)→Prop} {P:Program} {X:STy} {f:FuncId} {fn:Func}
def KeptC (G:List (Nat × Bytes)→Prop) (P:Program) (X:STy) (fs:Fs) (f:FuncId):Prop:=FnOK P f∧∀ (w:World) (fv:Value) (ver:Nat) (t:Tree) (tv:Value),FsV w (· < w.heap.size) fs fv→TV G w (· < w.heap.size) t tv→(fixed ver 2 ++ wFs ver false fs t.l).length≤lim →
  Calls P f #[msgV fv (-1),.int .i64 (ver:Int),tv] w (RetOwn X.U8 w (fixed ver 2 ++ wFs ver false fs t.l))
theorem kept_ok (hX:stOK P X=true) (hm:P.follows .mixedOrders=true) {fs:Fs} {fF fWr:FuncId} (oF:FnOK P fF) (cF:∀ (w:World) (n:Int) (s:Nat),s≤8→Calls P fF #[.int .i64 n,.int .i64 (s:Int)] w (RetOwn X.U8 w (fixed n s)))
    (oWr:FnOK P fWr) (cWr:∀ (w:World) (fv:Value) (mflex ver:Int) (t:Tree) (tv:Value),FsV w (· < w.heap.size) fs fv→TV G w (· < w.heap.size) t tv→(wFs ver (decide (0≤mflex) && decide (mflex≤ver)) fs t.l ++ wTags (decide (0≤mflex) && decide (mflex≤ver)) t.u).length≤lim →
      Calls P fWr #[msgV fv mflex,.int .i64 ver,tv] w (RetOwn X.U8 w (wFs ver (decide (0≤mflex) && decide (mflex≤ver)) fs t.l ++ wTags (decide (0≤mflex) && decide (mflex≤ver)) t.u)))
    (hf : P.funcs[f]? = some fn) (hb : fn.body.map strip = some (sc_Kept X.M X.T X.Bs fF fWr)) (hnm : (fn.name == "runtime.NumGoroutine") = false) (hn : fn.ntmps = 14) (hr : fn.results = #[.tmp 6]) : KeptC G P X fs f := by
  refine ⟨fnOK_of hf hb hnm,fun w fv ver t tv hfv ht hl=>?_⟩
  have hst:=st_facts hX
  refine fCa hf hb hn (by simp) fun a0 hs hd ha=>?_
  have h0:=ha 0 _ rfl
  have h1:=ha 1 _ rfl
  have h2:=ha 2 _ rfl
  simp only [List.getElem_toArray,List.getElem_cons_zero,List.getElem_cons_succ] at h0 h1 h2
  have ht0:=ht
  cases ht with
  | mk n s tnull l u sb lb ub sc lc uc b o cs hs1 hsc hlc huc hll hrr htt hG hu =>
  refine SC.wp_seq (SC.wp_reg (ops_box (B:=w.heap.size) (w0:=w) (by rw [eTm,h0];rfl) (Nat.le_refl _) (Below.refl _ _) fun w1 q1 q2 q3 hc q5=>?_))
  refine ops_box (B:=w.heap.size) (w0:=w) (cs:=#[.int .i64 n,.slice sb s.length sc,.bool tnull,.slice lb l.length lc,.slice ub u.length uc]) (by simp (disch:=(try simp only [sPu]);omega) [h2,treV]) (by omega) q2 fun w2 r1 r2 r3 hd2 r5=>?_
  repeat (apply ops_1;(focus (simp (disch:=(try simp only [sPu]);omega) ;try rfl)))
  refine oNi ?_
  simp only [Exit.then]
  have hc2:∀ j,w2.cell? ⟨w.heap.size,j,none⟩=#[fv,.int .i64 (-1)][j]?:=fun j=>by rw [r1.cell (by show w.heap.size < w1.heap.size;omega)];exact hc j
  have hsz2:w2.heap.size=w.heap.size+2:=by omega
  rw [q3] at hd2 ⊢
  clear hc q1 q2 q3 q5 r1 r3 r5 w1
  have hT5:rangeV w2.drew (w.heap.size+1) 0 5=some [.int .i64 n,.slice sb s.length sc,.bool tnull,.slice lb l.length lc,.slice ub u.length uc]:=by
    have:rangeV w2 (w.heap.size+1) 0 5=some [.int .i64 n,.slice sb s.length sc,.bool tnull,.slice lb l.length lc,.slice ub u.length uc]:=by simp [rangeV,hd2]
    exact this
  have hT2:rangeV w2.drew w.heap.size 0 2=some [fv,.int .i64 (-1)]:=by
    have:rangeV w2 w.heap.size 0 2=some [fv,.int .i64 (-1)]:=by simp [rangeV,hc2]
    exact this
  have hdr:w2.drew.heap.size=w2.heap.size:=rfl
  have hlt1:w.heap.size < w2.heap.size:=by omega
  have hlt2:w.heap.size+1 < w2.heap.size:=by omega
  refine SC.wp_seq (SC.wp_dreg hm (Below w2.heap.size w2.drew) [(0,true),(2,true),(3,true),(4,true),(1,false),(5,false),(6,false),(7,true)] (by rfl) (by rfl) (by decide) (Below.refl _ _) ?_)
  iterate 4 (apply dr_1;(focus rfl);(focus (simp (disch:=(try simp only [sPu]);omega) [hst,h1,hT5,hT2,hlt1,hlt2];try rfl)))
  refine dreg_call (argsV:=#[.int .i64 (ver:Int),.int .i64 ((2:Nat):Int)]) rfl oF (cF w2.drew ver 2 (by omega)) (by simp (disch:=(try simp only [sPu]);omega) [h1]) ?_
  rintro e w3 ⟨dv8,rfl,ho8,hb3⟩
  refine ⟨_,rfl,hb3,?_⟩
  have hsz3:w2.heap.size≤w3.heap.size:=hb3.size
  have hb13:Below w.heap.size w w3:=r2.trans ⟨hb3.os,hb3.tape,hb3.output,hb3.size,fun k hk=>hb3.block k (by show k < w2.heap.size;omega)⟩
  have hlw:(wFs ver (decide ((0:Int)≤-1) && decide ((-1:Int)≤ver)) fs (Tree.mk n s tnull l u).l ++ wTags (decide ((0:Int)≤-1) && decide ((-1:Int)≤ver)) (Tree.mk n s tnull l u).u)=wFs ver false fs (Tree.mk n s tnull l u).l:=by simp [wTags]
  have hcw:=cWr w3 fv (-1) ver _ _ (FsV.down hb13 (by omega) hfv) (TV.down hb13 (by omega) ht0) (by rw [hlw];simp only [List.length_append] at hl ⊢;omega)
  rw [hlw] at hcw
  refine dreg_call (argsV:=#[msgV fv (-1),.int .i64 (ver:Int),treV n (.slice sb s.length sc) tnull (.slice lb l.length lc) (.slice ub u.length uc)]) rfl oWr hcw (by simp (disch:=(try simp only [sPu]);omega) [msgV,treV]) ?_
  rintro e w4 ⟨dv12,rfl,ho12,hb4⟩
  refine ⟨_,rfl,hb3.trans ⟨hb4.os,hb4.tape,hb4.output,hb4.size,fun k hk=>hb4.block k (by omega)⟩,?_⟩
  have ho8':Own X.U8 w4 w2.heap.size dv8 (fixed ver 2):=own_keep ho8 hb4
  obtain ⟨S,base,cap,rfl,hsr,hS⟩:=own_src ho12
  have hu8:=(u8s_of hst.2.2.1.1).1
  have hsrc:Src P 1 X.Bs (.slice base (wFs ver false fs (Tree.mk n s tnull l u).l).length cap) (wFs ver false fs (Tree.mk n s tnull l u).l).length (cellsOf (wFs ver false fs (Tree.mk n s tnull l u).l)) w4:=by
    generalize (wFs ver false fs (Tree.mk n s tnull l u).l)=src at hsr ⊢
    cases S with
    | none =>
      obtain ⟨rfl,rfl⟩:=hsr
      exact Src.ofNil w4 hu8 _
    | some sb =>
      obtain ⟨o,rfl,hc⟩:=hsr
      refine Src.ofSlice w4 hu8 ⟨sb,o,none⟩ src.length cap (cellsOf src) (by simp [cLen]) (fun j u hj=>?_) (fun u hu=>?_)
      · rw [add_none]
        simp only [cellsOf,List.getElem?_map,Option.map_eq_some_iff] at hj
        obtain ⟨u',hu',rfl⟩:=hj
        exact hc j u' hu'
      · simp only [cellsOf,List.mem_map] at hu
        obtain ⟨u',_,rfl⟩:=hu
        rfl
  refine dreg_n rfl rfl (opw_appendU8 (B:=w2.heap.size) (xs:=fixed ver 2) (bs:=wFs ver false fs (Tree.mk n s tnull l u).l) (dv:=dv8) (xv:=.slice base (wFs ver false fs (Tree.mk n s tnull l u).l).length cap) hst.2.2.1.1 (by simp (disch:=(try simp only [sPu]);omega)) (by simp (disch:=(try simp only [sPu]);omega)) rfl ho8' (by have:=hb4.size;omega) hsrc (by simpa using hl) fun dv w5 ho hb5 hbs5 _=>?_)
  have hb5':Below w2.heap.size w2.drew w5:=(hb3.trans ⟨hb4.os,hb4.tape,hb4.output,hb4.size,fun k hk=>hb4.block k (by omega)⟩).trans hb5
  refine ⟨hb5',?_⟩
  repeat (apply dr_1;(focus rfl);(focus (simp (disch:=(try simp only [sPu]);omega) ;try rfl)))
  refine dreg_nil ?_
  simp only [Exit.then]
  refine SC.wp_ret (ret_tmp hr (by simp [dPu,hd]) ⟨dv,by simp (disch:=(try simp only [sPu]);omega),own_base ho (by omega),r2.trans ⟨hb5'.os,hb5'.tape,hb5'.output,hb5'.size,fun k hk=>hb5'.block k (by show k < w2.heap.size;omega)⟩⟩)
theorem pInt_kept {v:Nat} {b:Bytes} (hv:v < 2):pInt 2 (fixed v 2 ++ b)=some ((v:Int),b):=by
  have e0:fixed ((0:Nat):Int) 2=[0,0]:=by decide
  have e1:fixed ((1:Nat):Int) 2=[0,1]:=by decide
  match v,hv with
  | 0,_=>rw [e0,pInt_of (by simp)];simp [unfix,sgn]
  | 1,_=>rw [e1,pInt_of (by simp)];simp [unfix,sgn]
theorem pKept_of {fs:Fs} {v:Nat} {b r:Bytes} {xs:List Tree} (hv:v < 2) (h:pFs v false fs b=some (xs,r)):pKept fs (fixed v 2 ++ b)=some (((v:Int),xs),r):=by
  simp [pKept,rThen,pInt_kept hv,h,rOk]
theorem fixed_two (v:Nat):(fixed (v:Int) 2).length=2:=by simp [fixed]
theorem pInt_pos {v q:Nat} {b:Bytes} (hv:v < 2):∀ n r,pInt 2 ((fixed (v:Int) 2 ++ b).take q)=some (n,r)→0≤n:=by
  intro n r h
  by_cases hq:q < 2
  · rw [pInt_no (by rw [List.length_take];omega)] at h
    cases h
  · have e:(fixed (v:Int) 2 ++ b).take q=fixed (v:Int) 2 ++ b.take (q - 2):=by
      rw [List.take_append,List.take_of_length_le (by rw [fixed_two];omega),fixed_two]
    rw [e,pInt_kept hv] at h
    cases h
    omega
end
end Go.Proofs.YtgaplicnofhliabDoor.K
namespace Go.Proofs.YtgaplicnofhliabDoor.K
open Go Go.RowKit Go.Proofs.YtgaplicnofhliabDoor.T
attribute [local simp] eTm eCo pNo gTp gTn qv qcall vop iop
set_option linter.unusedVariables false
set_option linter.unusedSimpArgs false
set_option maxHeartbeats 4000000
section
variable {G:List (Nat × Bytes)→Prop} {P:Program} {X:STy} {f:FuncId} {fn:Func}
theorem ext_kept (fs:Fs):Ext (pKept fs):=(ext_int 2).then fun _=>(ext_fs _ _ _).then fun _=>Ext.ok _
theorem kept_again {fs:Fs} {v:Nat} {ts:List Tree} (hv:v < 2) (hok:okFsR v false fs=true) (hk:KFs v fs ts) :
    ∃ ts',pKept fs (fixed v 2 ++ wFs v false fs ts)=some (((v:Int),ts'),[])∧FitFs v fs ts'∧wFs v false fs ts'=wFs v false fs ts:=by
  obtain ⟨ts',h1,h2,h3⟩:=rt_fs v false fs ts [] hok hk
  rw [List.append_nil] at h1
  exact ⟨ts',pKept_of hv h1,h2,h3⟩
theorem kept_cut {fs:Fs} {v q:Nat} {ts:List Tree} (hv:v < 2) (hok:okFsR v false fs=true) (hk:KFs v fs ts) (h:q < (fixed v 2 ++ wFs v false fs ts).length):pKept fs ((fixed v 2 ++ wFs v false fs ts).take q)=none:=by
  obtain ⟨ts',h1,_⟩:=kept_again hv hok hk
  exact (ext_kept fs).cut h1 h
theorem lawAgainK_ok (hX:stOK P X=true) (hm:P.follows .mixedOrders=true) {fFit fSp fK fAg fSame T1:FuncId} {gb:Nat} {Gl:World→Prop} (fs fsP:Fs)
    (oFit:FnOK P fFit) (cFit:∀ (w:World) (t:Tree) (tv:Value),TV G w (· < w.heap.size) t tv→Calls P fFit #[tv] w (Asks w))
    (oSp:FnOK P fSp) (cSp:∀ w:World,Calls P fSp #[] w fun e w'=>∃ v,e=.returned (msgV v (-1))∧v.oneCell'=true∧FsV w' (fun k=>w.heap.size≤k∧k < w'.heap.size) fs v∧Below w.heap.size w w')
    (cK:KeptC G P X fs fK) (cAg:AgKC P X.U8 fsP gb Gl fAg)
    (oSame:FnOK P fSame) (cSame:∀ (w:World) (xs:Bytes) (b1 b2:Option Addr) (c1 c2:Nat),BytesAt w (fun k=>k < w.heap.size) b1 xs→BytesAt w (fun k=>k < w.heap.size) b2 xs→xs.length≤lim→Calls P fSame #[.slice b1 xs.length c1,.slice b2 xs.length c2] w fun e w'=>e=.returned (.bool true)∧Below w.heap.size w w')
    (hf:P.funcs[f]?=some fn) (hb:fn.body.map strip=some (sc_LawAgainK X.T T1 X.U8 X.I fFit fSp fK fAg fSame)) (hn:fn.ntmps=28) (hr:fn.results=#[.tmp 4]) (w:World) (n:Nat) (hn8:n < 256) (t:Tree) (tv:Value) (ht:TV G w (· < w.heap.size) t tv) (hgb:gb < w.heap.size) (hgl:∀ w',Below w.heap.size w w'→Gl w') (cv:List Tree→List Tree) (hcv:∀ v:Nat,v < 2→wFs v false fs t.l=wFs v false fsP (cv t.l))
    (hok:∀ v:Nat,v < 2→okFsR v false fsP=true) (hk:∀ v:Nat,v < 2→KFs v fsP (cv t.l)) (hlim:∀ v:Nat,v < 2→(fixed v 2 ++ wFs v false fs t.l).length≤lim) :
    Calls P f #[.int .u8 (n:Int),tv] w fun e w'=>e=.returned (.bool true)∧Below w.heap.size w w':=by
  have hst:=st_facts hX
  obtain ⟨vs,hvs,hvs5⟩:∃ vs:List Value,tv=.agg vs.toArray∧vs.length=5:=by
    cases ht
    exact ⟨[_,_,_,_,_],rfl,rfl⟩
  refine fCa hf hb hn (by simp) fun a0 hs hd ha=>?_
  have k0:=ha 0 _ rfl
  have k1:=ha 1 _ rfl
  simp only [List.getElem_toArray,List.getElem_cons_zero,List.getElem_cons_succ] at k0 k1
  refine SC.wp_seq (SC.wp_reg (oNo rfl (opw_box (v:=tv) k1 ?_)))
  have hnew:=heap_alloc_new w (.cells tv.cells X.T)
  have hb1:Below w.heap.size w (w.alloc (.cells tv.cells X.T)):=(Below.refl _ _).alloc (Nat.le_refl _) _
  have hs1:(w.alloc (.cells tv.cells X.T)).heap.size=w.heap.size+1:=by simp
  have hbox:rangeV (w.alloc (.cells tv.cells X.T)) w.heap.size 0 5=some vs:=by
    have:=rangeV_of (w:=w.alloc (.cells tv.cells X.T)) (b:=w.heap.size) vs 0 (fun j v hj=>by
      rw [Nat.zero_add,cell_of_row _ _ _ _ _ _ hnew,hvs]
      simpa [Value.cells] using hj)
    rwa [hvs5] at this
  generalize w.alloc (.cells tv.cells X.T)=w1 at hb1 hs1 hbox ⊢
  have ht1:TV G w1 (· < w1.heap.size) t tv:=ht.down hb1 (by omega)
  repeat (first | (apply ops_1;(focus (simp (disch:=(try simp only [sPu]);omega) ;try rfl))) | (apply ops_y;(focus rfl);(focus ((try simp only [sPu]);omega));(focus (simp (disch:=(try simp only [sPu]);omega);done));(focus (simp (disch:=(try simp only [sPu]);omega) ;try rfl))) | (apply ops_n;(focus rfl);(focus ((try simp only [sPu]);omega));(focus (first | (left;simp (disch:=(try simp only [sPu]);omega);done) | (right;simp (disch:=(try simp only [sPu]);omega);done)))))
  refine oNi (SC.wp_seq (SC.wp_seq (SC.wp_reg ?_)))
  iterate 1 (first | (apply ops_1;(focus (simp (disch:=(try simp only [sPu]);omega) [hst,hbox];try rfl))) | (apply ops_y;(focus rfl);(focus ((try simp only [sPu]);omega));(focus (simp (disch:=(try simp only [sPu]);omega) [hst,hbox];done));(focus (simp (disch:=(try simp only [sPu]);omega) [hst,hbox];try rfl))) | (apply ops_n;(focus rfl);(focus ((try simp only [sPu]);omega));(focus (first | (left;simp (disch:=(try simp only [sPu]);omega) [hst,hbox];done) | (right;simp (disch:=(try simp only [sPu]);omega);done)))))
  refine ops_call oFit (cFit w1 t tv ht1) (by rw [hvs];simp (disch:=(try simp only [sPu]);omega)) ?_
  rintro e w2 ⟨⟨bo,rfl⟩,hb2⟩
  refine ⟨_,rfl,?_⟩
  have hbw2:Below w.heap.size w w2:=hb1.trans ⟨hb2.os,hb2.tape,hb2.output,hb2.size,fun k hk=>hb2.block k (by omega)⟩
  repeat (first | (apply ops_1;(focus (simp (disch:=(try simp only [sPu]);omega) ;try rfl))) | (apply ops_y;(focus rfl);(focus ((try simp only [sPu]);omega));(focus (simp (disch:=(try simp only [sPu]);omega);done));(focus (simp (disch:=(try simp only [sPu]);omega) ;try rfl))) | (apply ops_n;(focus rfl);(focus ((try simp only [sPu]);omega));(focus (first | (left;simp (disch:=(try simp only [sPu]);omega);done) | (right;simp (disch:=(try simp only [sPu]);omega);done)))))
  refine oNi (SC.wp_cond (t:=!bo) (by simp (disch:=(try simp only [sPu]);omega)) ?_)
  cases bo
  · rw [if_pos (by rfl)]
    refine SC.wp_seq (SC.wp_reg ?_)
    repeat (first | (apply ops_1;(focus (simp (disch:=(try simp only [sPu]);omega) ;try rfl))) | (apply ops_y;(focus rfl);(focus ((try simp only [sPu]);omega));(focus (simp (disch:=(try simp only [sPu]);omega);done));(focus (simp (disch:=(try simp only [sPu]);omega) ;try rfl))) | (apply ops_n;(focus rfl);(focus ((try simp only [sPu]);omega));(focus (first | (left;simp (disch:=(try simp only [sPu]);omega);done) | (right;simp (disch:=(try simp only [sPu]);omega);done)))))
    refine oNi (SC.wp_ret ?_)
    try simp only [Exit.then]
    exact ret_tmp hr (by simp [dPu,hd]) ⟨by simp (disch:=(try simp only [sPu]);omega),hbw2⟩
  rw [if_neg (by simp)]
  refine SC.wp_skip ?_
  simp only [Exit.then]
  have hs2:=hb2.size
  have hbox3:rangeV w2.drew w.heap.size 0 5=some vs:=by
    have:rangeV w2 w.heap.size 0 5=some vs:=by rw [rangeV_mono (hb2.block w.heap.size (by omega))];exact hbox
    exact this
  have hdr:w2.drew.heap.size=w2.heap.size:=rfl
  have hbx3:w.heap.size < w2.heap.size:=by omega
  obtain ⟨v,hv⟩:∃ v,v=n % 2:=⟨_,rfl⟩
  have hv2:v < 2:=by rw [hv];exact Nat.mod_lt _ (by omega)
  have hwn:IntKind.i64.wrap (n:Int)=(n:Int):=w64q (by omega) (by omega)
  have hmt:(n:Int).tmod 2=(v:Int):=by
    rw [Int.tmod_eq_emod_of_nonneg (by omega),hv]
    rfl
  have hmN:n % 2=v:=hv.symm
  have hmZ:(n:Int) % 2=(v:Int):=by rw [hv];rfl
  refine SC.wp_seq (SC.wp_dreg hm (Below w2.heap.size w2.drew) [(1,true),(2,true),(3,true),(4,true),(0,false),(5,false),(6,true)] (by rfl) (by rfl) (by decide) (Below.refl _ _) ?_)
  iterate 4 (first | (apply dr_1;(focus rfl);(focus (simp (disch:=(try simp only [sPu]);omega) [hst,k0,hbox3,hbx3,hwn,hmt,hmN,hmZ];try rfl))) | (apply dr_y;(focus rfl);(focus rfl);(focus ((try simp only [sPu]);omega));(focus (simp (disch:=(try simp only [sPu]);omega) [hst,k0,hbox3,hbx3,hwn,hmt,hmN,hmZ];done));(focus (simp (disch:=(try simp only [sPu]);omega) [hst,k0,hbox3,hbx3,hwn,hmt,hmN,hmZ];try rfl))) | (apply dr_n;(focus rfl);(focus rfl);(focus ((try simp only [sPu]);omega));(focus (first | (left;simp (disch:=(try simp only [sPu]);omega) [hst,k0,hbox3,hbx3,hwn,hmt,hmN,hmZ];done) | (right;simp (disch:=(try simp only [sPu]);omega);done)))))
  refine dreg_call (argsV:=#[]) rfl oSp (cSp w2.drew) (by simp (disch:=(try simp only [sPu]);omega)) ?_
  rintro e w4 ⟨fv,rfl,hfv1,hfv,hb4⟩
  refine ⟨_,rfl,hb4,?_⟩
  have hs4:=hb4.size
  have hbw4:Below w.heap.size w w4:=hbw2.trans ⟨hb4.os,hb4.tape,hb4.output,hb4.size,fun k hk=>hb4.block k (by show k < w2.heap.size;omega)⟩
  have ht4:TV G w4 (· < w4.heap.size) t tv:=ht.down hbw4 (by omega)
  have hfv4:FsV w4 (· < w4.heap.size) fs fv:=FsV.mono (fun k hk=>hk.2) (fun _ _=>rfl) hfv
  have hlimv:=hlim v hv2
  refine dreg_call (argsV:=#[msgV fv (-1),.int .i64 (v:Int),tv]) rfl cK.1 (cK.2 w4 fv v t tv hfv4 ht4 hlimv) (by rw [hvs];simp (disch:=(try simp only [sPu]);omega) [msgV]) ?_
  rintro e w6 ⟨dv,rfl,hown,hb6⟩
  refine ⟨_,rfl,hb4.trans ⟨hb6.os,hb6.tape,hb6.output,hb6.size,fun k hk=>hb6.block k (by omega)⟩,?_⟩
  repeat (first | (apply dr_1;(focus rfl);(focus (simp (disch:=(try simp only [sPu]);omega) ;try rfl))) | (apply dr_y;(focus rfl);(focus rfl);(focus ((try simp only [sPu]);omega));(focus (simp (disch:=(try simp only [sPu]);omega);done));(focus (simp (disch:=(try simp only [sPu]);omega) ;try rfl))) | (apply dr_n;(focus rfl);(focus rfl);(focus ((try simp only [sPu]);omega));(focus (first | (left;simp (disch:=(try simp only [sPu]);omega);done) | (right;simp (disch:=(try simp only [sPu]);omega);done)))))
  refine dreg_nil ?_
  simp only [Exit.then]
  have hs6:=hb6.size
  have hbw6:Below w.heap.size w w6:=hbw4.trans ⟨hb6.os,hb6.tape,hb6.output,hb6.size,fun k hk=>hb6.block k (by omega)⟩
  rw [hcv v hv2] at hown hlimv
  obtain ⟨S,base,cap,rfl,hcapL,hsr,hS⟩:=own_src2 hown
  obtain ⟨ts',hpm,hft,hwm⟩:=kept_again hv2 (hok v hv2) (hk v hv2)
  refine SC.wp_seq (SC.wp_reg ?_)
  iterate 1 (first | (apply ops_1;(focus (simp (disch:=(try simp only [sPu]);omega) ;try rfl))) | (apply ops_y;(focus rfl);(focus ((try simp only [sPu]);omega));(focus (simp (disch:=(try simp only [sPu]);omega);done));(focus (simp (disch:=(try simp only [sPu]);omega) ;try rfl))) | (apply ops_n;(focus rfl);(focus ((try simp only [sPu]);omega));(focus (first | (left;simp (disch:=(try simp only [sPu]);omega);done) | (right;simp (disch:=(try simp only [sPu]);omega);done)))))
  have hpos:∀ n r,pInt 2 (fixed (v:Int) 2 ++ wFs v false fsP (cv t.l))=some (n,r)→0≤n:=by
    intro n r h
    rw [pInt_kept hv2] at h
    cases h
    omega
  refine ops_call cAg.1 (cAg.2 w6 S base _ cap (by omega) (fun w' h=>hgl w' (hbw6.trans ⟨h.os,h.tape,h.output,h.size,fun k hk=>h.block k (by omega)⟩)) hsr (fun sb h=>(hS sb h).2) hlimv hpos (fun n xs r h=>by
    rw [hpm] at h
    cases h
    exact ⟨hft,by rw [hwm];exact hlimv⟩)) (by simp (disch:=(try simp only [sPu]);omega)) ?_
  rw [hpm]
  rintro e w8 ⟨hb8,dv8,rfl,hown8⟩
  rw [hwm] at hown8
  refine ⟨_,rfl,?_⟩
  iterate 1 (first | (apply ops_1;(focus (simp (disch:=(try simp only [sPu]);omega) ;try rfl))) | (apply ops_y;(focus rfl);(focus ((try simp only [sPu]);omega));(focus (simp (disch:=(try simp only [sPu]);omega);done));(focus (simp (disch:=(try simp only [sPu]);omega) ;try rfl))) | (apply ops_n;(focus rfl);(focus ((try simp only [sPu]);omega));(focus (first | (left;simp (disch:=(try simp only [sPu]);omega);done) | (right;simp (disch:=(try simp only [sPu]);omega);done)))))
  refine oNo rfl (opw_extract (vs:=#[dv8,.bool true]) (v:=dv8) (by simp (disch:=(try simp only [sPu]);omega)) rfl ?_)
  refine oNo rfl (opw_extract (vs:=#[dv8,.bool true]) (v:=.bool true) (by simp (disch:=(try simp only [sPu]);omega)) rfl ?_)
  repeat (first | (apply ops_1;(focus (simp (disch:=(try simp only [sPu]);omega) ;try rfl))) | (apply ops_y;(focus rfl);(focus ((try simp only [sPu]);omega));(focus (simp (disch:=(try simp only [sPu]);omega);done));(focus (simp (disch:=(try simp only [sPu]);omega) ;try rfl))) | (apply ops_n;(focus rfl);(focus ((try simp only [sPu]);omega));(focus (first | (left;simp (disch:=(try simp only [sPu]);omega);done) | (right;simp (disch:=(try simp only [sPu]);omega);done)))))
  refine oNi ?_
  simp only [Exit.then]
  have hs8:=hb8.size
  have hbw8:Below w.heap.size w w8:=hbw6.trans ⟨hb8.os,hb8.tape,hb8.output,hb8.size,fun k hk=>hb8.block k (by omega)⟩
  obtain ⟨S8,base8,cap8,rfl,hsr8,hS8⟩:=own_src hown8
  have hB1:BytesAt w8 (fun k=>k < w8.heap.size) base8 (fixed v 2 ++ wFs v false fsP (cv t.l)):=bytesAt_src hsr8 fun sb h=>(hS8 sb h).2
  have hB2:BytesAt w8 (fun k=>k < w8.heap.size) base (fixed v 2 ++ wFs v false fsP (cv t.l)):=bytesAt_src (hsr.frame fun sb h=>hb8.block sb (hS sb h).2) fun sb h=>by have:=(hS sb h).2;omega
  refine SC.wp_seq (SC.wp_reg ?_)
  iterate 4 (first | (apply ops_1;(focus (simp (disch:=(try simp only [sPu]);omega) ;try rfl))) | (apply ops_y;(focus rfl);(focus ((try simp only [sPu]);omega));(focus (simp (disch:=(try simp only [sPu]);omega);done));(focus (simp (disch:=(try simp only [sPu]);omega) ;try rfl))) | (apply ops_n;(focus rfl);(focus ((try simp only [sPu]);omega));(focus (first | (left;simp (disch:=(try simp only [sPu]);omega);done) | (right;simp (disch:=(try simp only [sPu]);omega);done)))))
  refine ops_callg (argsV:=#[.slice base8 _ cap8,.slice base _ cap]) rfl (by simp [sPu,hs]) (by simp (disch:=(try simp only [sPu]);omega)) oSame (cSame w8 _ base8 base cap8 cap hB1 hB2 hlimv) (by simp (disch:=(try simp only [sPu]);omega)) ?_
  rintro e w9 ⟨rfl,hb9⟩
  refine ⟨_,rfl,?_⟩
  repeat (first | (apply ops_1;(focus (simp (disch:=(try simp only [sPu]);omega) ;try rfl))) | (apply ops_y;(focus rfl);(focus ((try simp only [sPu]);omega));(focus (simp (disch:=(try simp only [sPu]);omega);done));(focus (simp (disch:=(try simp only [sPu]);omega) ;try rfl))) | (apply ops_n;(focus rfl);(focus ((try simp only [sPu]);omega));(focus (first | (left;simp (disch:=(try simp only [sPu]);omega);done) | (right;simp (disch:=(try simp only [sPu]);omega);done)))))
  refine oNi (SC.wp_ret ?_)
  try simp only [Exit.then]
  exact ret_tmp hr (by simp [dPu,hd]) ⟨by simp (disch:=(try simp only [sPu]);omega),hbw8.trans ⟨hb9.os,hb9.tape,hb9.output,hb9.size,fun k hk=>hb9.block k (by omega)⟩⟩
theorem lawCutK_ok (hX:stOK P X=true) (hm:P.follows .mixedOrders=true) {fFit fSp fK fAg T1 T4:FuncId} (hT4:intK P T4=some .u16) {gb:Nat} {Gl:World→Prop} (fs fsP:Fs)
    (oFit:FnOK P fFit) (cFit:∀ (w:World) (t:Tree) (tv:Value),TV G w (· < w.heap.size) t tv→Calls P fFit #[tv] w (Asks w))
    (oSp:FnOK P fSp) (cSp:∀ w:World,Calls P fSp #[] w fun e w'=>∃ v,e=.returned (msgV v (-1))∧v.oneCell'=true∧FsV w' (fun k=>w.heap.size≤k∧k < w'.heap.size) fs v∧Below w.heap.size w w')
    (cK:KeptC G P X fs fK) (cAg:AgKC P X.U8 fsP gb Gl fAg)
    (hf:P.funcs[f]?=some fn) (hb:fn.body.map strip=some (sc_LawCutK X.T T1 X.U8 X.I T4 X.Bs fFit fSp fK fAg)) (hn:fn.ntmps=42) (hr:fn.results=#[.tmp 6]) (w:World) (n at_:Nat) (hn8:n < 256) (hat:at_ < 65536) (t:Tree) (tv:Value) (ht:TV G w (· < w.heap.size) t tv) (hgb:gb < w.heap.size) (hgl:∀ w',Below w.heap.size w w'→Gl w') (cv:List Tree→List Tree) (hcv:∀ v:Nat,v < 2→wFs v false fs t.l=wFs v false fsP (cv t.l))
    (hok:∀ v:Nat,v < 2→okFsR v false fsP=true) (hk:∀ v:Nat,v < 2→KFs v fsP (cv t.l)) (hlim:∀ v:Nat,v < 2→(fixed v 2 ++ wFs v false fs t.l).length≤lim) :
    Calls P f #[.int .u8 (n:Int),tv,.int .u16 (at_:Int)] w fun e w'=>e=.returned (.bool true)∧Below w.heap.size w w':=by
  have hst:=st_facts hX
  obtain ⟨vs,hvs,hvs5⟩:∃ vs:List Value,tv=.agg vs.toArray∧vs.length=5:=by
    cases ht
    exact ⟨[_,_,_,_,_],rfl,rfl⟩
  refine fCa hf hb hn (by simp) fun a0 hs hd ha=>?_
  have k0:=ha 0 _ rfl
  have k1:=ha 1 _ rfl
  have k2:=ha 2 _ rfl
  simp only [List.getElem_toArray,List.getElem_cons_zero,List.getElem_cons_succ] at k0 k1 k2
  refine SC.wp_seq (SC.wp_reg (oNo rfl (opw_box (v:=tv) k1 ?_)))
  have hnew:=heap_alloc_new w (.cells tv.cells X.T)
  have hb1:Below w.heap.size w (w.alloc (.cells tv.cells X.T)):=(Below.refl _ _).alloc (Nat.le_refl _) _
  have hs1:(w.alloc (.cells tv.cells X.T)).heap.size=w.heap.size+1:=by simp
  have hbox:rangeV (w.alloc (.cells tv.cells X.T)) w.heap.size 0 5=some vs:=by
    have:=rangeV_of (w:=w.alloc (.cells tv.cells X.T)) (b:=w.heap.size) vs 0 (fun j v hj=>by
      rw [Nat.zero_add,cell_of_row _ _ _ _ _ _ hnew,hvs]
      simpa [Value.cells] using hj)
    rwa [hvs5] at this
  generalize w.alloc (.cells tv.cells X.T)=w1 at hb1 hs1 hbox ⊢
  have ht1:TV G w1 (· < w1.heap.size) t tv:=ht.down hb1 (by omega)
  repeat (first | (apply ops_1;(focus (simp (disch:=(try simp only [sPu]);omega) ;try rfl))) | (apply ops_y;(focus rfl);(focus ((try simp only [sPu]);omega));(focus (simp (disch:=(try simp only [sPu]);omega);done));(focus (simp (disch:=(try simp only [sPu]);omega) ;try rfl))) | (apply ops_n;(focus rfl);(focus ((try simp only [sPu]);omega));(focus (first | (left;simp (disch:=(try simp only [sPu]);omega);done) | (right;simp (disch:=(try simp only [sPu]);omega);done)))))
  refine oNi (SC.wp_seq (SC.wp_seq (SC.wp_reg ?_)))
  iterate 1 (first | (apply ops_1;(focus (simp (disch:=(try simp only [sPu]);omega) [hst,hbox];try rfl))) | (apply ops_y;(focus rfl);(focus ((try simp only [sPu]);omega));(focus (simp (disch:=(try simp only [sPu]);omega) [hst,hbox];done));(focus (simp (disch:=(try simp only [sPu]);omega) [hst,hbox];try rfl))) | (apply ops_n;(focus rfl);(focus ((try simp only [sPu]);omega));(focus (first | (left;simp (disch:=(try simp only [sPu]);omega) [hst,hbox];done) | (right;simp (disch:=(try simp only [sPu]);omega);done)))))
  refine ops_call oFit (cFit w1 t tv ht1) (by rw [hvs];simp (disch:=(try simp only [sPu]);omega)) ?_
  rintro e w2 ⟨⟨bo,rfl⟩,hb2⟩
  refine ⟨_,rfl,?_⟩
  have hbw2:Below w.heap.size w w2:=hb1.trans ⟨hb2.os,hb2.tape,hb2.output,hb2.size,fun k hk=>hb2.block k (by omega)⟩
  repeat (first | (apply ops_1;(focus (simp (disch:=(try simp only [sPu]);omega) ;try rfl))) | (apply ops_y;(focus rfl);(focus ((try simp only [sPu]);omega));(focus (simp (disch:=(try simp only [sPu]);omega);done));(focus (simp (disch:=(try simp only [sPu]);omega) ;try rfl))) | (apply ops_n;(focus rfl);(focus ((try simp only [sPu]);omega));(focus (first | (left;simp (disch:=(try simp only [sPu]);omega);done) | (right;simp (disch:=(try simp only [sPu]);omega);done)))))
  refine oNi (SC.wp_cond (t:=!bo) (by simp (disch:=(try simp only [sPu]);omega)) ?_)
  cases bo
  · rw [if_pos (by rfl)]
    refine SC.wp_seq (SC.wp_reg ?_)
    repeat (first | (apply ops_1;(focus (simp (disch:=(try simp only [sPu]);omega) ;try rfl))) | (apply ops_y;(focus rfl);(focus ((try simp only [sPu]);omega));(focus (simp (disch:=(try simp only [sPu]);omega);done));(focus (simp (disch:=(try simp only [sPu]);omega) ;try rfl))) | (apply ops_n;(focus rfl);(focus ((try simp only [sPu]);omega));(focus (first | (left;simp (disch:=(try simp only [sPu]);omega);done) | (right;simp (disch:=(try simp only [sPu]);omega);done)))))
    refine oNi (SC.wp_ret ?_)
    try simp only [Exit.then]
    exact ret_tmp hr (by simp [dPu,hd]) ⟨by simp (disch:=(try simp only [sPu]);omega),hbw2⟩
  rw [if_neg (by simp)]
  refine SC.wp_skip ?_
  simp only [Exit.then]
  have hs2:=hb2.size
  have hbox3:rangeV w2.drew w.heap.size 0 5=some vs:=by
    have:rangeV w2 w.heap.size 0 5=some vs:=by rw [rangeV_mono (hb2.block w.heap.size (by omega))];exact hbox
    exact this
  have hdr:w2.drew.heap.size=w2.heap.size:=rfl
  have hbx3:w.heap.size < w2.heap.size:=by omega
  obtain ⟨v,hv⟩:∃ v,v=n % 2:=⟨_,rfl⟩
  have hv2:v < 2:=by rw [hv];exact Nat.mod_lt _ (by omega)
  have hwn:IntKind.i64.wrap (n:Int)=(n:Int):=w64q (by omega) (by omega)
  have hmt:(n:Int).tmod 2=(v:Int):=by
    rw [Int.tmod_eq_emod_of_nonneg (by omega),hv]
    rfl
  have hmN:n % 2=v:=hv.symm
  have hmZ:(n:Int) % 2=(v:Int):=by rw [hv];rfl
  refine SC.wp_seq (SC.wp_dreg hm (Below w2.heap.size w2.drew) [(1,true),(2,true),(3,true),(4,true),(0,false),(5,false),(6,true)] (by rfl) (by rfl) (by decide) (Below.refl _ _) ?_)
  iterate 4 (first | (apply dr_1;(focus rfl);(focus (simp (disch:=(try simp only [sPu]);omega) [hst,k0,hbox3,hbx3,hwn,hmt,hmN,hmZ];try rfl))) | (apply dr_y;(focus rfl);(focus rfl);(focus ((try simp only [sPu]);omega));(focus (simp (disch:=(try simp only [sPu]);omega) [hst,k0,hbox3,hbx3,hwn,hmt,hmN,hmZ];done));(focus (simp (disch:=(try simp only [sPu]);omega) [hst,k0,hbox3,hbx3,hwn,hmt,hmN,hmZ];try rfl))) | (apply dr_n;(focus rfl);(focus rfl);(focus ((try simp only [sPu]);omega));(focus (first | (left;simp (disch:=(try simp only [sPu]);omega) [hst,k0,hbox3,hbx3,hwn,hmt,hmN,hmZ];done) | (right;simp (disch:=(try simp only [sPu]);omega);done)))))
  refine dreg_call (argsV:=#[]) rfl oSp (cSp w2.drew) (by simp (disch:=(try simp only [sPu]);omega)) ?_
  rintro e w4 ⟨fv,rfl,hfv1,hfv,hb4⟩
  refine ⟨_,rfl,hb4,?_⟩
  have hs4:=hb4.size
  have hbw4:Below w.heap.size w w4:=hbw2.trans ⟨hb4.os,hb4.tape,hb4.output,hb4.size,fun k hk=>hb4.block k (by show k < w2.heap.size;omega)⟩
  have ht4:TV G w4 (· < w4.heap.size) t tv:=ht.down hbw4 (by omega)
  have hfv4:FsV w4 (· < w4.heap.size) fs fv:=FsV.mono (fun k hk=>hk.2) (fun _ _=>rfl) hfv
  have hlimv:=hlim v hv2
  refine dreg_call (argsV:=#[msgV fv (-1),.int .i64 (v:Int),tv]) rfl cK.1 (cK.2 w4 fv v t tv hfv4 ht4 hlimv) (by rw [hvs];simp (disch:=(try simp only [sPu]);omega) [msgV]) ?_
  rintro e w6 ⟨dv,rfl,hown,hb6⟩
  refine ⟨_,rfl,hb4.trans ⟨hb6.os,hb6.tape,hb6.output,hb6.size,fun k hk=>hb6.block k (by omega)⟩,?_⟩
  repeat (first | (apply dr_1;(focus rfl);(focus (simp (disch:=(try simp only [sPu]);omega) ;try rfl))) | (apply dr_y;(focus rfl);(focus rfl);(focus ((try simp only [sPu]);omega));(focus (simp (disch:=(try simp only [sPu]);omega);done));(focus (simp (disch:=(try simp only [sPu]);omega) ;try rfl))) | (apply dr_n;(focus rfl);(focus rfl);(focus ((try simp only [sPu]);omega));(focus (first | (left;simp (disch:=(try simp only [sPu]);omega);done) | (right;simp (disch:=(try simp only [sPu]);omega);done)))))
  refine dreg_nil ?_
  simp only [Exit.then]
  have hs6:=hb6.size
  have hbw6:Below w.heap.size w w6:=hbw4.trans ⟨hb6.os,hb6.tape,hb6.output,hb6.size,fun k hk=>hb6.block k (by omega)⟩
  rw [hcv v hv2] at hown hlimv
  obtain ⟨S,base,cap,rfl,hcapL,hsr,hS⟩:=own_src2 hown
  obtain ⟨ts',hpm,hft,hwm⟩:=kept_again hv2 (hok v hv2) (hk v hv2)
  refine SC.wp_seq (SC.wp_reg ?_)
  iterate 1 (first | (apply ops_1;(focus (simp (disch:=(try simp only [sPu]);omega) ;try rfl))) | (apply ops_y;(focus rfl);(focus ((try simp only [sPu]);omega));(focus (simp (disch:=(try simp only [sPu]);omega);done));(focus (simp (disch:=(try simp only [sPu]);omega) ;try rfl))) | (apply ops_n;(focus rfl);(focus ((try simp only [sPu]);omega));(focus (first | (left;simp (disch:=(try simp only [sPu]);omega);done) | (right;simp (disch:=(try simp only [sPu]);omega);done)))))
  have hpos:∀ n r,pInt 2 (fixed (v:Int) 2 ++ wFs v false fsP (cv t.l))=some (n,r)→0≤n:=by
    intro n r h
    rw [pInt_kept hv2] at h
    cases h
    omega
  refine ops_call cAg.1 (cAg.2 w6 S base _ cap (by omega) (fun w' h=>hgl w' (hbw6.trans ⟨h.os,h.tape,h.output,h.size,fun k hk=>h.block k (by omega)⟩)) hsr (fun sb h=>(hS sb h).2) hlimv hpos (fun n xs r h=>by
    rw [hpm] at h
    cases h
    exact ⟨hft,by rw [hwm];exact hlimv⟩)) (by simp (disch:=(try simp only [sPu]);omega)) ?_
  rw [hpm]
  rintro e w8 ⟨hb8,dv8,rfl,hown8⟩
  rw [hwm] at hown8
  refine ⟨_,rfl,?_⟩
  iterate 1 (first | (apply ops_1;(focus (simp (disch:=(try simp only [sPu]);omega) ;try rfl))) | (apply ops_y;(focus rfl);(focus ((try simp only [sPu]);omega));(focus (simp (disch:=(try simp only [sPu]);omega);done));(focus (simp (disch:=(try simp only [sPu]);omega) ;try rfl))) | (apply ops_n;(focus rfl);(focus ((try simp only [sPu]);omega));(focus (first | (left;simp (disch:=(try simp only [sPu]);omega);done) | (right;simp (disch:=(try simp only [sPu]);omega);done)))))
  refine oNo rfl (opw_extract (vs:=#[dv8,.bool true]) (v:=dv8) (by simp (disch:=(try simp only [sPu]);omega)) rfl ?_)
  refine oNo rfl (opw_extract (vs:=#[dv8,.bool true]) (v:=.bool true) (by simp (disch:=(try simp only [sPu]);omega)) rfl ?_)
  repeat (first | (apply ops_1;(focus (simp (disch:=(try simp only [sPu]);omega) ;try rfl))) | (apply ops_y;(focus rfl);(focus ((try simp only [sPu]);omega));(focus (simp (disch:=(try simp only [sPu]);omega);done));(focus (simp (disch:=(try simp only [sPu]);omega) ;try rfl))) | (apply ops_n;(focus rfl);(focus ((try simp only [sPu]);omega));(focus (first | (left;simp (disch:=(try simp only [sPu]);omega);done) | (right;simp (disch:=(try simp only [sPu]);omega);done)))))
  refine oNi ?_
  simp only [Exit.then]
  have hs8:=hb8.size
  have hbw8:Below w.heap.size w w8:=hbw6.trans ⟨hb8.os,hb8.tape,hb8.output,hb8.size,fun k hk=>hb8.block k (by omega)⟩
  obtain ⟨L,hLe⟩:∃ L,L=(fixed (v:Int) 2 ++ wFs v false fsP (cv t.l)).length:=⟨_,rfl⟩
  have hL2:2≤L:=by rw [hLe,List.length_append,fixed_two];omega
  obtain ⟨q,hq⟩:∃ q,q=at_ % L:=⟨_,rfl⟩
  have hqL:q < L:=by rw [hq];exact Nat.mod_lt _ (by omega)
  have hwat:IntKind.i64.wrap (at_:Int)=(at_:Int):=w64q (by omega) (by omega)
  have hmod:(at_:Int).tmod ((fixed (v:Int) 2 ++ wFs v false fsP (cv t.l)).length:Int)=(q:Int):=by
    rw [Int.tmod_eq_emod_of_nonneg (by omega),hq,hLe]
    rfl
  have hmodN:at_ % (fixed (v:Int) 2 ++ wFs v false fsP (cv t.l)).length=q:=by rw [hq,hLe]
  have hmodZ:(at_:Int) % ((fixed (v:Int) 2 ++ wFs v false fsP (cv t.l)).length:Int)=(q:Int):=by rw [← hmodN];rfl
  have hL:(fixed (v:Int) 2 ++ wFs v false fsP (cv t.l)).length ≠ 0:=by omega
  have hL0:((fixed (v:Int) 2 ++ wFs v false fsP (cv t.l)).length:Int) ≠ 0:=by omega
  have hcut:=kept_cut hv2 (hok v hv2) (hk v hv2) (q:=q) (by omega)
  have hpos2:=pInt_pos (v:=v) (q:=q) (b:=wFs v false fsP (cv t.l)) hv2
  generalize fixed (v:Int) 2 ++ wFs v false fsP (cv t.l)=W at *
  have hqc:(0:Int)≤(q:Int)∧(q:Int)≤(cap:Int):=by have:=hcapL;omega
  refine SC.wp_seq (SC.wp_reg ?_)
  iterate 7 (first | (apply ops_1;(focus (simp (disch:=(try simp only [sPu]);omega) [hst,k2,hT4,hwat,hmod,hmodN,hmodZ,hL0,hL,hqc];try rfl))) | (apply ops_y;(focus rfl);(focus ((try simp only [sPu]);omega));(focus (simp (disch:=(try simp only [sPu]);omega) [hst,k2,hT4,hwat,hmod,hmodN,hmodZ,hL0,hL,hqc];done));(focus (simp (disch:=(try simp only [sPu]);omega) [hst,k2,hT4,hwat,hmod,hmodN,hmodZ,hL0,hL,hqc];try rfl))) | (apply ops_n;(focus rfl);(focus ((try simp only [sPu]);omega));(focus (first | (left;simp (disch:=(try simp only [sPu]);omega) [hst,k2,hT4,hwat,hmod,hmodN,hmodZ,hL0,hL,hqc];done) | (right;simp (disch:=(try simp only [sPu]);omega);done)))))
  have hlq:(W.take q).length=q:=by rw [List.length_take];omega
  have hsr8:SrcAt w8 S base (W.take q):=SrcAt.take (hsr.frame fun sb h=>hb8.block sb (hS sb h).2)
  have hc2:=cAg.2 w8 S base (W.take q) cap (by omega) (fun w' h=>hgl w' (hbw8.trans ⟨h.os,h.tape,h.output,h.size,fun k hk=>h.block k (by omega)⟩)) hsr8 (fun sb h=>by have:=(hS sb h).2;omega) (by rw [hlq];omega) hpos2 (fun n xs r h=>by
    rw [hcut] at h
    cases h)
  rw [hcut,hlq] at hc2
  refine ops_call cAg.1 hc2 (by simp (disch:=(try simp only [sPu]);omega)) ?_
  rintro e w10 ⟨hb10,rfl⟩
  refine ⟨_,rfl,?_⟩
  iterate 1 (first | (apply ops_1;(focus (simp (disch:=(try simp only [sPu]);omega) ;try rfl))) | (apply ops_y;(focus rfl);(focus ((try simp only [sPu]);omega));(focus (simp (disch:=(try simp only [sPu]);omega);done));(focus (simp (disch:=(try simp only [sPu]);omega) ;try rfl))) | (apply ops_n;(focus rfl);(focus ((try simp only [sPu]);omega));(focus (first | (left;simp (disch:=(try simp only [sPu]);omega);done) | (right;simp (disch:=(try simp only [sPu]);omega);done)))))
  refine oNo rfl (opw_extract (vs:=#[.slice none 0 0,.bool false]) (v:=.slice none 0 0) (by simp (disch:=(try simp only [sPu]);omega)) rfl ?_)
  refine oNo rfl (opw_extract (vs:=#[.slice none 0 0,.bool false]) (v:=.bool false) (by simp (disch:=(try simp only [sPu]);omega)) rfl ?_)
  repeat (first | (apply ops_1;(focus (simp (disch:=(try simp only [sPu]);omega) ;try rfl))) | (apply ops_y;(focus rfl);(focus ((try simp only [sPu]);omega));(focus (simp (disch:=(try simp only [sPu]);omega);done));(focus (simp (disch:=(try simp only [sPu]);omega) ;try rfl))) | (apply ops_n;(focus rfl);(focus ((try simp only [sPu]);omega));(focus (first | (left;simp (disch:=(try simp only [sPu]);omega);done) | (right;simp (disch:=(try simp only [sPu]);omega);done)))))
  refine oNi ?_
  simp only [Exit.then]
  refine SC.wp_seq (SC.wp_reg ?_)
  repeat (first | (apply ops_1;(focus (simp (disch:=(try simp only [sPu]);omega) ;try rfl))) | (apply ops_y;(focus rfl);(focus ((try simp only [sPu]);omega));(focus (simp (disch:=(try simp only [sPu]);omega);done));(focus (simp (disch:=(try simp only [sPu]);omega) ;try rfl))) | (apply ops_n;(focus rfl);(focus ((try simp only [sPu]);omega));(focus (first | (left;simp (disch:=(try simp only [sPu]);omega);done) | (right;simp (disch:=(try simp only [sPu]);omega);done)))))
  refine oNi (SC.wp_ret ?_)
  try simp only [Exit.then]
  exact ret_tmp hr (by simp [dPu,hd]) ⟨by simp (disch:=(try simp only [sPu]);omega),hbw8.trans ⟨hb10.os,hb10.tape,hb10.output,hb10.size,fun k hk=>hb10.block k (by omega)⟩⟩
end
end Go.Proofs.YtgaplicnofhliabDoor.K
