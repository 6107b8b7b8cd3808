/- Generic texts: R30 T5 Z4 L1 L2 L5. No condition. -/
import Derived.Test.YtdfhomhginbfeaaDoorM10
namespace Go.Proofs.YtdfhomhginbfeaaDoor.K
open Go Go.RowKit Go.Proofs.YtdfhomhginbfeaaDoor.T
attribute [local simp] eTm eCo pNo gTp gTn qv qcall vop iop
set_option linter.unusedVariables false
set_option linter.unusedSimpArgs false
set_option maxHeartbeats 4000000
def sc_LawAny (T0 T1 T2 F0 F1 F2 F3:Nat):SC:=.seq (.reg [⟨some 4,.assign (.const (.bool false)),none⟩]) (.seq (.seq (.reg [mv 10 1,lenOp 11 T0 10,⟨some 12,.binOp .gtr T1 (.tmp 11) (.const (.int .i64 2147483647)) T1,none⟩]) (.cond (.tmp 12) (.seq (.reg [⟨some 4,.assign (.const (.bool true)),none⟩]) (.ret)) (.skip))) (.seq (.reg [cal 13 F0 [],asg 5 13]) (.seq (.seq (.reg [mv 14 5,⟨some 15,.binOp .lss T1 (.tmp 14) (.const (.int .i64 0)) T1,none⟩]) (.cond (.tmp 15) (.seq (.reg [⟨some 4,.assign (.const (.bool false)),none⟩]) (.ret)) (.skip))) (.seq (.seq (.reg [mv 16 1,lenOp 17 T0 16,⟨some 18,.binOp .gtr T1 (.tmp 17) (.const (.int .i64 1000)) T1,none⟩]) (.cond (.tmp 18) (.seq (.reg [⟨some 4,.assign (.const (.bool true)),none⟩]) (.ret)) (.skip))) (.seq (.reg [mv 20 0,mv 21 5,cal 22 F1 [20,21],mv 23 1,cal 24 F2 [22,23],mv 19 24,⟨some 25,.extract (.tmp 19) 0,none⟩,⟨some 26,.extract (.tmp 19) 1,none⟩,asg 6 25,asg 7 26]) (.seq (.seq (.reg [mv 27 7,⟨some 28,.unOp .not T2 (.tmp 27),none⟩]) (.cond (.tmp 28) (.seq (.reg [⟨some 4,.assign (.const (.bool true)),none⟩]) (.ret)) (.skip))) (.seq (.reg [mv 30 0,mv 31 5,cal 32 F1 [30,31],mv 33 6,cal 34 F2 [32,33],mv 29 34,⟨some 35,.extract (.tmp 29) 0,none⟩,⟨some 36,.extract (.tmp 29) 1,none⟩,asg 8 35,asg 9 36]) (.seq (.reg [mv 37 9,mv 38 37,⟨some 39,.move (.tmp 6),some (1,true)⟩,⟨some 40,.move (.tmp 8),some (1,true)⟩,⟨some 41,.call ⟨.value (.func F3),#[(.tmp 39),(.tmp 40)],#[]⟩,some (1,true)⟩,⟨some 42,.pick (.tmp 38) (.tmp 41) (.const (.bool false)),none⟩,asg 4 42]) (.ret)))))))))
section
variable {P:Program} {f:FuncId} {fn:Func}
theorem lawAny_ok {tU8 TB TI T2 fMax fVer fAg fSame:Nat} {gb m:Nat} {Gl:World→Prop} (hm16:m < 32768) (fs:Fs) (flexO:Option Int) (hTB:sliceN P TB=some 1) (hTI:intK P TI=some .i64)
    (oMax:FnOK P fMax) (cMax:∀ w:World,Calls P fMax #[] w fun e w'=>e=.returned (.int .i64 (m:Int))∧Below w.heap.size w w')
    (oVer:FnOK P fVer) (cVer:∀ (w:World) (n m:Nat),n < 256→m < 65536→Calls P fVer #[.int .u8 (n:Int),.int .i64 (m:Int)] w fun e w'=>e=.returned (.int .i64 ((n % (m+1):Nat):Int))∧w=w')
    (cAg:AgC P tU8 flexO fs gb m Gl fAg)
    (oSame:FnOK P fSame) (cSame:∀ (w:World) (xs:Bytes) (b1 b2:Option Addr) (c1 c2:Nat),BytesAt w (fun k=>k < w.heap.size) b1 xs→BytesAt w (fun k=>k < w.heap.size) b2 xs→xs.length≤lim→Calls P fSame #[.slice b1 xs.length c1,.slice b2 xs.length c2] w fun e w'=>e=.returned (.bool true)∧Below w.heap.size w w')
    (hf:P.funcs[f]?=some fn) (hb:fn.body.map strip=some (sc_LawAny TB TI T2 fMax fVer fAg fSame)) (hn:fn.ntmps=43) (hr:fn.results=#[.tmp 4]) (w:World) (n:Nat) (hn8:n < 256) (S:Option Nat) (base:Option Addr) (data:Bytes) (cap:Nat) (hsr:SrcAt w S base data) (hS:∀ sb,S=some sb→sb < w.heap.size) (hgb:gb < w.heap.size) (hgl:∀ w',Below w.heap.size w w'→Gl w')
    (hok:∀ v:Nat,v≤m→okFsR v (flexAt flexO v) fs=true) (hlen:∀ (v:Nat) xs u r,v≤m→data.length≤1000→pMsg v (flexAt flexO v) fs data=some ((xs,u),r)→(wMsg v (flexAt flexO v) fs xs u).length≤lim) :
    Calls P f #[.int .u8 (n:Int),.slice base data.length cap] w fun e w'=>e=.returned (.bool true)∧Below w.heap.size w w':=by
  refine fCa hf hb hn (by simp) fun a0 hs hd ha=>?_
  have k0:=ha 0 _ rfl
  have k1:=ha 1 _ rfl
  simp only [List.getElem_toArray,List.getElem_cons_zero,List.getElem_cons_succ] at k0 k1
  refine SC.wp_seq (SC.wp_reg ?_)
  repeat (first | (apply ops_1;(focus (simp (disch:=(try simp only [sPu]);omega) ;try rfl))) | (apply ops_y;(focus rfl);(focus ((try simp only [sPu]);omega));(focus (simp (disch:=(try simp only [sPu]);omega);done));(focus (simp (disch:=(try simp only [sPu]);omega) ;try rfl))) | (apply ops_n;(focus rfl);(focus ((try simp only [sPu]);omega));(focus (first | (left;simp (disch:=(try simp only [sPu]);omega);done) | (right;simp (disch:=(try simp only [sPu]);omega);done)))))
  refine oNi (SC.wp_seq (SC.wp_seq (SC.wp_reg ?_)))
  repeat (first | (apply ops_1;(focus (simp (disch:=(try simp only [sPu]);omega) [k1,hTB];try rfl))) | (apply ops_y;(focus rfl);(focus ((try simp only [sPu]);omega));(focus (simp (disch:=(try simp only [sPu]);omega) [k1,hTB];done));(focus (simp (disch:=(try simp only [sPu]);omega) [k1,hTB];try rfl))) | (apply ops_n;(focus rfl);(focus ((try simp only [sPu]);omega));(focus (first | (left;simp (disch:=(try simp only [sPu]);omega) [k1,hTB];done) | (right;simp (disch:=(try simp only [sPu]);omega);done)))))
  refine oNi (SC.wp_cond (t:=decide ((data.length:Int) > 2147483647)) (by simp (disch:=(try simp only [sPu]);omega)) ?_)
  split
  · refine SC.wp_seq (SC.wp_reg ?_)
    repeat (first | (apply ops_1;(focus (simp (disch:=(try simp only [sPu]);omega) ;try rfl))) | (apply ops_y;(focus rfl);(focus ((try simp only [sPu]);omega));(focus (simp (disch:=(try simp only [sPu]);omega);done));(focus (simp (disch:=(try simp only [sPu]);omega) ;try rfl))) | (apply ops_n;(focus rfl);(focus ((try simp only [sPu]);omega));(focus (first | (left;simp (disch:=(try simp only [sPu]);omega);done) | (right;simp (disch:=(try simp only [sPu]);omega);done)))))
    refine oNi (SC.wp_ret ?_)
    simp only [Exit.then]
    exact ret_tmp hr (by simp [dPu,hd]) ⟨by simp (disch:=(try simp only [sPu]);omega),Below.refl _ _⟩
  refine SC.wp_skip ?_
  simp only [Exit.then]
  refine SC.wp_seq (SC.wp_reg (ops_call oMax (cMax w) (by simp (disch:=(try simp only [sPu]);omega)) ?_))
  rintro e w1 ⟨rfl,hb1⟩
  refine ⟨_,rfl,?_⟩
  repeat (first | (apply ops_1;(focus (simp (disch:=(try simp only [sPu]);omega) ;try rfl))) | (apply ops_y;(focus rfl);(focus ((try simp only [sPu]);omega));(focus (simp (disch:=(try simp only [sPu]);omega);done));(focus (simp (disch:=(try simp only [sPu]);omega) ;try rfl))) | (apply ops_n;(focus rfl);(focus ((try simp only [sPu]);omega));(focus (first | (left;simp (disch:=(try simp only [sPu]);omega);done) | (right;simp (disch:=(try simp only [sPu]);omega);done)))))
  refine oNi (SC.wp_seq (SC.wp_seq (SC.wp_reg ?_)))
  have em:decide ((m:Int) < 0)=false:=by simp
  repeat (first | (apply ops_1;(focus (simp (disch:=(try simp only [sPu]);omega) [em];try rfl))) | (apply ops_y;(focus rfl);(focus ((try simp only [sPu]);omega));(focus (simp (disch:=(try simp only [sPu]);omega) [em];done));(focus (simp (disch:=(try simp only [sPu]);omega) [em];try rfl))) | (apply ops_n;(focus rfl);(focus ((try simp only [sPu]);omega));(focus (first | (left;simp (disch:=(try simp only [sPu]);omega) [em];done) | (right;simp (disch:=(try simp only [sPu]);omega);done)))))
  refine oNi (SC.wp_cond (t:=false) (by simp (disch:=(try simp only [sPu]);omega)) ?_)
  rw [if_neg (by simp)]
  refine SC.wp_skip ?_
  simp only [Exit.then]
  refine SC.wp_seq (SC.wp_seq (SC.wp_reg ?_))
  repeat (first | (apply ops_1;(focus (simp (disch:=(try simp only [sPu]);omega) [k1,hTB];try rfl))) | (apply ops_y;(focus rfl);(focus ((try simp only [sPu]);omega));(focus (simp (disch:=(try simp only [sPu]);omega) [k1,hTB];done));(focus (simp (disch:=(try simp only [sPu]);omega) [k1,hTB];try rfl))) | (apply ops_n;(focus rfl);(focus ((try simp only [sPu]);omega));(focus (first | (left;simp (disch:=(try simp only [sPu]);omega) [k1,hTB];done) | (right;simp (disch:=(try simp only [sPu]);omega);done)))))
  refine oNi (SC.wp_cond (t:=decide ((data.length:Int) > 1000)) (by simp (disch:=(try simp only [sPu]);omega)) ?_)
  by_cases h1000:(data.length:Int) > 1000
  · rw [if_pos (decide_eq_true h1000)]
    refine SC.wp_seq (SC.wp_reg ?_)
    repeat (first | (apply ops_1;(focus (simp (disch:=(try simp only [sPu]);omega) ;try rfl))) | (apply ops_y;(focus rfl);(focus ((try simp only [sPu]);omega));(focus (simp (disch:=(try simp only [sPu]);omega);done));(focus (simp (disch:=(try simp only [sPu]);omega) ;try rfl))) | (apply ops_n;(focus rfl);(focus ((try simp only [sPu]);omega));(focus (first | (left;simp (disch:=(try simp only [sPu]);omega);done) | (right;simp (disch:=(try simp only [sPu]);omega);done)))))
    refine oNi (SC.wp_ret ?_)
    simp only [Exit.then]
    exact ret_tmp hr (by simp [dPu,hd]) ⟨by simp (disch:=(try simp only [sPu]);omega),hb1⟩
  rw [if_neg (by rw [decide_eq_false h1000];simp)]
  refine SC.wp_skip ?_
  simp only [Exit.then]
  have hs1:=hb1.size
  have hd1000:data.length≤1000:=by omega
  obtain ⟨v,hv⟩:∃ v,v=n % (m+1):=⟨_,rfl⟩
  have hvm:v≤m:=by rw [hv];exact Nat.lt_succ_iff.1 (Nat.mod_lt _ (by omega))
  refine SC.wp_seq (SC.wp_reg ?_)
  iterate 2 (first | (apply ops_1;(focus (simp (disch:=(try simp only [sPu]);omega) [k0];try rfl))) | (apply ops_y;(focus rfl);(focus ((try simp only [sPu]);omega));(focus (simp (disch:=(try simp only [sPu]);omega) [k0];done));(focus (simp (disch:=(try simp only [sPu]);omega) [k0];try rfl))) | (apply ops_n;(focus rfl);(focus ((try simp only [sPu]);omega));(focus (first | (left;simp (disch:=(try simp only [sPu]);omega) [k0];done) | (right;simp (disch:=(try simp only [sPu]);omega);done)))))
  refine ops_call oVer (cVer w1 n m hn8 (by omega)) (by simp (disch:=(try simp only [sPu]);omega) [k0]) ?_
  rintro e w2 ⟨rfl,rfl⟩
  refine ⟨_,rfl,?_⟩
  rw [← hv]
  iterate 1 (first | (apply ops_1;(focus (simp (disch:=(try simp only [sPu]);omega) [k1];try rfl))) | (apply ops_y;(focus rfl);(focus ((try simp only [sPu]);omega));(focus (simp (disch:=(try simp only [sPu]);omega) [k1];done));(focus (simp (disch:=(try simp only [sPu]);omega) [k1];try rfl))) | (apply ops_n;(focus rfl);(focus ((try simp only [sPu]);omega));(focus (first | (left;simp (disch:=(try simp only [sPu]);omega) [k1];done) | (right;simp (disch:=(try simp only [sPu]);omega);done)))))
  have hfit:∀ xs u r,pMsg v (flexAt flexO v) fs data=some ((xs,u),r)→FitFs v fs xs∧FitTags u∧(wMsg v (flexAt flexO v) fs xs u).length≤lim:=fun xs u r h=>by
    have:=msg_fit (by simp only [most];omega) h
    exact ⟨this.1,this.2,hlen v xs u r hvm hd1000 h⟩
  refine ops_call cAg.1 (cAg.2 w1 S base data cap v hvm (by omega) (fun w' h=>hgl w' (hb1.trans ⟨h.os,h.tape,h.output,h.size,fun k hk=>h.block k (by omega)⟩)) (hsr.frame fun sb h=>hb1.block sb (hS sb h)) (fun sb h=>by have:=hS sb h;omega) (by simp only [lim];omega) hfit) (by simp (disch:=(try simp only [sPu]);omega) [k1]) ?_
  cases hp:pMsg v (flexAt flexO v) fs data with
  | none =>
    rintro e w3 ⟨hb3,rfl⟩
    refine ⟨_,rfl,?_⟩
    have hbw3:Below w.heap.size w w3:=hb1.trans ⟨hb3.os,hb3.tape,hb3.output,hb3.size,fun k hk=>hb3.block k (by omega)⟩
    iterate 1 (first | (apply ops_1;(focus (simp (disch:=(try simp only [sPu]);omega) ;try rfl))) | (apply ops_y;(focus rfl);(focus ((try simp only [sPu]);omega));(focus (simp (disch:=(try simp only [sPu]);omega);done));(focus (simp (disch:=(try simp only [sPu]);omega) ;try rfl))) | (apply ops_n;(focus rfl);(focus ((try simp only [sPu]);omega));(focus (first | (left;simp (disch:=(try simp only [sPu]);omega);done) | (right;simp (disch:=(try simp only [sPu]);omega);done)))))
    refine oNo rfl (opw_extract (vs:=#[.slice none 0 0,.bool false]) (v:=.slice none 0 0) (by simp (disch:=(try simp only [sPu]);omega)) rfl ?_)
    refine oNo rfl (opw_extract (vs:=#[.slice none 0 0,.bool false]) (v:=.bool false) (by simp (disch:=(try simp only [sPu]);omega)) rfl ?_)
    repeat (first | (apply ops_1;(focus (simp (disch:=(try simp only [sPu]);omega) ;try rfl))) | (apply ops_y;(focus rfl);(focus ((try simp only [sPu]);omega));(focus (simp (disch:=(try simp only [sPu]);omega);done));(focus (simp (disch:=(try simp only [sPu]);omega) ;try rfl))) | (apply ops_n;(focus rfl);(focus ((try simp only [sPu]);omega));(focus (first | (left;simp (disch:=(try simp only [sPu]);omega);done) | (right;simp (disch:=(try simp only [sPu]);omega);done)))))
    refine oNi (SC.wp_seq (SC.wp_seq (SC.wp_reg ?_)))
    repeat (first | (apply ops_1;(focus (simp (disch:=(try simp only [sPu]);omega) ;try rfl))) | (apply ops_y;(focus rfl);(focus ((try simp only [sPu]);omega));(focus (simp (disch:=(try simp only [sPu]);omega);done));(focus (simp (disch:=(try simp only [sPu]);omega) ;try rfl))) | (apply ops_n;(focus rfl);(focus ((try simp only [sPu]);omega));(focus (first | (left;simp (disch:=(try simp only [sPu]);omega);done) | (right;simp (disch:=(try simp only [sPu]);omega);done)))))
    refine oNi (SC.wp_cond (t:=true) (by simp (disch:=(try simp only [sPu]);omega)) ?_)
    rw [if_pos rfl]
    refine SC.wp_seq (SC.wp_reg ?_)
    repeat (first | (apply ops_1;(focus (simp (disch:=(try simp only [sPu]);omega) ;try rfl))) | (apply ops_y;(focus rfl);(focus ((try simp only [sPu]);omega));(focus (simp (disch:=(try simp only [sPu]);omega);done));(focus (simp (disch:=(try simp only [sPu]);omega) ;try rfl))) | (apply ops_n;(focus rfl);(focus ((try simp only [sPu]);omega));(focus (first | (left;simp (disch:=(try simp only [sPu]);omega);done) | (right;simp (disch:=(try simp only [sPu]);omega);done)))))
    refine oNi (SC.wp_ret ?_)
    simp only [Exit.then]
    exact ret_tmp hr (by simp [dPu,hd]) ⟨by simp (disch:=(try simp only [sPu]);omega),hbw3⟩
  | some zz =>
    obtain ⟨⟨xs,u⟩,r⟩:=zz
    obtain ⟨f1,f2,f3⟩:=hfit xs u r hp
    rintro e w3 ⟨hb3,dv,rfl,hown⟩
    refine ⟨_,rfl,?_⟩
    have hs3:=hb3.size
    have hbw3:Below w.heap.size w w3:=hb1.trans ⟨hb3.os,hb3.tape,hb3.output,hb3.size,fun k hk=>hb3.block k (by omega)⟩
    obtain ⟨S3,base3,cap3,rfl,hsr3,hS3⟩:=own_src hown
    iterate 1 (first | (apply ops_1;(focus (simp (disch:=(try simp only [sPu]);omega) ;try rfl))) | (apply ops_y;(focus rfl);(focus ((try simp only [sPu]);omega));(focus (simp (disch:=(try simp only [sPu]);omega);done));(focus (simp (disch:=(try simp only [sPu]);omega) ;try rfl))) | (apply ops_n;(focus rfl);(focus ((try simp only [sPu]);omega));(focus (first | (left;simp (disch:=(try simp only [sPu]);omega);done) | (right;simp (disch:=(try simp only [sPu]);omega);done)))))
    refine oNo rfl (opw_extract (vs:=#[.slice base3 (wMsg v (flexAt flexO v) fs xs u).length cap3,.bool true]) (v:=.slice base3 (wMsg v (flexAt flexO v) fs xs u).length cap3) (by simp (disch:=(try simp only [sPu]);omega)) rfl ?_)
    refine oNo rfl (opw_extract (vs:=#[.slice base3 (wMsg v (flexAt flexO v) fs xs u).length cap3,.bool true]) (v:=.bool true) (by simp (disch:=(try simp only [sPu]);omega)) rfl ?_)
    repeat (first | (apply ops_1;(focus (simp (disch:=(try simp only [sPu]);omega) ;try rfl))) | (apply ops_y;(focus rfl);(focus ((try simp only [sPu]);omega));(focus (simp (disch:=(try simp only [sPu]);omega);done));(focus (simp (disch:=(try simp only [sPu]);omega) ;try rfl))) | (apply ops_n;(focus rfl);(focus ((try simp only [sPu]);omega));(focus (first | (left;simp (disch:=(try simp only [sPu]);omega);done) | (right;simp (disch:=(try simp only [sPu]);omega);done)))))
    refine oNi (SC.wp_seq (SC.wp_seq (SC.wp_reg ?_)))
    repeat (first | (apply ops_1;(focus (simp (disch:=(try simp only [sPu]);omega) ;try rfl))) | (apply ops_y;(focus rfl);(focus ((try simp only [sPu]);omega));(focus (simp (disch:=(try simp only [sPu]);omega);done));(focus (simp (disch:=(try simp only [sPu]);omega) ;try rfl))) | (apply ops_n;(focus rfl);(focus ((try simp only [sPu]);omega));(focus (first | (left;simp (disch:=(try simp only [sPu]);omega);done) | (right;simp (disch:=(try simp only [sPu]);omega);done)))))
    refine oNi (SC.wp_cond (t:=false) (by simp (disch:=(try simp only [sPu]);omega)) ?_)
    rw [if_neg (by simp)]
    refine SC.wp_skip ?_
    simp only [Exit.then]
    refine SC.wp_seq (SC.wp_reg ?_)
    iterate 2 (first | (apply ops_1;(focus (simp (disch:=(try simp only [sPu]);omega) [k0];try rfl))) | (apply ops_y;(focus rfl);(focus ((try simp only [sPu]);omega));(focus (simp (disch:=(try simp only [sPu]);omega) [k0];done));(focus (simp (disch:=(try simp only [sPu]);omega) [k0];try rfl))) | (apply ops_n;(focus rfl);(focus ((try simp only [sPu]);omega));(focus (first | (left;simp (disch:=(try simp only [sPu]);omega) [k0];done) | (right;simp (disch:=(try simp only [sPu]);omega);done)))))
    refine ops_call oVer (cVer w3 n m hn8 (by omega)) (by simp (disch:=(try simp only [sPu]);omega) [k0]) ?_
    rintro e w4 ⟨rfl,rfl⟩
    refine ⟨_,rfl,?_⟩
    rw [← hv]
    iterate 1 (first | (apply ops_1;(focus (simp (disch:=(try simp only [sPu]);omega) ;try rfl))) | (apply ops_y;(focus rfl);(focus ((try simp only [sPu]);omega));(focus (simp (disch:=(try simp only [sPu]);omega);done));(focus (simp (disch:=(try simp only [sPu]);omega) ;try rfl))) | (apply ops_n;(focus rfl);(focus ((try simp only [sPu]);omega));(focus (first | (left;simp (disch:=(try simp only [sPu]);omega);done) | (right;simp (disch:=(try simp only [sPu]);omega);done)))))
    obtain ⟨ts',u',hpm,hft1,hft2,hwm⟩:=msg_again (hok v hvm) (fitFs_k v fs xs f1) (fun x hx=>(f2.2.2 x hx).1)
    refine ops_call cAg.1 (cAg.2 w3 S3 base3 _ cap3 v hvm (by omega) (fun w' h=>hgl w' (hbw3.trans ⟨h.os,h.tape,h.output,h.size,fun k hk=>h.block k (by omega)⟩)) hsr3 (fun sb h=>(hS3 sb h).2) f3 (fun xs u r h=>by
      rw [hpm] at h
      cases h
      exact ⟨hft1,hft2,by rw [hwm];exact f3⟩)) (by simp (disch:=(try simp only [sPu]);omega)) ?_
    rw [hpm]
    rintro e w8 ⟨hb8,dv8,rfl,hown8⟩
    rw [hwm] at hown8
    refine ⟨_,rfl,?_⟩
    iterate 1 (first | (apply ops_1;(focus (simp (disch:=(try simp only [sPu]);omega) ;try rfl))) | (apply ops_y;(focus rfl);(focus ((try simp only [sPu]);omega));(focus (simp (disch:=(try simp only [sPu]);omega);done));(focus (simp (disch:=(try simp only [sPu]);omega) ;try rfl))) | (apply ops_n;(focus rfl);(focus ((try simp only [sPu]);omega));(focus (first | (left;simp (disch:=(try simp only [sPu]);omega);done) | (right;simp (disch:=(try simp only [sPu]);omega);done)))))
    refine oNo rfl (opw_extract (vs:=#[dv8,.bool true]) (v:=dv8) (by simp (disch:=(try simp only [sPu]);omega)) rfl ?_)
    refine oNo rfl (opw_extract (vs:=#[dv8,.bool true]) (v:=.bool true) (by simp (disch:=(try simp only [sPu]);omega)) rfl ?_)
    repeat (first | (apply ops_1;(focus (simp (disch:=(try simp only [sPu]);omega) ;try rfl))) | (apply ops_y;(focus rfl);(focus ((try simp only [sPu]);omega));(focus (simp (disch:=(try simp only [sPu]);omega);done));(focus (simp (disch:=(try simp only [sPu]);omega) ;try rfl))) | (apply ops_n;(focus rfl);(focus ((try simp only [sPu]);omega));(focus (first | (left;simp (disch:=(try simp only [sPu]);omega);done) | (right;simp (disch:=(try simp only [sPu]);omega);done)))))
    refine oNi ?_
    simp only [Exit.then]
    have hs8:=hb8.size
    have hbw8:Below w.heap.size w w8:=hbw3.trans ⟨hb8.os,hb8.tape,hb8.output,hb8.size,fun k hk=>hb8.block k (by omega)⟩
    obtain ⟨S8,base8,cap8,rfl,hsr8,hS8⟩:=own_src hown8
    have hB1:BytesAt w8 (fun k=>k < w8.heap.size) base8 (wMsg v (flexAt flexO v) fs xs u):=bytesAt_src hsr8 fun sb h=>(hS8 sb h).2
    have hB2:BytesAt w8 (fun k=>k < w8.heap.size) base3 (wMsg v (flexAt flexO v) fs xs u):=bytesAt_src (hsr3.frame fun sb h=>hb8.block sb (hS3 sb h).2) fun sb h=>by have:=(hS3 sb h).2;omega
    refine SC.wp_seq (SC.wp_reg ?_)
    iterate 4 (first | (apply ops_1;(focus (simp (disch:=(try simp only [sPu]);omega) ;try rfl))) | (apply ops_y;(focus rfl);(focus ((try simp only [sPu]);omega));(focus (simp (disch:=(try simp only [sPu]);omega);done));(focus (simp (disch:=(try simp only [sPu]);omega) ;try rfl))) | (apply ops_n;(focus rfl);(focus ((try simp only [sPu]);omega));(focus (first | (left;simp (disch:=(try simp only [sPu]);omega);done) | (right;simp (disch:=(try simp only [sPu]);omega);done)))))
    refine ops_callg (argsV:=#[.slice base3 _ cap3,.slice base8 _ cap8]) rfl (by simp [sPu,hs]) (by simp (disch:=(try simp only [sPu]);omega)) oSame (cSame w8 _ base3 base8 cap3 cap8 hB2 hB1 f3) (by simp (disch:=(try simp only [sPu]);omega)) ?_
    rintro e w9 ⟨rfl,hb9⟩
    refine ⟨_,rfl,?_⟩
    repeat (first | (apply ops_1;(focus (simp (disch:=(try simp only [sPu]);omega) ;try rfl))) | (apply ops_y;(focus rfl);(focus ((try simp only [sPu]);omega));(focus (simp (disch:=(try simp only [sPu]);omega);done));(focus (simp (disch:=(try simp only [sPu]);omega) ;try rfl))) | (apply ops_n;(focus rfl);(focus ((try simp only [sPu]);omega));(focus (first | (left;simp (disch:=(try simp only [sPu]);omega);done) | (right;simp (disch:=(try simp only [sPu]);omega);done)))))
    refine oNi (SC.wp_ret ?_)
    try simp only [Exit.then]
    exact ret_tmp hr (by simp [dPu,hd]) ⟨by simp (disch:=(try simp only [sPu]);omega),hbw8.trans ⟨hb9.os,hb9.tape,hb9.output,hb9.size,fun k hk=>hb9.block k (by omega)⟩⟩
end
end Go.Proofs.YtdfhomhginbfeaaDoor.K
namespace Go.Proofs.YtdfhomhginbfeaaDoor.T
set_option linter.unusedSimpArgs false
set_option linter.unusedVariables false
theorem uv_len:∀ (k m:Nat) (b r:Bytes) (x:Nat),pUvGo k m b=some (x,r)→∃ n,x=n * m∧(uvarint n).length+r.length≤b.length
  | _,_,[],r,x,h=>by simp [pUvGo] at h
  | 0,m,u :: b,r,x,h=>by
    simp only [pUvGo] at h
    split at h
    · rename_i hu
      simp only [Option.some.injEq,Prod.mk.injEq] at h
      obtain ⟨rfl,rfl⟩:=h
      refine ⟨u.toNat,rfl,?_⟩
      rw [uvarint_le (by omega)]
      simp
      omega
    · cases h
  | k+1,m,u :: b,r,x,h=>by
    simp only [pUvGo] at h
    split at h
    · rename_i hu
      simp only [Option.some.injEq,Prod.mk.injEq] at h
      obtain ⟨rfl,rfl⟩:=h
      refine ⟨u.toNat,rfl,?_⟩
      rw [uvarint_le (by omega)]
      simp
      omega
    · obtain ⟨z,hz,h2⟩:=Option.map_eq_some_iff.1 h
      simp only [Prod.mk.injEq] at h2
      obtain ⟨rfl,rfl⟩:=h2
      obtain ⟨n,hn,hl⟩:=uv_len k (m * 128) b z.2 z.1 hz
      refine ⟨u.toNat % 128+128 * n,?_,?_⟩
      · rw [hn,Nat.add_mul,Nat.mul_comm 128 n,Nat.mul_assoc,Nat.mul_comm 128 m]
      · by_cases hs:u.toNat % 128+128 * n≤127
        · rw [uvarint_le hs]
          have:=uvarint_pos n
          simp only [List.length_cons,List.length_nil]
          omega
        · rw [uvarint_gt hs,show (u.toNat % 128+128 * n) / 128=n by omega]
          simp only [List.length_cons]
          omega
theorem pUv_len {b r:Bytes} {n:Nat} (h:pUv b=some (n,r)):(uvarint n).length+r.length≤b.length:=by
  obtain ⟨x,hx,hl⟩:=uv_len 4 1 b r n h
  rw [Nat.mul_one] at hx
  subst hx
  exact hl
theorem counted_len (flex null:Bool) (n size:Nat):flex=false→(counted flex null n size).length=size:=by
  rintro rfl
  cases null <;> simp [counted,fixed_length]
theorem uvarint_mono:∀ (n m:Nat),m≤n→(uvarint m).length≤(uvarint n).length:=by
  intro n
  induction n using Nat.strongRecOn with
  | ind n ih =>
    intro m h
    by_cases hm:m≤127
    · rw [uvarint_le hm]
      have:=uvarint_pos n
      simpa using this
    · rw [uvarint_gt hm,uvarint_gt (n:=n) (by omega)]
      simp only [List.length_cons]
      have:=ih (n / 128) (by omega) (m / 128) (Nat.div_le_div_right h)
      omega
theorem pCount_len {flex:Bool} {size:Nat} {b r:Bytes} {l:Int} (hs:1≤size) (h:pCount flex size b=some (l,r)):(∀ n:Nat,(n:Int)≤l→(counted flex false n size).length+r.length≤b.length)∧(counted flex true 0 size).length+r.length≤b.length∧(counted flex false 0 size).length+r.length≤b.length:=by
  cases flex
  · have h':pInt size b=some (l,r):=h
    have:=pInt_facts h'
    exact ⟨fun n _=>by rw [counted_len false false n size rfl];omega,by rw [counted_len false true 0 size rfl];omega,by rw [counted_len false false 0 size rfl];omega⟩
  · simp only [pCount,if_true] at h
    obtain ⟨x,r1,h1,h2⟩:=rThen_some h
    obtain ⟨rfl,rfl⟩:=rOk_some h2
    have h3:=pUv_len h1
    have h4:=uvarint_pos x
    refine ⟨fun n hn=>?_,?_,?_⟩
    · have:=uvarint_mono x (n+1) (by omega)
      simp only [counted,if_true,Bool.false_eq_true,if_false]
      omega
    · simp only [counted,if_true,List.length_cons,List.length_nil];omega
    · simp only [counted,if_true,Bool.false_eq_true,if_false]
      rw [uvarint_le (by omega)]
      simp only [List.length_cons,List.length_nil];omega
end Go.Proofs.YtdfhomhginbfeaaDoor.T
namespace Go.Proofs.YtdfhomhginbfeaaDoor.T
theorem whole_le (b:Bytes):(whole b).length≤b.length:=by simp [whole];omega
theorem prim_len {flex nul:Bool} {k:PK} {b r:Bytes} {t:Tree} (h:pPrim flex nul k b=some (t,r)):(wPrim flex (t.null && nul) t k).length+r.length≤b.length:=by
  have hint:∀ w,(rThen (pInt w) fun n=>rOk (tN n)) b=some (t,r)→w+r.length≤b.length:=by
    intro w h
    obtain ⟨x,r1,h1,h2⟩:=rThen_some h
    obtain ⟨rfl,rfl⟩:=rOk_some h2
    have:=pInt_facts h1
    omega
  cases k <;> simp only [pPrim] at h
  case bool =>
    obtain ⟨x,r1,h1,h2⟩:=rThen_some h
    obtain ⟨rfl,rfl⟩:=rOk_some h2
    have:=(pFix_facts h1).1
    simp only [wPrim,List.length_cons,List.length_nil]
    omega
  case u16 =>
    obtain ⟨x,r1,h1,h2⟩:=rThen_some h
    obtain ⟨rfl,rfl⟩:=rOk_some h2
    have:=(pFix_facts h1).1
    simp only [wPrim,fixed_length,PK.width]
    omega
  case uuid =>
    obtain ⟨x,r1,h1,h2⟩:=rThen_some h
    obtain ⟨rfl,rfl⟩:=rOk_some h2
    have:=pSpan_facts h1
    simp only [wPrim,List.length_take,List.length_append,List.length_replicate]
    omega
  case str =>
    obtain ⟨x,r1,h1,h2⟩:=rThen_some h
    obtain ⟨g1,g2,g3⟩:=pCount_len (by decide) h1
    split at h2
    · rename_i hc
      obtain ⟨rfl,rfl⟩:=rOk_some h2
      have hn:nul=true:=by simp at hc;exact hc.1
      subst hn
      simp only [wPrim,tNull,Tree.null,Bool.and_true,if_true,List.length_append,List.length_nil]
      omega
    · obtain ⟨s,r2,h3,h4⟩:=rThen_some h2
      obtain ⟨rfl,rfl⟩:=rOk_some h4
      have hs:=pSpan_facts h3
      have hw:=whole_le s
      have:=g1 (whole s).length (by omega)
      simp only [wPrim,tS,Tree.null,Tree.s,Bool.false_and,Bool.false_eq_true,if_false,List.length_append]
      omega
  case bytes =>
    obtain ⟨x,r1,h1,h2⟩:=rThen_some h
    obtain ⟨g1,g2,g3⟩:=pCount_len (by decide) h1
    split at h2
    · rename_i hc
      obtain ⟨rfl,rfl⟩:=rOk_some h2
      have hn:nul=true:=by simp at hc;exact hc.1
      subst hn
      simp only [wPrim,tNull,Tree.null,Bool.and_true,if_true,List.length_append,List.length_nil]
      omega
    · split at h2
      · obtain ⟨rfl,rfl⟩:=rOk_some h2
        simp only [wPrim,tS,Tree.null,Tree.s,Bool.false_and,Bool.false_eq_true,if_false,List.length_append,whole,List.take_nil,List.length_nil]
        omega
      · obtain ⟨s,r2,h3,h4⟩:=rThen_some h2
        obtain ⟨rfl,rfl⟩:=rOk_some h4
        have hs:=pSpan_facts h3
        have hw:=whole_le s
        have:=g1 (whole s).length (by omega)
        simp only [wPrim,tS,Tree.null,Tree.s,Bool.false_and,Bool.false_eq_true,if_false,List.length_append]
        omega
  all_goals
    have:=hint _ h
    simp only [wPrim,fixed_length]
    omega
end Go.Proofs.YtdfhomhginbfeaaDoor.T
namespace Go.Proofs.YtdfhomhginbfeaaDoor.T
theorem setTag_len (t:Nat × Bytes):∀ acc:List (Nat × Bytes),((setTag t acc).flatMap wTag).length≤(acc.flatMap wTag).length+(wTag t).length
  | []=>by simp [setTag]
  | x :: r=>by
    have ih:=setTag_len t r
    simp only [setTag]
    split
    · simp only [List.flatMap_cons,List.length_append]
      omega
    · split
      · simp only [List.flatMap_cons,List.length_append]
        omega
      · simp only [List.flatMap_cons,List.length_append]
        omega
theorem tagN_len:∀ (n:Nat) (acc:List (Nat × Bytes)) (b r:Bytes) (u:List (Nat × Bytes)),pTagN n acc b=some (u,r)→(u.flatMap wTag).length+r.length≤(acc.flatMap wTag).length+b.length∧u.length≤acc.length+n
  | 0,acc,b,r,u,h=>by
    obtain ⟨rfl,rfl⟩:=rOk_some h
    exact ⟨Nat.le_refl _,Nat.le_refl _⟩
  | n+1,acc,b,r,u,h=>by
    simp only [pTagN] at h
    obtain ⟨k,r1,h1,h⟩:=rThen_some h
    obtain ⟨s,r2,h2,h⟩:=rThen_some h
    obtain ⟨v,r3,h3,h⟩:=rThen_some h
    have ih:=tagN_len n _ r3 r u h
    have l1:=pUv_len h1
    have l2:=pUv_len h2
    have l3:=pSpan_facts h3
    have lw:=whole_le v
    have lm:=uvarint_mono s (whole v).length (by omega)
    have ls:=setTag_len (k,v) acc
    have ll:=setTag_length (k,v) acc
    simp only [wTag,List.length_append] at ls
    omega
theorem tags_len {flex:Bool} {b r:Bytes} {u:List (Nat × Bytes)} (h:pTags flex b=some (u,r)) (hf:FitTags u):(wTags flex u).length+r.length≤b.length:=by
  cases flex
  · simp only [pTags,Bool.false_eq_true,if_false] at h
    obtain ⟨rfl,rfl⟩:=rOk_some h
    simp [wTags]
  · simp only [pTags,if_true] at h
    obtain ⟨n,r1,h1,h2⟩:=rThen_some h
    have l1:=pUv_len h1
    have l2:=tagN_len n [] r1 r u h2
    simp only [List.flatMap_nil,List.length_nil,Nat.zero_add] at l2
    have lm:=uvarint_mono n u.length l2.2
    simp only [wTags,if_true,hf.1,List.length_append]
    omega
theorem many_len {p:Rd Tree} {w:Tree→Bytes} {Fit:Tree→Prop} (hp:∀ b r t,p b=some (t,r)→Fit t→(w t).length+r.length≤b.length):∀ (n:Nat) (b r:Bytes) (xs:List Tree),pMany p n b=some (xs,r)→(∀ x ∈ xs,Fit x)→(xs.flatMap w).length+r.length≤b.length∧xs.length=n
  | 0,b,r,xs,h,_=>by
    obtain ⟨rfl,rfl⟩:=rOk_some h
    simp
  | n+1,b,r,xs,h,hf=>by
    simp only [pMany] at h
    obtain ⟨x,r1,h1,h⟩:=rThen_some h
    obtain ⟨ys,r2,h2,h⟩:=rThen_some h
    obtain ⟨rfl,rfl⟩:=rOk_some h
    have l1:=hp b r1 x h1 (hf x (.head _))
    have ih:=many_len hp n r1 r2 ys h2 (fun y hy=>hf y (.tail _ hy))
    simp only [List.flatMap_cons,List.length_append,List.length_cons]
    omega
theorem pLen_len {flex:Bool} {b r:Bytes} {l:Int} (h:pLen flex b=some (l,r)):(∀ n:Nat,n≤l.toNat→(counted flex false n 4).length+r.length≤b.length)∧(counted flex true 0 4).length+r.length≤b.length:=by
  obtain ⟨x,r1,h1,h2⟩:=rThen_some h
  split at h2
  · cases h2
  · simp only [Option.some.injEq,Prod.mk.injEq] at h2
    obtain ⟨rfl,rfl⟩:=h2
    cases flex
    · have h':pInt 4 b=some (x,r1):=h1
      have:=pInt_facts h'
      exact ⟨fun n _=>by rw [counted_len false false n 4 rfl];omega,by rw [counted_len false true 0 4 rfl];omega⟩
    · simp only [if_true] at h1
      obtain ⟨y,r2,h3,h4⟩:=rThen_some h1
      obtain ⟨rfl,rfl⟩:=rOk_some h4
      have l1:=pUv_len h3
      have l2:=uvarint_pos y
      refine ⟨fun n hn=>?_,?_⟩
      · simp only [counted,if_true,Bool.false_eq_true,if_false]
        by_cases hy:n+1≤y
        · have:=uvarint_mono y (n+1) hy
          omega
        · have hn0:n=0:=by
            split at hn
            · omega
            · split at hn <;> omega
          subst hn0
          rw [uvarint_le (by omega)]
          simp only [List.length_cons,List.length_nil]
          omega
      · simp only [counted,if_true,List.length_cons,List.length_nil]
        omega
end Go.Proofs.YtdfhomhginbfeaaDoor.T
namespace Go.Proofs.YtdfhomhginbfeaaDoor.T
def wV (ver:Int) (flex:Bool) (ty:Ty) (nul:Bool) (t:Tree):Bytes :=
  match ty with
  | .struct _ _ _ _ _=>if nul then (if t.null then [255] else 1 :: wTy ver flex ty false t) else wTy ver flex ty false t
  | _=>wTy ver flex ty (t.null && nul) t
def isStr:Ty→Bool
  | .struct _ _ _ _ _=>true
  | _=>false
mutual
def nlTy (ver:Int):Ty→Bool
  | .prim _=>true
  | .list _ _ _ of=>nlTy ver of
  | .struct _ _ _ _ fs=>nlFs ver fs
def nlFs (ver:Int):Fs→Bool
  | .nil=>true
  | .cons h ty r=>(!h.has ver || (nlTy ver ty && (!isStr ty || (decide (h.null < 0) || decide (h.null≤ver))))) && nlFs ver r
end
mutual
theorem ty_len (ver:Int) (flex:Bool):∀ (ty:Ty) (nul:Bool) (b r:Bytes) (t:Tree),nlTy ver ty=true→pTy ver flex ty nul b=some (t,r)→FitTy ver ty t→(wV ver flex ty nul t).length+r.length≤b.length
  | .prim k,nul,b,r,t,_,h,_=>by
    simp only [pTy] at h
    simp only [wV,wTy]
    exact prim_len h
  | .list a e s of,nul,b,r,t,hnl,h,hf=>by
    simp only [nlTy] at hnl
    simp only [pTy] at h
    obtain ⟨l,r1,h1,h2⟩:=rThen_some h
    obtain ⟨g1,g2⟩:=pLen_len h1
    split at h2
    · rename_i hc
      obtain ⟨rfl,rfl⟩:=rOk_some h2
      have hn:nul=true:=by simp at hc;exact hc.1
      subst hn
      simp only [wV,wTy,tNull,Tree.null,Bool.and_true,if_true,List.length_append,List.length_nil,List.flatMap_nil]
      omega
    · obtain ⟨xs,r2,h3,h4⟩:=rThen_some h2
      obtain ⟨rfl,rfl⟩:=rOk_some h4
      simp only [FitTy,tL,Tree.l] at hf
      have e:∀ x,wV ver flex of false x=wTy ver flex of false x:=by intro x;cases of <;> simp [wV]
      have hm:=many_len (w:=fun x=>wTy ver flex of false x) (Fit:=FitTy ver of) (fun b r t hp hft=>by
        have:=ty_len ver flex of false b r t hnl hp hft
        rw [e] at this
        exact this) l.toNat r1 r2 xs h3 hf.2
      have:=g1 xs.length (by omega)
      simp only [wV,wTy,tL,Tree.null,Tree.l,Bool.false_and,Bool.false_eq_true,if_false,List.length_append,List.take_of_length_le hf.1]
      omega
  | .struct a s d tg fs,nul,b,r,t,hnl,h,hf=>by
    simp only [nlTy] at hnl
    simp only [pTy] at h
    obtain ⟨p,r1,h1,h2⟩:=rThen_some h
    have hp:(if nul then 1 else 0)+r1.length≤b.length:=by
      cases nul
      · simp only [Bool.false_eq_true,if_false] at h1 ⊢
        obtain ⟨-,rfl⟩:=rOk_some h1
        omega
      · simp only [if_true] at h1 ⊢
        have:=pInt_facts h1
        omega
    split at h2
    · rename_i hc
      obtain ⟨rfl,rfl⟩:=rOk_some h2
      have hn:nul=true:=by simp at hc;exact hc.1
      subst hn
      simp only [wV,tNull,Tree.null,if_true,List.length_cons,List.length_nil] at hp ⊢
      omega
    · obtain ⟨xs,r2,h3,h4⟩:=rThen_some h2
      obtain ⟨u,r3,h5,h6⟩:=rThen_some h4
      obtain ⟨rfl,rfl⟩:=rOk_some h6
      have hff:FitFs ver fs xs∧FitTags u:=by
        simp only [FitTy] at hf
        rcases hf with h | h
        · simp [tNull] at h
        · exact h
      have l1:=fs_len ver flex fs r1 r2 xs hnl h3 hff.1
      have l2:=tags_len h5 hff.2
      have l3:(wTy ver flex (.struct a s d tg fs) false (.mk 0 [] false xs u)).length=(wFs ver flex fs xs).length+(wTags flex u).length:=by simp [wTy,Tree.l,Tree.u]
      cases nul
      · simp only [wV,Bool.false_eq_true,if_false] at hp ⊢
        omega
      · simp only [wV,if_true,Tree.null,Bool.false_eq_true,if_false,List.length_cons] at hp ⊢
        omega
theorem fs_len (ver:Int) (flex:Bool):∀ (fs:Fs) (b r:Bytes) (ts:List Tree),nlFs ver fs=true→pFs ver flex fs b=some (ts,r)→FitFs ver fs ts→(wFs ver flex fs ts).length+r.length≤b.length
  | .nil,b,r,ts,_,h,_=>by
    simp only [pFs] at h
    obtain ⟨rfl,rfl⟩:=rOk_some h
    simp [wFs]
  | .cons hd ty fs,b,r,ts,hnl,h,hf=>by
    simp only [nlFs,Bool.and_eq_true,Bool.or_eq_true,Bool.not_eq_true'] at hnl
    simp only [pFs] at h
    obtain ⟨x,r1,h1,h2⟩:=rThen_some h
    obtain ⟨xs,r2,h3,h4⟩:=rThen_some h2
    obtain ⟨rfl,rfl⟩:=rOk_some h4
    simp only [FitFs,List.headD_cons,List.tail_cons] at hf
    have l2:=fs_len ver flex fs r1 r2 xs hnl.2 h3 hf.2
    rw [wFs_cons,List.length_append,List.headD_cons,List.tail_cons]
    by_cases hh:hd.has ver=true
    · rw [if_pos hh] at h1 ⊢
      have hn2:=hnl.1.resolve_left (by rw [hh];simp)
      have l1:=ty_len ver flex ty (nulAt ver hd ty) b r1 x hn2.1 h1 (hf.1 hh)
      have e:(wField ver flex hd ty x).length≤(wV ver flex ty (nulAt ver hd ty) x).length:=by
        cases ty with
        | prim k=>simp only [wField,wV,nulAt,Hd.isNull];exact Nat.le_refl _
        | list _ _ _ _=>simp only [wField,wV,nulAt,Hd.isNull];exact Nat.le_refl _
        | struct _ _ _ _ _ =>
          simp only [isStr,Bool.true_eq_false,false_or,decide_eq_true_eq] at hn2
          simp only [wField,wV,nulAt,decide_eq_true_eq,Hd.isNull]
          by_cases h0:0≤hd.null
          · have hv:hd.null≤ver:=by rcases hn2.2 with h | h <;> omega
            simp only [h0,hv,decide_true,Bool.and_true,if_true]
            exact Nat.le_refl _
          · simp only [h0,if_false]
            exact Nat.le_refl _
      omega
    · rw [if_neg hh] at h1 ⊢
      obtain ⟨-,rfl⟩:=rOk_some h1
      simp only [List.length_nil]
      omega
end
theorem msg_len {ver:Int} {flex:Bool} {fs:Fs} {b r:Bytes} {ts:List Tree} {u:List (Nat × Bytes)} (hnl:nlFs ver fs=true) (hb:b.length≤most) (h:pMsg ver flex fs b=some ((ts,u),r)):(wMsg ver flex fs ts u).length≤b.length:=by
  have hf:=msg_fit hb h
  obtain ⟨xs,r1,h1,h2⟩:=rThen_some h
  obtain ⟨v,r2,h3,h4⟩:=rThen_some h2
  have h5:=rOk_some h4
  simp only [Prod.mk.injEq] at h5
  obtain ⟨⟨rfl,rfl⟩,rfl⟩:=h5
  have l1:=fs_len ver flex fs b r1 xs hnl h1 hf.1
  have l2:=tags_len h3 hf.2
  simp only [wMsg,List.length_append]
  omega
end Go.Proofs.YtdfhomhginbfeaaDoor.T
namespace Go.Proofs.YtdfhomhginbfeaaDoor.K
open Go Go.RowKit Go.Proofs.YtdfhomhginbfeaaDoor.T
open Go.ChangeShapes Go.WideShapes Go.Deep
set_option linter.unusedSimpArgs false
set_option linter.unusedVariables false
theorem open_data {H:Type} {enc:TypeId × Value→H} {P:Program} {w:World} {t b0 fuel:Nat} {v:Value} {x:DataW H × List MemPlace} {B:DataW H→Nat} (ht:sl8 P t=true) (hB:BulkC B) (hval:Value.okWide P w .any b0 t v)
    (h:DataW.trod enc P w 0 (fun _=>true) true fuel t v.cells.toList=some x) :
    ∃ (base:Option Addr) (cap:Nat) (data:Bytes) (S:Option Nat),v=.slice base data.length cap∧SrcAt w S base data∧∀ sb,S=some sb→sb < w.heap.size:=by
  obtain ⟨base,cap,bs,h1,hcap,_,h2⟩:=open_u8s ht h hB
  obtain ⟨e,hu,he,_⟩:=sl8_of ht
  have hv:v=.slice base bs.length cap:=by
    cases v <;> simp [Value.cells] at h1 ⊢
    case slice a b c=>exact h1
    case agg cs =>
      simp only [Value.okWide,hu] at hval
      unfold Cell.okWide at hval
      rw [hu] at hval
      simp [Cell.ok,hu] at hval
  subst hv
  cases base with
  | none =>
    rcases h2 with rfl | ⟨b,o,h3,_⟩
    · exact ⟨none,cap,[],none,rfl,⟨rfl,rfl⟩,fun sb h=>by cases h⟩
    · cases h3
  | some a =>
    have hok:Cell.ok P w .any b0 t (.slice (some a) bs.length cap):=by
      simp only [Value.okWide,hu] at hval
      unfold Cell.okWide at hval
      rw [hu] at hval
      exact hval
    simp only [Cell.ok,hu] at hok
    obtain ⟨_,_,_,hsp,row,cells,hsh,_⟩:=hok
    have hlt:a.block < w.heap.size:=by
      simp only [World.shape?] at hsh
      split at hsh
      · rename_i hb;exact (Array.getElem?_eq_some_iff.1 hb).1
      · cases hsh
    have ha:a=⟨a.block,a.off,none⟩:=by cases a;simp only at hsp;rw [hsp]
    refine ⟨some a,cap,bs,some a.block,rfl,⟨a.off,by rw [← ha],?_⟩,fun sb h=>by cases h;exact hlt⟩
    rcases h2 with rfl | ⟨b,o,h3,_,h4⟩
    · intro j u hj;simp at hj
    · cases h3;exact h4
end Go.Proofs.YtdfhomhginbfeaaDoor.K
namespace Go.Proofs.YtdfhomhginbfeaaDoor.K
open Go Go.RowKit Go.Proofs.YtdfhomhginbfeaaDoor.T
attribute [local simp] eTm eCo pNo gTp gTn qv qcall vop iop
set_option linter.unusedVariables false
set_option linter.unusedSimpArgs false
set_option maxHeartbeats 4000000
def lateB (h:Hd):Ty→Bool
  | .prim .str=>decide (h.from_ < h.null)
  | .list _ _ _ _=>decide (h.from_ < h.null)
  | _=>false
def nVL (h:Hd) (ty:Ty):Nat:=if lateB h ty then (match ty with | .prim _=>3 | ty=>nV ty) else nV ty+(if h.enum then 1 else 0)
def nVsL:Fs→Nat
  | .nil=>0
  | .cons h ty r=>nVL h ty+nVsL r
def aVTL (c:Ctx) (h:Hd) (ty:Ty):Nat :=
  if lateB h ty then (match ty with | .list _ _ _ of=>6+aLenT c true+aLenT c false+5+aET c of+1 | _=>12+2 * aAppT c .str) else aVT c h ty
def aFTL (c:Ctx):Fs→Nat
  | .nil=>0
  | .cons h ty r=>vTmps h+aVTL c h ty+aFTL c r
def aLate (I:Ids) (c:Ctx) (tStr S p:Nat) (h:Hd) (v t b:Nat):Ty→SC
  | .list T E _ of =>
    .seq (aLoad S p h.idx h.typ v t) (.seq (.seq (.reg [mv (t+4) c.ver,bin .geq (t+5) I.tI16 (t+4) (.const (.int .i16 h.null))]) (.cond (.tmp (t+5)) (aLen I c true T v (t+6)) (aLen I c false T v (t+6+aLenT c true))))
      (aLoop T v (t+6+aLenT c true+aLenT c false) b (aET c of) (aElem I c T E v (v+1) (v+2) (t+6+aLenT c true+aLenT c false+5) (b+2) of) I.tInt))
  | _ =>
    .seq (aLoad S p h.idx h.typ v t) (.seq (.reg [mv (t+4) c.ver,bin .lss (t+5) I.tI16 (t+4) (.const (.int .i16 h.null))]) (.cond (.tmp (t+5))
      (.seq (.reg [⟨some (v+1),.assign (.const (.string ⟨#[]⟩)),none⟩]) (.seq (.seq (.reg [mv (t+6) v,bin .neq (t+7) h.typ (t+6) (.const (.pointer none))]) (.cond (.tmp (t+7)) (.reg [mv (t+8) v,nilc (t+9) (t+8),ld (t+10) tStr (t+9),asg (v+1) (t+10)]) .skip))
        (.seq (.reg [mv (t+11) (v+1),asg (v+2) (t+11)]) (aApp I c false .str (v+2) (t+12)))))
      (aApp I c true .str v (t+12+aAppT c .str))))
def aValL (I:Ids) (c:Ctx) (tStr S p:Nat) (h:Hd) (v t b:Nat) (ty:Ty):SC:=if lateB h ty then aLate I c tStr S p h v t b ty else aVal I c S p h v t b ty
def aFsL (I:Ids) (c:Ctx) (tStr S p v t b:Nat):Fs→List SC
  | .nil=>[]
  | .cons h ty r=>vCond I c h t (aValL I c tStr S p h v (t+vTmps h) b ty) :: aFsL I c tStr S p (v+nVL h ty) (t+vTmps h+aVTL c h ty) (b+nB ty) r
def okValL (P:Program) (I:Ids) (c:Ctx) (tU8 tStr:Nat) (h:Hd) (ty:Ty):Bool :=
  if lateB h ty then !h.enum && decide (0≤h.null) && oneB P h.typ && (match ty with
    | .list T E size of=>h.typ == T && sliceB P T E size && okLen I c true && okLen I c false && okElem P I c tU8 E size of
    | _=>ptrB P h.typ && oneB P tStr && okApp I c true .str && okApp I c false .str)
  else (decide (h.null < 0) || decide (h.null≤h.from_)) && okVal P I c tU8 h ty
def okFsL (P:Program) (I:Ids) (c:Ctx) (tU8 tStr S:Nat):Fs→Bool
  | .nil=>true
  | .cons h ty r=>fieldB P S h.idx h.off && okValL P I c tU8 tStr h ty && okFsL P I c tU8 tStr S r
def NnFs (ver:Int):Fs→List Tree→Prop
  | .nil,_=>True
  | .cons h ty r,ts=>(lateB h ty=true→h.has ver=true→ver < h.null→(ts.headD Tree.zero).null=false)∧NnFs ver r ts.tail
section
variable {P:Program} {a:Act} {w:World} {K:Act→World→Prop} {d:Option Tmp} {g:Option (Nat × Bool)}
theorem opw_neqnil_ptr {T:Nat} {x:Operand} {q:Option Addr} (hT:ptrB P T=true) (hx:a.eval x=.pointer q) (h:K (a.put d (.bool !q.isNone)) w) :
    opw P ⟨d,.binOp .neq T x (.const (.pointer none)) T,g⟩ a w K:=by
  unfold ptrB at hT
  split at hT <;> try (simp at hT;done)
  rename_i e hu
  refine oVa (by simp) (fun p hp=>?_) h
  have hr:(Op.equal T (.pointer q) (.pointer none)).run P w=.ok q.isNone w:=by
    have key:∀ dd,(Op.equalIn (dd+1) T (.pointer q) (.pointer none)).run P w=.ok q.isNone w:=by
      intro dd
      cases q <;> simp [Op.equalIn,run_underlying hu]
    exact key 9999
  simp only [execOp,hp,hx,eCo,binOp,eqGuard]
  simp [hr]
end
section
variable {X:Fix}
theorem verCond_ok {op:BinOp} {n:Int} {r:Bool} {t lo t':Nat} {x y:SC} {pre post:Act→Prop} {out:Bytes} (hX:X.ok) (hop:(op=.lss∧r=decide (X.ver < n))∨(op=.geq∧r=decide (X.ver ≥ n))) (hlo:lo≤X.T0) (hlv:X.c.ver < lo) (hlf:X.c.flex < lo) (ht:X.T0≤t) (htN:t+2≤X.N) (htt:t≤t')
    (hst:∀ a a',Same X a a' lo t→pre a→pre a') (hx:r=true→AFragP X x pre post lo t' out) (hy:r=false→AFragP X y pre post lo t' out) :
    AFragP X (.seq (.reg [mv t X.c.ver,bin op (t+1) X.I.tI16 t (.const (.int .i16 n))]) (.cond (.tmp (t+1)) x y)) pre post lo t out:=by
  intro a w xs Q hi hp hlen hQ
  have hsz:=hi.size
  have h1:=hX.oneT
  refine SC.wp_seq (SC.wp_reg (ops_mv (oNo rfl (opw_cmp (op:=op) (k:=.i16) (m:=X.ver) (n:=n) (r:=r) ?_ rfl ?_ (oNi ?_)))))
  · rw [eTm,gTp (by omega)]
    exact hi.ver
  · rcases hop with ⟨rfl,rfl⟩ | ⟨rfl,rfl⟩ <;> simp
  have hS:Same X a ((a.put (some t) (getT a X.c.ver)).put (some (t+1)) (.bool r)) lo t:=by
    intro s hs1 hs2
    simp (disch:=omega) [gTn]
  have hi':AInv X ((a.put (some t) (getT a X.c.ver)).put (some (t+1)) (.bool r)) w xs:=by
    refine hi.step hX (by simp [sPu]) (by simp [dPu]) hS hlv hlf ?_ (Below.refl _ _) hi.heap
    simp (disch:=omega) [gTn]
    exact hi.own
  refine SC.wp_cond (t:=r) (by simp (disch:=(try simp only [sPu]);omega) [eTm,gTp]) ?_
  cases r with
  | true =>
    rw [if_pos rfl]
    exact hx rfl _ w xs Q hi' (hst _ _ hS hp) hlen fun a' w' h1 h2 h3=>hQ a' w' h1 (hS.trans h2 (Nat.le_refl _) htt) h3
  | false =>
    rw [if_neg (by simp)]
    exact hy rfl _ w xs Q hi' (hst _ _ hS hp) hlen fun a' w' h1 h2 h3=>hQ a' w' h1 (hS.trans h2 (Nat.le_refl _) htt) h3
theorem aLateStr_ok (hX:X.ok) {tStr S p v t bk b o:Nat} {h:Hd} {tr:Tree} (hn0:0≤h.null) (hT:oneB X.P h.typ=true) (hpt:ptrB X.P h.typ=true) (hTs:oneB X.P tStr=true) (ha1:okApp X.I X.c true .str=true) (ha2:okApp X.I X.c false .str=true) (hS:fieldB X.P S h.idx h.off=true)
    (hH:HTy X.G X.w0 (· < X.B) X.ver X.flex (.prim .str) true b (o+h.off) tr) (hnn:X.ver < h.null→tr.null=false) (hb:b < X.B) (hp:p < v) (hp1:p ≠ 1) (hlv:X.c.ver < v) (hlf:X.c.flex < v) (hv2:2≤v) (hvT:v+3≤X.T0) (ht:X.T0≤t) (htN:t+(12+2 * aAppT X.c .str)≤X.N) :
    AFrag X (aLate X.I X.c tStr S p h v t bk (.prim .str)) (fun a=>getT a p=.pointer (some ⟨b,o,none⟩)) v t (wField X.ver X.flex h (.prim .str) tr):=by
  simp only [HTy,HPrim] at hH
  rw [if_neg (by decide)] at hH
  obtain ⟨u,hc,hpv⟩:=hH
  have hload:=aLoad_ok (X:=X) (S:=S) (p:=p) (f:=h.idx) (T:=h.typ) (v:=v) (t:=t) (off:=h.off) (b:=b) (o:=o) (u:=u) (lo:=v) hX (Nat.le_refl _) hlv hlf (by omega) (by omega) ht (by omega) hS hT hb hc
  have hone:=hX.oneT
  unfold aLate
  have hmid:AFrag X (.seq (.reg [mv (t+4) X.c.ver,bin .lss (t+5) X.I.tI16 (t+4) (.const (.int .i16 h.null))]) (.cond (.tmp (t+5))
      (.seq (.reg [⟨some (v+1),.assign (.const (.string ⟨#[]⟩)),none⟩]) (.seq (.seq (.reg [mv (t+6) v,bin .neq (t+7) h.typ (t+6) (.const (.pointer none))]) (.cond (.tmp (t+7)) (.reg [mv (t+8) v,nilc (t+9) (t+8),ld (t+10) tStr (t+9),asg (v+1) (t+10)]) .skip))
        (.seq (.reg [mv (t+11) (v+1),asg (v+2) (t+11)]) (aApp X.I X.c false .str (v+2) (t+12)))))
      (aApp X.I X.c true .str v (t+12+aAppT X.c .str)))) (fun a=>getT a v=u) (v+1) (t+4) (wField X.ver X.flex h (.prim .str) tr):=by
    refine verCond_ok (t':=t+6) (r:=decide (X.ver < h.null)) hX (.inl ⟨rfl,rfl⟩) (by omega) (by omega) (by omega) (by omega) (by omega) (by omega) (stable_slot (by omega) (by omega)) (fun hr=>?_) (fun hr=>?_)
    · have hlt:X.ver < h.null:=of_decide_eq_true hr
      have htn:=hnn hlt
      have hout:wField X.ver X.flex h (.prim .str) tr=wPrim X.flex false tr .str:=by
        have:h.isNull X.ver tr=false:=by simp [Hd.isNull,htn]
        simp only [wField,wTy,this]
      rw [hout]
      have hpv':∃ b' o' s,u=.pointer (some ⟨b',o',none⟩)∧b' < X.B∧X.w0.cell? ⟨b',o',none⟩=some (.string s)∧s.data.toList=tr.s∧tr.s.length≤most:=by
        simpa [PVal,htn] using hpv
      obtain ⟨b',o',s,rfl,hb',hcs,hs1,hs2⟩:=hpv'
      have hap:=aApp_ok (X:=X) (nul:=false) (k:=.str) (x:=v+2) (t:=t+12) (lo:=v+3) (tr:=tr) (v:=.string s) hX ha2 ⟨s,rfl,hs1,hs2⟩ (by omega) (by omega) (by omega) (by omega) (by omega) (by omega) (by omega)
      have q1:AFragP X (.reg [⟨some (v+1),.assign (.const (.string ⟨#[]⟩)),none⟩]) (fun a=>getT a v=.pointer (some ⟨b',o',none⟩)) (fun a=>getT a v=.pointer (some ⟨b',o',none⟩)) (v+1) (t+6) []:=by
        refine AFragP.quiet hX (by omega) (by omega) ?_
        intro a w xs K hi hpre hK
        have hsz:=hi.size
        refine oNo rfl (opw_assign (oNi ?_))
        refine hK _ (by simp [sPu]) (by simp [dPu]) ?_ ?_ ?_
        · intro s' hs1 hs2
          simp (disch:=omega) [gTn]
        · simp (disch:=omega) [gTn]
        · simp (disch:=omega) [gTn,hpre]
      have q2:AFragP X (.seq (.reg [mv (t+6) v,bin .neq (t+7) h.typ (t+6) (.const (.pointer none))]) (.cond (.tmp (t+7)) (.reg [mv (t+8) v,nilc (t+9) (t+8),ld (t+10) tStr (t+9),asg (v+1) (t+10)]) .skip)) (fun a=>getT a v=.pointer (some ⟨b',o',none⟩)) (fun a=>getT a (v+1)=.string s) (v+1) (t+6) []:=by
        intro a w xs Q hi hpre hlen hQ
        have hsz:=hi.size
        refine SC.wp_seq (SC.wp_reg (ops_mv (oNo rfl (opw_neqnil_ptr (q:=some ⟨b',o',none⟩) hpt (by rw [eTm,gTp (by omega)];exact hpre) (oNi ?_)))))
        simp only [Exit.then]
        refine SC.wp_cond (t:=true) (by rw [eTm,gTp (by simp only [sPu];omega)];rfl) ?_
        rw [if_pos rfl]
        refine SC.wp_reg (ops_mv (ops_nilc (ad:=⟨b',o',none⟩) (by simp (disch:=(try simp only [sPu]);omega) [gTp,gTn,hpre]) (ops_ld hTs (ad:=⟨b',o',none⟩) (v:=.string s) (by simp (disch:=(try simp only [sPu]);omega) [gTp,gTn]) (by rw [hi.below.cell hb'];exact hcs) (ops_asg (oNi ?_)))))
        refine hQ _ w (hi.step hX (lo:=v+1) (t:=t+6) (by simp [sPu]) (by simp [dPu]) ?_ (by omega) (by omega) ?_ (Below.refl _ _) hi.heap) ?_ ?_
        · intro s' hs1 hs2
          simp (disch:=omega) [gTn]
        · simp (disch:=omega) [gTn]
          exact hi.own
        · intro s' hs1 hs2
          simp (disch:=omega) [gTn]
        · simp (disch:=(try simp only [sPu]);omega) [gTp]
      have q3:AFragP X (.reg [mv (t+11) (v+1),asg (v+2) (t+11)]) (fun a=>getT a (v+1)=.string s) (fun a=>getT a (v+2)=.string s) (v+2) (t+11) []:=by
        refine AFragP.quiet hX (by omega) (by omega) ?_
        intro a w xs K hi hpre hK
        have hsz:=hi.size
        refine ops_mv (ops_asg (oNi ?_))
        refine hK _ (by simp [sPu]) (by simp [dPu]) ?_ ?_ ?_
        · intro s' hs1 hs2
          simp (disch:=omega) [gTn]
        · simp (disch:=omega) [gTn]
        · simp (disch:=(try simp only [sPu]);omega) [gTp,hpre]
      have h3:=q3.seq hap (fun a a' _ _ hq=>hq) (by omega) (by omega)
      have h2:=q2.seq h3 (fun a a' _ _ hq=>hq) (by omega) (by omega)
      exact q1.seq h2 (fun a a' _ _ hq=>hq) (Nat.le_refl _) (Nat.le_refl _)
    · have hge:h.null≤X.ver:=by have:=of_decide_eq_false hr;omega
      have hout:wField X.ver X.flex h (.prim .str) tr=wPrim X.flex (true && tr.null) tr .str:=by
        have:h.isNull X.ver tr=tr.null:=by simp [Hd.isNull,hn0,hge]
        simp only [wField,wTy,this,Bool.true_and]
      rw [hout]
      exact (aApp_ok (X:=X) (nul:=true) (k:=.str) (x:=v) (t:=t+12+aAppT X.c .str) (lo:=v+1) (tr:=tr) (v:=u) hX ha1 hpv (by omega) (by omega) (by omega) (by omega) (by omega) (by omega) (by omega)).mono (fun _ h=>h) (fun _ h=>h) (Nat.le_refl _) (by omega)
  exact hload.seq hmid (fun a a' _ _ hq=>hq) (by omega) (by omega)
theorem aLateList_ok (hX:X.ok) {tStr T E size S p v t bk b o:Nat} {of:Ty} {h:Hd} {tr:Tree} (hn0:0≤h.null) (hTT:h.typ=T) (hT1:oneB X.P T=true) (hsl:sliceB X.P T E size=true) (hl1:okLen X.I X.c true=true) (hl2:okLen X.I X.c false=true) (hel:okElem X.P X.I X.c X.tU8 E size of=true) (hS:fieldB X.P S h.idx h.off=true)
    (hH:HTy X.G X.w0 (· < X.B) X.ver X.flex (.list T E size of) true b (o+h.off) tr) (hnn:X.ver < h.null→tr.null=false) (hb:b < X.B) (hp:p < v) (hp1:p ≠ 1) (hlv:X.c.ver < v) (hlf:X.c.flex < v) (hv2:2≤v) (hvT:v+nV (.list T E size of)≤X.T0) (ht:X.T0≤t) (htN:t+(6+aLenT X.c true+aLenT X.c false+5+aET X.c of+1)≤X.N) :
    AFrag X (aLate X.I X.c tStr S p h v t bk (.list T E size of)) (fun a=>getT a p=.pointer (some ⟨b,o,none⟩)) v t (wField X.ver X.flex h (.list T E size of) tr):=by
  have hnul:h.isNull X.ver tr=tr.null:=by
    by_cases hlt:X.ver < h.null
    · simp [Hd.isNull,hnn hlt]
    · simp [Hd.isNull,hn0,show h.null≤X.ver by omega]
  have hwf:wField X.ver X.flex h (.list T E size of) tr=wTy X.ver X.flex (.list T E size of) tr.null tr:=by simp only [wField,hnul]
  rw [hwf]
  simp only [nV] at hvT
  simp only [HTy,Bool.true_and] at hH
  obtain ⟨base,cap,hc,hH⟩:=hH
  have hload:=aLoad_ok (X:=X) (S:=S) (p:=p) (f:=h.idx) (T:=h.typ) (v:=v) (t:=t) (off:=h.off) (b:=b) (o:=o) (lo:=v) hX (Nat.le_refl _) hlv hlf (by omega) (by omega) ht (by omega) hS (by rw [hTT];exact hT1) hb hc
  unfold aLate
  generalize hnl:tr.null=nl at hc hH hload hnn ⊢
  have hisn:base.isNone=nl∧(if nl=true then 0 else tr.l.length)≤most:=by
    cases nl with
    | true =>
      simp only [if_true] at hH ⊢
      exact ⟨by simp [hH],Nat.zero_le _⟩
    | false =>
      simp only [Bool.false_eq_true,if_false] at hH ⊢
      refine ⟨?_,hH.1⟩
      have:=hH.2.1 trivial
      cases base <;> simp_all
  have hlen2:AFragP X (.seq (.reg [mv (t+4) X.c.ver,bin .geq (t+5) X.I.tI16 (t+4) (.const (.int .i16 h.null))]) (.cond (.tmp (t+5)) (aLen X.I X.c true T v (t+6)) (aLen X.I X.c false T v (t+6+aLenT X.c true)))) (fun a=>getT a v=.slice base (if nl=true then 0 else tr.l.length) cap) (fun a=>getT a v=.slice base (if nl=true then 0 else tr.l.length) cap) (v+1) (t+4) (counted X.flex nl (if nl=true then 0 else tr.l.length) 4):=by
    refine verCond_ok (t':=t+6) (r:=decide (X.ver ≥ h.null)) hX (.inr ⟨rfl,rfl⟩) (by omega) (by omega) (by omega) (by omega) (by omega) (by omega) (stable_slot (by omega) (by omega)) (fun hr=>?_) (fun hr=>?_)
    · have hlenOk:=aLen_ok (X:=X) (nul:=true) (T:=T) (E:=E) (n:=size) (v:=v) (t:=t+6) (lo:=v+1) (cnt:=if nl=true then 0 else tr.l.length) (cap:=cap) (base:=base) hX (by omega) (by omega) (by omega) (by omega) (by omega) (by omega) (by omega) hsl hl1 hisn.2
      rw [Bool.true_and,hisn.1] at hlenOk
      exact (hlenOk.keep (stable_slot (by omega) (by omega))).mono (fun _ h=>h) (fun _ h=>h.1) (by omega) (Nat.le_refl _)
    · have hlt:X.ver < h.null:=by have:=of_decide_eq_false hr;omega
      have e:nl=false:=hnn hlt
      have hlenOk:=aLen_ok (X:=X) (nul:=false) (T:=T) (E:=E) (n:=size) (v:=v) (t:=t+6+aLenT X.c true) (lo:=v+1) (cnt:=if nl=true then 0 else tr.l.length) (cap:=cap) (base:=base) hX (by omega) (by omega) (by omega) (by omega) (by omega) (by omega) (by omega) hsl hl2 hisn.2
      rw [Bool.false_and] at hlenOk
      subst e
      exact (hlenOk.keep (stable_slot (by omega) (by omega))).mono (fun _ h=>h) (fun _ h=>h.1) (Nat.le_refl _) (Nat.le_add_right _ _)
  have hloop:AFrag X (aLoop T v (t+6+aLenT X.c true+aLenT X.c false) bk (aET X.c of) (aElem X.I X.c T E v (v+1) (v+2) (t+6+aLenT X.c true+aLenT X.c false+5) (bk+2) of) X.I.tInt)
      (fun a=>getT a v=.slice base (if nl=true then 0 else tr.l.length) cap) v (t+6+aLenT X.c true+aLenT X.c false) ((if nl=true then [] else tr.l).flatMap (fun x=>wTy X.ver X.flex of false x)):=by
    have hnV:1≤nV of:=by cases of <;> simp [nV] <;> omega
    rw [← getElem?_map_flatten]
    have hcnt:(if nl=true then 0 else tr.l.length)=((if nl=true then [] else tr.l).map (fun x=>wTy X.ver X.flex of false x)).length:=by split <;> simp
    rw [hcnt]
    refine aLoop_ok (X:=X) (lo:=v) hX (Nat.le_refl _) (by omega) (by omega) hlv hlf (by omega) (by omega) hsl (by rw [← hcnt];exact hisn.2) ?_
    intro i out hout
    rw [← hcnt]
    simp only [List.getElem?_map,Option.map_eq_some_iff] at hout
    obtain ⟨x,hx,rfl⟩:=hout
    cases nl with
    | true=>simp at hx
    | false =>
      simp only [Bool.false_eq_true,if_false] at hx hH ⊢
      obtain ⟨-,-,hH⟩:=hH
      have hlt:i < tr.l.length:=(List.getElem?_eq_some_iff.1 hx).1
      rcases hH with ⟨rfl,hnil⟩ | ⟨b',o',rfl,hF,hels⟩
      · rw [hnil] at hlt
        exact absurd hlt (Nat.not_lt_zero _)
      · have hE:=aElem_ok hX of T E size v (v+1) (v+2) (t+6+aLenT X.c true+aLenT X.c false+5) (bk+2) b' o' cap tr.l.length i x hel hsl (hels i x hx) hF hlt (by omega) (by omega) (by omega) (by omega) (by omega) (by omega) (by omega) (by omega) (by omega) (by omega)
        rw [seqs_cons (aElem_ne _ _ _ _ _ _ _ _ _ _)]
        have hreg:AFragP X (.reg [mv (t+6+aLenT X.c true+aLenT X.c false+4) (t+6+aLenT X.c true+aLenT X.c false+2),asg (v+1) (t+6+aLenT X.c true+aLenT X.c false+4)])
            (fun a=>getT a v=.slice (some ⟨b',o',none⟩) tr.l.length cap∧getT a (t+6+aLenT X.c true+aLenT X.c false+2)=.int .i64 (i:Int))
            (fun a=>getT a v=.slice (some ⟨b',o',none⟩) tr.l.length cap∧getT a (v+1)=.int .i64 (i:Int)) (v+1) (t+6+aLenT X.c true+aLenT X.c false+4) []:=by
          refine AFragP.quiet hX (by omega) (by omega) ?_
          intro a w xs K hi hpre hK
          have hsz:=hi.size
          refine ops_mv (ops_asg (oNi ?_))
          refine hK _ (by simp [sPu]) (by simp [dPu]) ?_ ?_ ⟨?_,?_⟩
          · intro s hs1 hs2
            simp (disch:=omega) [gTn]
          · simp (disch:=omega) [gTn]
          · simp (disch:=omega) [gTn]
            exact hpre.1
          · simp (disch:=(try simp only [sPu]);omega) [gTp]
            exact hpre.2
        exact hreg.seq hE (fun a a' _ _ hq=>hq) (by omega) (by omega)
  have hout:wTy X.ver X.flex (.list T E size of) nl tr=counted X.flex nl (if nl=true then 0 else tr.l.length) 4 ++ (if nl=true then [] else tr.l).flatMap (fun x=>wTy X.ver X.flex of false x):=by
    simp only [wTy]
    cases nl with
    | true=>simp
    | false =>
      simp only [Bool.false_eq_true,if_false] at hH ⊢
      rw [List.take_of_length_le hH.1]
  rw [hout]
  have h2:=(hlen2.mono (lo':=v) (t':=t+4) (fun _ h=>h) (fun _ h=>h) (by omega) (Nat.le_refl _)).seq hloop (fun a a' _ _ hq=>hq) (Nat.le_refl _) (by omega)
  exact hload.seq h2 (fun a a' _ _ hq=>hq) (Nat.le_refl _) (by omega)
theorem aFsL_ok (hX:X.ok) {tStr:Nat}:∀ (fs:Fs) (S p v t bk b o:Nat) (ts:List Tree),okFsL X.P X.I X.c X.tU8 tStr S fs=true→HFs X.G X.w0 (· < X.B) X.ver X.flex fs b o ts→NnFs X.ver fs ts→b < X.B→p < v→p ≠ 1→X.c.ver < v→X.c.flex < v→2≤v →
    v+nVsL fs≤X.T0→X.T0≤t→t+aFTL X.c fs≤X.N→AList X (fun a=>getT a p=.pointer (some ⟨b,o,none⟩)) v t (aFsL X.I X.c tStr S p v t bk fs) (wFs X.ver X.flex fs ts)
  | .nil,S,p,v,t,bk,b,o,ts,hok,hH,hnn,hb,hp,hp1,hlv,hlf,hv2,hvT,ht,htN=>by
    simp only [aFsL,wFs]
    exact .nil
  | .cons h ty r,S,p,v,t,bk,b,o,ts,hok,hH,hnn,hb,hp,hp1,hlv,hlf,hv2,hvT,ht,htN=>by
    unfold okFsL at hok
    simp only [Bool.and_eq_true] at hok
    obtain ⟨⟨hS,hval⟩,hrest⟩:=hok
    simp only [HFs] at hH
    simp only [NnFs] at hnn
    simp only [nVsL] at hvT
    simp only [aFTL] at htN
    rw [wFs_cons]
    unfold aFsL
    refine .cons ?_ ?_
    · refine vCond_ok hX (by omega) hlv hlf ht (by omega) (stable_slot hp hp1) (fun hh=>?_)
      have hfrom:h.from_≤X.ver:=by
        simp only [Hd.has,Bool.and_eq_true,decide_eq_true_eq] at hh
        exact hh.1
      unfold okValL at hval
      unfold aValL
      unfold nVL at hvT
      unfold aVTL at htN
      by_cases hl:lateB h ty=true
      · rw [if_pos hl] at hval hvT htN ⊢
        simp only [Bool.and_eq_true,decide_eq_true_eq] at hval
        obtain ⟨⟨⟨he,hn0⟩,hone⟩,hm⟩:=hval
        have hHt:=hH.1 hh
        rw [decide_eq_true hn0] at hHt
        cases ty with
        | prim k =>
          have hk:k=.str:=by cases k <;> simp_all [lateB]
          subst hk
          simp only [Bool.and_eq_true] at hm
          obtain ⟨⟨⟨m1,m2⟩,m3⟩,m4⟩:=hm
          exact (aLateStr_ok hX hn0 hone m1 m2 m3 m4 hS hHt (hnn.1 hl hh) hb hp hp1 hlv hlf hv2 (by simp only at hvT;omega) (by omega) (by simp only at htN;omega)).mono (fun _ h=>h) (fun _ h=>h) (Nat.le_refl _) (Nat.le_refl _)
        | list T E size of =>
          simp only [Bool.and_eq_true,beq_iff_eq] at hm
          obtain ⟨⟨⟨⟨m1,m2⟩,m3⟩,m4⟩,m5⟩:=hm
          exact (aLateList_ok hX hn0 m1 (by rw [← m1];exact hone) m2 m3 m4 m5 hS hHt (hnn.1 hl hh) hb hp hp1 hlv hlf hv2 (by simp only at hvT;omega) (by omega) (by simp only at htN;omega)).mono (fun _ h=>h) (fun _ h=>h) (Nat.le_refl _) (Nat.le_refl _)
        | struct _ _ _ _ _=>simp [lateB] at hl
      · rw [if_neg hl] at hval hvT htN ⊢
        simp only [Bool.and_eq_true,Bool.or_eq_true,decide_eq_true_eq] at hval
        exact (aVal_ok hX ty S p h v (t+vTmps h) bk b o (ts.headD Tree.zero) hval.2 hS (hval.1.imp id fun e=>Int.le_trans e hfrom) (hH.1 hh) hb hp hp1 hlv hlf hv2 (by omega) (by omega) (by omega)).mono (fun _ h=>h) (fun _ h=>h) (Nat.le_refl _) (Nat.le_refl _)
    · exact (aFsL_ok hX r S p (v+nVL h ty) (t+vTmps h+aVTL X.c h ty) (bk+nB ty) b o ts.tail hrest hH.2 hnn.2 hb (by omega) hp1 (by omega) (by omega) (by omega) (by omega) (by omega) (by omega)).mono (by omega) (by omega)
end
def aTopL (I:Ids) (tStr S t:Nat) (flex:Option Int) (tags:Option (Nat × Nat)) (fs:Fs):SC :=
  seqs ([.reg [⟨some 4,.assign (.const (.slice none 0 0)),none⟩],aLoad S 0 0 I.tI16 5 t,.reg [mv (t+4) 5]] ++ (flexPart I t flex ++
    ((aFsL I (ctxOf flex) tStr S 0 (v0Of flex) (t1Of t flex) 0 fs ++ aTagsL I (ctxOf flex) S 0 tags (t1Of t flex+aFTL (ctxOf flex) fs)) ++
    [.reg [mv (t1Of t flex+aFTL (ctxOf flex) fs+tagsT tags) 1,asg 4 (t1Of t flex+aFTL (ctxOf flex) fs+tagsT tags)],.ret])))
section
variable {X:Fix}
theorem top_midL {tStr:Nat} {S b o:Nat} {tags:Option (Nat × Nat)} {fs:Fs} {v t:Nat} {ts:List Tree} {u:List (Nat × Bytes)} {Q:Exit→Act→World→Prop} {a:Act} {w:World} (hX:X.ok) (hvT:v+nVsL fs≤X.T0) (ht:X.T0≤t) (htN:t+aFTL X.c fs+tagsT tags+1≤X.N)
    (hlv:X.c.ver < v) (hlf:X.c.flex < v) (hv:5 < v) (hb:b < X.B) (htags:okTags X.P X.I X.c S tags=true) (hfs:okFsL X.P X.I X.c X.tU8 tStr S fs=true)
    (hH:HFs X.G X.w0 (· < X.B) X.ver X.flex fs b o ts) (hnn:NnFs X.ver fs ts) (hT:TagsAt X.G X.w0 (· < X.B) X.flex b o tags u) (hi:AInv X a w []) (hp:getT a 0=.pointer (some ⟨b,o,none⟩))
    (hlim:(wFs X.ver X.flex fs ts ++ wTags X.flex u).length≤lim)
    (hQ:∀ a' w' dv,a'.defers=[]→getT a' 4=dv→Own X.tU8 w' X.B dv (wFs X.ver X.flex fs ts ++ wTags X.flex u)→Below X.B X.w0 w'→Q .ret a' w') :
    (seqs ((aFsL X.I X.c tStr S 0 v t 0 fs ++ aTagsL X.I X.c S 0 tags (t+aFTL X.c fs)) ++ [.reg [mv (t+aFTL X.c fs+tagsT tags) 1,asg 4 (t+aFTL X.c fs+tagsT tags)],.ret])).wp X.P Q a w:=by
  have h1:=hX.oneT
  have hA:=aFsL_ok (tStr:=tStr) hX fs S 0 v t 0 b o ts hfs hH hnn hb (by omega) (by omega) hlv hlf (by omega) hvT ht (by omega)
  have hTg:=aTagsL_ok (X:=X) (S:=S) (p:=0) (t:=t+aFTL X.c fs) (b:=b) (o:=o) (lo:=v) (u:=u) hX (by omega) hlv hlf (by omega) (by omega) (by omega) (by omega) hb htags hT
  refine (hA.append (hTg.mono (Nat.le_refl _) (by omega))).wp_append (by simp) (stable_slot (by omega) (by omega)) a w [] hi hp (by simpa using hlim) ?_
  intro a' w' hi' _
  have hsz:=hi'.size
  rw [List.nil_append] at hi'
  refine SC.wp_seq (SC.wp_reg (ops_mv (ops_asg (oNi ?_))))
  refine SC.wp_ret (hQ _ _ (getT a' 1) (by simp [dPu,hi'.defers]) ?_ hi'.own hi'.below)
  rw [gTp (by simp only [sPu];omega),gTp (by omega)]
end
def okTopL (P:Program) (I:Ids) (tU8 tStr S t N:Nat) (flex:Option Int) (tags:Option (Nat × Nat)) (fs:Fs):Bool :=
  decide (v0Of flex+nVsL fs≤t) && decide (t1Of t flex+aFTL (ctxOf flex) fs+tagsT tags+1≤N) && fieldB P S 0 0 && oneB P I.tI16 && okTags P I (ctxOf flex) S tags && okFsL P I (ctxOf flex) tU8 tStr S fs
theorem appendToL_calls {tStr:Nat} {P:Program} {I:Ids} {tU8:Nat} {G:List (Nat × Bytes)→Prop} {f S t:Nat} {fn:Func} {flex:Option Int} {tags:Option (Nat × Nat)} {fs:Fs} (hka:KA G P I tU8)
    (hf:P.funcs[f]?=some fn) (hb:fn.body.map strip=some (aTopL I tStr S t flex tags fs)) (hr:fn.results=#[.tmp 4]) (hok:okTopL P I tU8 tStr S t fn.ntmps flex tags fs=true)
    (w:World) (b o:Nat) (ver:Int) (ts:List Tree) (u:List (Nat × Bytes)) (hbB:b < w.heap.size) (hver:w.cell? ⟨b,o,none⟩=some (.int .i16 ver)) (hv0:0≤ver)
    (hH:HFs G w (· < w.heap.size) ver (flexAt flex ver) fs b o ts) (hnn:NnFs ver fs ts) (hT:TagsAt G w (· < w.heap.size) (flexAt flex ver) b o tags u)
    (hlim:(wFs ver (flexAt flex ver) fs ts ++ wTags (flexAt flex ver) u).length≤lim) :
    Calls P f #[.pointer (some ⟨b,o,none⟩),.slice none 0 0] w fun e w'=>∃ dv,e=.returned dv∧Own tU8 w' w.heap.size dv (wFs ver (flexAt flex ver) fs ts ++ wTags (flexAt flex ver) u)∧Below w.heap.size w w':=by
  unfold okTopL at hok
  simp only [Bool.and_eq_true,decide_eq_true_eq] at hok
  obtain ⟨⟨⟨⟨⟨h1,h2⟩,h3⟩,h4⟩,h5⟩,h6⟩:=hok
  obtain ⟨c,hc,hs⟩:∃ c,fn.body=some c∧strip c=aTopL I tStr S t flex tags fs:=by
    cases hc:fn.body with
    | none=>simp [hc] at hb
    | some c=>exact ⟨c,rfl,by simpa [hc] using hb⟩
  refine calls_of_wp hf hc ?_
  generalize hR:bodyPost P fn _=Q
  suffices h:(aTopL I tStr S t flex tags fs).wp P Q { tmps:=#[.pointer (some ⟨b,o,none⟩),.slice none 0 0] ++ Array.replicate (fn.ntmps - 2) undef,defers:=[] } w from h c hs
  have hQ:∀ a w' dv,a.defers=[]→getT a 4=dv→Own tU8 w' w.heap.size dv (wFs ver (flexAt flex ver) fs ts ++ wTags (flexAt flex ver) u)→Below w.heap.size w w'→Q .ret a w':=by
    intro a w' dv hd h4 ho hbl
    subst hR
    exact bodyPost_ret (results_tmp hr _ _ _) hd ⟨_,rfl,by rw [← h4] at ho;exact ho,hbl⟩
  clear hR hs hc hb hf hr
  have hown0:Own tU8 w w.heap.size (.slice none 0 0) []:=World.ownsRow_nil _ _ _ _
  have ht5:6≤t∧t+6≤fn.ntmps:=by cases flex <;> simp [v0Of,t1Of] at h1 h2 <;> omega
  generalize ha0:({ tmps:=#[.pointer (some ⟨b,o,none⟩),.slice none 0 0] ++ Array.replicate (fn.ntmps - 2) undef,defers:=[] }:Act)=a0
  have h00:getT a0 0=.pointer (some ⟨b,o,none⟩):=by rw [← ha0];simp [getT,Array.getD]
  have h01:getT a0 1=.slice none 0 0:=by
    rw [← ha0]
    simp only [getT,Array.getD_eq_getD_getElem?]
    rw [Array.getElem?_append_left (by simp)]
    rfl
  have hd0:a0.defers=[]:=by rw [← ha0]
  have hs0:a0.tmps.size=fn.ntmps:=by rw [← ha0];simp;omega
  clear ha0
  have fin:∀ a1:Act,a1.tmps.size=fn.ntmps→a1.defers=[]→getT a1 0=.pointer (some ⟨b,o,none⟩)→getT a1 1=.slice none 0 0→getT a1 5=.int .i16 ver →
      (seqs (flexPart I t flex ++ ((aFsL I (ctxOf flex) tStr S 0 (v0Of flex) (t1Of t flex) 0 fs ++ aTagsL I (ctxOf flex) S 0 tags (t1Of t flex+aFTL (ctxOf flex) fs)) ++
        [.reg [mv (t1Of t flex+aFTL (ctxOf flex) fs+tagsT tags) 1,asg 4 (t1Of t flex+aFTL (ctxOf flex) fs+tagsT tags)],.ret]))).wp P Q a1 w:=by
    intro a1 hs1 hd1 h10 h11 h15
    cases flex with
    | none =>
      simp only [v0Of,t1Of,ctxOf,flexAt,flexPart,List.nil_append] at *
      let X:Fix:=⟨P,I,tU8,G,⟨5,5,true⟩,w,w.heap.size,ver,false,t,fn.ntmps⟩
      have hX:X.ok:=⟨hka,(by omega:(5:Nat) ≠ 1),(by omega:(5:Nat) ≠ 1),(by omega:5 < t),(by omega:5 < t),(by omega:1 < t),fun _=>rfl,Nat.le_refl _,hv0⟩
      exact top_midL (tStr:=tStr) (X:=X) hX h1 (by show t≤t+5;omega) h2 (by show 5 < 6;omega) (by show 5 < 6;omega) (by omega) hbB h5 h6 hH hnn hT
        ⟨hs1,hd1,h15,(by intro h;cases h),(by rw [h11];exact hown0),Below.refl _ _,Nat.le_refl _⟩ h10 hlim hQ
    | some n =>
      simp only [v0Of,t1Of,ctxOf,flexAt,flexPart] at *
      rw [List.cons_append,seqs_cons (by simp)]
      refine SC.wp_seq (SC.wp_reg (ops_mv (oNo rfl (opw_cmp (op:=.geq) (k:=.i16) (m:=ver) (n:=n) (r:=decide (n≤ver)) ?_ rfl (by simp) (ops_asg (oNi ?_))))))
      · rw [eTm,gTp (by omega)]
        exact h15
      rw [List.cons_append,List.nil_append,seqs_cons (by simp)]
      refine SC.wp_seq (SC.wp_reg (ops_mv (oNi ?_)))
      let X:Fix:=⟨P,I,tU8,G,⟨5,6,false⟩,w,w.heap.size,ver,decide (n≤ver),t,fn.ntmps⟩
      have hX:X.ok:=⟨hka,(by omega:(5:Nat) ≠ 1),(by omega:(6:Nat) ≠ 1),(by omega:5 < t),(by omega:6 < t),(by omega:1 < t),(fun h=>by cases h),Nat.le_refl _,hv0⟩
      refine top_midL (tStr:=tStr) (X:=X) hX h1 (by show t≤t+8;omega) h2 (by show 5 < 7;omega) (by show 6 < 7;omega) (by omega) hbB h5 h6 hH hnn hT
        ⟨?_,?_,?_,?_,?_,Below.refl _ _,Nat.le_refl _⟩ ?_ hlim hQ
      · simp [sPu,hs1];rfl
      · simp [dPu,hd1]
      · show getT _ 5=_
        simp (disch:=omega) [gTn]
        exact h15
      · intro _
        show getT _ 6=_
        simp (disch:=(try simp only [sPu]);omega) [gTp,gTn]
        rfl
      · simp (disch:=omega) [gTn]
        rw [h11];exact hown0
      · simp (disch:=omega) [gTn]
        exact h10
  obtain ⟨rest,hrest⟩:∃ rest,rest=(flexPart I t flex ++ ((aFsL I (ctxOf flex) tStr S 0 (v0Of flex) (t1Of t flex) 0 fs ++ aTagsL I (ctxOf flex) S 0 tags (t1Of t flex+aFTL (ctxOf flex) fs)) ++
        [.reg [mv (t1Of t flex+aFTL (ctxOf flex) fs+tagsT tags) 1,asg 4 (t1Of t flex+aFTL (ctxOf flex) fs+tagsT tags)],.ret])):=⟨_,rfl⟩
  have htop:aTopL I tStr S t flex tags fs=seqs (.reg [⟨some 4,.assign (.const (.slice none 0 0)),none⟩] :: aLoad S 0 0 I.tI16 5 t :: .reg [mv (t+4) 5] :: rest):=by rw [hrest];rfl
  have hne:rest ≠ []:=by rw [hrest];simp
  rw [← hrest] at fin
  clear hrest
  rw [htop,seqs_cons (by simp)]
  refine SC.wp_seq (SC.wp_reg (oNo rfl (opw_assign (oNi ?_))))
  rw [eCo,seqs_cons (by simp)]
  refine SC.wp_seq (SC.wp_reg (ops_mv (ops_nilc (ad:=⟨b,o,none⟩) ?_ (ops_fa h3 (b:=b) (o:=o) (by rw [gTp (by simp only [sPu];omega)]) ?_))))
  · rw [gTp (by simp only [sPu];omega),gTn (by omega)]
    exact h00
  refine ops_ld h4 (ad:=⟨b,o+0,none⟩) (v:=.int .i16 ver) (by rw [gTp (by simp only [sPu];omega)]) (by rw [Nat.add_zero];exact hver) (ops_asg (oNi ?_))
  rw [seqs_cons hne]
  refine SC.wp_seq (SC.wp_reg (ops_mv (oNi ?_)))
  refine fin _ (by simp [sPu,hs0]) (by simp [dPu,hd0]) ?_ ?_ ?_
  · simp (disch:=omega) [gTn,h00]
  · simp (disch:=omega) [gTn,h01]
  · simp (disch:=(try simp only [sPu]);omega) [gTp,gTn]
end Go.Proofs.YtdfhomhginbfeaaDoor.K
namespace Go.Proofs.YtdfhomhginbfeaaDoor.K
open Go Go.RowKit Go.Proofs.YtdfhomhginbfeaaDoor.T
set_option linter.unusedVariables false
set_option linter.unusedSimpArgs false
set_option maxHeartbeats 4000000
theorem pTy_nn {ver:Int} {flex:Bool} {ty:Ty} {b r:Bytes} {x:Tree} (h:pTy ver flex ty false b=some (x,r)):x.null=false:=by
  cases ty with
  | prim k =>
    cases k <;> simp only [pTy,pPrim,Bool.false_and,Bool.false_eq_true,if_false,Bool.not_false,Bool.true_and] at h
    all_goals obtain ⟨y,r1,h1,h2⟩:=rThen_some h
    case str=>obtain ⟨z,r2,h3,h4⟩:=rThen_some h2;obtain ⟨rfl,rfl⟩:=rOk_some h4;rfl
    case bytes =>
      split at h2
      · obtain ⟨rfl,rfl⟩:=rOk_some h2;rfl
      · obtain ⟨z,r2,h3,h4⟩:=rThen_some h2;obtain ⟨rfl,rfl⟩:=rOk_some h4;rfl
    all_goals (obtain ⟨rfl,rfl⟩:=rOk_some h2;rfl)
  | list _ _ _ of =>
    simp only [pTy,Bool.false_and,Bool.false_eq_true,if_false] at h
    obtain ⟨y,r1,h1,h2⟩:=rThen_some h
    obtain ⟨z,r2,h3,h4⟩:=rThen_some h2
    obtain ⟨rfl,rfl⟩:=rOk_some h4
    rfl
  | struct _ _ _ _ fs =>
    simp only [pTy,Bool.false_and,Bool.false_eq_true,if_false] at h
    obtain ⟨y,r1,h1,h2⟩:=rThen_some h
    obtain ⟨z,r2,h3,h4⟩:=rThen_some h2
    obtain ⟨u,r3,h5,h6⟩:=rThen_some h4
    obtain ⟨rfl,rfl⟩:=rOk_some h6
    rfl
theorem nulAt_late {ver:Int} {h:Hd} {ty:Ty} (hl:lateB h ty=true) (hv:ver < h.null):nulAt ver h ty=false:=by
  cases ty with
  | struct _ _ _ _ _=>simp [lateB] at hl
  | prim k=>simp [nulAt];omega
  | list _ _ _ _=>simp [nulAt];omega
theorem pFs_nn {ver:Int} {flex:Bool}:∀ (fs:Fs) {b r:Bytes} {xs:List Tree},pFs ver flex fs b=some (xs,r)→NnFs ver fs xs
  | .nil,_,_,_,_=>trivial
  | .cons h ty rs,b,r,xs,hp=>by
    simp only [pFs] at hp
    obtain ⟨x,r1,h1,h2⟩:=rThen_some hp
    obtain ⟨ys,r2,h3,h4⟩:=rThen_some h2
    obtain ⟨rfl,rfl⟩:=rOk_some h4
    refine ⟨fun hl hh hv=>?_,pFs_nn rs h3⟩
    rw [if_pos hh,nulAt_late hl hv] at h1
    exact pTy_nn h1
def rGetTo (f v t T:Nat):SC:=.reg [cal t f [7],⟨none,.store T (.tmp v) (.tmp t),none⟩]
def rTwo (t:Nat) (g1 g2 g3 g4:Nat→SC):SC :=
  .seq (.reg [mv t 9]) (.cond (.tmp t) (.seq (.reg [mv (t+1) 2]) (.cond (.tmp (t+1)) (g1 (t+2)) (g2 (t+3)))) (.seq (.reg [mv (t+4) 2]) (.cond (.tmp (t+4)) (g3 (t+5)) (g4 (t+6)))))
def rVL (h:Hd) (ty:Ty):Nat:=match ty with | .prim .str=>if lateB h ty then 2 else rV h ty | _=>rV h ty
def rVsL:Fs→Nat
  | .nil=>0
  | .cons h ty r=>rVL h ty+rVsL r
def rVTL (c:Ctx) (h:Hd) (ty:Ty):Nat:=match ty with | .prim .str=>if lateB h ty then 20 else rVT c h ty | _=>rVT c h ty
def rFTL (c:Ctx):Fs→Nat
  | .nil=>0
  | .cons h ty r=>vTmps h+rVTL c h ty+rFTL c r
def rLate (I:RIds) (c:Ctx) (tStr S p:Nat) (h:Hd) (v t:Nat):SC :=
  .seq (cset v (.pointer none)) (.seq (.seq (.reg [mv t c.ver,bin .lss (t+1) I.tI16 t (.const (.int .i16 h.null))]) (.cond (.tmp (t+1))
      (.seq (.reg [⟨some (v+1),.alloc tStr,none⟩]) (.seq (rTwo (t+2) (fun t=>rGetTo I.rUCStr (v+1) t tStr) (fun t=>rGetTo I.rCStr (v+1) t tStr) (fun t=>rGetTo I.rUStr (v+1) t tStr) (fun t=>rGetTo I.rStr (v+1) t tStr)) (.reg [asg v (v+1)])))
      (rTwo (t+9) (rGet I.rUCNStr v) (rGet I.rCNStr v) (rGet I.rUNStr v) (rGet I.rNStr v))))
    (rStore p v (t+16) S h.idx h.typ))
def rValL (I:RIds) (c:Ctx) (tStr S p:Nat) (h:Hd) (v t b:Nat) (ty:Ty):SC:=match ty with | .prim .str=>if lateB h ty then rLate I c tStr S p h v t else rVal I c S p h v t b ty | _=>rVal I c S p h v t b ty
def rFsL (I:RIds) (c:Ctx) (tStr S p v t b:Nat):Fs→List SC
  | .nil=>[]
  | .cons h ty r=>rvCond I c h t (rValL I c tStr S p h v (t+vTmps h) b ty) :: rFsL I c tStr S p (v+rVL h ty) (t+vTmps h+rVTL c h ty) (b+rB ty) r
def okRValL (P:Program) (I:RIds) (c:Ctx) (tStr:Nat) (h:Hd) (ty:Ty):Bool:=match ty with
  | .prim .str=>if lateB h ty then !c.never && !h.enum && decide (0≤h.null) && oneB P h.typ && okRP I c true .str && okRP I c false .str && oneB P tStr && (match (P.info? tStr).bind (·.zero) with | some z=>z.cells.size == 1 | none=>false) else (decide (h.null < 0) || decide (h.null≤h.from_) || lateB h ty) && okRVal P I c h ty
  | _=>(decide (h.null < 0) || decide (h.null≤h.from_) || lateB h ty) && okRVal P I c h ty
def okRFsL (P:Program) (I:RIds) (c:Ctx) (tStr S:Nat):Fs→Bool
  | .nil=>true
  | .cons h ty r=>fieldB P S h.idx h.off && okRValL P I c tStr h ty && okRFsL P I c tStr S r
section
variable {X:RX} {a:Act} {w:World} {st:Option Bytes} {Q:Exit→Act→World→Prop}
theorem rTwo_ok {t:Nat} {g1 g2 g3 g4:Nat→SC} (hX:X.ok) (hn:X.c.never=false) (hi:RInv X a w st) (ht:X.T0≤t) (htN:t+7≤X.N)
    (h1:X.flex=true→∀ a',RInv X a' w st→(∀ s,s < t→getT a' s=getT a s)→(g2 (t+3)).wp X.P Q a' w) (h2:X.flex=false→∀ a',RInv X a' w st→(∀ s,s < t→getT a' s=getT a s)→(g4 (t+6)).wp X.P Q a' w) :
    (rTwo t g1 g2 g3 g4).wp X.P Q a w:=by
  have hten:=hX.ten
  refine mvCond_ok hi (by omega) (by omega) (hi.flex hn) fun a1 hi1 hs1=>?_
  cases hf:X.flex with
  | true =>
    simp only [if_true]
    refine mvCond_ok hi1 (by omega) (by omega) hi1.uns fun a2 hi2 hs2=>?_
    simp only [Bool.false_eq_true,if_false]
    exact h1 hf a2 hi2 fun s hs=>by rw [hs2 s (by omega),hs1 s (by omega)]
  | false =>
    simp only [Bool.false_eq_true,if_false]
    refine mvCond_ok hi1 (by omega) (by omega) hi1.uns fun a2 hi2 hs2=>?_
    simp only [Bool.false_eq_true,if_false]
    exact h2 hf a2 hi2 fun s hs=>by rw [hs2 s (by omega),hs1 s (by omega)]
theorem lssCond_ok {t:Nat} {n:Int} {y z:SC} (hX:X.ok) (hi:RInv X a w st) (ht:10≤t) (htN:t+2≤X.N)
    (hQ:∀ a',RInv X a' w st→(∀ s,s < t→getT a' s=getT a s)→(if decide (X.ver < n) then y else z).wp X.P Q a' w) :
    (SC.seq (.reg [mv t X.c.ver,bin .lss (t+1) X.I.tI16 t (.const (.int .i16 n))]) (.cond (.tmp (t+1)) y z)).wp X.P Q a w:=by
  have hsz:=hi.size
  have hcv:=hX.cver
  refine SC.wp_seq (SC.wp_reg (ops_mv (oNo rfl (opw_cmp (op:=.lss) (k:=.i16) (m:=X.ver) (n:=n) (r:=decide (X.ver < n)) ?_ rfl (by simp) (oNi ?_)))))
  · rw [eTm,gTp (by omega),hcv]
    exact hi.ver
  refine SC.wp_cond (t:=decide (X.ver < n)) (by rw [eTm,gTp (by simp only [sPu];omega)]) ?_
  refine hQ _ (hi.act (by simp [sPu]) (by simp [dPu]) fun s hs=>?_) fun s h1=>?_
  · rw [gTn (by omega),gTn (by omega)]
  · rw [gTn (by omega),gTn (by omega)]
theorem rGetTo_ok {f v t T vb:Nat} {z0:Value} {p:Rd Tree} {ty:Value→Prop} {ok:World→(Nat→Prop)→Tree→Value→Prop} (hX:X.ok) (hf:RC X.P X.TR X.gb f p ty ok) (hty:∀ v,ty v→v.oneCell'=true) (hT:oneB X.P T=true) (hi:RInv X a w st) (hv:getT a v=.pointer (some ⟨vb,0,none⟩)) (hvt:v < t) (ht:10≤t) (htN:t < X.N)
    (hrow:w.heap[vb]?=some (.cells #[z0] T (0,0))) (hn:vb ≠ X.rb) (hS:X.S ≠ some vb) (hB:X.B≤vb)
    (hQ:∀ a' w' w1 y,RInv X a' w' (after st p)→(∀ s,s < t→getT a' s=getT a s)→Only X.rb w w1→w'=w1.setRow vb #[y]→w1.heap[vb]?=some (.cells #[z0] T (0,0))→ty y→(∀ b x r,st=some b→p b=some (x,r)→ok w1 (NewF X.S w w1) x y)→Q .normal a' w') :
    (rGetTo f v t T).wp X.P Q a w:=by
  have hsz:=hi.size
  have hlt:vb < w.heap.size:=(Array.getElem?_eq_some_iff.1 hrow).1
  refine SC.wp_reg (ops_cal hf.1 (R:=fun e w'=>∃ y,e=.returned y∧RdAt X.TR w' X.S X.rb (after st p)∧Only X.rb w w'∧ty y∧∀ b x r,st=some b→p b=some (x,r)→ok w' (NewF X.S w w') x y) ?_ ?_)
  · have:=hf.2 w X.S X.rb st (Nat.lt_of_lt_of_le hX.hgb hi.heap) hi.at_ hi.src
    rw [show (([7].map (getT a)).toArray:Array Value)=#[.pointer (some ⟨X.rb,0,none⟩)] by simp [hi.rd]]
    exact this
  · rintro e w1 ⟨y,rfl,h1,h2,h3,h4⟩
    have hrow1:w1.heap[vb]?=some (.cells #[z0] T (0,0)):=by rw [h2.block vb hlt hn];exact hrow
    refine ⟨y,rfl,oNo rfl (opw_store_one (ad:=⟨vb,0,none⟩) (v:=y) (v0:=z0) hT ?_ ?_ (hty y h3) ?_ ?_ (oNi ?_))⟩
    · rw [eTm,gTn (by omega)];exact hv
    · rw [eTm,gTp (by omega)]
    · rw [cell_of_row _ _ _ _ _ _ hrow1];rfl
    · simp [World.frozen?,hrow1]
    · rw [pNo,setCell_eq_setRow _ _ _ _ _ _ _ hrow1]
      have e1:(#[z0]:Array Value).setIfInBounds 0 y=#[y]:=rfl
      rw [e1]
      refine hQ _ _ w1 y (((hi.only hX h2 h1).setRow hn hS hB _).act (by simp [sPu]) (by simp [dPu]) fun s hs=>?_) (fun s hs=>?_) h2 rfl hrow1 h3 h4
      · rw [gTn (by omega)]
      · rw [gTn (by omega)]
theorem rLate_ok {tStr S p v t b o:Nat} {h:Hd} {O:Nat→Prop} (hX:X.ok) (hn:X.c.never=false) (hl:lateB h (.prim .str)=true) (hn0:0≤h.null) (hone:oneB X.P h.typ=true) (ok1:okRP X.I X.c true .str=true) (ok2:okRP X.I X.c false .str=true) (hT:oneB X.P tStr=true) (hz:(match (X.P.info? tStr).bind (·.zero) with | some z=>z.cells.size == 1 | none=>false)=true)
    (hS:fieldB X.P S h.idx h.off=true) (hi:RInv X a w st) (hp:getT a p=.pointer (some ⟨b,o,none⟩)) (ho:Opn X O b w) (hrow:RowAt w b (o+h.off) 1) (hpv:p < v) (hv:10≤v) (hvT:v+2≤X.T0) (ht:X.T0≤t) (htN:t+20≤X.N)
    (hQ:∀ a' w',RInv X a' w' (after st (pTy X.ver X.flex (.prim .str) (nulAt X.ver h (.prim .str))))→RSame X a a' v t→Foot X.rb b (o+h.off) (o+h.off+1) w w' →
      (∀ r x r',st=some r→pTy X.ver X.flex (.prim .str) (nulAt X.ver h (.prim .str)) r=some (x,r')→FitTy X.ver (.prim .str) x→HTy X.G w' (FO O w') X.ver X.flex (.prim .str) true b (o+h.off) x)→Q .normal a' w') :
    (rLate X.I X.c tStr S p h v t).wp X.P Q a w:=by
  have hten:=hX.ten
  have hbS:X.S ≠ some b:=fun e=>ho.src b e ho.ob
  have hnever:∀ {c d:Bool},(X.c.never || c)=true→c=true:=fun h=>by simpa [hn] using h
  obtain ⟨cs,E,hcs,hlen⟩:=hrow
  unfold rLate
  refine SC.wp_seq (cset_ok hi (by omega) (by omega) fun a1 hi1 hv1 hs1=>?_)
  simp only [Exit.then]
  refine SC.wp_seq (lssCond_ok hX hi1 (by omega) (by omega) fun a2 hi2 hs2=>?_)
  have hp2:getT a2 p=.pointer (some ⟨b,o,none⟩):=by rw [hs2 p (by omega),hs1 p (by omega)];exact hp
  have fin:∀ (a':Act) (w':World) (y:Value) (cs':Array Value),RInv X a' w' (after st (pTy X.ver X.flex (.prim .str) (nulAt X.ver h (.prim .str))))→getT a' v=y→y.oneCell'=true→(∀ s,s ≠ v→s ≠ v+1→s < t→getT a' s=getT a s) →
      w'.heap[b]?=some (.cells cs E (0,0))→w.heap.size≤w'.heap.size→(∀ k,k < w.heap.size→k ≠ X.rb→k ≠ b→w'.heap[k]?=w.heap[k]?) →
      (∀ r x r',st=some r→pTy X.ver X.flex (.prim .str) (nulAt X.ver h (.prim .str)) r=some (x,r')→FitTy X.ver (.prim .str) x→PVal (w'.setRow b (cs.setIfInBounds (o+h.off) y)) (FO O (w'.setRow b (cs.setIfInBounds (o+h.off) y))) true x .str y) →
      (rStore p v (t+16) S h.idx h.typ).wp X.P Q a' w':=by
    intro a' w' y cs' q1 q2 q3 q4 q5 q6 q7 q8
    refine rStore_ok hX q1 (by rw [q4 p (by omega) (by omega) (by omega)];exact hp) q2 q3 (by omega) (by omega) (by omega) (by omega) hS hone q5 (by omega) ho.ne hbS ho.hB fun a5 hi5 hs5=>?_
    refine hQ a5 _ hi5 (fun s hs=>?_) ⟨by simpa using q6,fun k hk h1 h2=>?_,fun cs2 T2 h2=>?_⟩ ?_
    · rw [hs5 s (by omega),q4 s (by omega) (by omega) (by omega)]
    · rw [setRow_other _ _ _ _ h2];exact q7 k hk h1 h2
    · rw [hcs] at h2
      simp only [Option.some.injEq,Obj.cells.injEq,and_true] at h2
      obtain ⟨rfl,rfl⟩:=h2
      exact ⟨_,setRow_heap _ _ _ _ _ _ q5,by simp,fun j hj=>Array.getElem?_setIfInBounds_ne (by omega)⟩
    · intro r x r' e1 e2 e3
      simp only [HTy,HPrim]
      rw [if_neg (by decide)]
      refine ⟨y,?_,q8 r x r' e1 e2 e3⟩
      rw [cell_setRow_same _ _ _ _ _ _ _ q5]
      simp [Array.getElem?_setIfInBounds,show o+h.off < cs.size by omega]
  by_cases hlt:X.ver < h.null
  · rw [if_pos (decide_eq_true hlt)]
    have hna:nulAt X.ver h (.prim .str)=false:=nulAt_late hl hlt
    rw [hna] at fin hQ
    unfold okRP at ok2
    simp only [Bool.false_eq_true,if_false,Bool.and_eq_true,bne_iff_ne,ne_eq] at ok2
    obtain ⟨o1,o2⟩:=ok2
    obtain ⟨zi,zz,hzi,hzz,hz1⟩:∃ i z,X.P.info? tStr=some i∧i.zero=some z∧z.cells.size=1:=by
      split at hz
      · rename_i z hb
        obtain ⟨i,hi,hz'⟩:=Option.bind_eq_some_iff.1 hb
        exact ⟨i,z,hi,hz',by simpa using hz⟩
      · cases hz
    obtain ⟨z0,hz0⟩:∃ z0,zz.cells=#[z0]:=⟨zz.cells[0],Array.ext (by simp [hz1]) fun i h1 h2=>by
      have:i=0:=by simp at h2;exact h2
      subst this;rfl⟩
    refine SC.wp_seq (SC.wp_reg (oNo rfl (opw_alloc hzi hzz (oNi ?_))))
    simp only [Exit.then]
    have hrbl:X.rb < w.heap.size:=hi.at_.lt
    have hnew:=heap_alloc_new w (.cells zz.cells tStr)
    rw [hz0] at hnew ⊢
    have hold:∀ k,k < w.heap.size→(w.alloc (.cells #[z0] tStr)).heap[k]?=w.heap[k]?:=fun k hk=>Below.heap_alloc _ _ _ hk
    have hsz1:(w.alloc (.cells #[z0] tStr)).heap.size=w.heap.size+1:=by simp
    have hsz2:=hi2.size
    have hi3:RInv X (a2.put (some (v+1)) (.pointer (some ⟨w.heap.size,0,none⟩))) (w.alloc (.cells #[z0] tStr)) st:=(hi2.alloc _).act (by simp [sPu]) (by simp [dPu]) fun s hs=>by rw [gTn (by omega)]
    have hv3:getT (a2.put (some (v+1)) (.pointer (some ⟨w.heap.size,0,none⟩))) (v+1)=.pointer (some ⟨w.heap.size,0,none⟩):=gTp (by omega)
    have hs3:∀ s,s ≠ v+1→getT (a2.put (some (v+1)) (.pointer (some ⟨w.heap.size,0,none⟩))) s=getT a2 s:=fun s hs=>gTn hs
    generalize a2.put (some (v+1)) (.pointer (some ⟨w.heap.size,0,none⟩))=a3 at hi3 hv3 hs3 ⊢
    generalize w.alloc (.cells #[z0] tStr)=w1 at hnew hold hsz1 hi3 ⊢
    have hbl:b < w.heap.size:=(Array.getElem?_eq_some_iff.1 hcs).1
    have get:∀ {f:Nat} (a4:Act) (t':Nat),RC X.P X.TR X.gb f (pPrim X.flex false .str) (tyP false .str) (okP false .str)→RInv X a4 w1 st→(∀ s,s < t+2→getT a4 s=getT a3 s)→t+2≤t'→t' < X.N →
        (rGetTo f (v+1) t' tStr).wp X.P (Exit.then ((SC.reg [asg v (v+1)]).wp X.P (Exit.then ((rStore p v (t+16) S h.idx h.typ).wp X.P Q) Q)) (Exit.then ((rStore p v (t+16) S h.idx h.typ).wp X.P Q) Q)) a4 w1:=by
      intro f a4 t' hf hi4 hs4 ht1 ht2
      refine rGetTo_ok (z0:=z0) (vb:=w.heap.size) hX hf (fun y hy=>by
        simp only [tyP,Bool.false_eq_true,if_false] at hy
        obtain ⟨q,rfl⟩:=hy
        rfl) hT hi4 (by rw [hs4 (v+1) (by omega)];exact hv3) (by omega) (by omega) ht2 hnew (by omega) (fun e=>by have:=(hi.src _ e).2;omega) hi.heap fun a5 w5 w4 y q1 q2 q3 q4 q5 q6 q7=>?_
      simp only [Exit.then]
      have hsz5:=q1.size
      refine SC.wp_reg (ops_asg (oNi ?_))
      simp only [Exit.then]
      have hw5:∀ k,k ≠ w.heap.size→w5.heap[k]?=w4.heap[k]?:=fun k hk=>by rw [q4];exact setRow_other _ _ _ _ hk
      have hw5v:w5.heap[w.heap.size]?=some (.cells #[y] tStr (0,0)):=by rw [q4];exact setRow_heap _ _ _ _ _ _ q5
      have hsz45:w5.heap.size=w4.heap.size:=by rw [q4];simp
      have hsz34:=q3.size
      refine fin _ w5 (.pointer (some ⟨w.heap.size,0,none⟩)) cs (q1.act (by simp [sPu]) (by simp [dPu]) fun s hs=>by rw [gTn (by omega)]) ?_ rfl (fun s e1 e2 e3=>?_) ?_ (by omega) (fun k e1 e2 e3=>?_) ?_
      · rw [gTp (by omega),q2 (v+1) (by omega),hs4 (v+1) (by omega)]
        exact hv3
      · rw [gTn e1,q2 s (by omega),hs4 s (by omega),hs3 s e2,hs2 s (by omega),hs1 s e1]
      · rw [hw5 b (by omega),q3.block b (by omega) ho.ne,hold b hbl];exact hcs
      · rw [hw5 k (by omega),q3.block k (by omega) e2,hold k e1]
      · intro r x r' e1 e2 e3
        have hq:=q7 r x r' e1 e2 e3
        rw [if_neg (by decide)] at hq
        simp only [PVal,Bool.false_eq_true,if_false] at hq
        obtain ⟨s,rfl,hs1',hs2'⟩:=hq
        have hxn:x.null=false:=pTy_nn e2
        simp only [PVal,if_true,hxn,Bool.false_eq_true,if_false]
        refine ⟨w.heap.size,0,s,rfl,⟨by simp;omega,fun hO=>by have:=ho.lt _ hO;omega⟩,?_,hs1',hs2'⟩
        have hrow6:(w5.setRow b (cs.setIfInBounds (o+h.off) (.pointer (some ⟨w.heap.size,0,none⟩)))).heap[w.heap.size]?=some (.cells #[.string s] tStr (0,0)):=by
          rw [setRow_other _ _ _ _ (by omega)];exact hw5v
        rw [cell_of_row _ _ _ _ _ _ hrow6]
        rfl
    refine SC.wp_seq (rTwo_ok hX hn hi3 (by omega) (by omega) (fun hf a4 hi4 hs4=>?_) (fun hf a4 hi4 hs4=>?_))
    · have hrc:=hX.kr.cstr (by simpa [hn] using o1)
      exact get a4 (t+2+3) (by rw [hf];exact hrc) hi4 hs4 (by omega) (by omega)
    · have hrc:=hX.kr.str o2
      exact get a4 (t+2+6) (by rw [hf];exact hrc) hi4 hs4 (by omega) (by omega)
  · rw [if_neg (by simpa using hlt)]
    have hna:nulAt X.ver h (.prim .str)=true:=by simp [nulAt,hn0,show h.null≤X.ver by omega]
    rw [hna] at fin hQ
    unfold okRP at ok1
    simp only [if_true,Bool.and_eq_true,bne_iff_ne,ne_eq] at ok1
    obtain ⟨o1,o2⟩:=ok1
    have get:∀ {f:Nat} (a3:Act) (t':Nat),RC X.P X.TR X.gb f (pPrim X.flex true .str) (tyP true .str) (okP true .str)→RInv X a3 w st→(∀ s,s < t+9→getT a3 s=getT a2 s)→t+9≤t'→t' < X.N →
        (rGet f v t').wp X.P (Exit.then ((rStore p v (t+16) S h.idx h.typ).wp X.P Q) Q) a3 w:=by
      intro f a3 t' hf hi3 hs3 ht1 ht2
      refine rGet_ok hX hf hi3 (by omega) (by omega) (by omega) ht2 fun a4 w4 y q1 q2 q3 q4 q5 q6=>?_
      simp only [Exit.then]
      refine fin a4 w4 y cs q1 q2 ?_ (fun s e1 e2 e3=>?_) ?_ q4.size (fun k e1 e2 e3=>q4.block k e1 e2) ?_
      · simp only [tyP,if_true] at q5
        obtain ⟨q,rfl⟩:=q5
        rfl
      · rw [q3 s e1 (by omega),hs3 s (by omega),hs2 s (by omega),hs1 s e1]
      · rw [q4.block b (Array.getElem?_eq_some_iff.1 hcs).1 ho.ne];exact hcs
      · intro r x r' e1 e2 e3
        have:=q6 r x r' e1 e2 e3
        rw [if_neg (by decide)] at this
        have hb4:b < w4.heap.size:=Nat.lt_of_lt_of_le (Array.getElem?_eq_some_iff.1 hcs).1 q4.size
        refine pVal_frame (fun k hk=>?_) this
        have hfo:=newF_fo (X:=X) (b:=b) ho q4.size (fun sb hsb=>(hi.src sb hsb).2) k hk
        exact ⟨⟨by simpa using hfo.1,hfo.2⟩,setRow_other _ _ _ _ fun e=>hfo.2 (e ▸ ho.ob)⟩
    refine rTwo_ok hX hn hi2 (by omega) (by omega) (fun hf a3 hi3 hs3=>?_) (fun hf a3 hi3 hs3=>?_)
    · have hrc:=hX.kr.cnstr (by simpa [hn] using o1)
      exact get a3 (t+9+3) (by rw [hf];exact hrc) hi3 hs3 (by omega) (by omega)
    · have hrc:=hX.kr.nstr o2
      exact get a3 (t+9+6) (by rw [hf];exact hrc) hi3 hs3 (by omega) (by omega)
end
end Go.Proofs.YtdfhomhginbfeaaDoor.K
namespace Go.Proofs.YtdfhomhginbfeaaDoor.K
open Go Go.RowKit Go.Proofs.YtdfhomhginbfeaaDoor.T
set_option linter.unusedVariables false
set_option linter.unusedSimpArgs false
set_option maxHeartbeats 4000000
theorem run_append_zeros0 {P:Program} (w:World) (base:Option Addr) (t tn ty e:TypeId) (i:TypeInfo) (z:Value) (k kn:IntKind) (ht:P.underlying t=some (.slice e)) (htn:P.underlying tn=some (.int kn)) (hi:P.info? e=some i) (hz:i.zero=some z)
    (n:Nat) (h0:0 < n) (hs:0 < i.size) (h63:(n:Int)≤9223372036854775807) (h48:n * i.bytes≤281474976710656) :
    (Builtin.append_ #[t,tn] ty #[.slice base 0 0,.int k n]).run P w =
      .ok (.slice (some ⟨w.heap.size,0,none⟩) n (grownCap w n 0 e)) (w.drew.alloc (.cells (Builtin.zeroCells z.cells n ++ Builtin.zeroCells z.cells (grownCap w n 0 e - n)) e)):=by
  have hn:n ≠ 0:=by omega
  have hw:IntKind.i64.wrap (n:Int)=n:=by rw [IntKind.wrap_i64];omega
  have h63':¬ (9223372036854775807 < (n:Int)):=by omega
  have h48':¬ (281474976710656 < Builtin.nextslicecap n 0 * i.bytes):=by rw [nextslicecap_zero h0];omega
  have h48i:¬ (281474976710656 < (n:Int) * (i.bytes:Int)):=by
    rw [← Int.natCast_mul]
    omega
  have hneg:¬ ((n:Int) < 0):=by omega
  have hns:¬ (n * i.size=0):=Nat.mul_ne_zero hn (by omega)
  have hfc:∀ w':World,(Builtin.firstCells i.size 0 (.slice base 0 0)).run P w'=.ok #[] w':=fun w'=>by
    cases base with
    | none=>simp [Builtin.firstCells]
    | some b=>exact run_firstCells_some (w:=w') i.size 0 b 0 0 [] (by simp) (fun j v h=>by simp at h)
  simp [Builtin.append_,run_underlying ht,run_underlying htn,sizeOf,typeInfo,zeroValue,hi,hz,asInt,asIntOf,hw,hn,hneg,hns,h63',h48',h48i,Question.forced,hfc,newRow,grownCap]
section
variable {X:RX}
theorem opw_makeN0 {base:Option Addr} {a:Act} {w:World} {T E n TN:Nat} {x y:Operand} {d:Option Tmp} {g:Option (Nat × Bool)} {K:Act→World→Prop} {i:TypeInfo} {z:Value} {m:Nat} (hT:sliceB X.P T E n=true) (hN:intK X.P TN=some .i32) (hi:X.P.info? E=some i) (hz:i.zero=some z) (h0:0 < i.size) (hb:i.bytes≤131072)
    (hx:a.eval x=.slice base 0 0) (hy:a.eval y=.int .i32 (m:Int)) (hm:0 < m) (hm2:m < 2147483648)
    (h:∀ cap,m≤cap→K (a.put d (.slice (some ⟨w.heap.size,0,none⟩) m cap)) (w.drew.alloc (.cells (Builtin.zeroCells z.cells m ++ Builtin.zeroCells z.cells (cap - m)) E))) :
    opw X.P ⟨d,.call ⟨.builtin .append,#[x,y],#[T,TN]⟩,g⟩ a w K:=by
  obtain ⟨hu,_⟩:=slice_of hT
  have hu2:=intB_of hN
  unfold intB at hu2
  split at hu2 <;> try (simp at hu2;done)
  rename_i k hk
  have h48:m * i.bytes≤281474976710656:=by
    have:m * i.bytes≤2147483648 * 131072:=Nat.mul_le_mul (by omega) hb
    omega
  refine oVa (v:=.slice (some ⟨w.heap.size,0,none⟩) m (grownCap w m 0 E)) (w':=w.drew.alloc (.cells (Builtin.zeroCells z.cells m ++ Builtin.zeroCells z.cells (grownCap w m 0 E - m)) E)) (by simp) (fun p hp=>?_) (h _ (grownCap_ge w m 0 E))
  have hr:=run_append_zeros0 (P:=X.P) w base T TN p.type E i z .i32 k hu hk hi hz m hm h0 (by omega) h48
  simp [execOp,hp,hx,hy,resolve,invoke,builtin,hr]
theorem rNilLate_ok {h:Hd} {T E size sa l t:Nat} {n:Int} {a:Act} {w:World} {st:Option Bytes} {Q:Exit→Act→World→Prop} {rest:List SC} (hX:X.ok) (hsl:sliceB X.P T E size=true) (hz:∃ i z,X.P.info? E=some i∧i.zero=some z) (hn:0≤h.null) (hlate:X.ver < h.null)
    (hi:RInv X a w st) (hsa:10≤sa) (hsaT:sa < X.T0) (hlT:l < X.T0) (hne:sa ≠ l) (ht:X.T0≤t) (htN:t+rNilT h≤X.N) (ha_:getT a sa=.slice none 0 0) (hl:getT a l=.int .i32 n)
    (hQ:∀ a' w' base,RInv X a' w' st→getT a' sa=.slice base 0 0→(∀ s,s ≠ sa→s < t→getT a' s=getT a s)→(w'=w∨w'=w.alloc (.cells #[] E))→(w.heap.size < w'.heap.size∧base=some ⟨w.heap.size,0,none⟩)→wpL X.P Q rest a' w') :
    wpL X.P Q (rNilL X.I X.c h T sa l t ++ rest) a w:=by
  have hten:=hX.ten
  have hcv:=hX.cver
  have hsz:=hi.size
  unfold rNilL
  unfold rNilT at htN
  rw [if_pos hn] at htN ⊢
  have hnb:nuOf h=true:=by simp [nuOf,hn]
  simp only [List.cons_append,List.nil_append,wpL]
  refine SC.wp_seq (SC.wp_reg (ops_mv (oNo rfl (opw_cmp (op:=.lss) (k:=.i16) (m:=X.ver) (n:=h.null) (r:=decide (X.ver < h.null)) ?_ rfl (by simp) (ops_mv ?_)))))
  · rw [eTm,gTp (by omega),hcv]
    exact hi.ver
  have hd:decide (X.ver < h.null)=true:=by simp;omega
  rw [hd]
  generalize ha1:(((a.put (some t) (getT a X.c.ver)).put (some (t+1)) (.bool true)).put (some (t+2)) (getT ((a.put (some t) (getT a X.c.ver)).put (some (t+1)) (.bool true)) (t+1)))=a1
  have s1:a1.tmps.size=X.N:=by rw [← ha1];simp only [sPu];exact hsz
  have d1:a1.defers=a.defers:=by rw [← ha1];simp [dPu]
  have g1:∀ s,s < t→getT a1 s=getT a s:=fun s hs=>by rw [← ha1,gTn (by omega),gTn (by omega),gTn (by omega)]
  have v1:getT a1 (t+2)=.bool true:=by rw [← ha1,gTp (by simp only [sPu];omega),gTp (by rw [sPu];omega)]
  refine ops_n rfl (by omega) (.inl v1) (ops_n rfl (by rw [sPu];omega) (.inl (by rw [gTn (by omega)];exact v1)) ?_)
  refine oNo rfl (opw_pick (b:=true) (by rw [eTm,gTn (by omega),gTn (by omega)];exact v1) (oNi ?_))
  rw [if_pos rfl,eCo]
  generalize ha2:((a1.put (some (t+3)) undef).put (some (t+4)) undef).put (some (t+5)) (.bool true)=a2
  have g2:∀ s,s < t→getT a2 s=getT a s:=fun s hs=>by rw [← ha2,gTn (by omega),gTn (by omega),gTn (by omega)];exact g1 s hs
  have v2:getT a2 (t+5)=.bool true:=by rw [← ha2];exact gTp (by simp only [sPu];omega)
  have s2:a2.tmps.size=X.N:=by rw [← ha2];simp only [sPu];exact s1
  have d2:a2.defers=a.defers:=by rw [← ha2];simp only [dPu];exact d1
  have hi2:RInv X a2 w st:=hi.act (by rw [s2,hsz]) d2 fun s hs=>g2 s (by omega)
  refine SC.wp_cond (t:=true) (by rw [eTm,v2]) ?_
  rw [if_pos rfl]
  refine SC.wp_reg (oNo rfl (opw_slice00 hsl hz (ops_asg (oNi ?_))))
  simp only [Exit.then]
  refine hQ _ _ (some ⟨w.heap.size,0,none⟩) ((hi2.alloc _).act (by simp [sPu]) (by simp [dPu]) fun s hs=>?_) ?_ (fun s h1 h2=>?_) (.inr rfl) ⟨by simp,rfl⟩
  · rw [gTn (by omega),gTn (by omega)]
  · rw [gTp (by rw [sPu];omega),gTp (by omega)]
  · rw [gTn h1,gTn (by omega)]
    exact g2 s h2
theorem valLateList_ok (hX:X.ok) {T E size:Nat} {of:Ty} (hE:ElemOK X of) (S p:Nat) (h:Hd) (v t bk b o:Nat) (O:Nat→Prop) (a:Act) (w:World) (st:Option Bytes) (Q:Exit→Act→World→Prop)
    (hok:okRVal X.P X.I X.c h (.list T E size of)=true) (hlay:layTy (nuOf h) (.list T E size of)=true) (hdef:DefTy X.P (.list T E size of)) (hS:fieldB X.P S h.idx h.off=true) (hn0':0≤h.null) (hlate:X.ver < h.null)
    (hi:RInv X a w st) (hp:getT a p=.pointer (some ⟨b,o,none⟩)) (ho:Opn X O b w) (hrow:RowAt w b (o+h.off) (szTy (nuOf h) (.list T E size of))) (hfr:FrTy w b (nuOf h) (.list T E size of) (o+h.off))
    (hpv:p < v) (hv:10≤v) (hvT:v+rV h (.list T E size of)≤X.T0) (ht:X.T0≤t) (htN:t+rVT X.c h (.list T E size of)≤X.N)
    (hQ:∀ a' w',RInv X a' w' (after st (pTy X.ver X.flex (.list T E size of) false))→RSame X a a' v t→Foot X.rb b (o+h.off) (o+h.off+szTy (nuOf h) (.list T E size of)) w w' →
      (∀ r x r',st=some r→pTy X.ver X.flex (.list T E size of) false r=some (x,r')→FitTy X.ver (.list T E size of) x→HTy X.G w' (FO O w') X.ver X.flex (.list T E size of) (nuOf h) b (o+h.off) x)→Q .normal a' w')
    (hR:RetOK X Q (after st (pTy X.ver X.flex (.list T E size of) false)=none)):(rVal X.I X.c S p h v t bk (.list T E size of)).wp X.P Q a w:=by
  have hten:=hX.ten
  have hsz:=hi.size
  simp only [okRVal,Bool.and_eq_true,Bool.or_eq_true,Bool.not_eq_true',bne_iff_ne,ne_eq,beq_iff_eq] at hok
  obtain ⟨⟨⟨⟨⟨⟨⟨hen,hT⟩,hsl⟩,hca⟩,har⟩,hro⟩,hi32⟩,hel⟩:=hok
  obtain ⟨iz,z,hii,hiz,hzc,hzs,h0,hby,hszl,hfresh⟩:=elem_fresh hel
  simp only [layTy,Bool.and_eq_true,decide_eq_true_eq] at hlay
  simp only [rV] at hvT
  simp only [rVT] at htN
  simp only [szTy] at hrow hQ
  simp only [FrTy] at hfr
  simp only [DefTy] at hdef
  have hbw:b < w.heap.size:=ho.lt b ho.ob
  have hbS:X.S ≠ some b:=fun e=>ho.src b e ho.ob
  have hnat:∀ r,pTy X.ver X.flex (.list T E size of) false r=rThen (pLen X.flex) (fun n=>if (false && decide (n < 0))=true then rOk tNull else rThen (pMany (pTy X.ver X.flex of false) n.toNat) fun xs=>rOk (tL xs)) r:=by
    intro r
    simp only [pTy]
  have hpt:pTy X.ver X.flex (.list T E size of) false=rThen (pLen X.flex) (fun n=>if (false && decide (n < 0))=true then rOk tNull else rThen (pMany (pTy X.ver X.flex of false) n.toNat) fun xs=>rOk (tL xs)):=funext hnat
  obtain ⟨cs,E',hcs,hlen⟩:=hrow
  unfold rVal
  refine wpL_seqs _ _ _ ?_
  simp only [List.cons_append,List.nil_append,List.append_assoc,wpL]
  rw [show t+21+rLenT X.c+rNilT h+rET X.c of=t+20+rLenT X.c+rNilT h+rET X.c of+1 by omega,show t+20+rLenT X.c+rNilT h=t+15+rLenT X.c+rNilT h+5 by omega]
  refine SC.wp_reg (ops_mv (ops_nilc (ad:=⟨b,o,none⟩) ?_ (ops_fa hS (b:=b) (o:=o) ?_ (ops_ld hT (ad:=⟨b,o+h.off,none⟩) ?_ hfr (ops_asg (oNi ?_))))))
  · rw [gTp (by omega)]
    exact hp
  · rw [gTp (by rw [sPu];omega)]
  · rw [gTp (by simp only [sPu];omega)]
  generalize ha1:(((((a.put (some t) (getT a p)).put (some (t+1)) (.pointer (some ⟨b,o,none⟩))).put (some (t+2)) (.pointer (some ⟨b,o+h.off,none⟩))).put (some (t+3)) (.slice none 0 0)).put (some v) (getT ((((a.put (some t) (getT a p)).put (some (t+1)) (.pointer (some ⟨b,o,none⟩))).put (some (t+2)) (.pointer (some ⟨b,o+h.off,none⟩))).put (some (t+3)) (.slice none 0 0)) (t+3)))=a1
  have s1:a1.tmps.size=X.N:=by rw [← ha1];simp only [sPu];exact hsz
  have g1:∀ s,s ≠ v→s < t→getT a1 s=getT a s:=fun s h1 h2=>by rw [← ha1,gTn h1,gTn (by omega),gTn (by omega),gTn (by omega),gTn (by omega)]
  have v1:getT a1 v=.slice none 0 0:=by rw [← ha1,gTp (by simp only [sPu];omega),gTp (by simp only [sPu];omega)]
  have hi1:RInv X a1 w st:=hi.act (by rw [s1,hsz]) (by rw [← ha1];simp [dPu]) fun s hs=>g1 s (by omega) (by omega)
  simp only [Exit.then]
  refine SC.wp_reg (ops_mv (ops_asg (oNi ?_)))
  generalize ha2:((a1.put (some (t+4)) (getT a1 v)).put (some (v+1)) (getT (a1.put (some (t+4)) (getT a1 v)) (t+4)))=a2
  have s2:a2.tmps.size=X.N:=by rw [← ha2];simp only [sPu];exact s1
  have g2:∀ s,s ≠ v→s ≠ v+1→s < t→getT a2 s=getT a s:=fun s h1 h2 h3=>by rw [← ha2,gTn h2,gTn (by omega)];exact g1 s h1 h3
  have v2:getT a2 (v+1)=.slice none 0 0:=by rw [← ha2,gTp (by simp only [sPu];omega),gTp (by omega)];exact v1
  have hi2:RInv X a2 w st:=hi.act (by rw [s2,hsz]) (by rw [← ha2,← ha1];simp [dPu]) fun s hs=>g2 s (by omega) (by omega) (by omega)
  simp only [Exit.then]
  refine cset_ok hi2 (by omega) (by omega) fun a3 hi3 v3 g3'=>?_
  have g3:∀ s,s ≠ v→s ≠ v+1→s ≠ v+2→s < t→getT a3 s=getT a s:=fun s h1 h2 h3 h4=>(g3' s h3).trans (g2 s h1 h2 h4)
  simp only [Exit.then]
  refine rLen_ok hX ⟨hca,har⟩ hi3 (by omega) (by omega) (by omega) (by omega) fun a4 w4 n hi4 v4 g4' honly hnv=>?_
  have g4:∀ s,s ≠ v→s ≠ v+1→s ≠ v+2→s < t→getT a4 s=getT a s:=fun s h1 h2 h3 h4=>(g4' s h3 (by omega)).trans (g3 s h1 h2 h3 h4)
  have w4s:getT a4 (v+1)=.slice none 0 0:=by rw [g4' (v+1) (by omega) (by omega),g3' (v+1) (by omega)];exact v2
  simp only [Exit.then]
  refine rNilLate_ok (sa:=v+1) (l:=v+2) hX hsl ⟨iz,z,hii,hiz⟩ hn0' hlate hi4 (by omega) (by omega) (by omega) (by omega) (by omega) (by omega) w4s v4 fun a5 w5 base hi5 v5 g5' hw5 hbase=>?_
  have g5:∀ s,s ≠ v→s ≠ v+1→s ≠ v+2→s < t→getT a5 s=getT a s:=fun s h1 h2 h3 h4=>(g5' s h2 (by omega)).trans (g4 s h1 h2 h3 h4)
  have l5:getT a5 (v+2)=.int .i32 n:=(g5' (v+2) (by omega) (by omega)).trans v4
  have hs45:w4.heap.size≤w5.heap.size:=by rcases hw5 with rfl | rfl <;> simp
  have hf5:∀ {lo hi:Nat},Foot X.rb b lo hi w w5:=by
    intro lo hi
    rcases hw5 with rfl | rfl
    · exact Foot.of_only honly ho.ne
    · exact (Foot.of_only honly ho.ne).trans (foot_alloc _)
  have hrow5:w5.heap[b]?=some (.cells cs E' (0,0)):=by
    have h4:w4.heap[b]?=some (.cells cs E' (0,0)):=by rw [honly.block b hbw ho.ne];exact hcs
    rcases hw5 with rfl | rfl
    · exact h4
    · rw [Below.heap_alloc _ _ _ (Nat.lt_of_lt_of_le hbw honly.size)]
      exact h4
  simp only [wpL]
  have hbad:after st (pLen X.flex)=none→after st (pTy X.ver X.flex (.list T E size of) false)=none:=fun e=>by rw [hpt];exact after_then_none e
  refine rOkC_ok hX hro hi5 (by omega) (by omega) (fun a6 r1 hst1 hi6 g6'=>?_) fun a' w' h1 h2 h3 h4=>hR a' w' h1 h2 h3 (hbad h4)
  obtain ⟨r0,rfl⟩:∃ r0,st=some r0:=by
    cases st with
    | none=>simp [after] at hst1
    | some r0=>exact ⟨r0,rfl⟩
  obtain ⟨n',hp1⟩:∃ n',pLen X.flex r0=some (n',r1):=by
    cases hp1:pLen X.flex r0 with
    | none=>rw [after_no hp1] at hst1;cases hst1
    | some zz =>
      rw [after_ok hp1] at hst1
      cases hst1
      exact ⟨zz.1,rfl⟩
  obtain rfl:n=n':=hnv r0 n' r1 rfl hp1
  have hn31:=pLen_lt hp1
  rw [hst1] at hi6
  have g6:∀ s,s ≠ v→s ≠ v+1→s ≠ v+2→s < t→getT a6 s=getT a s:=fun s h1 h2 h3 h4=>(g6' s (by omega)).trans (g5 s h1 h2 h3 h4)
  have v6:getT a6 (v+1)=.slice base 0 0:=(g6' (v+1) (by omega)).trans v5
  have l6:getT a6 (v+2)=.int .i32 n:=(g6' (v+2) (by omega)).trans l5
  have hsz6:=hi6.size
  simp only [Exit.then]
  unfold rCut
  refine SC.wp_reg (ops_mv (ops_1 (v:=.slice base 0 0) ?_ (ops_asg (oNi ?_))))
  · simp only [qv,eTm,eCo]
    rw [gTp (by omega),v6,sliceN_of hsl]
    simp
  generalize hu7:t+8+rLenT X.c+rNilT h=u7
  generalize ha7:(((a6.put (some u7) (getT a6 (v+1))).put (some (u7+1)) (.slice base 0 0)).put (some (v+1)) (getT ((a6.put (some u7) (getT a6 (v+1))).put (some (u7+1)) (.slice base 0 0)) (u7+1)))=a7
  have s7:a7.tmps.size=X.N:=by rw [← ha7];simp only [sPu];exact hsz6
  have g7:∀ s,s ≠ v→s ≠ v+1→s ≠ v+2→s < t→getT a7 s=getT a s:=fun s h1 h2 h3 h4=>by rw [← ha7,gTn h2,gTn (by omega),gTn (by omega)];exact g6 s h1 h2 h3 h4
  have v7:getT a7 (v+1)=.slice base 0 0:=by rw [← ha7,gTp (by simp only [sPu];omega),gTp (by rw [sPu];omega)]
  have l7:getT a7 (v+2)=.int .i32 n:=by rw [← ha7,gTn (by omega),gTn (by omega),gTn (by omega)];exact l6
  have hi7:RInv X a7 w5 (some r1):=hi6.act (by rw [s7,hsz6]) (by rw [← ha7];simp [dPu]) fun s hs=>by rw [← ha7,gTn (by omega),gTn (by omega),gTn (by omega)]
  simp only [Exit.then]
  generalize huE:t+15+rLenT X.c+rNilT h+5+rET X.c of=uE
  have last:∀ (a9:Act) (w9:World) (stE:Option Bytes) (base9:Option Addr) (len9 cap9:Nat),RInv X a9 w9 stE→getT a9 (v+1)=.slice base9 len9 cap9→(∀ s,s ≠ v→s ≠ v+1→s ≠ v+2→s ≠ v+3→s < t→(s < v∨X.T0≤s)→getT a9 s=getT a s) →
      Foot X.rb b (o+h.off) (o+h.off+1) w w9→w9.heap[b]?=some (.cells cs E' (0,0))→stE=after (some r0) (pTy X.ver X.flex (.list T E size of) false) →
      (∀ x r',pTy X.ver X.flex (.list T E size of) false r0=some (x,r')→FitTy X.ver (.list T E size of) x→len9=(if nuOf h && x.null then 0 else x.l.length) ∧
        (if nuOf h && x.null then base9=none else x.l.length≤most∧(nuOf h=true→base9 ≠ none)∧((base9=none∧x.l=[])∨∃ b' o',base9=some ⟨b',o',none⟩∧(∀ k,k=b'→FO O w9 k)∧∀ i y,x.l[i]?=some y→HTy X.G w9 (FO O w9) X.ver X.flex of false b' (o'+i * size) y))) →
      wpL X.P Q [.reg [mv uE (v+1),asg v uE],rStore p v (uE+1) S h.idx T] a9 w9:=by
    intro a9 w9 stE base9 len9 cap9 hi9 v9 g9 hf9 hrow9 hstE hval
    have hsz9:=hi9.size
    simp only [wpL]
    refine SC.wp_reg (ops_mv (ops_asg (oNi ?_)))
    generalize ha10:((a9.put (some uE) (getT a9 (v+1))).put (some v) (getT (a9.put (some uE) (getT a9 (v+1))) uE))=a10
    have s10:a10.tmps.size=X.N:=by rw [← ha10];simp only [sPu];exact hsz9
    have g10:∀ s,s ≠ v→s < uE→getT a10 s=getT a9 s:=fun s h1 h2=>by rw [← ha10,gTn h1,gTn (by omega)]
    have v10:getT a10 v=.slice base9 len9 cap9:=by rw [← ha10,gTp (by rw [sPu];omega),gTp (by omega)];exact v9
    have hi10:RInv X a10 w9 stE:=hi9.act (by rw [s10,hsz9]) (by rw [← ha10];simp [dPu]) fun s hs=>g10 s (by omega) (by omega)
    simp only [Exit.then]
    refine rStore_ok hX hi10 (p:=p) (x:=v) (b:=b) (o:=o) (y:=.slice base9 len9 cap9) (cs:=cs) (E:=E') ?_ v10 rfl (by omega) (by omega) (by omega) (by omega) hS hT hrow9 (by omega) ho.ne hbS ho.hB fun a11 hi11 g11=>?_
    · rw [g10 p (by omega) (by omega),g9 p (by omega) (by omega) (by omega) (by omega) (by omega) (.inl hpv)]
      exact hp
    simp only [Exit.then]
    refine hQ a11 _ (by rw [← hstE];exact hi11) (fun s hs=>?_) ?_ ?_
    · rw [g11 s (by omega),g10 s (by omega) (by omega)]
      exact g9 s (by omega) (by omega) (by omega) (by omega) (by omega) (by omega)
    · refine hf9.trans (foot_setRow hrow9 (by simp) fun j hj=>?_)
      rw [Array.getElem?_setIfInBounds_ne (by omega)]
    · intro r x r' hst hpx hfit
      cases hst
      obtain ⟨k1,k2⟩:=hval x r' hpx hfit
      simp only [HTy]
      refine ⟨base9,cap9,?_,?_⟩
      · rw [cell_setRow_same _ _ _ _ _ _ _ hrow9,k1]
        simp only [Array.getElem?_setIfInBounds,if_true]
        rw [if_pos (by omega)]
      · split at k2
        · rename_i hc
          rw [if_pos hc]
          exact k2
        · rename_i hc
          rw [if_neg hc]
          refine ⟨k2.1,k2.2.1,k2.2.2.imp id fun ⟨b',o',q1,q2,q3⟩=>⟨b',o',q1,?_,fun i y hy=>?_⟩⟩
          · have:=q2 b' rfl
            exact ⟨by simpa using this.1,this.2⟩
          · refine hTy_frame (F:=FO O w9) (fun k hk=>⟨⟨by simpa using hk.1,hk.2⟩,setRow_other _ _ _ _ fun e=>hk.2 (e ▸ ho.ob)⟩) X.ver X.flex of false b' _ y hlay.1 (fun j _ _=>?_) (q3 i y hy)
            have hb':=q2 b' rfl
            exact cell_setRow_other _ _ _ _ fun e=>hb'.2 (by rw [show b'=b from e];exact ho.ob)
  by_cases hn0:0 < n
  ·
    obtain ⟨m,rfl⟩:∃ m:Nat,n=(m:Int):=⟨n.toNat,by omega⟩
    have hm31:m < 2147483648:=by omega
    unfold rMake
    generalize hu8:t+10+rLenT X.c+rNilT h=u8
    have hsz7:=s7
    refine SC.wp_seq (SC.wp_reg (ops_mv (oNo rfl (opw_cmp (op:=.gtr) (k:=.i32) (m:=(m:Int)) (n:=0) (r:=true) ?_ rfl (by simp;omega) (oNi ?_)))))
    · rw [eTm,gTp (by omega)]
      exact l7
    refine SC.wp_cond (t:=true) (by rw [eTm,gTp (by rw [sPu];omega)]) ?_
    rw [if_pos rfl]
    generalize ha8:((a7.put (some u8) (getT a7 (v+2))).put (some (u8+1)) (.bool true))=a8
    have s8:a8.tmps.size=X.N:=by rw [← ha8];simp only [sPu];exact s7
    have g8:∀ s,s < u8→getT a8 s=getT a7 s:=fun s hs=>by rw [← ha8,gTn (by omega),gTn (by omega)]
    have hi8:RInv X a8 w5 (some r1):=hi7.act (by rw [s8,s7]) (by rw [← ha8];simp [dPu]) fun s hs=>g8 s (by omega)
    refine SC.wp_reg (ops_mv (ops_mv (oNo rfl (opw_makeN0 (base:=base) (m:=m) hsl hi32 hii hiz (by omega) hby ?_ ?_ (by omega) hm31 fun cap hcap=>ops_asg (oNi ?_)))))
    · rw [eTm,gTn (by omega),gTp (by omega),g8 (v+1) (by omega)]
      exact v7
    · rw [eTm,gTp (by rw [sPu];omega),gTn (by omega),g8 (v+2) (by omega)]
      exact l7
    generalize ha9:((((a8.put (some (u8+2)) (getT a8 (v+1))).put (some (u8+3)) (getT (a8.put (some (u8+2)) (getT a8 (v+1))) (v+2))).put (some (u8+4)) (.slice (some ⟨w5.heap.size,0,none⟩) m cap)).put (some (v+1)) (getT (((a8.put (some (u8+2)) (getT a8 (v+1))).put (some (u8+3)) (getT (a8.put (some (u8+2)) (getT a8 (v+1))) (v+2))).put (some (u8+4)) (.slice (some ⟨w5.heap.size,0,none⟩) m cap)) (u8+4)))=a9
    have s9:a9.tmps.size=X.N:=by rw [← ha9];simp only [sPu];exact s8
    have g9:∀ s,s ≠ v+1→s < u8→getT a9 s=getT a7 s:=fun s h1 hs=>by rw [← ha9,gTn h1,gTn (by omega),gTn (by omega),gTn (by omega)];exact g8 s hs
    have v9:getT a9 (v+1)=.slice (some ⟨w5.heap.size,0,none⟩) m cap:=by rw [← ha9,gTp (by simp only [sPu];omega),gTp (by simp only [sPu];omega)]
    generalize hw6:w5.drew.alloc (.cells (Builtin.zeroCells z.cells m ++ Builtin.zeroCells z.cells (cap - m)) E)=w6
    have hsz65:w6.heap.size=w5.heap.size+1:=by rw [← hw6];simp
    have hi9:RInv X a9 w6 (some r1):=by
      rw [← hw6]
      exact ((hi8.drew).alloc _).act (a:=a8) (by rw [s9,s8]) (by rw [← ha9];simp [dPu]) fun s hs=>(g9 s (by omega) (by omega)).trans (g8 s (by omega)).symm
    have hbl:w6.heap[w5.heap.size]?=some (.cells (Builtin.zeroCells z.cells m ++ Builtin.zeroCells z.cells (cap - m)) E (0,0)):=by
      rw [← hw6]
      exact heap_alloc_new w5.drew _
    have hb5:b < w5.heap.size:=Nat.lt_of_lt_of_le hbw (hf5 (lo:=0) (hi:=0)).size
    have hf6:∀ {lo hi:Nat},Foot X.rb b lo hi w w6:=by
      intro lo hi
      rw [← hw6]
      exact (hf5.trans foot_drew).trans (foot_alloc _)
    have hrow6:w6.heap[b]?=some (.cells cs E' (0,0)):=by
      rw [← hw6,Below.heap_alloc _ _ _ (show b < w5.drew.heap.size from hb5)]
      exact hrow5
    have hOl:∀ k,O k→k < w5.heap.size:=fun k hk=>Nat.lt_of_lt_of_le (ho.lt k hk) (hf5 (lo:=0) (hi:=0)).size
    have ho6:Opn X (fun k=>O k∨k=w5.heap.size) w5.heap.size w6:=by
      refine ⟨.inl ho.orb,.inr rfl,fun k hk=>?_,fun sb hsb hk=>?_,?_,hi5.heap⟩
      · rw [hsz65]
        rcases hk with hk | hk
        · have:=hOl k hk
          omega
        · omega
      · rcases hk with hk | hk
        · exact ho.src sb hsb hk
        · have:=(hi5.src sb hsb).2
          omega
      · have:=hi5.at_.lt
        omega
    simp only [Exit.then]
    have hcsz:(Builtin.zeroCells z.cells m).size=m * size:=by rw [size_zeroCells,hzc]
    refine rRounds_ok (sa:=v+1) (l:=v+2) (i:=v+3) (t:=t+15+rLenT X.c+rNilT h) (b:=bk) (bl:=w5.heap.size) (m:=m) (cap:=cap) (O:=fun k=>O k∨k=w5.heap.size) hX hE hel hsl hlay.1 hszl hdef hi9 v9 ((g9 (v+2) (by omega) (by omega)).trans l7) hm31 ho6 ⟨_,E,hbl,by simp [hcsz]⟩ ?_ (by omega) (by omega) (by omega) (by omega) (by omega) (by omega) ?_ ?_
    · intro j hj
      refine hfresh w6 _ _ fun r y hy=>?_
      have hr:r < z.cells.size:=(Array.getElem?_eq_some_iff.1 hy).1
      rw [cell_of_row _ _ _ _ _ _ hbl,← hzc,zeroCells_get hj hr]
      exact hy
    · intro a10 w10 hi10 g10 hf10 hv10
      simp only [Exit.then]
      have hne:b ≠ w5.heap.size:=by omega
      have hst:after (some r1) (pMany (pTy X.ver X.flex of false) m)=after (some r0) (pTy X.ver X.flex (.list T E size of) false):=by
        rw [hpt,after_then _ _ _ rfl hp1,if_neg (by simp)]
        simp only [Int.toNat_natCast]
        cases hpm:pMany (pTy X.ver X.flex of false) m r1 with
        | none=>simp [after,rThen,hpm]
        | some y=>rw [after_then _ _ _ rfl hpm,after_ok hpm];exact (after_rOk _ _).symm
      have hf10':Foot X.rb b (o+h.off) (o+h.off+1) w w10:=hf6.other hf10 (Nat.le_trans honly.size hs45) hbw ho.ne
      refine last a10 w10 _ (some ⟨w5.heap.size,0,none⟩) m cap hi10 ((g10 (v+1) (by omega)).trans v9) (fun s k1 k2 k3 k4 k5 k6=>?_) hf10' ?_ hst ?_
      · rw [g10 s (by omega),g9 s k2 (by omega)]
        exact g7 s k1 k2 k3 k5
      · rw [hf10.block b (by omega) ho.ne hne]
        exact hrow6
      · intro x r' hpx hfit
        rw [hpt] at hpx
        obtain ⟨n2,r2,q1,q2⟩:=rThen_some hpx
        rw [hp1] at q1
        cases q1
        rw [if_neg (by simp)] at q2
        obtain ⟨xs,r3,q3,q4⟩:=rThen_some q2
        obtain ⟨rfl,rfl⟩:=rOk_some q4
        simp only [Int.toNat_natCast] at q3
        have hxl:=pMany_length _ _ _ _ _ q3
        simp only [tL,Tree.null,Tree.l,Bool.and_false,Bool.false_eq_true,if_false]
        simp only [FitTy,tL,Tree.l] at hfit
        refine ⟨hxl.symm,hfit.1,fun _=>by simp,.inr ⟨w5.heap.size,0,rfl,fun k hk=>?_,fun i y hy=>?_⟩⟩
        · subst hk
          refine ⟨?_,fun hk=>by have:=hOl _ hk;omega⟩
          have:=hf10.size
          omega
        · have:=hv10 xs _ q3 hfit.2 i y hy
          rw [Nat.zero_add]
          exact hTy_frame (fo_sub fun k hk=>.inl hk) X.ver X.flex of false _ _ y hlay.1 (fun _ _ _=>rfl) this
    · intro a' w' h1 h2 h3 h4
      refine hR a' w' h1 h2 h3 ?_
      rw [hpt,after_then _ _ _ rfl hp1,if_neg (by simp)]
      simp only [Int.toNat_natCast]
      exact after_then_none h4
  ·
    unfold rMake
    generalize hu8:t+10+rLenT X.c+rNilT h=u8
    refine SC.wp_seq (SC.wp_reg (ops_mv (oNo rfl (opw_cmp (op:=.gtr) (k:=.i32) (m:=n) (n:=0) (r:=false) ?_ rfl (by simp;omega) (oNi ?_)))))
    · rw [eTm,gTp (by omega)]
      exact l7
    refine SC.wp_cond (t:=false) (by rw [eTm,gTp (by rw [sPu];omega)]) ?_
    rw [if_neg (by simp)]
    refine SC.wp_skip ?_
    generalize ha8:((a7.put (some u8) (getT a7 (v+2))).put (some (u8+1)) (.bool false))=a8
    have s8:a8.tmps.size=X.N:=by rw [← ha8];simp only [sPu];exact s7
    have g8:∀ s,s < u8→getT a8 s=getT a7 s:=fun s hs=>by rw [← ha8,gTn (by omega),gTn (by omega)]
    have hi8:RInv X a8 w5 (some r1):=hi7.act (by rw [s8,s7]) (by rw [← ha8];simp [dPu]) fun s hs=>g8 s (by omega)
    simp only [Exit.then]
    refine rNone_ok (of:=of) (T:=T) (E:=E) (sa:=v+1) hi8 ((g8 (v+2) (by omega)).trans l7) (by omega) (by omega) (by omega) (by omega) (by omega) (by omega) (by omega) fun a9 hi9 g9=>?_
    simp only [Exit.then]
    have hst:some r1=after (some r0) (pTy X.ver X.flex (.list T E size of) false):=by
      rw [hpt,after_then _ _ _ rfl hp1]
      split
      · exact (after_rOk _ _).symm
      · rw [show n.toNat=0 by omega]
        rw [after_then (x:=[]) (r:=r1) _ _ _ rfl rfl]
        exact (after_rOk _ _).symm
    refine last a9 w5 _ base 0 0 hi9 (by rw [g9 (v+1) (by omega) (by omega),g8 (v+1) (by omega)];exact v7) (fun s k1 k2 k3 k4 k5 k6=>?_) hf5 hrow5 hst ?_
    · rw [g9 s k4 (by omega),g8 s (by omega)]
      exact g7 s k1 k2 k3 k5
    · intro x r' hpx hfit
      rw [hpt] at hpx
      obtain ⟨n2,r2,q1,q2⟩:=rThen_some hpx
      rw [hp1] at q1
      cases q1
      rw [if_neg (by simp)] at q2
      rw [show n.toNat=0 by omega] at q2
      obtain ⟨xs,r3,q3,q4⟩:=rThen_some q2
      obtain ⟨rfl,rfl⟩:=rOk_some q4
      obtain ⟨rfl,rfl⟩:=rOk_some q3
      simp only [tL,Tree.null,Tree.l,Bool.and_false,Bool.false_eq_true,if_false,List.length_nil]
      refine ⟨trivial,Nat.zero_le _,fun _=>by rw [hbase.2];simp,.inr ⟨w4.heap.size,0,hbase.2,fun k hk=>?_,fun i y hy=>by simp at hy⟩⟩
      subst hk
      exact ⟨hbase.1,fun hk=>by have:=ho.lt _ hk;have:=honly.size;omega⟩
end
end Go.Proofs.YtdfhomhginbfeaaDoor.K
