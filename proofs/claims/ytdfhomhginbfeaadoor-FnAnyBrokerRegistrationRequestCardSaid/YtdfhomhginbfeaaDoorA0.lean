/- Generic texts: R30 T5 Z4. No condition. -/
import Derived.Test.YtdfhomhginbfeaaDoorM10
namespace Go.Proofs.YtdfhomhginbfeaaDoor.K
open Go Go.RowKit Go.Proofs.YtdfhomhginbfeaaDoor.T
attribute [local simp] eTm eCo pNo gTp gTn qv qcall vop iop
set_option linter.unusedVariables false
set_option linter.unusedSimpArgs false
set_option maxHeartbeats 4000000
def sc_LawAny (T0 T1 T2 F0 F1 F2 F3:Nat):SC:=.seq (.reg [⟨some 4,.assign (.const (.bool false)),none⟩]) (.seq (.seq (.reg [mv 10 1,lenOp 11 T0 10,⟨some 12,.binOp .gtr T1 (.tmp 11) (.const (.int .i64 2147483647)) T1,none⟩]) (.cond (.tmp 12) (.seq (.reg [⟨some 4,.assign (.const (.bool true)),none⟩]) (.ret)) (.skip))) (.seq (.reg [cal 13 F0 [],asg 5 13]) (.seq (.seq (.reg [mv 14 5,⟨some 15,.binOp .lss T1 (.tmp 14) (.const (.int .i64 0)) T1,none⟩]) (.cond (.tmp 15) (.seq (.reg [⟨some 4,.assign (.const (.bool false)),none⟩]) (.ret)) (.skip))) (.seq (.seq (.reg [mv 16 1,lenOp 17 T0 16,⟨some 18,.binOp .gtr T1 (.tmp 17) (.const (.int .i64 1000)) T1,none⟩]) (.cond (.tmp 18) (.seq (.reg [⟨some 4,.assign (.const (.bool true)),none⟩]) (.ret)) (.skip))) (.seq (.reg [mv 20 0,mv 21 5,cal 22 F1 [20,21],mv 23 1,cal 24 F2 [22,23],mv 19 24,⟨some 25,.extract (.tmp 19) 0,none⟩,⟨some 26,.extract (.tmp 19) 1,none⟩,asg 6 25,asg 7 26]) (.seq (.seq (.reg [mv 27 7,⟨some 28,.unOp .not T2 (.tmp 27),none⟩]) (.cond (.tmp 28) (.seq (.reg [⟨some 4,.assign (.const (.bool true)),none⟩]) (.ret)) (.skip))) (.seq (.reg [mv 30 0,mv 31 5,cal 32 F1 [30,31],mv 33 6,cal 34 F2 [32,33],mv 29 34,⟨some 35,.extract (.tmp 29) 0,none⟩,⟨some 36,.extract (.tmp 29) 1,none⟩,asg 8 35,asg 9 36]) (.seq (.reg [mv 37 9,mv 38 37,⟨some 39,.move (.tmp 6),some (1,true)⟩,⟨some 40,.move (.tmp 8),some (1,true)⟩,⟨some 41,.call ⟨.value (.func F3),#[(.tmp 39),(.tmp 40)],#[]⟩,some (1,true)⟩,⟨some 42,.pick (.tmp 38) (.tmp 41) (.const (.bool false)),none⟩,asg 4 42]) (.ret)))))))))
section
variable {P:Program} {f:FuncId} {fn:Func}
theorem lawAny_ok {tU8 TB TI T2 fMax fVer fAg fSame:Nat} {gb m:Nat} {Gl:World→Prop} (hm16:m < 32768) (fs:Fs) (flexO:Option Int) (hTB:sliceN P TB=some 1) (hTI:intK P TI=some .i64)
    (oMax:FnOK P fMax) (cMax:∀ w:World,Calls P fMax #[] w fun e w'=>e=.returned (.int .i64 (m:Int))∧Below w.heap.size w w')
    (oVer:FnOK P fVer) (cVer:∀ (w:World) (n m:Nat),n < 256→m < 65536→Calls P fVer #[.int .u8 (n:Int),.int .i64 (m:Int)] w fun e w'=>e=.returned (.int .i64 ((n % (m+1):Nat):Int))∧w=w')
    (cAg:AgC P tU8 flexO fs gb m Gl fAg)
    (oSame:FnOK P fSame) (cSame:∀ (w:World) (xs:Bytes) (b1 b2:Option Addr) (c1 c2:Nat),BytesAt w (fun k=>k < w.heap.size) b1 xs→BytesAt w (fun k=>k < w.heap.size) b2 xs→xs.length≤lim→Calls P fSame #[.slice b1 xs.length c1,.slice b2 xs.length c2] w fun e w'=>e=.returned (.bool true)∧Below w.heap.size w w')
    (hf:P.funcs[f]?=some fn) (hb:fn.body.map strip=some (sc_LawAny TB TI T2 fMax fVer fAg fSame)) (hn:fn.ntmps=43) (hr:fn.results=#[.tmp 4]) (w:World) (n:Nat) (hn8:n < 256) (S:Option Nat) (base:Option Addr) (data:Bytes) (cap:Nat) (hsr:SrcAt w S base data) (hS:∀ sb,S=some sb→sb < w.heap.size) (hgb:gb < w.heap.size) (hgl:∀ w',Below w.heap.size w w'→Gl w')
    (hok:∀ v:Nat,v≤m→okFsR v (flexAt flexO v) fs=true) (hlen:∀ (v:Nat) xs u r,v≤m→data.length≤1000→pMsg v (flexAt flexO v) fs data=some ((xs,u),r)→(wMsg v (flexAt flexO v) fs xs u).length≤lim) :
    Calls P f #[.int .u8 (n:Int),.slice base data.length cap] w fun e w'=>e=.returned (.bool true)∧Below w.heap.size w w':=by
  refine fCa hf hb hn (by simp) fun a0 hs hd ha=>?_
  have k0:=ha 0 _ rfl
  have k1:=ha 1 _ rfl
  simp only [List.getElem_toArray,List.getElem_cons_zero,List.getElem_cons_succ] at k0 k1
  refine SC.wp_seq (SC.wp_reg ?_)
  repeat (first | (apply ops_1;(focus (simp (disch:=(try simp only [sPu]);omega) ;try rfl))) | (apply ops_y;(focus rfl);(focus ((try simp only [sPu]);omega));(focus (simp (disch:=(try simp only [sPu]);omega);done));(focus (simp (disch:=(try simp only [sPu]);omega) ;try rfl))) | (apply ops_n;(focus rfl);(focus ((try simp only [sPu]);omega));(focus (first | (left;simp (disch:=(try simp only [sPu]);omega);done) | (right;simp (disch:=(try simp only [sPu]);omega);done)))))
  refine oNi (SC.wp_seq (SC.wp_seq (SC.wp_reg ?_)))
  repeat (first | (apply ops_1;(focus (simp (disch:=(try simp only [sPu]);omega) [k1,hTB];try rfl))) | (apply ops_y;(focus rfl);(focus ((try simp only [sPu]);omega));(focus (simp (disch:=(try simp only [sPu]);omega) [k1,hTB];done));(focus (simp (disch:=(try simp only [sPu]);omega) [k1,hTB];try rfl))) | (apply ops_n;(focus rfl);(focus ((try simp only [sPu]);omega));(focus (first | (left;simp (disch:=(try simp only [sPu]);omega) [k1,hTB];done) | (right;simp (disch:=(try simp only [sPu]);omega);done)))))
  refine oNi (SC.wp_cond (t:=decide ((data.length:Int) > 2147483647)) (by simp (disch:=(try simp only [sPu]);omega)) ?_)
  split
  · refine SC.wp_seq (SC.wp_reg ?_)
    repeat (first | (apply ops_1;(focus (simp (disch:=(try simp only [sPu]);omega) ;try rfl))) | (apply ops_y;(focus rfl);(focus ((try simp only [sPu]);omega));(focus (simp (disch:=(try simp only [sPu]);omega);done));(focus (simp (disch:=(try simp only [sPu]);omega) ;try rfl))) | (apply ops_n;(focus rfl);(focus ((try simp only [sPu]);omega));(focus (first | (left;simp (disch:=(try simp only [sPu]);omega);done) | (right;simp (disch:=(try simp only [sPu]);omega);done)))))
    refine oNi (SC.wp_ret ?_)
    simp only [Exit.then]
    exact ret_tmp hr (by simp [dPu,hd]) ⟨by simp (disch:=(try simp only [sPu]);omega),Below.refl _ _⟩
  refine SC.wp_skip ?_
  simp only [Exit.then]
  refine SC.wp_seq (SC.wp_reg (ops_call oMax (cMax w) (by simp (disch:=(try simp only [sPu]);omega)) ?_))
  rintro e w1 ⟨rfl,hb1⟩
  refine ⟨_,rfl,?_⟩
  repeat (first | (apply ops_1;(focus (simp (disch:=(try simp only [sPu]);omega) ;try rfl))) | (apply ops_y;(focus rfl);(focus ((try simp only [sPu]);omega));(focus (simp (disch:=(try simp only [sPu]);omega);done));(focus (simp (disch:=(try simp only [sPu]);omega) ;try rfl))) | (apply ops_n;(focus rfl);(focus ((try simp only [sPu]);omega));(focus (first | (left;simp (disch:=(try simp only [sPu]);omega);done) | (right;simp (disch:=(try simp only [sPu]);omega);done)))))
  refine oNi (SC.wp_seq (SC.wp_seq (SC.wp_reg ?_)))
  have em:decide ((m:Int) < 0)=false:=by simp
  repeat (first | (apply ops_1;(focus (simp (disch:=(try simp only [sPu]);omega) [em];try rfl))) | (apply ops_y;(focus rfl);(focus ((try simp only [sPu]);omega));(focus (simp (disch:=(try simp only [sPu]);omega) [em];done));(focus (simp (disch:=(try simp only [sPu]);omega) [em];try rfl))) | (apply ops_n;(focus rfl);(focus ((try simp only [sPu]);omega));(focus (first | (left;simp (disch:=(try simp only [sPu]);omega) [em];done) | (right;simp (disch:=(try simp only [sPu]);omega);done)))))
  refine oNi (SC.wp_cond (t:=false) (by simp (disch:=(try simp only [sPu]);omega)) ?_)
  rw [if_neg (by simp)]
  refine SC.wp_skip ?_
  simp only [Exit.then]
  refine SC.wp_seq (SC.wp_seq (SC.wp_reg ?_))
  repeat (first | (apply ops_1;(focus (simp (disch:=(try simp only [sPu]);omega) [k1,hTB];try rfl))) | (apply ops_y;(focus rfl);(focus ((try simp only [sPu]);omega));(focus (simp (disch:=(try simp only [sPu]);omega) [k1,hTB];done));(focus (simp (disch:=(try simp only [sPu]);omega) [k1,hTB];try rfl))) | (apply ops_n;(focus rfl);(focus ((try simp only [sPu]);omega));(focus (first | (left;simp (disch:=(try simp only [sPu]);omega) [k1,hTB];done) | (right;simp (disch:=(try simp only [sPu]);omega);done)))))
  refine oNi (SC.wp_cond (t:=decide ((data.length:Int) > 1000)) (by simp (disch:=(try simp only [sPu]);omega)) ?_)
  by_cases h1000:(data.length:Int) > 1000
  · rw [if_pos (decide_eq_true h1000)]
    refine SC.wp_seq (SC.wp_reg ?_)
    repeat (first | (apply ops_1;(focus (simp (disch:=(try simp only [sPu]);omega) ;try rfl))) | (apply ops_y;(focus rfl);(focus ((try simp only [sPu]);omega));(focus (simp (disch:=(try simp only [sPu]);omega);done));(focus (simp (disch:=(try simp only [sPu]);omega) ;try rfl))) | (apply ops_n;(focus rfl);(focus ((try simp only [sPu]);omega));(focus (first | (left;simp (disch:=(try simp only [sPu]);omega);done) | (right;simp (disch:=(try simp only [sPu]);omega);done)))))
    refine oNi (SC.wp_ret ?_)
    simp only [Exit.then]
    exact ret_tmp hr (by simp [dPu,hd]) ⟨by simp (disch:=(try simp only [sPu]);omega),hb1⟩
  rw [if_neg (by rw [decide_eq_false h1000];simp)]
  refine SC.wp_skip ?_
  simp only [Exit.then]
  have hs1:=hb1.size
  have hd1000:data.length≤1000:=by omega
  obtain ⟨v,hv⟩:∃ v,v=n % (m+1):=⟨_,rfl⟩
  have hvm:v≤m:=by rw [hv];exact Nat.lt_succ_iff.1 (Nat.mod_lt _ (by omega))
  refine SC.wp_seq (SC.wp_reg ?_)
  iterate 2 (first | (apply ops_1;(focus (simp (disch:=(try simp only [sPu]);omega) [k0];try rfl))) | (apply ops_y;(focus rfl);(focus ((try simp only [sPu]);omega));(focus (simp (disch:=(try simp only [sPu]);omega) [k0];done));(focus (simp (disch:=(try simp only [sPu]);omega) [k0];try rfl))) | (apply ops_n;(focus rfl);(focus ((try simp only [sPu]);omega));(focus (first | (left;simp (disch:=(try simp only [sPu]);omega) [k0];done) | (right;simp (disch:=(try simp only [sPu]);omega);done)))))
  refine ops_call oVer (cVer w1 n m hn8 (by omega)) (by simp (disch:=(try simp only [sPu]);omega) [k0]) ?_
  rintro e w2 ⟨rfl,rfl⟩
  refine ⟨_,rfl,?_⟩
  rw [← hv]
  iterate 1 (first | (apply ops_1;(focus (simp (disch:=(try simp only [sPu]);omega) [k1];try rfl))) | (apply ops_y;(focus rfl);(focus ((try simp only [sPu]);omega));(focus (simp (disch:=(try simp only [sPu]);omega) [k1];done));(focus (simp (disch:=(try simp only [sPu]);omega) [k1];try rfl))) | (apply ops_n;(focus rfl);(focus ((try simp only [sPu]);omega));(focus (first | (left;simp (disch:=(try simp only [sPu]);omega) [k1];done) | (right;simp (disch:=(try simp only [sPu]);omega);done)))))
  have hfit:∀ xs u r,pMsg v (flexAt flexO v) fs data=some ((xs,u),r)→FitFs v fs xs∧FitTags u∧(wMsg v (flexAt flexO v) fs xs u).length≤lim:=fun xs u r h=>by
    have:=msg_fit (by simp only [most];omega) h
    exact ⟨this.1,this.2,hlen v xs u r hvm hd1000 h⟩
  refine ops_call cAg.1 (cAg.2 w1 S base data cap v hvm (by omega) (fun w' h=>hgl w' (hb1.trans ⟨h.os,h.tape,h.output,h.size,fun k hk=>h.block k (by omega)⟩)) (hsr.frame fun sb h=>hb1.block sb (hS sb h)) (fun sb h=>by have:=hS sb h;omega) (by simp only [lim];omega) hfit) (by simp (disch:=(try simp only [sPu]);omega) [k1]) ?_
  cases hp:pMsg v (flexAt flexO v) fs data with
  | none =>
    rintro e w3 ⟨hb3,rfl⟩
    refine ⟨_,rfl,?_⟩
    have hbw3:Below w.heap.size w w3:=hb1.trans ⟨hb3.os,hb3.tape,hb3.output,hb3.size,fun k hk=>hb3.block k (by omega)⟩
    iterate 1 (first | (apply ops_1;(focus (simp (disch:=(try simp only [sPu]);omega) ;try rfl))) | (apply ops_y;(focus rfl);(focus ((try simp only [sPu]);omega));(focus (simp (disch:=(try simp only [sPu]);omega);done));(focus (simp (disch:=(try simp only [sPu]);omega) ;try rfl))) | (apply ops_n;(focus rfl);(focus ((try simp only [sPu]);omega));(focus (first | (left;simp (disch:=(try simp only [sPu]);omega);done) | (right;simp (disch:=(try simp only [sPu]);omega);done)))))
    refine oNo rfl (opw_extract (vs:=#[.slice none 0 0,.bool false]) (v:=.slice none 0 0) (by simp (disch:=(try simp only [sPu]);omega)) rfl ?_)
    refine oNo rfl (opw_extract (vs:=#[.slice none 0 0,.bool false]) (v:=.bool false) (by simp (disch:=(try simp only [sPu]);omega)) rfl ?_)
    repeat (first | (apply ops_1;(focus (simp (disch:=(try simp only [sPu]);omega) ;try rfl))) | (apply ops_y;(focus rfl);(focus ((try simp only [sPu]);omega));(focus (simp (disch:=(try simp only [sPu]);omega);done));(focus (simp (disch:=(try simp only [sPu]);omega) ;try rfl))) | (apply ops_n;(focus rfl);(focus ((try simp only [sPu]);omega));(focus (first | (left;simp (disch:=(try simp only [sPu]);omega);done) | (right;simp (disch:=(try simp only [sPu]);omega);done)))))
    refine oNi (SC.wp_seq (SC.wp_seq (SC.wp_reg ?_)))
    repeat (first | (apply ops_1;(focus (simp (disch:=(try simp only [sPu]);omega) ;try rfl))) | (apply ops_y;(focus rfl);(focus ((try simp only [sPu]);omega));(focus (simp (disch:=(try simp only [sPu]);omega);done));(focus (simp (disch:=(try simp only [sPu]);omega) ;try rfl))) | (apply ops_n;(focus rfl);(focus ((try simp only [sPu]);omega));(focus (first | (left;simp (disch:=(try simp only [sPu]);omega);done) | (right;simp (disch:=(try simp only [sPu]);omega);done)))))
    refine oNi (SC.wp_cond (t:=true) (by simp (disch:=(try simp only [sPu]);omega)) ?_)
    rw [if_pos rfl]
    refine SC.wp_seq (SC.wp_reg ?_)
    repeat (first | (apply ops_1;(focus (simp (disch:=(try simp only [sPu]);omega) ;try rfl))) | (apply ops_y;(focus rfl);(focus ((try simp only [sPu]);omega));(focus (simp (disch:=(try simp only [sPu]);omega);done));(focus (simp (disch:=(try simp only [sPu]);omega) ;try rfl))) | (apply ops_n;(focus rfl);(focus ((try simp only [sPu]);omega));(focus (first | (left;simp (disch:=(try simp only [sPu]);omega);done) | (right;simp (disch:=(try simp only [sPu]);omega);done)))))
    refine oNi (SC.wp_ret ?_)
    simp only [Exit.then]
    exact ret_tmp hr (by simp [dPu,hd]) ⟨by simp (disch:=(try simp only [sPu]);omega),hbw3⟩
  | some zz =>
    obtain ⟨⟨xs,u⟩,r⟩:=zz
    obtain ⟨f1,f2,f3⟩:=hfit xs u r hp
    rintro e w3 ⟨hb3,dv,rfl,hown⟩
    refine ⟨_,rfl,?_⟩
    have hs3:=hb3.size
    have hbw3:Below w.heap.size w w3:=hb1.trans ⟨hb3.os,hb3.tape,hb3.output,hb3.size,fun k hk=>hb3.block k (by omega)⟩
    obtain ⟨S3,base3,cap3,rfl,hsr3,hS3⟩:=own_src hown
    iterate 1 (first | (apply ops_1;(focus (simp (disch:=(try simp only [sPu]);omega) ;try rfl))) | (apply ops_y;(focus rfl);(focus ((try simp only [sPu]);omega));(focus (simp (disch:=(try simp only [sPu]);omega);done));(focus (simp (disch:=(try simp only [sPu]);omega) ;try rfl))) | (apply ops_n;(focus rfl);(focus ((try simp only [sPu]);omega));(focus (first | (left;simp (disch:=(try simp only [sPu]);omega);done) | (right;simp (disch:=(try simp only [sPu]);omega);done)))))
    refine oNo rfl (opw_extract (vs:=#[.slice base3 (wMsg v (flexAt flexO v) fs xs u).length cap3,.bool true]) (v:=.slice base3 (wMsg v (flexAt flexO v) fs xs u).length cap3) (by simp (disch:=(try simp only [sPu]);omega)) rfl ?_)
    refine oNo rfl (opw_extract (vs:=#[.slice base3 (wMsg v (flexAt flexO v) fs xs u).length cap3,.bool true]) (v:=.bool true) (by simp (disch:=(try simp only [sPu]);omega)) rfl ?_)
    repeat (first | (apply ops_1;(focus (simp (disch:=(try simp only [sPu]);omega) ;try rfl))) | (apply ops_y;(focus rfl);(focus ((try simp only [sPu]);omega));(focus (simp (disch:=(try simp only [sPu]);omega);done));(focus (simp (disch:=(try simp only [sPu]);omega) ;try rfl))) | (apply ops_n;(focus rfl);(focus ((try simp only [sPu]);omega));(focus (first | (left;simp (disch:=(try simp only [sPu]);omega);done) | (right;simp (disch:=(try simp only [sPu]);omega);done)))))
    refine oNi (SC.wp_seq (SC.wp_seq (SC.wp_reg ?_)))
    repeat (first | (apply ops_1;(focus (simp (disch:=(try simp only [sPu]);omega) ;try rfl))) | (apply ops_y;(focus rfl);(focus ((try simp only [sPu]);omega));(focus (simp (disch:=(try simp only [sPu]);omega);done));(focus (simp (disch:=(try simp only [sPu]);omega) ;try rfl))) | (apply ops_n;(focus rfl);(focus ((try simp only [sPu]);omega));(focus (first | (left;simp (disch:=(try simp only [sPu]);omega);done) | (right;simp (disch:=(try simp only [sPu]);omega);done)))))
    refine oNi (SC.wp_cond (t:=false) (by simp (disch:=(try simp only [sPu]);omega)) ?_)
    rw [if_neg (by simp)]
    refine SC.wp_skip ?_
    simp only [Exit.then]
    refine SC.wp_seq (SC.wp_reg ?_)
    iterate 2 (first | (apply ops_1;(focus (simp (disch:=(try simp only [sPu]);omega) [k0];try rfl))) | (apply ops_y;(focus rfl);(focus ((try simp only [sPu]);omega));(focus (simp (disch:=(try simp only [sPu]);omega) [k0];done));(focus (simp (disch:=(try simp only [sPu]);omega) [k0];try rfl))) | (apply ops_n;(focus rfl);(focus ((try simp only [sPu]);omega));(focus (first | (left;simp (disch:=(try simp only [sPu]);omega) [k0];done) | (right;simp (disch:=(try simp only [sPu]);omega);done)))))
    refine ops_call oVer (cVer w3 n m hn8 (by omega)) (by simp (disch:=(try simp only [sPu]);omega) [k0]) ?_
    rintro e w4 ⟨rfl,rfl⟩
    refine ⟨_,rfl,?_⟩
    rw [← hv]
    iterate 1 (first | (apply ops_1;(focus (simp (disch:=(try simp only [sPu]);omega) ;try rfl))) | (apply ops_y;(focus rfl);(focus ((try simp only [sPu]);omega));(focus (simp (disch:=(try simp only [sPu]);omega);done));(focus (simp (disch:=(try simp only [sPu]);omega) ;try rfl))) | (apply ops_n;(focus rfl);(focus ((try simp only [sPu]);omega));(focus (first | (left;simp (disch:=(try simp only [sPu]);omega);done) | (right;simp (disch:=(try simp only [sPu]);omega);done)))))
    obtain ⟨ts',u',hpm,hft1,hft2,hwm⟩:=msg_again (hok v hvm) (fitFs_k v fs xs f1) (fun x hx=>(f2.2.2 x hx).1)
    refine ops_call cAg.1 (cAg.2 w3 S3 base3 _ cap3 v hvm (by omega) (fun w' h=>hgl w' (hbw3.trans ⟨h.os,h.tape,h.output,h.size,fun k hk=>h.block k (by omega)⟩)) hsr3 (fun sb h=>(hS3 sb h).2) f3 (fun xs u r h=>by
      rw [hpm] at h
      cases h
      exact ⟨hft1,hft2,by rw [hwm];exact f3⟩)) (by simp (disch:=(try simp only [sPu]);omega)) ?_
    rw [hpm]
    rintro e w8 ⟨hb8,dv8,rfl,hown8⟩
    rw [hwm] at hown8
    refine ⟨_,rfl,?_⟩
    iterate 1 (first | (apply ops_1;(focus (simp (disch:=(try simp only [sPu]);omega) ;try rfl))) | (apply ops_y;(focus rfl);(focus ((try simp only [sPu]);omega));(focus (simp (disch:=(try simp only [sPu]);omega);done));(focus (simp (disch:=(try simp only [sPu]);omega) ;try rfl))) | (apply ops_n;(focus rfl);(focus ((try simp only [sPu]);omega));(focus (first | (left;simp (disch:=(try simp only [sPu]);omega);done) | (right;simp (disch:=(try simp only [sPu]);omega);done)))))
    refine oNo rfl (opw_extract (vs:=#[dv8,.bool true]) (v:=dv8) (by simp (disch:=(try simp only [sPu]);omega)) rfl ?_)
    refine oNo rfl (opw_extract (vs:=#[dv8,.bool true]) (v:=.bool true) (by simp (disch:=(try simp only [sPu]);omega)) rfl ?_)
    repeat (first | (apply ops_1;(focus (simp (disch:=(try simp only [sPu]);omega) ;try rfl))) | (apply ops_y;(focus rfl);(focus ((try simp only [sPu]);omega));(focus (simp (disch:=(try simp only [sPu]);omega);done));(focus (simp (disch:=(try simp only [sPu]);omega) ;try rfl))) | (apply ops_n;(focus rfl);(focus ((try simp only [sPu]);omega));(focus (first | (left;simp (disch:=(try simp only [sPu]);omega);done) | (right;simp (disch:=(try simp only [sPu]);omega);done)))))
    refine oNi ?_
    simp only [Exit.then]
    have hs8:=hb8.size
    have hbw8:Below w.heap.size w w8:=hbw3.trans ⟨hb8.os,hb8.tape,hb8.output,hb8.size,fun k hk=>hb8.block k (by omega)⟩
    obtain ⟨S8,base8,cap8,rfl,hsr8,hS8⟩:=own_src hown8
    have hB1:BytesAt w8 (fun k=>k < w8.heap.size) base8 (wMsg v (flexAt flexO v) fs xs u):=bytesAt_src hsr8 fun sb h=>(hS8 sb h).2
    have hB2:BytesAt w8 (fun k=>k < w8.heap.size) base3 (wMsg v (flexAt flexO v) fs xs u):=bytesAt_src (hsr3.frame fun sb h=>hb8.block sb (hS3 sb h).2) fun sb h=>by have:=(hS3 sb h).2;omega
    refine SC.wp_seq (SC.wp_reg ?_)
    iterate 4 (first | (apply ops_1;(focus (simp (disch:=(try simp only [sPu]);omega) ;try rfl))) | (apply ops_y;(focus rfl);(focus ((try simp only [sPu]);omega));(focus (simp (disch:=(try simp only [sPu]);omega);done));(focus (simp (disch:=(try simp only [sPu]);omega) ;try rfl))) | (apply ops_n;(focus rfl);(focus ((try simp only [sPu]);omega));(focus (first | (left;simp (disch:=(try simp only [sPu]);omega);done) | (right;simp (disch:=(try simp only [sPu]);omega);done)))))
    refine ops_callg (argsV:=#[.slice base3 _ cap3,.slice base8 _ cap8]) rfl (by simp [sPu,hs]) (by simp (disch:=(try simp only [sPu]);omega)) oSame (cSame w8 _ base3 base8 cap3 cap8 hB2 hB1 f3) (by simp (disch:=(try simp only [sPu]);omega)) ?_
    rintro e w9 ⟨rfl,hb9⟩
    refine ⟨_,rfl,?_⟩
    repeat (first | (apply ops_1;(focus (simp (disch:=(try simp only [sPu]);omega) ;try rfl))) | (apply ops_y;(focus rfl);(focus ((try simp only [sPu]);omega));(focus (simp (disch:=(try simp only [sPu]);omega);done));(focus (simp (disch:=(try simp only [sPu]);omega) ;try rfl))) | (apply ops_n;(focus rfl);(focus ((try simp only [sPu]);omega));(focus (first | (left;simp (disch:=(try simp only [sPu]);omega);done) | (right;simp (disch:=(try simp only [sPu]);omega);done)))))
    refine oNi (SC.wp_ret ?_)
    try simp only [Exit.then]
    exact ret_tmp hr (by simp [dPu,hd]) ⟨by simp (disch:=(try simp only [sPu]);omega),hbw8.trans ⟨hb9.os,hb9.tape,hb9.output,hb9.size,fun k hk=>hb9.block k (by omega)⟩⟩
end
end Go.Proofs.YtdfhomhginbfeaaDoor.K
namespace Go.Proofs.YtdfhomhginbfeaaDoor.T
set_option linter.unusedSimpArgs false
set_option linter.unusedVariables false
theorem uv_len:∀ (k m:Nat) (b r:Bytes) (x:Nat),pUvGo k m b=some (x,r)→∃ n,x=n * m∧(uvarint n).length+r.length≤b.length
  | _,_,[],r,x,h=>by simp [pUvGo] at h
  | 0,m,u :: b,r,x,h=>by
    simp only [pUvGo] at h
    split at h
    · rename_i hu
      simp only [Option.some.injEq,Prod.mk.injEq] at h
      obtain ⟨rfl,rfl⟩:=h
      refine ⟨u.toNat,rfl,?_⟩
      rw [uvarint_le (by omega)]
      simp
      omega
    · cases h
  | k+1,m,u :: b,r,x,h=>by
    simp only [pUvGo] at h
    split at h
    · rename_i hu
      simp only [Option.some.injEq,Prod.mk.injEq] at h
      obtain ⟨rfl,rfl⟩:=h
      refine ⟨u.toNat,rfl,?_⟩
      rw [uvarint_le (by omega)]
      simp
      omega
    · obtain ⟨z,hz,h2⟩:=Option.map_eq_some_iff.1 h
      simp only [Prod.mk.injEq] at h2
      obtain ⟨rfl,rfl⟩:=h2
      obtain ⟨n,hn,hl⟩:=uv_len k (m * 128) b z.2 z.1 hz
      refine ⟨u.toNat % 128+128 * n,?_,?_⟩
      · rw [hn,Nat.add_mul,Nat.mul_comm 128 n,Nat.mul_assoc,Nat.mul_comm 128 m]
      · by_cases hs:u.toNat % 128+128 * n≤127
        · rw [uvarint_le hs]
          have:=uvarint_pos n
          simp only [List.length_cons,List.length_nil]
          omega
        · rw [uvarint_gt hs,show (u.toNat % 128+128 * n) / 128=n by omega]
          simp only [List.length_cons]
          omega
theorem pUv_len {b r:Bytes} {n:Nat} (h:pUv b=some (n,r)):(uvarint n).length+r.length≤b.length:=by
  obtain ⟨x,hx,hl⟩:=uv_len 4 1 b r n h
  rw [Nat.mul_one] at hx
  subst hx
  exact hl
theorem counted_len (flex null:Bool) (n size:Nat):flex=false→(counted flex null n size).length=size:=by
  rintro rfl
  cases null <;> simp [counted,fixed_length]
theorem uvarint_mono:∀ (n m:Nat),m≤n→(uvarint m).length≤(uvarint n).length:=by
  intro n
  induction n using Nat.strongRecOn with
  | ind n ih =>
    intro m h
    by_cases hm:m≤127
    · rw [uvarint_le hm]
      have:=uvarint_pos n
      simpa using this
    · rw [uvarint_gt hm,uvarint_gt (n:=n) (by omega)]
      simp only [List.length_cons]
      have:=ih (n / 128) (by omega) (m / 128) (Nat.div_le_div_right h)
      omega
theorem pCount_len {flex:Bool} {size:Nat} {b r:Bytes} {l:Int} (hs:1≤size) (h:pCount flex size b=some (l,r)):(∀ n:Nat,(n:Int)≤l→(counted flex false n size).length+r.length≤b.length)∧(counted flex true 0 size).length+r.length≤b.length∧(counted flex false 0 size).length+r.length≤b.length:=by
  cases flex
  · have h':pInt size b=some (l,r):=h
    have:=pInt_facts h'
    exact ⟨fun n _=>by rw [counted_len false false n size rfl];omega,by rw [counted_len false true 0 size rfl];omega,by rw [counted_len false false 0 size rfl];omega⟩
  · simp only [pCount,if_true] at h
    obtain ⟨x,r1,h1,h2⟩:=rThen_some h
    obtain ⟨rfl,rfl⟩:=rOk_some h2
    have h3:=pUv_len h1
    have h4:=uvarint_pos x
    refine ⟨fun n hn=>?_,?_,?_⟩
    · have:=uvarint_mono x (n+1) (by omega)
      simp only [counted,if_true,Bool.false_eq_true,if_false]
      omega
    · simp only [counted,if_true,List.length_cons,List.length_nil];omega
    · simp only [counted,if_true,Bool.false_eq_true,if_false]
      rw [uvarint_le (by omega)]
      simp only [List.length_cons,List.length_nil];omega
end Go.Proofs.YtdfhomhginbfeaaDoor.T
namespace Go.Proofs.YtdfhomhginbfeaaDoor.T
theorem whole_le (b:Bytes):(whole b).length≤b.length:=by simp [whole];omega
theorem prim_len {flex nul:Bool} {k:PK} {b r:Bytes} {t:Tree} (h:pPrim flex nul k b=some (t,r)):(wPrim flex (t.null && nul) t k).length+r.length≤b.length:=by
  have hint:∀ w,(rThen (pInt w) fun n=>rOk (tN n)) b=some (t,r)→w+r.length≤b.length:=by
    intro w h
    obtain ⟨x,r1,h1,h2⟩:=rThen_some h
    obtain ⟨rfl,rfl⟩:=rOk_some h2
    have:=pInt_facts h1
    omega
  cases k <;> simp only [pPrim] at h
  case bool =>
    obtain ⟨x,r1,h1,h2⟩:=rThen_some h
    obtain ⟨rfl,rfl⟩:=rOk_some h2
    have:=(pFix_facts h1).1
    simp only [wPrim,List.length_cons,List.length_nil]
    omega
  case u16 =>
    obtain ⟨x,r1,h1,h2⟩:=rThen_some h
    obtain ⟨rfl,rfl⟩:=rOk_some h2
    have:=(pFix_facts h1).1
    simp only [wPrim,fixed_length,PK.width]
    omega
  case uuid =>
    obtain ⟨x,r1,h1,h2⟩:=rThen_some h
    obtain ⟨rfl,rfl⟩:=rOk_some h2
    have:=pSpan_facts h1
    simp only [wPrim,List.length_take,List.length_append,List.length_replicate]
    omega
  case str =>
    obtain ⟨x,r1,h1,h2⟩:=rThen_some h
    obtain ⟨g1,g2,g3⟩:=pCount_len (by decide) h1
    split at h2
    · rename_i hc
      obtain ⟨rfl,rfl⟩:=rOk_some h2
      have hn:nul=true:=by simp at hc;exact hc.1
      subst hn
      simp only [wPrim,tNull,Tree.null,Bool.and_true,if_true,List.length_append,List.length_nil]
      omega
    · obtain ⟨s,r2,h3,h4⟩:=rThen_some h2
      obtain ⟨rfl,rfl⟩:=rOk_some h4
      have hs:=pSpan_facts h3
      have hw:=whole_le s
      have:=g1 (whole s).length (by omega)
      simp only [wPrim,tS,Tree.null,Tree.s,Bool.false_and,Bool.false_eq_true,if_false,List.length_append]
      omega
  case bytes =>
    obtain ⟨x,r1,h1,h2⟩:=rThen_some h
    obtain ⟨g1,g2,g3⟩:=pCount_len (by decide) h1
    split at h2
    · rename_i hc
      obtain ⟨rfl,rfl⟩:=rOk_some h2
      have hn:nul=true:=by simp at hc;exact hc.1
      subst hn
      simp only [wPrim,tNull,Tree.null,Bool.and_true,if_true,List.length_append,List.length_nil]
      omega
    · split at h2
      · obtain ⟨rfl,rfl⟩:=rOk_some h2
        simp only [wPrim,tS,Tree.null,Tree.s,Bool.false_and,Bool.false_eq_true,if_false,List.length_append,whole,List.take_nil,List.length_nil]
        omega
      · obtain ⟨s,r2,h3,h4⟩:=rThen_some h2
        obtain ⟨rfl,rfl⟩:=rOk_some h4
        have hs:=pSpan_facts h3
        have hw:=whole_le s
        have:=g1 (whole s).length (by omega)
        simp only [wPrim,tS,Tree.null,Tree.s,Bool.false_and,Bool.false_eq_true,if_false,List.length_append]
        omega
  all_goals
    have:=hint _ h
    simp only [wPrim,fixed_length]
    omega
end Go.Proofs.YtdfhomhginbfeaaDoor.T
namespace Go.Proofs.YtdfhomhginbfeaaDoor.T
theorem setTag_len (t:Nat × Bytes):∀ acc:List (Nat × Bytes),((setTag t acc).flatMap wTag).length≤(acc.flatMap wTag).length+(wTag t).length
  | []=>by simp [setTag]
  | x :: r=>by
    have ih:=setTag_len t r
    simp only [setTag]
    split
    · simp only [List.flatMap_cons,List.length_append]
      omega
    · split
      · simp only [List.flatMap_cons,List.length_append]
        omega
      · simp only [List.flatMap_cons,List.length_append]
        omega
theorem tagN_len:∀ (n:Nat) (acc:List (Nat × Bytes)) (b r:Bytes) (u:List (Nat × Bytes)),pTagN n acc b=some (u,r)→(u.flatMap wTag).length+r.length≤(acc.flatMap wTag).length+b.length∧u.length≤acc.length+n
  | 0,acc,b,r,u,h=>by
    obtain ⟨rfl,rfl⟩:=rOk_some h
    exact ⟨Nat.le_refl _,Nat.le_refl _⟩
  | n+1,acc,b,r,u,h=>by
    simp only [pTagN] at h
    obtain ⟨k,r1,h1,h⟩:=rThen_some h
    obtain ⟨s,r2,h2,h⟩:=rThen_some h
    obtain ⟨v,r3,h3,h⟩:=rThen_some h
    have ih:=tagN_len n _ r3 r u h
    have l1:=pUv_len h1
    have l2:=pUv_len h2
    have l3:=pSpan_facts h3
    have lw:=whole_le v
    have lm:=uvarint_mono s (whole v).length (by omega)
    have ls:=setTag_len (k,v) acc
    have ll:=setTag_length (k,v) acc
    simp only [wTag,List.length_append] at ls
    omega
theorem tags_len {flex:Bool} {b r:Bytes} {u:List (Nat × Bytes)} (h:pTags flex b=some (u,r)) (hf:FitTags u):(wTags flex u).length+r.length≤b.length:=by
  cases flex
  · simp only [pTags,Bool.false_eq_true,if_false] at h
    obtain ⟨rfl,rfl⟩:=rOk_some h
    simp [wTags]
  · simp only [pTags,if_true] at h
    obtain ⟨n,r1,h1,h2⟩:=rThen_some h
    have l1:=pUv_len h1
    have l2:=tagN_len n [] r1 r u h2
    simp only [List.flatMap_nil,List.length_nil,Nat.zero_add] at l2
    have lm:=uvarint_mono n u.length l2.2
    simp only [wTags,if_true,hf.1,List.length_append]
    omega
theorem many_len {p:Rd Tree} {w:Tree→Bytes} {Fit:Tree→Prop} (hp:∀ b r t,p b=some (t,r)→Fit t→(w t).length+r.length≤b.length):∀ (n:Nat) (b r:Bytes) (xs:List Tree),pMany p n b=some (xs,r)→(∀ x ∈ xs,Fit x)→(xs.flatMap w).length+r.length≤b.length∧xs.length=n
  | 0,b,r,xs,h,_=>by
    obtain ⟨rfl,rfl⟩:=rOk_some h
    simp
  | n+1,b,r,xs,h,hf=>by
    simp only [pMany] at h
    obtain ⟨x,r1,h1,h⟩:=rThen_some h
    obtain ⟨ys,r2,h2,h⟩:=rThen_some h
    obtain ⟨rfl,rfl⟩:=rOk_some h
    have l1:=hp b r1 x h1 (hf x (.head _))
    have ih:=many_len hp n r1 r2 ys h2 (fun y hy=>hf y (.tail _ hy))
    simp only [List.flatMap_cons,List.length_append,List.length_cons]
    omega
theorem pLen_len {flex:Bool} {b r:Bytes} {l:Int} (h:pLen flex b=some (l,r)):(∀ n:Nat,n≤l.toNat→(counted flex false n 4).length+r.length≤b.length)∧(counted flex true 0 4).length+r.length≤b.length:=by
  obtain ⟨x,r1,h1,h2⟩:=rThen_some h
  split at h2
  · cases h2
  · simp only [Option.some.injEq,Prod.mk.injEq] at h2
    obtain ⟨rfl,rfl⟩:=h2
    cases flex
    · have h':pInt 4 b=some (x,r1):=h1
      have:=pInt_facts h'
      exact ⟨fun n _=>by rw [counted_len false false n 4 rfl];omega,by rw [counted_len false true 0 4 rfl];omega⟩
    · simp only [if_true] at h1
      obtain ⟨y,r2,h3,h4⟩:=rThen_some h1
      obtain ⟨rfl,rfl⟩:=rOk_some h4
      have l1:=pUv_len h3
      have l2:=uvarint_pos y
      refine ⟨fun n hn=>?_,?_⟩
      · simp only [counted,if_true,Bool.false_eq_true,if_false]
        by_cases hy:n+1≤y
        · have:=uvarint_mono y (n+1) hy
          omega
        · have hn0:n=0:=by
            split at hn
            · omega
            · split at hn <;> omega
          subst hn0
          rw [uvarint_le (by omega)]
          simp only [List.length_cons,List.length_nil]
          omega
      · simp only [counted,if_true,List.length_cons,List.length_nil]
        omega
end Go.Proofs.YtdfhomhginbfeaaDoor.T
namespace Go.Proofs.YtdfhomhginbfeaaDoor.T
def wV (ver:Int) (flex:Bool) (ty:Ty) (nul:Bool) (t:Tree):Bytes :=
  match ty with
  | .struct _ _ _ _ _=>if nul then (if t.null then [255] else 1 :: wTy ver flex ty false t) else wTy ver flex ty false t
  | _=>wTy ver flex ty (t.null && nul) t
def isStr:Ty→Bool
  | .struct _ _ _ _ _=>true
  | _=>false
mutual
def nlTy (ver:Int):Ty→Bool
  | .prim _=>true
  | .list _ _ _ of=>nlTy ver of
  | .struct _ _ _ _ fs=>nlFs ver fs
def nlFs (ver:Int):Fs→Bool
  | .nil=>true
  | .cons h ty r=>(!h.has ver || (nlTy ver ty && (!isStr ty || (decide (h.null < 0) || decide (h.null≤ver))))) && nlFs ver r
end
mutual
theorem ty_len (ver:Int) (flex:Bool):∀ (ty:Ty) (nul:Bool) (b r:Bytes) (t:Tree),nlTy ver ty=true→pTy ver flex ty nul b=some (t,r)→FitTy ver ty t→(wV ver flex ty nul t).length+r.length≤b.length
  | .prim k,nul,b,r,t,_,h,_=>by
    simp only [pTy] at h
    simp only [wV,wTy]
    exact prim_len h
  | .list a e s of,nul,b,r,t,hnl,h,hf=>by
    simp only [nlTy] at hnl
    simp only [pTy] at h
    obtain ⟨l,r1,h1,h2⟩:=rThen_some h
    obtain ⟨g1,g2⟩:=pLen_len h1
    split at h2
    · rename_i hc
      obtain ⟨rfl,rfl⟩:=rOk_some h2
      have hn:nul=true:=by simp at hc;exact hc.1
      subst hn
      simp only [wV,wTy,tNull,Tree.null,Bool.and_true,if_true,List.length_append,List.length_nil,List.flatMap_nil]
      omega
    · obtain ⟨xs,r2,h3,h4⟩:=rThen_some h2
      obtain ⟨rfl,rfl⟩:=rOk_some h4
      simp only [FitTy,tL,Tree.l] at hf
      have e:∀ x,wV ver flex of false x=wTy ver flex of false x:=by intro x;cases of <;> simp [wV]
      have hm:=many_len (w:=fun x=>wTy ver flex of false x) (Fit:=FitTy ver of) (fun b r t hp hft=>by
        have:=ty_len ver flex of false b r t hnl hp hft
        rw [e] at this
        exact this) l.toNat r1 r2 xs h3 hf.2
      have:=g1 xs.length (by omega)
      simp only [wV,wTy,tL,Tree.null,Tree.l,Bool.false_and,Bool.false_eq_true,if_false,List.length_append,List.take_of_length_le hf.1]
      omega
  | .struct a s d tg fs,nul,b,r,t,hnl,h,hf=>by
    simp only [nlTy] at hnl
    simp only [pTy] at h
    obtain ⟨p,r1,h1,h2⟩:=rThen_some h
    have hp:(if nul then 1 else 0)+r1.length≤b.length:=by
      cases nul
      · simp only [Bool.false_eq_true,if_false] at h1 ⊢
        obtain ⟨-,rfl⟩:=rOk_some h1
        omega
      · simp only [if_true] at h1 ⊢
        have:=pInt_facts h1
        omega
    split at h2
    · rename_i hc
      obtain ⟨rfl,rfl⟩:=rOk_some h2
      have hn:nul=true:=by simp at hc;exact hc.1
      subst hn
      simp only [wV,tNull,Tree.null,if_true,List.length_cons,List.length_nil] at hp ⊢
      omega
    · obtain ⟨xs,r2,h3,h4⟩:=rThen_some h2
      obtain ⟨u,r3,h5,h6⟩:=rThen_some h4
      obtain ⟨rfl,rfl⟩:=rOk_some h6
      have hff:FitFs ver fs xs∧FitTags u:=by
        simp only [FitTy] at hf
        rcases hf with h | h
        · simp [tNull] at h
        · exact h
      have l1:=fs_len ver flex fs r1 r2 xs hnl h3 hff.1
      have l2:=tags_len h5 hff.2
      have l3:(wTy ver flex (.struct a s d tg fs) false (.mk 0 [] false xs u)).length=(wFs ver flex fs xs).length+(wTags flex u).length:=by simp [wTy,Tree.l,Tree.u]
      cases nul
      · simp only [wV,Bool.false_eq_true,if_false] at hp ⊢
        omega
      · simp only [wV,if_true,Tree.null,Bool.false_eq_true,if_false,List.length_cons] at hp ⊢
        omega
theorem fs_len (ver:Int) (flex:Bool):∀ (fs:Fs) (b r:Bytes) (ts:List Tree),nlFs ver fs=true→pFs ver flex fs b=some (ts,r)→FitFs ver fs ts→(wFs ver flex fs ts).length+r.length≤b.length
  | .nil,b,r,ts,_,h,_=>by
    simp only [pFs] at h
    obtain ⟨rfl,rfl⟩:=rOk_some h
    simp [wFs]
  | .cons hd ty fs,b,r,ts,hnl,h,hf=>by
    simp only [nlFs,Bool.and_eq_true,Bool.or_eq_true,Bool.not_eq_true'] at hnl
    simp only [pFs] at h
    obtain ⟨x,r1,h1,h2⟩:=rThen_some h
    obtain ⟨xs,r2,h3,h4⟩:=rThen_some h2
    obtain ⟨rfl,rfl⟩:=rOk_some h4
    simp only [FitFs,List.headD_cons,List.tail_cons] at hf
    have l2:=fs_len ver flex fs r1 r2 xs hnl.2 h3 hf.2
    rw [wFs_cons,List.length_append,List.headD_cons,List.tail_cons]
    by_cases hh:hd.has ver=true
    · rw [if_pos hh] at h1 ⊢
      have hn2:=hnl.1.resolve_left (by rw [hh];simp)
      have l1:=ty_len ver flex ty (nulAt ver hd ty) b r1 x hn2.1 h1 (hf.1 hh)
      have e:(wField ver flex hd ty x).length≤(wV ver flex ty (nulAt ver hd ty) x).length:=by
        cases ty with
        | prim k=>simp only [wField,wV,nulAt,Hd.isNull];exact Nat.le_refl _
        | list _ _ _ _=>simp only [wField,wV,nulAt,Hd.isNull];exact Nat.le_refl _
        | struct _ _ _ _ _ =>
          simp only [isStr,Bool.true_eq_false,false_or,decide_eq_true_eq] at hn2
          simp only [wField,wV,nulAt,decide_eq_true_eq,Hd.isNull]
          by_cases h0:0≤hd.null
          · have hv:hd.null≤ver:=by rcases hn2.2 with h | h <;> omega
            simp only [h0,hv,decide_true,Bool.and_true,if_true]
            exact Nat.le_refl _
          · simp only [h0,if_false]
            exact Nat.le_refl _
      omega
    · rw [if_neg hh] at h1 ⊢
      obtain ⟨-,rfl⟩:=rOk_some h1
      simp only [List.length_nil]
      omega
end
theorem msg_len {ver:Int} {flex:Bool} {fs:Fs} {b r:Bytes} {ts:List Tree} {u:List (Nat × Bytes)} (hnl:nlFs ver fs=true) (hb:b.length≤most) (h:pMsg ver flex fs b=some ((ts,u),r)):(wMsg ver flex fs ts u).length≤b.length:=by
  have hf:=msg_fit hb h
  obtain ⟨xs,r1,h1,h2⟩:=rThen_some h
  obtain ⟨v,r2,h3,h4⟩:=rThen_some h2
  have h5:=rOk_some h4
  simp only [Prod.mk.injEq] at h5
  obtain ⟨⟨rfl,rfl⟩,rfl⟩:=h5
  have l1:=fs_len ver flex fs b r1 xs hnl h1 hf.1
  have l2:=tags_len h3 hf.2
  simp only [wMsg,List.length_append]
  omega
end Go.Proofs.YtdfhomhginbfeaaDoor.T
namespace Go.Proofs.YtdfhomhginbfeaaDoor.K
open Go Go.RowKit Go.Proofs.YtdfhomhginbfeaaDoor.T
open Go.ChangeShapes Go.WideShapes Go.Deep
set_option linter.unusedSimpArgs false
set_option linter.unusedVariables false
theorem open_data {H:Type} {enc:TypeId × Value→H} {P:Program} {w:World} {t b0 fuel:Nat} {v:Value} {x:DataW H × List MemPlace} {B:DataW H→Nat} (ht:sl8 P t=true) (hB:BulkC B) (hval:Value.okWide P w .any b0 t v)
    (h:DataW.trod enc P w 0 (fun _=>true) true fuel t v.cells.toList=some x) :
    ∃ (base:Option Addr) (cap:Nat) (data:Bytes) (S:Option Nat),v=.slice base data.length cap∧SrcAt w S base data∧∀ sb,S=some sb→sb < w.heap.size:=by
  obtain ⟨base,cap,bs,h1,hcap,_,h2⟩:=open_u8s ht h hB
  obtain ⟨e,hu,he,_⟩:=sl8_of ht
  have hv:v=.slice base bs.length cap:=by
    cases v <;> simp [Value.cells] at h1 ⊢
    case slice a b c=>exact h1
    case agg cs =>
      simp only [Value.okWide,hu] at hval
      unfold Cell.okWide at hval
      rw [hu] at hval
      simp [Cell.ok,hu] at hval
  subst hv
  cases base with
  | none =>
    rcases h2 with rfl | ⟨b,o,h3,_⟩
    · exact ⟨none,cap,[],none,rfl,⟨rfl,rfl⟩,fun sb h=>by cases h⟩
    · cases h3
  | some a =>
    have hok:Cell.ok P w .any b0 t (.slice (some a) bs.length cap):=by
      simp only [Value.okWide,hu] at hval
      unfold Cell.okWide at hval
      rw [hu] at hval
      exact hval
    simp only [Cell.ok,hu] at hok
    obtain ⟨_,_,_,hsp,row,cells,hsh,_⟩:=hok
    have hlt:a.block < w.heap.size:=by
      simp only [World.shape?] at hsh
      split at hsh
      · rename_i hb;exact (Array.getElem?_eq_some_iff.1 hb).1
      · cases hsh
    have ha:a=⟨a.block,a.off,none⟩:=by cases a;simp only at hsp;rw [hsp]
    refine ⟨some a,cap,bs,some a.block,rfl,⟨a.off,by rw [← ha],?_⟩,fun sb h=>by cases h;exact hlt⟩
    rcases h2 with rfl | ⟨b,o,h3,_,h4⟩
    · intro j u hj;simp at hj
    · cases h3;exact h4
end Go.Proofs.YtdfhomhginbfeaaDoor.K
