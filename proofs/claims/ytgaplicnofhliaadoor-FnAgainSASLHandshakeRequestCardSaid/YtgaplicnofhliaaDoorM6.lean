/- Generic texts: R27 R28 R5 R6. No condition. -/
import Derived.Test.YtgaplicnofhliaaDoorM5
namespace Go.Proofs.YtgaplicnofhliaaDoor.K
open Go Go.RowKit Go.Proofs.YtgaplicnofhliaaDoor.T
attribute [local simp] eTm eCo pNo gTp gTn qv qcall vop iop
set_option linter.unusedVariables false
set_option linter.unusedSimpArgs false
set_option maxHeartbeats 4000000
def sc_ubody (T0 T1 T2 T3:Nat):SC:=.seq (.reg [⟨some 21,.indexAddr T0 (.tmp 17) (.tmp 19),none⟩,ld 22 T2 21,⟨some 8,.alloc T2,none⟩,⟨none,.store T2 (.tmp 8) (.tmp 22),none⟩]) (.seq (.reg [⟨some 9,.assign (.const (.int .i64 0)),none⟩]) (.seq (.block 2 (.loop (.seq (.seq (.dreg [mv 23 9,mv 24 6,lenOp 25 T0 24,⟨some 26,.binOp .lss T1 (.tmp 23) (.tmp 25) T1,none⟩,mv 27 26,⟨some 28,.move (.tmp 6),some (4,true)⟩,⟨some 29,.move (.tmp 9),some (4,true)⟩,⟨some 30,.indexAddr T0 (.tmp 28) (.tmp 29),some (4,true)⟩,⟨some 31,.fieldAddr T2 (.tmp 30) 0,some (4,true)⟩,⟨some 32,.load T3 (.tmp 31),some (4,true)⟩,⟨some 33,.fieldAddr T2 (.tmp 8) 0,some (4,true)⟩,⟨some 34,.load T3 (.tmp 33),some (4,true)⟩,⟨some 35,.binOp .lss T3 (.tmp 32) (.tmp 34) T3,some (4,true)⟩,⟨some 36,.pick (.tmp 27) (.tmp 35) (.const (.bool false)),none⟩] [[],[],[1],[0,2],[3],[4],[4],[5,6,4],[7,4],[8,4],[4],[10,4],[9,11,4],[4,12]]) (.cond (.tmp 36) (.skip) (.exit 2))) (.block 3 (.reg [mv 37 9,⟨some 38,.binOp .add T1 (.tmp 37) (.const (.int .i64 1)) T1,none⟩,asg 9 38]))))) (.seq (.seq (.dreg [fa 39 T2 8 0,ld 40 T3 39,mv 41 5,⟨some 42,.binOp .lss T3 (.tmp 40) (.tmp 41) T3,none⟩,mv 43 42,⟨some 44,.move (.tmp 9),some (4,false)⟩,⟨some 45,.move (.tmp 6),some (4,false)⟩,⟨some 46,.call ⟨.builtin .len,#[(.tmp 45)],#[T0]⟩,some (4,false)⟩,⟨some 47,.binOp .lss T1 (.tmp 44) (.tmp 46) T1,some (4,false)⟩,⟨some 48,.move (.tmp 47),some (4,false)⟩,⟨some 49,.move (.tmp 6),some (9,true)⟩,⟨some 50,.move (.tmp 9),some (9,true)⟩,⟨some 51,.indexAddr T0 (.tmp 49) (.tmp 50),some (9,true)⟩,⟨some 52,.fieldAddr T2 (.tmp 51) 0,some (9,true)⟩,⟨some 53,.load T3 (.tmp 52),some (9,true)⟩,⟨some 54,.fieldAddr T2 (.tmp 8) 0,some (9,true)⟩,⟨some 55,.load T3 (.tmp 54),some (9,true)⟩,⟨some 56,.binOp .eql T3 (.tmp 53) (.tmp 55) T3,some (9,true)⟩,⟨some 57,.pick (.tmp 48) (.tmp 56) (.const (.bool false)),some (4,false)⟩,⟨some 58,.pick (.tmp 43) (.const (.bool true)) (.tmp 57),none⟩] [[],[0],[],[1,2],[3],[4],[4],[6,4],[5,7,4],[8,4,4],[9],[9],[10,11,9],[12,9],[13,9],[9],[15,9],[14,16,9],[9,17,4],[4,18]]) (.cond (.tmp 58) (.exit 1) (.skip))) (.seq (.reg [mv 59 6,⟨some 60,.build T2 #[],none⟩,⟨some 61,.buildSlice T0 1 #[(0,(.tmp 60))],none⟩,⟨some 62,.call ⟨.builtin .append,#[(.tmp 59),(.tmp 61)],#[T0,T0]⟩,none⟩,asg 6 62]) (.seq (.seq (.reg [mv 63 6,lenOp 64 T0 63,⟨some 65,.binOp .sub T1 (.tmp 64) (.const (.int .i64 1)) T1,none⟩,asg 10 65]) (.block 4 (.loop (.seq (.seq (.reg [mv 66 10,mv 67 9,⟨some 68,.binOp .gtr T1 (.tmp 66) (.tmp 67) T1,none⟩]) (.cond (.tmp 68) (.skip) (.exit 4))) (.seq (.block 5 (.reg [mv 71 6,mv 72 10,mv 73 6,mv 74 10,⟨some 75,.binOp .sub T1 (.tmp 74) (.const (.int .i64 1)) T1,none⟩,⟨some 76,.indexAddr T0 (.tmp 73) (.tmp 75),none⟩,ld 77 T2 76,⟨some 78,.indexAddr T0 (.tmp 71) (.tmp 72),none⟩,⟨none,.store T2 (.tmp 78) (.tmp 77),none⟩])) (.reg [mv 69 10,⟨some 70,.binOp .sub T1 (.tmp 69) (.const (.int .i64 1)) T1,none⟩,asg 10 70])))))) (.reg [mv 79 6,mv 80 9,ld 81 T2 8,⟨some 82,.indexAddr T0 (.tmp 79) (.tmp 80),none⟩,⟨none,.store T2 (.tmp 82) (.tmp 81),none⟩]))))))
def sc_utail (T0 T1 T2 T3:Nat):SC:=.seq (.seq (.dreg [fa 39 T2 8 0,ld 40 T3 39,mv 41 5,⟨some 42,.binOp .lss T3 (.tmp 40) (.tmp 41) T3,none⟩,mv 43 42,⟨some 44,.move (.tmp 9),some (4,false)⟩,⟨some 45,.move (.tmp 6),some (4,false)⟩,⟨some 46,.call ⟨.builtin .len,#[(.tmp 45)],#[T0]⟩,some (4,false)⟩,⟨some 47,.binOp .lss T1 (.tmp 44) (.tmp 46) T1,some (4,false)⟩,⟨some 48,.move (.tmp 47),some (4,false)⟩,⟨some 49,.move (.tmp 6),some (9,true)⟩,⟨some 50,.move (.tmp 9),some (9,true)⟩,⟨some 51,.indexAddr T0 (.tmp 49) (.tmp 50),some (9,true)⟩,⟨some 52,.fieldAddr T2 (.tmp 51) 0,some (9,true)⟩,⟨some 53,.load T3 (.tmp 52),some (9,true)⟩,⟨some 54,.fieldAddr T2 (.tmp 8) 0,some (9,true)⟩,⟨some 55,.load T3 (.tmp 54),some (9,true)⟩,⟨some 56,.binOp .eql T3 (.tmp 53) (.tmp 55) T3,some (9,true)⟩,⟨some 57,.pick (.tmp 48) (.tmp 56) (.const (.bool false)),some (4,false)⟩,⟨some 58,.pick (.tmp 43) (.const (.bool true)) (.tmp 57),none⟩] [[],[0],[],[1,2],[3],[4],[4],[6,4],[5,7,4],[8,4,4],[9],[9],[10,11,9],[12,9],[13,9],[9],[15,9],[14,16,9],[9,17,4],[4,18]]) (.cond (.tmp 58) (.exit 1) (.skip))) (.seq (.reg [mv 59 6,⟨some 60,.build T2 #[],none⟩,⟨some 61,.buildSlice T0 1 #[(0,(.tmp 60))],none⟩,⟨some 62,.call ⟨.builtin .append,#[(.tmp 59),(.tmp 61)],#[T0,T0]⟩,none⟩,asg 6 62]) (.seq (.seq (.reg [mv 63 6,lenOp 64 T0 63,⟨some 65,.binOp .sub T1 (.tmp 64) (.const (.int .i64 1)) T1,none⟩,asg 10 65]) (.block 4 (.loop (.seq (.seq (.reg [mv 66 10,mv 67 9,⟨some 68,.binOp .gtr T1 (.tmp 66) (.tmp 67) T1,none⟩]) (.cond (.tmp 68) (.skip) (.exit 4))) (.seq (.block 5 (.reg [mv 71 6,mv 72 10,mv 73 6,mv 74 10,⟨some 75,.binOp .sub T1 (.tmp 74) (.const (.int .i64 1)) T1,none⟩,⟨some 76,.indexAddr T0 (.tmp 73) (.tmp 75),none⟩,ld 77 T2 76,⟨some 78,.indexAddr T0 (.tmp 71) (.tmp 72),none⟩,⟨none,.store T2 (.tmp 78) (.tmp 77),none⟩])) (.reg [mv 69 10,⟨some 70,.binOp .sub T1 (.tmp 69) (.const (.int .i64 1)) T1,none⟩,asg 10 70])))))) (.reg [mv 79 6,mv 80 9,ld 81 T2 8,⟨some 82,.indexAddr T0 (.tmp 79) (.tmp 80),none⟩,⟨none,.store T2 (.tmp 82) (.tmp 81),none⟩])))
def sc_urest (T0 T1 T2 T3:Nat):SC:=.seq (.reg [mv 59 6,⟨some 60,.build T2 #[],none⟩,⟨some 61,.buildSlice T0 1 #[(0,(.tmp 60))],none⟩,⟨some 62,.call ⟨.builtin .append,#[(.tmp 59),(.tmp 61)],#[T0,T0]⟩,none⟩,asg 6 62]) (.seq (.seq (.reg [mv 63 6,lenOp 64 T0 63,⟨some 65,.binOp .sub T1 (.tmp 64) (.const (.int .i64 1)) T1,none⟩,asg 10 65]) (.block 4 (.loop (.seq (.seq (.reg [mv 66 10,mv 67 9,⟨some 68,.binOp .gtr T1 (.tmp 66) (.tmp 67) T1,none⟩]) (.cond (.tmp 68) (.skip) (.exit 4))) (.seq (.block 5 (.reg [mv 71 6,mv 72 10,mv 73 6,mv 74 10,⟨some 75,.binOp .sub T1 (.tmp 74) (.const (.int .i64 1)) T1,none⟩,⟨some 76,.indexAddr T0 (.tmp 73) (.tmp 75),none⟩,ld 77 T2 76,⟨some 78,.indexAddr T0 (.tmp 71) (.tmp 72),none⟩,⟨none,.store T2 (.tmp 78) (.tmp 77),none⟩])) (.reg [mv 69 10,⟨some 70,.binOp .sub T1 (.tmp 69) (.const (.int .i64 1)) T1,none⟩,asg 10 70])))))) (.reg [mv 79 6,mv 80 9,ld 81 T2 8,⟨some 82,.indexAddr T0 (.tmp 79) (.tmp 80),none⟩,⟨none,.store T2 (.tmp 82) (.tmp 81),none⟩]))
section
variable {P:Program} {X:STy} {f fKn:FuncId} {fn:Func}
theorem w64q {n:Int} (h1:-9223372036854775808≤n) (h2:n < 9223372036854775808):IntKind.i64.wrap n=n:=by
  simp only [IntKind.wrap,IntKind.bits,IntKind.signed]
  simp
  split <;> omega
structure UL (X:STy) (ub:Option Addr) (uc:Nat) (l:List (Nat × Bytes)) (w:World) (i:Nat) (acc:List (Nat × Bytes)) (rows:List (Value × Value)) (v:Value) (a:Act) (w':World):Prop where
  size:a.tmps.size=85
  defers:a.defers=[]
  s5:getT a 5=.int .u32 0
  s6:getT a 6=v
  s17:getT a 17=.slice ub l.length uc
  s18:getT a 18=.int .i64 (l.length:Int)
  s19:getT a 19=.int .i64 (i:Int)
  rws:TRows w acc rows
  out:Out2 w' w.heap.size X.Tg v rows
  below:Below w.heap.size w w'
theorem Out2.frame {w w':World} {B T:Nat} {v:Value} {rows:List (Value × Value)} (h:Out2 w B T v rows) (hb:∀ k,B≤k→k < w.heap.size→w'.heap[k]?=w.heap[k]?):Out2 w' B T v rows:=by
  refine ⟨h.1,h.2.imp id ?_⟩
  rintro ⟨g,cap,cur,q1,q2,q3,q4⟩
  exact ⟨g,cap,cur,q1,q2,by rw [hb g q2 (Array.getElem?_eq_some_iff.1 q3).1];exact q3,q4⟩
structure UT (X:STy) (bb:Option Addr) (uc:Nat) (l:List (Nat × Bytes)) (w:World) (i tb q:Nat) (x:Nat × Bytes) (r:Value × Value) (acc:List (Nat × Bytes)) (rows:List (Value × Value)) (v:Value) (a:Act) (w':World):Prop where
  size:a.tmps.size=85
  defers:a.defers=[]
  s5:getT a 5=.int .u32 0
  s6:getT a 6=v
  s8:getT a 8=.pointer (some ⟨tb,0,none⟩)
  s9:getT a 9=.int .i64 (q:Int)
  s17:getT a 17=.slice bb l.length uc
  s18:getT a 18=.int .i64 (l.length:Int)
  s19:getT a 19=.int .i64 (i:Int)
  hq:q≤acc.length
  less:∀ j y,j < q→acc[j]?=some y→y.1 < x.1
  ge:∀ y,acc[q]?=some y→¬ y.1 < x.1
  tbw:w.heap.size≤tb
  row:w'.heap[tb]?=some (.cells #[r.1,r.2] X.Tg (0,0))
  hr:TRow w x r
  rws:TRows w acc rows
  out:Out2 w' w.heap.size X.Tg v rows
  tbv:v.ownBlock ≠ some tb
  below:Below w.heap.size w w'
theorem unk_tail (hX:stOK P X=true) (hm:P.follows .mixedOrders=true) (hT:TagT P X) {ub:Option Addr} {uc i tb q:Nat} {l:List (Nat × Bytes)} {w w5:World} {acc:List (Nat × Bytes)} {rows:List (Value × Value)} {v:Value} {a:Act} {Q:Exit→Act→World→Prop} {x:Nat × Bytes} {r:Value × Value}
    (h:UT X ub uc l w i tb q x r acc rows v a w5) (hacc:acc.length≤32767)
    (hsame:∀ a' w',UL X ub uc l w i (insTag x acc) rows v a' w'→Q (.exit 1) a' w') (hnew:∀ a' w' rows' v',UL X ub uc l w i (insTag x acc) rows' v' a' w'→Q .normal a' w'):(sc_utail X.Tgs X.I X.Tg X.U32).wp P Q a w5:=by
  have hst:=st_facts hX
  obtain ⟨p,pd,p5,p6,p8,p9,p17,p18,p19,hq,hless,hge,htbw,hrow,hxr,hrows,hout,htbv,hbel⟩:=h
  have hlr:=hrows.1
  have htb:tb < w5.heap.size:=(Array.getElem?_eq_some_iff.1 hrow).1
  have hkey:w5.drew.cell? ⟨tb,0,none⟩=some (.int .u32 (x.1:Int)):=by
    have:w5.cell? ⟨tb,0,none⟩=some (.int .u32 (x.1:Int)):=by rw [cell_of_row _ _ _ _ _ _ hrow,← hxr.1];rfl
    exact this
  have hx0:decide ((x.1:Int) < 0)=false:=decide_eq_false (by omega)
  have hx00:¬ ((x.1:Int) < 0):=by omega
  obtain ⟨vbase,vcap,hv,hvc',hv2⟩:=hout.at
  have hout':Out2 w5.drew w.heap.size X.Tg v rows:=hout
  have go:∀ a:Act,a.tmps.size=85∧a.defers=[]∧getT a 5=.int .u32 0∧getT a 6=v∧getT a 8=.pointer (some ⟨tb,0,none⟩)∧getT a 9=.int .i64 (q:Int)∧getT a 17=.slice ub l.length uc∧getT a 18=.int .i64 (l.length:Int)∧getT a 19=.int .i64 (i:Int)→(∀ y,acc[q]?=some y→x.1 < y.1)→(sc_urest X.Tgs X.I X.Tg X.U32).wp P Q a w5.drew:=by
    clear p pd p5 p6 p8 p9 p17 p18 p19
    rintro a ⟨p,pd,p5,p6,p8,p9,p17,p18,p19⟩ hgt
    refine SC.wp_seq (SC.wp_reg ?_)
    iterate 1 (first | (apply ops_1;(focus (simp (disch:=(try simp only [sPu]);omega) [p6];try rfl))) | (apply ops_y;(focus rfl);(focus ((try simp only [sPu]);omega));(focus (simp (disch:=(try simp only [sPu]);omega) [p6];done));(focus (simp (disch:=(try simp only [sPu]);omega) [p6];try rfl))) | (apply ops_n;(focus rfl);(focus ((try simp only [sPu]);omega));(focus (first | (left;simp (disch:=(try simp only [sPu]);omega) [p6];done) | (right;simp (disch:=(try simp only [sPu]);omega);done)))))
    refine oNo rfl (opw_build (cs:=#[.int .u32 0,.slice none 0 0]) (by simpa using hT.built) ?_)
    refine oNo rfl (opw_build2 (r:=(.int .u32 0,.slice none 0 0)) hT (by simp (disch:=(try simp only [sPu]);omega)) rfl rfl ?_)
    change opsw P _ _ _ _ (w5.drew.alloc (.cells #[.int .u32 0,.slice none 0 0] X.Tg))
    have hnb:=heap_alloc_new w5.drew (.cells #[.int .u32 0,.slice none 0 0] X.Tg)
    have hds:w5.drew.heap.size=w5.heap.size:=rfl
    have hws5:w.heap.size≤w5.heap.size:=hbel.size
    have hsz6:(w5.drew.alloc (.cells #[.int .u32 0,.slice none 0 0] X.Tg)).heap.size=w5.heap.size+1:=by simp
    have hoth6:∀ k,k < w5.heap.size→(w5.drew.alloc (.cells #[.int .u32 0,.slice none 0 0] X.Tg)).heap[k]?=w5.heap[k]?:=fun k hk=>Below.heap_alloc _ _ _ hk
    have hbel6:Below w.heap.size w (w5.drew.alloc (.cells #[.int .u32 0,.slice none 0 0] X.Tg)):=hbel.drew.alloc hbel.size _
    have hnb':∀ (i:Nat) (u:Value),[(Value.int .u32 0),.slice none 0 0][i]?=some u→(w5.drew.alloc (.cells #[.int .u32 0,.slice none 0 0] X.Tg)).cell? ((⟨w5.drew.heap.size,0,none⟩:Addr).add i)=some u:=fun i u hi=>by
      rw [add_none,cell_of_row _ _ _ _ _ _ hnb]
      simpa using hi
    have hout6:Out2 (w5.drew.alloc (.cells #[.int .u32 0,.slice none 0 0] X.Tg)) w.heap.size X.Tg v rows:=hout.frame fun k h1 h2=>hoth6 k h2
    refine oNo rfl (opw_append2 (B:=w.heap.size) (lv:=v) (rows:=rows) (r:=(.int .u32 0,.slice none 0 0)) (ad:=⟨w5.drew.heap.size,0,none⟩) hT rfl (by simp (disch:=(try simp only [sPu]);omega) [p6]) (by simp (disch:=(try simp only [sPu]);omega)) hout6 (by omega) (by omega) hnb' rfl rfl fun v7 w7 hout7 hgr7 hown7=>?_)
    have hrow7:w7.heap[tb]?=some (.cells #[r.1,r.2] X.Tg (0,0)):=by
      rw [hgr7.block tb (by omega) (fun e=>htbv e.symm),hoth6 tb htb]
      exact hrow
    have htb7:v7.ownBlock ≠ some tb:=by
      rcases hown7 with e | ⟨bb,e,hb⟩
      · rw [e];exact htbv
      · rw [e];intro e2;cases e2;omega
    have hbel7:Below w.heap.size w w7:=hbel6.trans ⟨hgr7.os,hgr7.tape,hgr7.output,hgr7.size,fun k hk=>hgr7.block k (by have:=hbel6.size;omega) (fun e=>by have:=(World.ownsRow.lt hout6 k e.symm).1;omega)⟩
    repeat (first | (apply ops_1;(focus (simp (disch:=(try simp only [sPu]);omega) ;try rfl))) | (apply ops_y;(focus rfl);(focus ((try simp only [sPu]);omega));(focus (simp (disch:=(try simp only [sPu]);omega);done));(focus (simp (disch:=(try simp only [sPu]);omega) ;try rfl))) | (apply ops_n;(focus rfl);(focus ((try simp only [sPu]);omega));(focus (first | (left;simp (disch:=(try simp only [sPu]);omega);done) | (right;simp (disch:=(try simp only [sPu]);omega);done)))))
    refine oNi (SC.wp_seq (SC.wp_seq (SC.wp_reg ?_)))
    obtain ⟨vb7,vc7,hv7,hvc7,hv72⟩:=hout7.at
    have hl7:(rows ++ [((.int .u32 0,.slice none 0 0):Value × Value)]).length=rows.length+1:=by simp
    rw [hl7] at hv7
    have hwl:IntKind.i64.wrap (rows.length:Int)=(rows.length:Int):=w64q (by omega) (by omega)
    have p6v:=hv7
    repeat (first | (apply ops_1;(focus (simp (disch:=(try simp only [sPu]);omega) [hst,hv7,hwl];try rfl))) | (apply ops_y;(focus rfl);(focus ((try simp only [sPu]);omega));(focus (simp (disch:=(try simp only [sPu]);omega) [hst,hv7,hwl];done));(focus (simp (disch:=(try simp only [sPu]);omega) [hst,hv7,hwl];try rfl))) | (apply ops_n;(focus rfl);(focus ((try simp only [sPu]);omega));(focus (first | (left;simp (disch:=(try simp only [sPu]);omega) [hst,hv7,hwl];done) | (right;simp (disch:=(try simp only [sPu]);omega);done)))))
    refine oNi ?_
    simp only [Exit.then]
    have hins:insTag x acc=acc.take q ++ x :: acc.drop q:=ins_new hq hless hgt
    refine SC.wp_block (SC.wp_loop (fun a' w'=>∃ (k:Nat) (z:Value × Value),a'.tmps.size=85∧a'.defers=[]∧getT a' 5=.int .u32 0∧getT a' 6=.slice vb7 (rows.length+1) vc7∧getT a' 8=.pointer (some ⟨tb,0,none⟩)∧getT a' 9=.int .i64 (q:Int)∧getT a' 10=.int .i64 (k:Int)∧getT a' 17=.slice ub l.length uc∧getT a' 18=.int .i64 (l.length:Int)∧getT a' 19=.int .i64 (i:Int)∧q≤k∧k≤rows.length ∧
        Out2 w' w.heap.size X.Tg (.slice vb7 (rows.length+1) vc7) (rows.take k ++ z :: rows.drop k)∧w'.heap[tb]?=some (.cells #[r.1,r.2] X.Tg (0,0))∧Below w.heap.size w w')
      (fun a' _=>match getT a' 10 with | .int _ m=>m.toNat | _=>0) ⟨rows.length,(.int .u32 0,.slice none 0 0),by simp [sPu,p],by simp [dPu,pd],by simp (disch:=(try simp only [sPu]);omega) [p5],by simp (disch:=(try simp only [sPu]);omega) [hv7],by simp (disch:=(try simp only [sPu]);omega) [p8],by simp (disch:=(try simp only [sPu]);omega) [p9],by simp (disch:=(try simp only [sPu]);omega),by simp (disch:=(try simp only [sPu]);omega) [p17],by simp (disch:=(try simp only [sPu]);omega) [p18],by simp (disch:=(try simp only [sPu]);omega) [p19],by omega,Nat.le_refl _,by rw [List.take_length,List.drop_length,← hv7];exact hout7,hrow7,hbel7⟩ ?_)
    clear p pd p5 p6 p8 p9 p17 p18 p19 a
    rintro a w8 ⟨k,z,p,pd,p5,p6,p8,p9,p10,p17,p18,p19,hqk,hkr,hout8,hrow8,hbel8⟩
    refine SC.wp_seq (SC.wp_seq (SC.wp_reg ?_))
    repeat (first | (apply ops_1;(focus (simp (disch:=(try simp only [sPu]);omega) [p9,p10];try rfl))) | (apply ops_y;(focus rfl);(focus ((try simp only [sPu]);omega));(focus (simp (disch:=(try simp only [sPu]);omega) [p9,p10];done));(focus (simp (disch:=(try simp only [sPu]);omega) [p9,p10];try rfl))) | (apply ops_n;(focus rfl);(focus ((try simp only [sPu]);omega));(focus (first | (left;simp (disch:=(try simp only [sPu]);omega) [p9,p10];done) | (right;simp (disch:=(try simp only [sPu]);omega);done)))))
    refine oNi (SC.wp_cond (t:=decide ((k:Int) > (q:Int))) (by simp (disch:=(try simp only [sPu]);omega)) ?_)
    have hlen8:(rows.take k ++ z :: rows.drop k).length=rows.length+1:=by simp;omega
    by_cases hkq:k=q
    · subst hkq
      rw [if_neg (by simp)]
      refine SC.wp_exit ?_
      simp only [Exit.then,Exit.inBlock,if_true]
      have hkl:k < (rows.take k ++ z :: rows.drop k).length:=by omega
      obtain ⟨g8,cap8,hv8,hg8,-,-⟩:=hout8.read (List.getElem?_eq_getElem hkl)
      rw [hv8,hlen8] at p6
      rw [hv8] at hout8
      have hki:(0:Int)≤(k:Int)∧(k:Int) < ((rows.length+1:Nat):Int):=by omega
      have hki2:(k:Int) < (rows.length:Int)+1:=by omega
      have hrow8r:rangeV w8 tb 0 2=some [r.1,r.2]:=by
        have hc:∀ i,w8.cell? ⟨tb,i,none⟩=#[r.1,r.2][i]?:=fun i=>cell_of_row _ _ _ _ _ _ hrow8
        simp [rangeV,hc]
      refine SC.wp_reg ?_
      iterate 4 (first | (apply ops_1;(focus (simp (disch:=(try simp only [sPu]);omega) [hst,p6,p8,p9,hki,hki2,hrow8r];try rfl))) | (apply ops_y;(focus rfl);(focus ((try simp only [sPu]);omega));(focus (simp (disch:=(try simp only [sPu]);omega) [hst,p6,p8,p9,hki,hki2,hrow8r];done));(focus (simp (disch:=(try simp only [sPu]);omega) [hst,p6,p8,p9,hki,hki2,hrow8r];try rfl))) | (apply ops_n;(focus rfl);(focus ((try simp only [sPu]);omega));(focus (first | (left;simp (disch:=(try simp only [sPu]);omega) [hst,p6,p8,p9,hki,hki2,hrow8r];done) | (right;simp (disch:=(try simp only [sPu]);omega);done)))))
      obtain ⟨hxr1,hxr2,xvb,xvc,hxr3,hxr4,hxr5⟩:=hxr
      refine oNo rfl (opw_store2 (B:=w.heap.size) (k:=k) (g0:=g8) (cap:=cap8) (r:=r) (rows:=rows.take k ++ z :: rows.drop k) hT.agg (by rw [hlen8] at hout8 ⊢;exact hout8) hkl (by simp (disch:=(try simp only [sPu]);omega)) (by simp (disch:=(try simp only [sPu]);omega)) (by rw [hxr1];rfl) (by rw [hxr3];rfl) fun w9 hout9 hs9 hoth9 hb9=>oNi ?_)
      rw [last_set hkr] at hout9
      refine hnew _ w9 (rows.take k ++ r :: rows.drop k) (.slice (some ⟨g8,0,none⟩) (rows.take k ++ z :: rows.drop k).length cap8) ?_
      rw [hins]
      exact ⟨by simp [sPu,p],by simp [dPu,pd],by simp (disch:=(try simp only [sPu]);omega) [p5],by simp (disch:=(try simp only [sPu]);omega) [p6,hlen8],by simp (disch:=(try simp only [sPu]);omega) [p17],by simp (disch:=(try simp only [sPu]);omega) [p18],by simp (disch:=(try simp only [sPu]);omega) [p19],hrows.ins ⟨hxr1,hxr2,xvb,xvc,hxr3,hxr4,hxr5⟩ (by omega),hout9,hbel8.trans hb9⟩
    · rw [if_pos (by simp;omega)]
      refine SC.wp_skip ?_
      simp only [Exit.then]
      obtain ⟨k',rfl⟩:∃ k',k=k'+1:=⟨k - 1,by omega⟩
      have hkl:k' < rows.length:=by omega
      obtain ⟨g8,cap8,hv8,hg8,-,hrg8⟩:=hout8.read (hole_get (z:=z) hkl)
      rw [hlen8] at hv8
      cases hv8
      have hki:(0:Int)≤(k':Int)∧(k':Int) < ((rows.length+1:Nat):Int):=by omega
      have hki2:(k':Int) < (rows.length:Int)+1:=by omega
      have hki3:((k':Int)+1) < (rows.length:Int)+1:=by omega
      have hki4:(0:Int)≤(k':Int)+1:=by omega
      have hwk:IntKind.i64.wrap (k':Int)=(k':Int):=w64q (by omega) (by omega)
      have hrk:=hrows.2 k' acc[k'] rows[k'] (List.getElem?_eq_getElem (by omega)) (List.getElem?_eq_getElem hkl)
      obtain ⟨hk1,hk2,xvb,xvc,hk3,hk4,hk5⟩:=hrk
      refine SC.wp_seq (SC.wp_block (SC.wp_reg ?_))
      iterate 8 (first | (apply ops_1;(focus (simp (disch:=(try simp only [sPu]);omega) [hst,p6,p10,hki,hki2,hki3,hki4,hwk,hrg8];try rfl))) | (apply ops_y;(focus rfl);(focus ((try simp only [sPu]);omega));(focus (simp (disch:=(try simp only [sPu]);omega) [hst,p6,p10,hki,hki2,hki3,hki4,hwk,hrg8];done));(focus (simp (disch:=(try simp only [sPu]);omega) [hst,p6,p10,hki,hki2,hki3,hki4,hwk,hrg8];try rfl))) | (apply ops_n;(focus rfl);(focus ((try simp only [sPu]);omega));(focus (first | (left;simp (disch:=(try simp only [sPu]);omega) [hst,p6,p10,hki,hki2,hki3,hki4,hwk,hrg8];done) | (right;simp (disch:=(try simp only [sPu]);omega);done)))))
      refine oNo rfl (opw_store2 (B:=w.heap.size) (k:=k'+1) (g0:=g8) (cap:=vc7) (r:=rows[k']) (rows:=rows.take (k'+1) ++ z :: rows.drop (k'+1)) hT.agg (by rw [hlen8];exact hout8) (by omega) (by simp (disch:=(try simp only [sPu]);omega)) (by simp (disch:=(try simp only [sPu]);omega)) (by rw [hk1];rfl) (by rw [hk3];rfl) fun w9 hout9 hs9 hoth9 hb9=>oNi ?_)
      simp only [Exit.then,Exit.inBlock]
      refine SC.wp_reg ?_
      repeat (first | (apply ops_1;(focus (simp (disch:=(try simp only [sPu]);omega) [hst,p10,hwk];try rfl))) | (apply ops_y;(focus rfl);(focus ((try simp only [sPu]);omega));(focus (simp (disch:=(try simp only [sPu]);omega) [hst,p10,hwk];done));(focus (simp (disch:=(try simp only [sPu]);omega) [hst,p10,hwk];try rfl))) | (apply ops_n;(focus rfl);(focus ((try simp only [sPu]);omega));(focus (first | (left;simp (disch:=(try simp only [sPu]);omega) [hst,p10,hwk];done) | (right;simp (disch:=(try simp only [sPu]);omega);done)))))
      refine oNi ?_
      rw [shift_set hkl,hlen8] at hout9
      have htbg:tb ≠ g8:=fun e=>by
        rw [hv7] at htb7
        exact htb7 (by rw [e];rfl)
      refine ⟨⟨k',rows[k'],by simp [sPu,p],by simp [dPu,pd],by simp (disch:=(try simp only [sPu]);omega) [p5],by simp (disch:=(try simp only [sPu]);omega) [p6],by simp (disch:=(try simp only [sPu]);omega) [p8],by simp (disch:=(try simp only [sPu]);omega) [p9],by simp (disch:=(try simp only [sPu]);omega),by simp (disch:=(try simp only [sPu]);omega) [p17],by simp (disch:=(try simp only [sPu]);omega) [p18],by simp (disch:=(try simp only [sPu]);omega) [p19],by omega,by omega,hout9,by rw [hoth9 tb htbg];exact hrow8,hbel8.trans hb9⟩,?_⟩
      have e10:getT a 10=.int .i64 ((k':Int)+1):=by simpa using p10
      simp only [e10]
      simp (disch:=(try simp only [sPu]);omega)
  refine SC.wp_seq (SC.wp_seq (SC.wp_dreg hm (Below w5.heap.size w5.drew) [(0,true),(1,true),(2,true),(3,true),(4,true),(5,true),(6,true),(7,true),(8,true),(9,true),(10,true),(11,true),(12,true),(13,true),(14,true),(15,true),(16,true),(17,true),(18,true),(19,true)] (by rfl) (by rfl) (by decide) (Below.refl _ _) ?_))
  by_cases hql:q < rows.length
  · obtain ⟨g,cap,hvg,hgB,hcg,hrg⟩:=hout.read (List.getElem?_eq_getElem hql)
    have hgl:g < w5.heap.size:=by
      rcases Nat.lt_or_ge g w5.heap.size with h | h
      · exact h
      · simp [World.cell?,Array.getElem?_eq_none h] at hcg
    have hqa:q < acc.length:=by omega
    have htr:=hrows.2 q acc[q] rows[q] (List.getElem?_eq_getElem hqa) (List.getElem?_eq_getElem hql)
    rw [htr.1] at hcg
    have hcg':w5.drew.cell? ⟨g,q * 2,none⟩=some (.int .u32 (acc[q].1:Int)):=hcg
    have hqi:(0:Int)≤(q:Int)∧(q:Int) < (rows.length:Int):=by omega
    have p6':=p6
    rw [hvg] at p6'
    have hlt1:decide ((q:Int) < (rows.length:Int))=true:=decide_eq_true hqi.2
    repeat (first | (apply dr_1;(focus rfl);(focus (simp (disch:=(try simp only [sPu]);omega) [hst,p5,p6',p8,p9,hqi,hcg',hgl,htb,hkey,hlt1,hx0,hx00];try rfl))) | (apply dr_y;(focus rfl);(focus rfl);(focus ((try simp only [sPu]);omega));(focus (simp (disch:=(try simp only [sPu]);omega) [hst,p5,p6',p8,p9,hqi,hcg',hgl,htb,hkey,hlt1,hx0,hx00];done));(focus (simp (disch:=(try simp only [sPu]);omega) [hst,p5,p6',p8,p9,hqi,hcg',hgl,htb,hkey,hlt1,hx0,hx00];try rfl))) | (apply dr_n;(focus rfl);(focus rfl);(focus ((try simp only [sPu]);omega));(focus (first | (left;simp (disch:=(try simp only [sPu]);omega) [hst,p5,p6',p8,p9,hqi,hcg',hgl,htb,hkey,hlt1,hx0,hx00];done) | (right;simp (disch:=(try simp only [sPu]);omega);done)))))
    refine dreg_nil ?_
    simp only [Exit.then]
    refine SC.wp_cond (t:=((acc[q].1:Int) == (x.1:Int))) (by simp (disch:=(try simp only [sPu]);omega)) ?_
    by_cases he:acc[q].1=x.1
    · rw [if_pos (by rw [beq_iff_eq];omega)]
      refine SC.wp_exit ?_
      simp only [Exit.then]
      have hins:insTag x acc=acc:=ins_same hless (List.getElem?_eq_getElem hqa) he
      refine hsame _ _ (by
        rw [hins]
        exact ⟨by simp [sPu,p],by simp [dPu,pd],by simp (disch:=(try simp only [sPu]);omega) [p5],by simp (disch:=(try simp only [sPu]);omega) [p6],by simp (disch:=(try simp only [sPu]);omega) [p17],by simp (disch:=(try simp only [sPu]);omega) [p18],by simp (disch:=(try simp only [sPu]);omega) [p19],hrows,hout',hbel.drew⟩)
    · rw [if_neg (by simp;omega)]
      refine SC.wp_skip ?_
      simp only [Exit.then]
      refine go _ ⟨by simp [sPu,p],by simp [dPu,pd],by simp (disch:=(try simp only [sPu]);omega) [p5],by simp (disch:=(try simp only [sPu]);omega) [p6],by simp (disch:=(try simp only [sPu]);omega) [p8],by simp (disch:=(try simp only [sPu]);omega) [p9],by simp (disch:=(try simp only [sPu]);omega) [p17],by simp (disch:=(try simp only [sPu]);omega) [p18],by simp (disch:=(try simp only [sPu]);omega) [p19]⟩ fun y hy=>?_
      have:=hge y hy
      rw [List.getElem?_eq_getElem hqa] at hy
      cases hy
      omega
  · have hlt1:decide ((q:Int) < (rows.length:Int))=false:=decide_eq_false (by omega)
    have p6':=p6
    rw [hv] at p6'
    repeat (first | (apply dr_1;(focus rfl);(focus (simp (disch:=(try simp only [sPu]);omega) [hst,p5,p6',p8,p9,htb,hkey,hlt1,hql,hx0,hx00];try rfl))) | (apply dr_y;(focus rfl);(focus rfl);(focus ((try simp only [sPu]);omega));(focus (simp (disch:=(try simp only [sPu]);omega) [hst,p5,p6',p8,p9,htb,hkey,hlt1,hql,hx0,hx00];done));(focus (simp (disch:=(try simp only [sPu]);omega) [hst,p5,p6',p8,p9,htb,hkey,hlt1,hql,hx0,hx00];try rfl))) | (apply dr_n;(focus rfl);(focus rfl);(focus ((try simp only [sPu]);omega));(focus (first | (left;simp (disch:=(try simp only [sPu]);omega) [hst,p5,p6',p8,p9,htb,hkey,hlt1,hql,hx0,hx00];done) | (right;simp (disch:=(try simp only [sPu]);omega);done)))))
    refine dreg_nil ?_
    simp only [Exit.then]
    refine SC.wp_cond (t:=false) (by simp (disch:=(try simp only [sPu]);omega)) ?_
    rw [if_neg (by simp)]
    refine SC.wp_skip ?_
    simp only [Exit.then]
    refine go _ ⟨by simp [sPu,p],by simp [dPu,pd],by simp (disch:=(try simp only [sPu]);omega) [p5],by simp (disch:=(try simp only [sPu]);omega) [p6],by simp (disch:=(try simp only [sPu]);omega) [p8],by simp (disch:=(try simp only [sPu]);omega) [p9],by simp (disch:=(try simp only [sPu]);omega) [p17],by simp (disch:=(try simp only [sPu]);omega) [p18],by simp (disch:=(try simp only [sPu]);omega) [p19]⟩ fun y hy=>?_
    rw [List.getElem?_eq_none (by omega)] at hy
    cases hy
theorem unk_body (hX:stOK P X=true) (hm:P.follows .mixedOrders=true) (hT:TagT P X) {ub:Option Addr} {uc i:Nat} {l:List (Nat × Bytes)} {w w3:World} {acc:List (Nat × Bytes)} {rows:List (Value × Value)} {v:Value} {a:Act} {Q:Exit→Act→World→Prop} {x:Nat × Bytes} {b o:Nat}
    (h:UL X ub uc l w i acc rows v a w3) (hi:i < l.length) (hub:ub=some ⟨b,o,none⟩) (hbB:b < w.heap.size) (hx4:x.1 < 4294967296) {vb:Option Addr} {vc:Nat} (hrng:rangeV w b (o+i * 2) 2=some [.int .u32 (x.1:Int),.slice vb x.2.length vc]) (hbs:BytesAt w (· < w.heap.size) vb x.2) (hvc:x.2.length≤vc) (hacc:acc.length≤32767)
    (hQ:∀ a' w' rows' v',UL X ub uc l w i (insTag x acc) rows' v' a' w'→Q .normal a' w'):(SC.block 1 (sc_ubody X.Tgs X.I X.Tg X.U32)).wp P Q a w3:=by
  have hst:=st_facts hX
  obtain ⟨p,pd,p5,p6,p17,p18,p19,hrows,hout,hbel⟩:=h
  subst hub
  have hws:=hbel.size
  have hrng3:rangeV w3 b (o+i * 2) 2=some [.int .u32 (x.1:Int),.slice vb x.2.length vc]:=by rw [rangeV_mono (hbel.block b hbB)];exact hrng
  obtain ⟨iT,zT,hiT,hzT,hzTc,_,_⟩:=hT.info
  refine SC.wp_block ?_
  refine SC.wp_seq (SC.wp_reg ?_)
  have hii:(0:Int)≤(i:Int)∧(i:Int) < (l.length:Int):=by omega
  iterate 2 (first | (apply ops_1;(focus (simp (disch:=(try simp only [sPu]);omega) [hst,p17,p19,hii,hrng3];try rfl))) | (apply ops_y;(focus rfl);(focus ((try simp only [sPu]);omega));(focus (simp (disch:=(try simp only [sPu]);omega) [hst,p17,p19,hii,hrng3];done));(focus (simp (disch:=(try simp only [sPu]);omega) [hst,p17,p19,hii,hrng3];try rfl))) | (apply ops_n;(focus rfl);(focus ((try simp only [sPu]);omega));(focus (first | (left;simp (disch:=(try simp only [sPu]);omega) [hst,p17,p19,hii,hrng3];done) | (right;simp (disch:=(try simp only [sPu]);omega);done)))))
  refine oNo rfl (opw_alloc hiT hzT ?_)
  have hnew:=heap_alloc_new w3 (.cells zT.cells X.Tg)
  refine oNo rfl (opw_store_agg (cs:=[.int .u32 (x.1:Int),.slice vb x.2.length vc]) (cur:=zT.cells) (b:=w3.heap.size) (E:=X.Tg) hT.agg (by simp (disch:=(try simp only [sPu]);omega)) (by simp (disch:=(try simp only [sPu]);omega)) hnew (by rw [hzTc];rfl) (by intro v hv;simp at hv;rcases hv with rfl | rfl <;> rfl) (oNi ?_))
  rw [pNo]
  simp only [Exit.then]
  refine SC.wp_seq (SC.wp_reg ?_)
  repeat (first | (apply ops_1;(focus (simp (disch:=(try simp only [sPu]);omega) ;try rfl))) | (apply ops_y;(focus rfl);(focus ((try simp only [sPu]);omega));(focus (simp (disch:=(try simp only [sPu]);omega);done));(focus (simp (disch:=(try simp only [sPu]);omega) ;try rfl))) | (apply ops_n;(focus rfl);(focus ((try simp only [sPu]);omega));(focus (first | (left;simp (disch:=(try simp only [sPu]);omega);done) | (right;simp (disch:=(try simp only [sPu]);omega);done)))))
  refine oNi ?_
  simp only [Exit.then]
  obtain ⟨w4,hw4⟩:∃ w4,w4=(w3.alloc (.cells zT.cells X.Tg)).setRow w3.heap.size [Value.int .u32 (x.1:Int),.slice vb x.2.length vc].toArray:=⟨_,rfl⟩
  rw [← hw4]
  have hrow4:w4.heap[w3.heap.size]?=some (.cells #[.int .u32 (x.1:Int),.slice vb x.2.length vc] X.Tg (0,0)):=by rw [hw4];exact setRow_heap _ _ _ _ _ _ hnew
  have hoth4:∀ k,k < w3.heap.size→w4.heap[k]?=w3.heap[k]?:=fun k hk=>by
    rw [hw4,setRow_other _ _ _ _ (by omega)]
    exact Below.heap_alloc _ _ _ hk
  have hsz4:w4.heap.size=w3.heap.size+1:=by rw [hw4];simp
  have hbel4:Below w.heap.size w w4:=by
    rw [hw4]
    exact (hbel.alloc (by omega) _).trans ⟨rfl,rfl,rfl,by simp,fun k hk=>setRow_other _ _ _ _ (by omega)⟩
  have hout4:Out2 w4 w.heap.size X.Tg v rows:=hout.frame fun k h1 h2=>hoth4 k h2
  have hlr:=hrows.1
  have hxr:TRow w x (.int .u32 (x.1:Int),.slice vb x.2.length vc):=⟨rfl,hx4,vb,vc,rfl,hbs,hvc⟩
  have htv:v.ownBlock ≠ some w3.heap.size:=fun e=>by
    have:=(World.ownsRow.lt hout _ e).2
    omega
  have tail:∀ a w5 q,UT X (some ⟨b,o,none⟩) uc l w i w3.heap.size q x (.int .u32 (x.1:Int),.slice vb x.2.length vc) acc rows v a w5→(sc_utail X.Tgs X.I X.Tg X.U32).wp P (Exit.inBlock 1 Q) a w5:=fun a w5 q hu =>
    unk_tail hX hm hT hu hacc (fun a' w' hul=>by
      simp only [Exit.inBlock,if_true]
      exact hQ _ _ _ _ hul) (fun a' w' rows' v' hul=>by
      simp only [Exit.inBlock]
      exact hQ _ _ _ _ hul)
  refine SC.wp_seq (SC.wp_block (SC.wp_loop (fun a' w'=>∃ p:Nat,a'.tmps.size=85∧a'.defers=[]∧getT a' 5=.int .u32 0∧getT a' 6=v∧getT a' 8=.pointer (some ⟨w3.heap.size,0,none⟩)∧getT a' 9=.int .i64 (p:Int)∧getT a' 17=.slice (some ⟨b,o,none⟩) l.length uc∧getT a' 18=.int .i64 (l.length:Int)∧getT a' 19=.int .i64 (i:Int)∧p≤acc.length∧(∀ j y,j < p→acc[j]?=some y→y.1 < x.1)∧Below w4.heap.size w4 w')
    (fun a' _=>match getT a' 9 with | .int _ m=>(acc.length - m).toNat | _=>0) ⟨0,by simp [sPu,p],by simp [dPu,pd],by simp (disch:=(try simp only [sPu]);omega) [p5],by simp (disch:=(try simp only [sPu]);omega) [p6],by simp (disch:=(try simp only [sPu]);omega),by simp (disch:=(try simp only [sPu]);omega),by simp (disch:=(try simp only [sPu]);omega) [p17],by simp (disch:=(try simp only [sPu]);omega) [p18],by simp (disch:=(try simp only [sPu]);omega) [p19],by omega,fun j y hj=>by omega,Below.refl _ _⟩ ?_))
  clear p pd p5 p6 p17 p18 p19 a
  rintro a w5 ⟨q,p,pd,p5,p6,p8,p9,p17,p18,p19,hq,hless,hb5⟩
  have hs5:=hb5.size
  have hout5:Out2 w5 w.heap.size X.Tg v rows:=hout4.frame fun k h1 h2=>hb5.block k h2
  have hrow5:w5.heap[w3.heap.size]?=some (.cells #[.int .u32 (x.1:Int),.slice vb x.2.length vc] X.Tg (0,0)):=by rw [hb5.block _ (by omega)];exact hrow4
  have hkey5:w5.drew.cell? ⟨w3.heap.size,0,none⟩=some (.int .u32 (x.1:Int)):=by
    have:w5.cell? ⟨w3.heap.size,0,none⟩=some (.int .u32 (x.1:Int)):=by rw [cell_of_row _ _ _ _ _ _ hrow5];rfl
    exact this
  have htb5:w3.heap.size < w5.heap.size:=by omega
  have hb5w:Below w.heap.size w w5:=⟨hb5.os.trans hbel4.os,hb5.tape.trans hbel4.tape,hb5.output.trans hbel4.output,Nat.le_trans hbel4.size hb5.size,fun k hk=>(hb5.block k (by omega)).trans (hbel4.block k hk)⟩
  refine SC.wp_seq (SC.wp_seq (SC.wp_dreg hm (Below w5.heap.size w5.drew) [(0,true),(1,true),(2,true),(3,true),(4,true),(5,true),(6,true),(7,true),(8,true),(9,true),(10,true),(11,true),(12,true),(13,true)] (by rfl) (by rfl) (by decide) (Below.refl _ _) ?_))
  obtain ⟨vbase,vcap,hv,hvc',hv2⟩:=hout5.at
  by_cases hql:q < rows.length
  · obtain ⟨g,cap,hvg,hgB,hcg,hrg⟩:=hout5.read (List.getElem?_eq_getElem hql)
    have hgl:g < w5.heap.size:=by
      rcases Nat.lt_or_ge g w5.heap.size with h | h
      · exact h
      · simp [World.cell?,Array.getElem?_eq_none h] at hcg
    have hqa:q < acc.length:=by omega
    have htr:=hrows.2 q acc[q] rows[q] (List.getElem?_eq_getElem hqa) (List.getElem?_eq_getElem hql)
    rw [htr.1] at hcg
    have hcg':w5.drew.cell? ⟨g,q * 2,none⟩=some (.int .u32 (acc[q].1:Int)):=hcg
    have hqi:(0:Int)≤(q:Int)∧(q:Int) < (rows.length:Int):=by omega
    rw [hvg] at p6
    have hlt1:decide ((q:Int) < (rows.length:Int))=true:=decide_eq_true hqi.2
    repeat (first | (apply dr_1;(focus rfl);(focus (simp (disch:=(try simp only [sPu]);omega) [hst,p6,p8,p9,hqi,hcg',hgl,htb5,hkey5,hlt1];try rfl))) | (apply dr_y;(focus rfl);(focus rfl);(focus ((try simp only [sPu]);omega));(focus (simp (disch:=(try simp only [sPu]);omega) [hst,p6,p8,p9,hqi,hcg',hgl,htb5,hkey5,hlt1];done));(focus (simp (disch:=(try simp only [sPu]);omega) [hst,p6,p8,p9,hqi,hcg',hgl,htb5,hkey5,hlt1];try rfl))) | (apply dr_n;(focus rfl);(focus rfl);(focus ((try simp only [sPu]);omega));(focus (first | (left;simp (disch:=(try simp only [sPu]);omega) [hst,p6,p8,p9,hqi,hcg',hgl,htb5,hkey5,hlt1];done) | (right;simp (disch:=(try simp only [sPu]);omega);done)))))
    refine dreg_nil ?_
    simp only [Exit.then]
    refine SC.wp_cond (t:=decide ((acc[q].1:Int) < (x.1:Int))) (by simp (disch:=(try simp only [sPu]);omega)) ?_
    by_cases hlx:acc[q].1 < x.1
    · rw [if_pos (decide_eq_true (by omega))]
      refine SC.wp_skip ?_
      simp only [Exit.then]
      have hwq:IntKind.i64.wrap ((q:Int)+1)=(q:Int)+1:=w64q (by omega) (by omega)
      refine SC.wp_block (SC.wp_reg ?_)
      repeat (first | (apply ops_1;(focus (simp (disch:=(try simp only [sPu]);omega) [hst,p9,hwq];try rfl))) | (apply ops_y;(focus rfl);(focus ((try simp only [sPu]);omega));(focus (simp (disch:=(try simp only [sPu]);omega) [hst,p9,hwq];done));(focus (simp (disch:=(try simp only [sPu]);omega) [hst,p9,hwq];try rfl))) | (apply ops_n;(focus rfl);(focus ((try simp only [sPu]);omega));(focus (first | (left;simp (disch:=(try simp only [sPu]);omega) [hst,p9,hwq];done) | (right;simp (disch:=(try simp only [sPu]);omega);done)))))
      refine oNi ?_
      simp only [Exit.then,Exit.inBlock]
      refine ⟨⟨q+1,by simp [sPu,p],by simp [dPu,pd],by simp (disch:=(try simp only [sPu]);omega) [p5],by simp (disch:=(try simp only [sPu]);omega) [p6,hvg],by simp (disch:=(try simp only [sPu]);omega) [p8],by simp (disch:=(try simp only [sPu]);omega),by simp (disch:=(try simp only [sPu]);omega) [p17],by simp (disch:=(try simp only [sPu]);omega) [p18],by simp (disch:=(try simp only [sPu]);omega) [p19],by omega,fun j y hj hy=>?_,hb5.drew⟩,?_⟩
      · by_cases hjq:j=q
        · subst hjq
          rw [List.getElem?_eq_getElem hqa] at hy
          cases hy
          exact hlx
        · exact hless j y (by omega) hy
      · have e9:getT a 9=.int .i64 (q:Int):=p9
        simp only [e9]
        simp (disch:=(try simp only [sPu]);omega)
        omega
    · rw [if_neg (by rw [decide_eq_false (by omega)];simp)]
      refine SC.wp_exit ?_
      simp only [Exit.then,Exit.inBlock,if_true]
      refine tail _ w5.drew q ⟨by simp [sPu,p],by simp [dPu,pd],by simp (disch:=(try simp only [sPu]);omega) [p5],by simp (disch:=(try simp only [sPu]);omega) [p6,hvg],by simp (disch:=(try simp only [sPu]);omega) [p8],by simp (disch:=(try simp only [sPu]);omega) [p9],by simp (disch:=(try simp only [sPu]);omega) [p17],by simp (disch:=(try simp only [sPu]);omega) [p18],by simp (disch:=(try simp only [sPu]);omega) [p19],hq,hless,fun y hy=>?_,hws,hrow5,hxr,hrows,hout5,htv,hb5w.drew⟩
      rw [List.getElem?_eq_getElem hqa] at hy
      cases hy
      exact hlx
  · have hlt1:decide ((q:Int) < (rows.length:Int))=false:=decide_eq_false (by omega)
    rw [hv] at p6
    repeat (first | (apply dr_1;(focus rfl);(focus (simp (disch:=(try simp only [sPu]);omega) [hst,p6,p8,p9,hlt1,hql];try rfl))) | (apply dr_y;(focus rfl);(focus rfl);(focus ((try simp only [sPu]);omega));(focus (simp (disch:=(try simp only [sPu]);omega) [hst,p6,p8,p9,hlt1,hql];done));(focus (simp (disch:=(try simp only [sPu]);omega) [hst,p6,p8,p9,hlt1,hql];try rfl))) | (apply dr_n;(focus rfl);(focus rfl);(focus ((try simp only [sPu]);omega));(focus (first | (left;simp (disch:=(try simp only [sPu]);omega) [hst,p6,p8,p9,hlt1,hql];done) | (right;simp (disch:=(try simp only [sPu]);omega);done)))))
    refine dreg_nil ?_
    simp only [Exit.then]
    refine SC.wp_cond (t:=false) (by simp (disch:=(try simp only [sPu]);omega)) ?_
    rw [if_neg (by simp)]
    refine SC.wp_exit ?_
    simp only [Exit.then,Exit.inBlock,if_true]
    refine tail _ w5.drew q ⟨by simp [sPu,p],by simp [dPu,pd],by simp (disch:=(try simp only [sPu]);omega) [p5],by simp (disch:=(try simp only [sPu]);omega) [p6,hv],by simp (disch:=(try simp only [sPu]);omega) [p8],by simp (disch:=(try simp only [sPu]);omega) [p9],by simp (disch:=(try simp only [sPu]);omega) [p17],by simp (disch:=(try simp only [sPu]);omega) [p18],by simp (disch:=(try simp only [sPu]);omega) [p19],hq,hless,fun y hy=>?_,hws,hrow5,hxr,hrows,hout5,htv,hb5w.drew⟩
    rw [List.getElem?_eq_none (by omega)] at hy
    cases hy
theorem unk_ok (hX:stOK P X=true) (hm:P.follows .mixedOrders=true) (hT:TagT P X) (oK:FnOK P fKn) (cK:KnownC P fKn) (hf:P.funcs[f]?=some fn) (hb:fn.body.map strip=some (sc_unknown X.Tgs X.I X.Tg X.U32 fKn)) (hn:fn.ntmps=85) (hr:fn.results=#[.tmp 4]):UnkC (fun _=>True) P f:=by
  intro w fs fv ub u uc hfs hlen63 hG hu huc
  have hst:=st_facts hX
  refine fCa hf hb hn (by simp) fun a0 hs hd ha=>?_
  have h0:=ha 0 _ rfl
  have h1:=ha 1 _ rfl
  simp only [List.getElem_toArray,List.getElem_cons_zero,List.getElem_cons_succ] at h0 h1
  refine SC.wp_seq (SC.wp_reg ?_)
  repeat (first | (apply ops_1;(focus (simp (disch:=(try simp only [sPu]);omega) ;try rfl))) | (apply ops_y;(focus rfl);(focus ((try simp only [sPu]);omega));(focus (simp (disch:=(try simp only [sPu]);omega);done));(focus (simp (disch:=(try simp only [sPu]);omega) ;try rfl))) | (apply ops_n;(focus rfl);(focus ((try simp only [sPu]);omega));(focus (first | (left;simp (disch:=(try simp only [sPu]);omega);done) | (right;simp (disch:=(try simp only [sPu]);omega);done)))))
  refine oNi (SC.wp_seq (SC.wp_reg ?_))
  iterate 1 (first | (apply ops_1;(focus (simp (disch:=(try simp only [sPu]);omega) [h0];try rfl))) | (apply ops_y;(focus rfl);(focus ((try simp only [sPu]);omega));(focus (simp (disch:=(try simp only [sPu]);omega) [h0];done));(focus (simp (disch:=(try simp only [sPu]);omega) [h0];try rfl))) | (apply ops_n;(focus rfl);(focus ((try simp only [sPu]);omega));(focus (first | (left;simp (disch:=(try simp only [sPu]);omega) [h0];done) | (right;simp (disch:=(try simp only [sPu]);omega);done)))))
  refine ops_call oK (cK w fs fv hfs hlen63) (by simp (disch:=(try simp only [sPu]);omega)) ?_
  rintro e w2 ⟨rfl,hb2⟩
  refine ⟨_,rfl,?_⟩
  repeat (first | (apply ops_1;(focus (simp (disch:=(try simp only [sPu]);omega) ;try rfl))) | (apply ops_y;(focus rfl);(focus ((try simp only [sPu]);omega));(focus (simp (disch:=(try simp only [sPu]);omega);done));(focus (simp (disch:=(try simp only [sPu]);omega) ;try rfl))) | (apply ops_n;(focus rfl);(focus ((try simp only [sPu]);omega));(focus (first | (left;simp (disch:=(try simp only [sPu]);omega);done) | (right;simp (disch:=(try simp only [sPu]);omega);done)))))
  refine oNi (SC.wp_seq (SC.wp_reg ?_))
  repeat (first | (apply ops_1;(focus (simp (disch:=(try simp only [sPu]);omega) ;try rfl))) | (apply ops_y;(focus rfl);(focus ((try simp only [sPu]);omega));(focus (simp (disch:=(try simp only [sPu]);omega);done));(focus (simp (disch:=(try simp only [sPu]);omega) ;try rfl))) | (apply ops_n;(focus rfl);(focus ((try simp only [sPu]);omega));(focus (first | (left;simp (disch:=(try simp only [sPu]);omega);done) | (right;simp (disch:=(try simp only [sPu]);omega);done)))))
  refine oNi (SC.wp_seq (SC.wp_seq (SC.wp_reg ?_)))
  obtain ⟨l,hl⟩:∃ l,l=u.take most:=⟨_,rfl⟩
  have hll:l.length≤u.length:=by rw [hl,List.length_take];omega
  have hlm:l.length≤32767:=by rw [hl,List.length_take];exact Nat.min_le_left _ _
  have hmin:(if (32767:Int) < (u.length:Int) then (32767:Int) else (u.length:Int))=(l.length:Int):=by
    rw [hl,List.length_take,show most=32767 from rfl]
    split <;> omega
  have hmin2:(if (u.length:Int) < 32767 then (u.length:Int) else (32767:Int))=(l.length:Int):=by
    rw [hl,List.length_take,show most=32767 from rfl]
    split <;> omega
  have hlc:(l.length:Int)≤(uc:Int):=by omega
  repeat (first | (apply ops_1;(focus (simp (disch:=(try simp only [sPu]);omega) [hst,h1,hmin,hmin2,hlc];try rfl))) | (apply ops_y;(focus rfl);(focus ((try simp only [sPu]);omega));(focus (simp (disch:=(try simp only [sPu]);omega) [hst,h1,hmin,hmin2,hlc];done));(focus (simp (disch:=(try simp only [sPu]);omega) [hst,h1,hmin,hmin2,hlc];try rfl))) | (apply ops_n;(focus rfl);(focus ((try simp only [sPu]);omega));(focus (first | (left;simp (disch:=(try simp only [sPu]);omega) [hst,h1,hmin,hmin2,hlc];done) | (right;simp (disch:=(try simp only [sPu]);omega);done)))))
  refine oNi ?_
  simp only [Exit.then]
  refine gen_act (fun a6=>a6.tmps.size=85∧a6.defers=[]∧getT a6 5=.int .u32 0∧getT a6 6=.slice none 0 0∧getT a6 17=.slice ub l.length uc∧getT a6 18=.int .i64 (l.length:Int)∧getT a6 19=.int .i64 0)
    ⟨by simp [sPu,hs],by simp [dPu,hd],by simp (disch:=(try simp only [sPu]);omega),by simp (disch:=(try simp only [sPu]);omega),by simp (disch:=(try simp only [sPu]);omega),by simp (disch:=(try simp only [sPu]);omega),by simp (disch:=(try simp only [sPu]);omega)⟩ ?_
  rintro a6 ⟨p,pd,p5,p6,p17,p18,p19⟩
  refine SC.wp_block (SC.wp_loop (fun a' w'=>∃ (i:Nat) (acc:List (Nat × Bytes)) (rows:List (Value × Value)) (v:Value),UL X ub uc l w i acc rows v a' w'∧i≤l.length∧acc=(l.take i).foldl (fun acc t=>insTag t acc) [])
    (fun a' _=>match getT a' 19 with | .int _ m=>(l.length - m).toNat | _=>0) ⟨0,[],[],.slice none 0 0,⟨p,pd,p5,p6,p17,p18,p19,⟨rfl,fun i x r hx=>by simp at hx⟩,Out2.nil _ _ _,hb2⟩,Nat.zero_le _,rfl⟩ ?_)
  clear p pd p5 p6 p17 p18 p19 a6
  rintro a w3 ⟨i,acc,rows,v,hul,hil,hacc⟩
  have hul':=hul
  obtain ⟨p,pd,p5,p6,p17,p18,p19,hrows,hout,hbel⟩:=hul'
  refine SC.wp_seq (SC.wp_reg ?_)
  repeat (first | (apply ops_1;(focus (simp (disch:=(try simp only [sPu]);omega) [p18,p19];try rfl))) | (apply ops_y;(focus rfl);(focus ((try simp only [sPu]);omega));(focus (simp (disch:=(try simp only [sPu]);omega) [p18,p19];done));(focus (simp (disch:=(try simp only [sPu]);omega) [p18,p19];try rfl))) | (apply ops_n;(focus rfl);(focus ((try simp only [sPu]);omega));(focus (first | (left;simp (disch:=(try simp only [sPu]);omega) [p18,p19];done) | (right;simp (disch:=(try simp only [sPu]);omega);done)))))
  refine oNi ?_
  simp only [Exit.then]
  refine SC.wp_seq (SC.wp_cond (t:=decide ((i:Int) < (l.length:Int))) (by simp (disch:=(try simp only [sPu]);omega)) ?_)
  by_cases hlt:i < l.length
  · rw [if_pos (decide_eq_true (by omega))]
    refine SC.wp_skip ?_
    simp only [Exit.then]
    have hiu:u[i]?=some l[i]:=by
      have:(u.take most)[i]?=some l[i]:=by rw [← hl];exact List.getElem?_eq_getElem hlt
      rw [List.getElem?_take] at this
      split at this
      · exact this
      · cases this
    rcases hu with hu | ⟨b,o,hub,hbB,hall⟩
    · rw [hu] at hiu
      simp at hiu
    obtain ⟨hx4,vb,vc,hrng,hbs,hvc⟩:=hall i _ hiu
    have haccl:acc.length≤32767:=by
      rw [hacc]
      have:=foldl_ins_length (l.take i) []
      simp only [List.length_take,List.length_nil] at this
      omega
    refine SC.wp_seq (unk_body hX hm hT (ub:=ub) (uc:=uc) (l:=l) (w:=w) (i:=i) (acc:=acc) (rows:=rows) (v:=v) (b:=b) (o:=o) (x:=l[i]) ⟨by simpa [sPu] using p,by simpa [dPu] using pd,by simp (disch:=(try simp only [sPu]);omega) [p5],by simp (disch:=(try simp only [sPu]);omega) [p6],by simp (disch:=(try simp only [sPu]);omega) [p17],by simp (disch:=(try simp only [sPu]);omega) [p18],by simp (disch:=(try simp only [sPu]);omega) [p19],hrows,hout,hbel⟩ hlt hub hbB hx4 hrng hbs hvc haccl fun a' w' rows' v' hul2=>?_)
    obtain ⟨z,zd,z5,z6,z17,z18,z19,hrows2,hout2,hbel2⟩:=hul2
    simp only [Exit.then]
    have hwi:IntKind.i64.wrap ((i:Int)+1)=(i:Int)+1:=w64q (by omega) (by omega)
    refine SC.wp_reg ?_
    repeat (first | (apply ops_1;(focus (simp (disch:=(try simp only [sPu]);omega) [z19,hwi];try rfl))) | (apply ops_y;(focus rfl);(focus ((try simp only [sPu]);omega));(focus (simp (disch:=(try simp only [sPu]);omega) [z19,hwi];done));(focus (simp (disch:=(try simp only [sPu]);omega) [z19,hwi];try rfl))) | (apply ops_n;(focus rfl);(focus ((try simp only [sPu]);omega));(focus (first | (left;simp (disch:=(try simp only [sPu]);omega) [z19,hwi];done) | (right;simp (disch:=(try simp only [sPu]);omega);done)))))
    refine oNi ?_
    refine ⟨⟨i+1,insTag l[i] acc,rows',v',⟨by simp [sPu,z],by simp [dPu,zd],by simp (disch:=(try simp only [sPu]);omega) [z5],by simp (disch:=(try simp only [sPu]);omega) [z6],by simp (disch:=(try simp only [sPu]);omega) [z17],by simp (disch:=(try simp only [sPu]);omega) [z18],by simp (disch:=(try simp only [sPu]);omega),hrows2,hout2,hbel2⟩,by omega,?_⟩,?_⟩
    · rw [List.take_add_one,List.getElem?_eq_getElem hlt,Option.toList_some,List.foldl_append,← hacc]
      rfl
    · have e19:getT a 19=.int .i64 (i:Int):=p19
      simp only [e19]
      simp (disch:=(try simp only [sPu]);omega)
      omega
  · rw [if_neg (by rw [decide_eq_false (by omega)];simp)]
    refine SC.wp_exit ?_
    simp only [Exit.then,Exit.inBlock,if_true]
    refine SC.wp_seq (SC.wp_reg ?_)
    repeat (first | (apply ops_1;(focus (simp (disch:=(try simp only [sPu]);omega) [p6];try rfl))) | (apply ops_y;(focus rfl);(focus ((try simp only [sPu]);omega));(focus (simp (disch:=(try simp only [sPu]);omega) [p6];done));(focus (simp (disch:=(try simp only [sPu]);omega) [p6];try rfl))) | (apply ops_n;(focus rfl);(focus ((try simp only [sPu]);omega));(focus (first | (left;simp (disch:=(try simp only [sPu]);omega) [p6];done) | (right;simp (disch:=(try simp only [sPu]);omega);done)))))
    refine oNi (SC.wp_ret ?_)
    have hfin:acc=unknown u:=by
      rw [hacc,show i=l.length by omega,List.take_length,hl]
      rfl
    obtain ⟨base,cap,hv,hvc,hv2⟩:=hout.at
    rw [← hrows.1,hfin] at hv
    refine ret_tmp hr (by simp [dPu,pd]) ⟨base,cap,by rw [← hv];simp (disch:=(try simp only [sPu]);omega),?_,hbel⟩
    rcases hv2 with h0 | ⟨g,cur,rfl,h2,h3,h4,h5⟩
    · refine .inl (List.length_eq_zero_iff.1 ?_)
      rw [← hfin,hrows.1,h0]
      rfl
    · refine .inr ⟨g,0,rfl,(Array.getElem?_eq_some_iff.1 h3).1,fun j x hx=>?_⟩
      rw [← hfin] at hx
      have hjl:j < rows.length:=by rw [← hrows.1];exact (List.getElem?_eq_some_iff.1 hx).1
      obtain ⟨g',cap',hv',hg',hc',hr'⟩:=hout.read (List.getElem?_eq_getElem hjl)
      obtain ⟨t1,t2,vb,vc,t3,t4,t5⟩:=hrows.2 j x rows[j] hx (List.getElem?_eq_getElem hjl)
      rw [← hfin,hrows.1] at hv
      rw [hv] at hv'
      cases hv'
      refine ⟨t2,vb,vc,?_,?_,t5⟩
      · rw [Nat.zero_add,hr',t1,t3]
      · exact bytesAt_mono t4 (fun k hk=>Nat.lt_of_lt_of_le hk hbel.size) fun k hk=>hbel.block k hk
end
end Go.Proofs.YtgaplicnofhliaaDoor.K
namespace Go.Proofs.YtgaplicnofhliaaDoor.K
open Go Go.RowKit Go.Proofs.YtgaplicnofhliaaDoor.T
attribute [local simp] eTm eCo pNo gTp gTn qv qcall vop iop
set_option linter.unusedVariables false
set_option linter.unusedSimpArgs false
set_option maxHeartbeats 4000000
def sc_zzFits2 (T0 T1 T2 T3 T4 T5 F0:Nat):SC:=.seq (.reg [⟨some 1,.box T0 (.tmp 0),none⟩,⟨some 2,.assign (.const (.bool false)),none⟩]) (.seq (.seq (.reg [fa 3 T0 1 1,ld 4 T1 3,lenOp 5 T1 4,⟨some 6,.binOp .gtr T2 (.tmp 5) (.const (.int .i64 2147483647)) T2,none⟩]) (.cond (.tmp 6) (.seq (.reg [⟨some 2,.assign (.const (.bool false)),none⟩]) (.ret)) (.skip))) (.seq (.seq (.reg [fa 7 T0 1 3,ld 8 T3 7,lenOp 9 T3 8,⟨some 10,.binOp .gtr T2 (.tmp 9) (.const (.int .i64 2147483647)) T2,none⟩]) (.cond (.tmp 10) (.seq (.reg [⟨some 2,.assign (.const (.bool false)),none⟩]) (.ret)) (.skip))) (.seq (.seq (.reg [fa 11 T0 1 4,ld 12 T4 11,cal 13 F0 [12],⟨some 14,.unOp .not T5 (.tmp 13),none⟩]) (.cond (.tmp 14) (.seq (.reg [⟨some 2,.assign (.const (.bool false)),none⟩]) (.ret)) (.skip))) (.seq (.reg [⟨some 2,.assign (.const (.bool true)),none⟩]) (.ret)))))
def sc_zzFits3 (T0 T1 T2 T3 F0:Nat):SC:=.seq (.reg [⟨some 2,.assign (.const (.bool false)),none⟩]) (.seq (.seq (.reg [mv 5 0,lenOp 6 T0 5,⟨some 7,.binOp .gtr T1 (.tmp 6) (.const (.int .i64 2147483647)) T1,none⟩]) (.cond (.tmp 7) (.seq (.reg [⟨some 2,.assign (.const (.bool false)),none⟩]) (.ret)) (.skip))) (.seq (.seq (.reg [mv 8 0,lenOp 9 T0 8,⟨some 10,.move (.const (.int .i64 0)),none⟩]) (.block 0 (.loop (.seq (.reg [⟨some 11,.binOp .lss T1 (.tmp 10) (.tmp 9) T1,none⟩]) (.seq (.cond (.tmp 11) (.skip) (.exit 0)) (.seq (.block 1 (.seq (.reg [⟨some 12,.indexAddr T0 (.tmp 8) (.tmp 10),none⟩,ld 13 T2 12,⟨some 4,.alloc T2,none⟩,⟨none,.store T2 (.tmp 4) (.tmp 13),none⟩]) (.seq (.reg [ld 14 T2 4,cal 15 F0 [14],⟨some 16,.unOp .not T3 (.tmp 15),none⟩]) (.cond (.tmp 16) (.seq (.reg [⟨some 2,.assign (.const (.bool false)),none⟩]) (.ret)) (.skip))))) (.reg [⟨some 17,.binOp .add T1 (.tmp 10) (.const (.int .i64 1)) T1,none⟩,mv 10 17]))))))) (.seq (.reg [⟨some 2,.assign (.const (.bool true)),none⟩]) (.ret))))
def sc_zzFits4 (T0 T1 T2:Nat):SC:=.seq (.reg [⟨some 1,.box T0 (.tmp 0),none⟩,⟨some 2,.assign (.const (.bool false)),none⟩]) (.seq (.seq (.reg [fa 3 T0 1 1,ld 4 T1 3,lenOp 5 T1 4,⟨some 6,.binOp .gtr T2 (.tmp 5) (.const (.int .i64 2147483647)) T2,none⟩]) (.cond (.tmp 6) (.seq (.reg [⟨some 2,.assign (.const (.bool false)),none⟩]) (.ret)) (.skip))) (.seq (.reg [⟨some 2,.assign (.const (.bool true)),none⟩]) (.ret)))
def Asks (w:World) (e:Ending) (w':World):Prop:=(∃ b:Bool,e=.returned (.bool b))∧Below w.heap.size w w'
section
variable {P:Program} {X:STy} {f:FuncId} {fn:Func}
theorem fits4_ok (hX:stOK P X=true) (hf:P.funcs[f]?=some fn) (hb:fn.body.map strip=some (sc_zzFits4 X.Tg X.Bs X.I)) (hn:fn.ntmps=7) (hr:fn.results=#[.tmp 2]) (w:World) (k:Value) (vb:Option Addr) (n vc:Nat) (hk:k.oneCell'=true) :
    Calls P f #[.agg #[k,.slice vb n vc]] w (Asks w):=by
  have hst:=st_facts hX
  refine fCa hf hb hn (by simp) fun a0 hs hd ha=>?_
  have h0:=ha 0 _ rfl
  simp only [List.getElem_toArray,List.getElem_cons_zero,List.getElem_cons_succ] at h0
  refine SC.wp_seq (SC.wp_reg (oNo rfl (opw_box (v:=.agg #[k,.slice vb n vc]) h0 ?_)))
  have hnew:=heap_alloc_new w (.cells (Value.agg #[k,.slice vb n vc]).cells X.Tg)
  have hc:(w.alloc (.cells (Value.agg #[k,.slice vb n vc]).cells X.Tg)).cell? ⟨w.heap.size,1,none⟩=some (.slice vb n vc):=by rw [cell_of_row _ _ _ _ _ _ hnew];rfl
  have hb1:Below w.heap.size w (w.alloc (.cells (Value.agg #[k,.slice vb n vc]).cells X.Tg)):=(Below.refl _ _).alloc (Nat.le_refl _) _
  generalize w.alloc (.cells (Value.agg #[k,.slice vb n vc]).cells X.Tg)=w1 at hc hb1 ⊢
  repeat (first | (apply ops_1;(focus (simp (disch:=(try simp only [sPu]);omega) ;try rfl))) | (apply ops_y;(focus rfl);(focus ((try simp only [sPu]);omega));(focus (simp (disch:=(try simp only [sPu]);omega);done));(focus (simp (disch:=(try simp only [sPu]);omega) ;try rfl))) | (apply ops_n;(focus rfl);(focus ((try simp only [sPu]);omega));(focus (first | (left;simp (disch:=(try simp only [sPu]);omega);done) | (right;simp (disch:=(try simp only [sPu]);omega);done)))))
  refine oNi (SC.wp_seq (SC.wp_seq (SC.wp_reg ?_)))
  repeat (first | (apply ops_1;(focus (simp (disch:=(try simp only [sPu]);omega) [hst,hc];try rfl))) | (apply ops_y;(focus rfl);(focus ((try simp only [sPu]);omega));(focus (simp (disch:=(try simp only [sPu]);omega) [hst,hc];done));(focus (simp (disch:=(try simp only [sPu]);omega) [hst,hc];try rfl))) | (apply ops_n;(focus rfl);(focus ((try simp only [sPu]);omega));(focus (first | (left;simp (disch:=(try simp only [sPu]);omega) [hst,hc];done) | (right;simp (disch:=(try simp only [sPu]);omega);done)))))
  refine oNi (SC.wp_cond (t:=decide ((n:Int) > 2147483647)) (by simp (disch:=(try simp only [sPu]);omega)) ?_)
  split
  · refine SC.wp_seq (SC.wp_reg ?_)
    repeat (first | (apply ops_1;(focus (simp (disch:=(try simp only [sPu]);omega) ;try rfl))) | (apply ops_y;(focus rfl);(focus ((try simp only [sPu]);omega));(focus (simp (disch:=(try simp only [sPu]);omega);done));(focus (simp (disch:=(try simp only [sPu]);omega) ;try rfl))) | (apply ops_n;(focus rfl);(focus ((try simp only [sPu]);omega));(focus (first | (left;simp (disch:=(try simp only [sPu]);omega);done) | (right;simp (disch:=(try simp only [sPu]);omega);done)))))
    refine oNi (SC.wp_ret ?_)
    exact ret_tmp hr (by simp [dPu,hd]) ⟨⟨false,by simp (disch:=(try simp only [sPu]);omega)⟩,hb1⟩
  · refine SC.wp_skip ?_
    simp only [Exit.then]
    refine SC.wp_seq (SC.wp_reg ?_)
    repeat (first | (apply ops_1;(focus (simp (disch:=(try simp only [sPu]);omega) ;try rfl))) | (apply ops_y;(focus rfl);(focus ((try simp only [sPu]);omega));(focus (simp (disch:=(try simp only [sPu]);omega);done));(focus (simp (disch:=(try simp only [sPu]);omega) ;try rfl))) | (apply ops_n;(focus rfl);(focus ((try simp only [sPu]);omega));(focus (first | (left;simp (disch:=(try simp only [sPu]);omega);done) | (right;simp (disch:=(try simp only [sPu]);omega);done)))))
    refine oNi (SC.wp_ret ?_)
    exact ret_tmp hr (by simp [dPu,hd]) ⟨⟨true,by simp (disch:=(try simp only [sPu]);omega)⟩,hb1⟩
theorem fits3_ok (hX:stOK P X=true) (hT:TagT P X) {F0 T3:Nat} (oF:FnOK P F0) (cF:∀ (w:World) (k:Value) (vb:Option Addr) (n vc:Nat),k.oneCell'=true→Calls P F0 #[.agg #[k,.slice vb n vc]] w (Asks w))
    (hf:P.funcs[f]?=some fn) (hb:fn.body.map strip=some (sc_zzFits3 X.Tgs X.I X.Tg T3 F0)) (hn:fn.ntmps=18) (hr:fn.results=#[.tmp 2]) (w:World) (u:List (Nat × Bytes)) (ub:Option Addr) (uc:Nat) (hu:UTagsAt w (· < w.heap.size) ub u) :
    Calls P f #[.slice ub u.length uc] w (Asks w):=by
  have hst:=st_facts hX
  obtain ⟨iT,zT,hiT,hzT,hzTc,_,_⟩:=hT.info
  refine fCa hf hb hn (by simp) fun a0 hs hd ha=>?_
  have h0:=ha 0 _ rfl
  simp only [List.getElem_toArray,List.getElem_cons_zero,List.getElem_cons_succ] at h0
  refine SC.wp_seq (SC.wp_reg ?_)
  repeat (first | (apply ops_1;(focus (simp (disch:=(try simp only [sPu]);omega) ;try rfl))) | (apply ops_y;(focus rfl);(focus ((try simp only [sPu]);omega));(focus (simp (disch:=(try simp only [sPu]);omega);done));(focus (simp (disch:=(try simp only [sPu]);omega) ;try rfl))) | (apply ops_n;(focus rfl);(focus ((try simp only [sPu]);omega));(focus (first | (left;simp (disch:=(try simp only [sPu]);omega);done) | (right;simp (disch:=(try simp only [sPu]);omega);done)))))
  refine oNi (SC.wp_seq (SC.wp_seq (SC.wp_reg ?_)))
  repeat (first | (apply ops_1;(focus (simp (disch:=(try simp only [sPu]);omega) [hst,h0];try rfl))) | (apply ops_y;(focus rfl);(focus ((try simp only [sPu]);omega));(focus (simp (disch:=(try simp only [sPu]);omega) [hst,h0];done));(focus (simp (disch:=(try simp only [sPu]);omega) [hst,h0];try rfl))) | (apply ops_n;(focus rfl);(focus ((try simp only [sPu]);omega));(focus (first | (left;simp (disch:=(try simp only [sPu]);omega) [hst,h0];done) | (right;simp (disch:=(try simp only [sPu]);omega);done)))))
  refine oNi (SC.wp_cond (t:=decide ((u.length:Int) > 2147483647)) (by simp (disch:=(try simp only [sPu]);omega)) ?_)
  by_cases hbig:(u.length:Int) > 2147483647
  · rw [if_pos (decide_eq_true hbig)]
    refine SC.wp_seq (SC.wp_reg ?_)
    repeat (first | (apply ops_1;(focus (simp (disch:=(try simp only [sPu]);omega) ;try rfl))) | (apply ops_y;(focus rfl);(focus ((try simp only [sPu]);omega));(focus (simp (disch:=(try simp only [sPu]);omega);done));(focus (simp (disch:=(try simp only [sPu]);omega) ;try rfl))) | (apply ops_n;(focus rfl);(focus ((try simp only [sPu]);omega));(focus (first | (left;simp (disch:=(try simp only [sPu]);omega);done) | (right;simp (disch:=(try simp only [sPu]);omega);done)))))
    refine oNi (SC.wp_ret ?_)
    exact ret_tmp hr (by simp [dPu,hd]) ⟨⟨false,by simp (disch:=(try simp only [sPu]);omega)⟩,Below.refl _ _⟩
  rw [if_neg (by rw [decide_eq_false hbig];simp)]
  refine SC.wp_skip ?_
  simp only [Exit.then]
  refine SC.wp_seq (SC.wp_seq (SC.wp_reg ?_))
  repeat (first | (apply ops_1;(focus (simp (disch:=(try simp only [sPu]);omega) [hst,h0];try rfl))) | (apply ops_y;(focus rfl);(focus ((try simp only [sPu]);omega));(focus (simp (disch:=(try simp only [sPu]);omega) [hst,h0];done));(focus (simp (disch:=(try simp only [sPu]);omega) [hst,h0];try rfl))) | (apply ops_n;(focus rfl);(focus ((try simp only [sPu]);omega));(focus (first | (left;simp (disch:=(try simp only [sPu]);omega) [hst,h0];done) | (right;simp (disch:=(try simp only [sPu]);omega);done)))))
  refine oNi ?_
  simp only [Exit.then]
  refine SC.wp_block (SC.wp_loop (fun a' w'=>∃ i:Nat,a'.tmps.size=18∧a'.defers=[]∧getT a' 8=.slice ub u.length uc∧getT a' 9=.int .i64 (u.length:Int)∧getT a' 10=.int .i64 (i:Int)∧i≤u.length∧Below w.heap.size w w')
    (fun a' _=>match getT a' 10 with | .int _ m=>(u.length - m).toNat | _=>0) ⟨0,by simp [sPu,hs],by simp [dPu,hd],by simp (disch:=(try simp only [sPu]);omega),by simp (disch:=(try simp only [sPu]);omega),by simp (disch:=(try simp only [sPu]);omega),by omega,Below.refl _ _⟩ ?_)
  rintro a w1 ⟨i,p,pd,p8,p9,p10,hi,hb1⟩
  refine SC.wp_seq (SC.wp_reg ?_)
  repeat (first | (apply ops_1;(focus (simp (disch:=(try simp only [sPu]);omega) [p9,p10];try rfl))) | (apply ops_y;(focus rfl);(focus ((try simp only [sPu]);omega));(focus (simp (disch:=(try simp only [sPu]);omega) [p9,p10];done));(focus (simp (disch:=(try simp only [sPu]);omega) [p9,p10];try rfl))) | (apply ops_n;(focus rfl);(focus ((try simp only [sPu]);omega));(focus (first | (left;simp (disch:=(try simp only [sPu]);omega) [p9,p10];done) | (right;simp (disch:=(try simp only [sPu]);omega);done)))))
  refine oNi ?_
  simp only [Exit.then]
  refine SC.wp_seq (SC.wp_cond (t:=decide ((i:Int) < (u.length:Int))) (by simp (disch:=(try simp only [sPu]);omega)) ?_)
  by_cases hlt:i < u.length
  · rw [if_pos (decide_eq_true (by omega))]
    refine SC.wp_skip ?_
    simp only [Exit.then]
    rcases hu with hu | ⟨b,o,hub,hbB,hall⟩
    · rw [hu] at hlt
      simp at hlt
    subst hub
    obtain ⟨hx4,vb,vc,hrng,hbs,hvc⟩:=hall i _ (List.getElem?_eq_getElem hlt)
    have hrng1:rangeV w1 b (o+i * 2) 2=some [.int .u32 (u[i].1:Int),.slice vb u[i].2.length vc]:=by rw [rangeV_mono (hb1.block b hbB)];exact hrng
    have hii:(0:Int)≤(i:Int)∧(i:Int) < (u.length:Int):=by omega
    refine SC.wp_seq (SC.wp_block (SC.wp_seq (SC.wp_reg ?_)))
    iterate 2 (first | (apply ops_1;(focus (simp (disch:=(try simp only [sPu]);omega) [hst,p8,p10,hii,hrng1];try rfl))) | (apply ops_y;(focus rfl);(focus ((try simp only [sPu]);omega));(focus (simp (disch:=(try simp only [sPu]);omega) [hst,p8,p10,hii,hrng1];done));(focus (simp (disch:=(try simp only [sPu]);omega) [hst,p8,p10,hii,hrng1];try rfl))) | (apply ops_n;(focus rfl);(focus ((try simp only [sPu]);omega));(focus (first | (left;simp (disch:=(try simp only [sPu]);omega) [hst,p8,p10,hii,hrng1];done) | (right;simp (disch:=(try simp only [sPu]);omega);done)))))
    refine oNo rfl (opw_alloc hiT hzT ?_)
    have hnew:=heap_alloc_new w1 (.cells zT.cells X.Tg)
    refine oNo rfl (opw_store_agg (cs:=[.int .u32 (u[i].1:Int),.slice vb u[i].2.length vc]) (cur:=zT.cells) (b:=w1.heap.size) (E:=X.Tg) hT.agg (by simp (disch:=(try simp only [sPu]);omega)) (by simp (disch:=(try simp only [sPu]);omega)) hnew (by rw [hzTc];rfl) (by intro v hv;simp at hv;rcases hv with rfl | rfl <;> rfl) (oNi ?_))
    rw [pNo]
    simp only [Exit.then]
    have hrow2:=setRow_heap _ _ _ [Value.int .u32 (u[i].1:Int),.slice vb u[i].2.length vc].toArray _ _ hnew
    have hb2:Below w.heap.size w ((w1.alloc (.cells zT.cells X.Tg)).setRow w1.heap.size [Value.int .u32 (u[i].1:Int),.slice vb u[i].2.length vc].toArray):=(hb1.alloc hb1.size _).trans ⟨rfl,rfl,rfl,by simp,fun k hk=>setRow_other _ _ _ _ (by have:=hb1.size;omega)⟩
    have hr2:rangeV ((w1.alloc (.cells zT.cells X.Tg)).setRow w1.heap.size [Value.int .u32 (u[i].1:Int),.slice vb u[i].2.length vc].toArray) w1.heap.size 0 2=some [.int .u32 (u[i].1:Int),.slice vb u[i].2.length vc]:=by
      have hc:∀ j,((w1.alloc (.cells zT.cells X.Tg)).setRow w1.heap.size [Value.int .u32 (u[i].1:Int),.slice vb u[i].2.length vc].toArray).cell? ⟨w1.heap.size,j,none⟩=#[.int .u32 (u[i].1:Int),.slice vb u[i].2.length vc][j]?:=fun j=>cell_of_row _ _ _ _ _ _ hrow2
      simp [rangeV,hc]
    generalize ((w1.alloc (.cells zT.cells X.Tg)).setRow w1.heap.size [Value.int .u32 (u[i].1:Int),.slice vb u[i].2.length vc].toArray)=w2 at hb2 hr2 ⊢
    refine SC.wp_seq (SC.wp_reg ?_)
    iterate 1 (first | (apply ops_1;(focus (simp (disch:=(try simp only [sPu]);omega) [hst,hr2];try rfl))) | (apply ops_y;(focus rfl);(focus ((try simp only [sPu]);omega));(focus (simp (disch:=(try simp only [sPu]);omega) [hst,hr2];done));(focus (simp (disch:=(try simp only [sPu]);omega) [hst,hr2];try rfl))) | (apply ops_n;(focus rfl);(focus ((try simp only [sPu]);omega));(focus (first | (left;simp (disch:=(try simp only [sPu]);omega) [hst,hr2];done) | (right;simp (disch:=(try simp only [sPu]);omega);done)))))
    refine ops_call oF (cF w2 (.int .u32 (u[i].1:Int)) vb u[i].2.length vc rfl) (by simp (disch:=(try simp only [sPu]);omega)) ?_
    rintro e w3 ⟨⟨bo,rfl⟩,hb3⟩
    refine ⟨_,rfl,?_⟩
    have hb3':Below w.heap.size w w3:=hb2.trans ⟨hb3.os,hb3.tape,hb3.output,hb3.size,fun k hk=>hb3.block k (Nat.lt_of_lt_of_le hk hb2.size)⟩
    repeat (first | (apply ops_1;(focus (simp (disch:=(try simp only [sPu]);omega) ;try rfl))) | (apply ops_y;(focus rfl);(focus ((try simp only [sPu]);omega));(focus (simp (disch:=(try simp only [sPu]);omega);done));(focus (simp (disch:=(try simp only [sPu]);omega) ;try rfl))) | (apply ops_n;(focus rfl);(focus ((try simp only [sPu]);omega));(focus (first | (left;simp (disch:=(try simp only [sPu]);omega);done) | (right;simp (disch:=(try simp only [sPu]);omega);done)))))
    refine oNi (SC.wp_cond (t:=!bo) (by simp (disch:=(try simp only [sPu]);omega)) ?_)
    cases bo
    · rw [if_pos (by rfl)]
      refine SC.wp_seq (SC.wp_reg ?_)
      repeat (first | (apply ops_1;(focus (simp (disch:=(try simp only [sPu]);omega) ;try rfl))) | (apply ops_y;(focus rfl);(focus ((try simp only [sPu]);omega));(focus (simp (disch:=(try simp only [sPu]);omega);done));(focus (simp (disch:=(try simp only [sPu]);omega) ;try rfl))) | (apply ops_n;(focus rfl);(focus ((try simp only [sPu]);omega));(focus (first | (left;simp (disch:=(try simp only [sPu]);omega);done) | (right;simp (disch:=(try simp only [sPu]);omega);done)))))
      refine oNi (SC.wp_ret ?_)
      simp only [Exit.then,Exit.inBlock]
      exact ret_tmp hr (by simp [dPu,pd]) ⟨⟨false,by simp (disch:=(try simp only [sPu]);omega)⟩,hb3'⟩
    · rw [if_neg (by simp)]
      refine SC.wp_skip ?_
      simp only [Exit.then,Exit.inBlock]
      have hwi:IntKind.i64.wrap ((i:Int)+1)=(i:Int)+1:=w64q (by omega) (by omega)
      refine SC.wp_reg ?_
      repeat (first | (apply ops_1;(focus (simp (disch:=(try simp only [sPu]);omega) [p10,hwi];try rfl))) | (apply ops_y;(focus rfl);(focus ((try simp only [sPu]);omega));(focus (simp (disch:=(try simp only [sPu]);omega) [p10,hwi];done));(focus (simp (disch:=(try simp only [sPu]);omega) [p10,hwi];try rfl))) | (apply ops_n;(focus rfl);(focus ((try simp only [sPu]);omega));(focus (first | (left;simp (disch:=(try simp only [sPu]);omega) [p10,hwi];done) | (right;simp (disch:=(try simp only [sPu]);omega);done)))))
      refine oNi ?_
      refine ⟨⟨i+1,by simp [sPu,p],by simp [dPu,pd],by simp (disch:=(try simp only [sPu]);omega) [p8],by simp (disch:=(try simp only [sPu]);omega) [p9],by simp (disch:=(try simp only [sPu]);omega),by omega,hb3'⟩,?_⟩
      have e10:getT a 10=.int .i64 (i:Int):=p10
      simp only [e10]
      simp (disch:=(try simp only [sPu]);omega)
      omega
  · rw [if_neg (by rw [decide_eq_false (by omega)];simp)]
    refine SC.wp_exit ?_
    simp only [Exit.then,Exit.inBlock,if_true]
    refine SC.wp_seq (SC.wp_reg ?_)
    repeat (first | (apply ops_1;(focus (simp (disch:=(try simp only [sPu]);omega) ;try rfl))) | (apply ops_y;(focus rfl);(focus ((try simp only [sPu]);omega));(focus (simp (disch:=(try simp only [sPu]);omega);done));(focus (simp (disch:=(try simp only [sPu]);omega) ;try rfl))) | (apply ops_n;(focus rfl);(focus ((try simp only [sPu]);omega));(focus (first | (left;simp (disch:=(try simp only [sPu]);omega);done) | (right;simp (disch:=(try simp only [sPu]);omega);done)))))
    refine oNi (SC.wp_ret ?_)
    exact ret_tmp hr (by simp [dPu,pd]) ⟨⟨true,by simp (disch:=(try simp only [sPu]);omega)⟩,hb1⟩
theorem fits2_ok (hX:stOK P X=true) {F0 T5:Nat} (oF:FnOK P F0) (cF:∀ (w:World) (u:List (Nat × Bytes)) (ub:Option Addr) (uc:Nat),UTagsAt w (· < w.heap.size) ub u→Calls P F0 #[.slice ub u.length uc] w (Asks w))
    (hf:P.funcs[f]?=some fn) (hb:fn.body.map strip=some (sc_zzFits2 X.T X.Bs X.I X.Ts X.Tgs T5 F0)) (hn:fn.ntmps=15) (hr:fn.results=#[.tmp 2]) {G:List (Nat × Bytes)→Prop} (w:World) (t:Tree) (tv:Value) (ht:TV G w (· < w.heap.size) t tv) :
    Calls P f #[tv] w (Asks w):=by
  have hst:=st_facts hX
  obtain ⟨n,s,null,l,u,sb,lb,ub,sc,lc,uc,b,o,cs,hs0,hsc,hlc,huc,hl,hr0,ht0,hG,hu⟩:=ht
  refine fCa hf hb hn (by simp) fun a0 hs hd ha=>?_
  have h0:=ha 0 _ rfl
  simp only [List.getElem_toArray,List.getElem_cons_zero,List.getElem_cons_succ] at h0
  refine SC.wp_seq (SC.wp_reg (oNo rfl (opw_box (v:=treV n (.slice sb s.length sc) null (.slice lb l.length lc) (.slice ub u.length uc)) h0 ?_)))
  have hnew:=heap_alloc_new w (.cells (treV n (.slice sb s.length sc) null (.slice lb l.length lc) (.slice ub u.length uc)).cells X.T)
  have hc1:(w.alloc (.cells (treV n (.slice sb s.length sc) null (.slice lb l.length lc) (.slice ub u.length uc)).cells X.T)).cell? ⟨w.heap.size,1,none⟩=some (.slice sb s.length sc):=by rw [cell_of_row _ _ _ _ _ _ hnew];rfl
  have hc3:(w.alloc (.cells (treV n (.slice sb s.length sc) null (.slice lb l.length lc) (.slice ub u.length uc)).cells X.T)).cell? ⟨w.heap.size,3,none⟩=some (.slice lb l.length lc):=by rw [cell_of_row _ _ _ _ _ _ hnew];rfl
  have hc4:(w.alloc (.cells (treV n (.slice sb s.length sc) null (.slice lb l.length lc) (.slice ub u.length uc)).cells X.T)).cell? ⟨w.heap.size,4,none⟩=some (.slice ub u.length uc):=by rw [cell_of_row _ _ _ _ _ _ hnew];rfl
  have hb1:Below w.heap.size w (w.alloc (.cells (treV n (.slice sb s.length sc) null (.slice lb l.length lc) (.slice ub u.length uc)).cells X.T)):=(Below.refl _ _).alloc (Nat.le_refl _) _
  generalize w.alloc (.cells (treV n (.slice sb s.length sc) null (.slice lb l.length lc) (.slice ub u.length uc)).cells X.T)=w1 at hc1 hc3 hc4 hb1 ⊢
  have hu1:UTagsAt w1 (· < w1.heap.size) ub u:=tagsAt_mono hu (fun k hk=>Nat.lt_of_lt_of_le hk hb1.size) fun k hk=>hb1.block k hk
  repeat (first | (apply ops_1;(focus (simp (disch:=(try simp only [sPu]);omega) ;try rfl))) | (apply ops_y;(focus rfl);(focus ((try simp only [sPu]);omega));(focus (simp (disch:=(try simp only [sPu]);omega);done));(focus (simp (disch:=(try simp only [sPu]);omega) ;try rfl))) | (apply ops_n;(focus rfl);(focus ((try simp only [sPu]);omega));(focus (first | (left;simp (disch:=(try simp only [sPu]);omega);done) | (right;simp (disch:=(try simp only [sPu]);omega);done)))))
  refine oNi (SC.wp_seq (SC.wp_seq (SC.wp_reg ?_)))
  repeat (first | (apply ops_1;(focus (simp (disch:=(try simp only [sPu]);omega) [hst,hc1];try rfl))) | (apply ops_y;(focus rfl);(focus ((try simp only [sPu]);omega));(focus (simp (disch:=(try simp only [sPu]);omega) [hst,hc1];done));(focus (simp (disch:=(try simp only [sPu]);omega) [hst,hc1];try rfl))) | (apply ops_n;(focus rfl);(focus ((try simp only [sPu]);omega));(focus (first | (left;simp (disch:=(try simp only [sPu]);omega) [hst,hc1];done) | (right;simp (disch:=(try simp only [sPu]);omega);done)))))
  refine oNi (SC.wp_cond (t:=decide ((s.length:Int) > 2147483647)) (by simp (disch:=(try simp only [sPu]);omega)) ?_)
  split
  · refine SC.wp_seq (SC.wp_reg ?_)
    repeat (first | (apply ops_1;(focus (simp (disch:=(try simp only [sPu]);omega) ;try rfl))) | (apply ops_y;(focus rfl);(focus ((try simp only [sPu]);omega));(focus (simp (disch:=(try simp only [sPu]);omega);done));(focus (simp (disch:=(try simp only [sPu]);omega) ;try rfl))) | (apply ops_n;(focus rfl);(focus ((try simp only [sPu]);omega));(focus (first | (left;simp (disch:=(try simp only [sPu]);omega);done) | (right;simp (disch:=(try simp only [sPu]);omega);done)))))
    refine oNi (SC.wp_ret ?_)
    exact ret_tmp hr (by simp [dPu,hd]) ⟨⟨false,by simp (disch:=(try simp only [sPu]);omega)⟩,hb1⟩
  refine SC.wp_skip ?_
  simp only [Exit.then]
  refine SC.wp_seq (SC.wp_seq (SC.wp_reg ?_))
  repeat (first | (apply ops_1;(focus (simp (disch:=(try simp only [sPu]);omega) [hst,hc3];try rfl))) | (apply ops_y;(focus rfl);(focus ((try simp only [sPu]);omega));(focus (simp (disch:=(try simp only [sPu]);omega) [hst,hc3];done));(focus (simp (disch:=(try simp only [sPu]);omega) [hst,hc3];try rfl))) | (apply ops_n;(focus rfl);(focus ((try simp only [sPu]);omega));(focus (first | (left;simp (disch:=(try simp only [sPu]);omega) [hst,hc3];done) | (right;simp (disch:=(try simp only [sPu]);omega);done)))))
  refine oNi (SC.wp_cond (t:=decide ((l.length:Int) > 2147483647)) (by simp (disch:=(try simp only [sPu]);omega)) ?_)
  split
  · refine SC.wp_seq (SC.wp_reg ?_)
    repeat (first | (apply ops_1;(focus (simp (disch:=(try simp only [sPu]);omega) ;try rfl))) | (apply ops_y;(focus rfl);(focus ((try simp only [sPu]);omega));(focus (simp (disch:=(try simp only [sPu]);omega);done));(focus (simp (disch:=(try simp only [sPu]);omega) ;try rfl))) | (apply ops_n;(focus rfl);(focus ((try simp only [sPu]);omega));(focus (first | (left;simp (disch:=(try simp only [sPu]);omega);done) | (right;simp (disch:=(try simp only [sPu]);omega);done)))))
    refine oNi (SC.wp_ret ?_)
    exact ret_tmp hr (by simp [dPu,hd]) ⟨⟨false,by simp (disch:=(try simp only [sPu]);omega)⟩,hb1⟩
  refine SC.wp_skip ?_
  simp only [Exit.then]
  refine SC.wp_seq (SC.wp_seq (SC.wp_reg ?_))
  iterate 2 (first | (apply ops_1;(focus (simp (disch:=(try simp only [sPu]);omega) [hst,hc4];try rfl))) | (apply ops_y;(focus rfl);(focus ((try simp only [sPu]);omega));(focus (simp (disch:=(try simp only [sPu]);omega) [hst,hc4];done));(focus (simp (disch:=(try simp only [sPu]);omega) [hst,hc4];try rfl))) | (apply ops_n;(focus rfl);(focus ((try simp only [sPu]);omega));(focus (first | (left;simp (disch:=(try simp only [sPu]);omega) [hst,hc4];done) | (right;simp (disch:=(try simp only [sPu]);omega);done)))))
  refine ops_call oF (cF w1 u ub uc hu1) (by simp (disch:=(try simp only [sPu]);omega)) ?_
  rintro e w2 ⟨⟨bo,rfl⟩,hb2⟩
  refine ⟨_,rfl,?_⟩
  have hb2':Below w.heap.size w w2:=hb1.trans ⟨hb2.os,hb2.tape,hb2.output,hb2.size,fun k hk=>hb2.block k (Nat.lt_of_lt_of_le hk hb1.size)⟩
  repeat (first | (apply ops_1;(focus (simp (disch:=(try simp only [sPu]);omega) ;try rfl))) | (apply ops_y;(focus rfl);(focus ((try simp only [sPu]);omega));(focus (simp (disch:=(try simp only [sPu]);omega);done));(focus (simp (disch:=(try simp only [sPu]);omega) ;try rfl))) | (apply ops_n;(focus rfl);(focus ((try simp only [sPu]);omega));(focus (first | (left;simp (disch:=(try simp only [sPu]);omega);done) | (right;simp (disch:=(try simp only [sPu]);omega);done)))))
  refine oNi (SC.wp_cond (t:=!bo) (by simp (disch:=(try simp only [sPu]);omega)) ?_)
  split
  · refine SC.wp_seq (SC.wp_reg ?_)
    repeat (first | (apply ops_1;(focus (simp (disch:=(try simp only [sPu]);omega) ;try rfl))) | (apply ops_y;(focus rfl);(focus ((try simp only [sPu]);omega));(focus (simp (disch:=(try simp only [sPu]);omega);done));(focus (simp (disch:=(try simp only [sPu]);omega) ;try rfl))) | (apply ops_n;(focus rfl);(focus ((try simp only [sPu]);omega));(focus (first | (left;simp (disch:=(try simp only [sPu]);omega);done) | (right;simp (disch:=(try simp only [sPu]);omega);done)))))
    refine oNi (SC.wp_ret ?_)
    exact ret_tmp hr (by simp [dPu,hd]) ⟨⟨false,by simp (disch:=(try simp only [sPu]);omega)⟩,hb2'⟩
  refine SC.wp_skip ?_
  simp only [Exit.then]
  refine SC.wp_seq (SC.wp_reg ?_)
  repeat (first | (apply ops_1;(focus (simp (disch:=(try simp only [sPu]);omega) ;try rfl))) | (apply ops_y;(focus rfl);(focus ((try simp only [sPu]);omega));(focus (simp (disch:=(try simp only [sPu]);omega);done));(focus (simp (disch:=(try simp only [sPu]);omega) ;try rfl))) | (apply ops_n;(focus rfl);(focus ((try simp only [sPu]);omega));(focus (first | (left;simp (disch:=(try simp only [sPu]);omega);done) | (right;simp (disch:=(try simp only [sPu]);omega);done)))))
  refine oNi (SC.wp_ret ?_)
  exact ret_tmp hr (by simp [dPu,hd]) ⟨⟨true,by simp (disch:=(try simp only [sPu]);omega)⟩,hb2'⟩
end
end Go.Proofs.YtgaplicnofhliaaDoor.K
namespace Go.Proofs.YtgaplicnofhliaaDoor.K
open Go Go.RowKit Go.Proofs.YtgaplicnofhliaaDoor.T
set_option linter.unusedVariables false
set_option linter.unusedSimpArgs false
section
variable {X:RX} {a a':Act} {w w':World} {st:Option Bytes} {Q:Exit→Act→World→Prop}
theorem RInv.only {st':Option Bytes} (hX:X.ok) (h:RInv X a w st) (ho:Only X.rb w w') (hr:RdAt X.TR w' X.S X.rb st'):RInv X a w' st' :=
  ⟨h.size,h.defers,h.uns,h.rd,h.ver,h.flex,hr,fun sb hsb=>⟨(h.src sb hsb).1,Nat.lt_of_lt_of_le (h.src sb hsb).2 ho.size⟩,h.below.trans (ho.below hX.hB h.heap),Nat.le_trans h.heap ho.size⟩
theorem rGet_ok {α:Type} {f v t:Nat} {p:Rd α} {ty:Value→Prop} {ok:World→(Nat→Prop)→α→Value→Prop} (hX:X.ok) (hf:RC X.P X.TR X.gb f p ty ok) (hi:RInv X a w st) (hv:10≤v) (hvN:v < X.N) (ht:10≤t) (htN:t < X.N)
    (hQ:∀ a' w' y,RInv X a' w' (after st p)→getT a' v=y→(∀ s,s ≠ v→s ≠ t→getT a' s=getT a s)→Only X.rb w w'→ty y→(∀ b x r,st=some b→p b=some (x,r)→ok w' (NewF X.S w w') x y)→Q .normal a' w') :
    (rGet f v t).wp X.P Q a w:=by
  have hsz:=hi.size
  refine SC.wp_reg (ops_cal hf.1 (R:=fun e w'=>∃ y,e=.returned y∧RdAt X.TR w' X.S X.rb (after st p)∧Only X.rb w w'∧ty y∧∀ b x r,st=some b→p b=some (x,r)→ok w' (NewF X.S w w') x y) ?_ ?_)
  · have:=hf.2 w X.S X.rb st (Nat.lt_of_lt_of_le hX.hgb hi.heap) hi.at_ hi.src
    rw [show (([7].map (getT a)).toArray:Array Value)=#[.pointer (some ⟨X.rb,0,none⟩)] by simp [hi.rd]]
    exact this
  · rintro e w' ⟨y,rfl,h1,h2,h3,h4⟩
    refine ⟨y,rfl,ops_asg (oNi ?_)⟩
    refine hQ _ w' y ((hi.only hX h2 h1).act (by simp [sPu]) (by simp [dPu]) fun s hs=>?_) ?_ ?_ h2 h3 h4
    · rw [gTn (by omega),gTn (by omega)]
    · rw [gTp (by rw [sPu];omega),gTp (by omega)]
    · intro s h1 h2
      rw [gTn h1,gTn h2]
theorem rStore_ok {p x t S f T b o off:Nat} {y:Value} {cs:Array Value} {E:TypeId} (hX:X.ok) (hi:RInv X a w st) (hp:getT a p=.pointer (some ⟨b,o,none⟩)) (hx:getT a x=y) (hy:y.oneCell'=true) (hpt:p < t) (hxt:x < t) (ht:10≤t) (htN:t+4≤X.N)
    (hS:fieldB X.P S f off=true) (hT:oneB X.P T=true) (hrow:w.heap[b]?=some (.cells cs E (0,0))) (hlt:o+off < cs.size) (hb:b ≠ X.rb) (hbS:X.S ≠ some b) (hB:X.B≤b)
    (hQ:∀ a',RInv X a' (w.setRow b (cs.setIfInBounds (o+off) y)) st→(∀ s,s < t→getT a' s=getT a s)→Q .normal a' (w.setRow b (cs.setIfInBounds (o+off) y))) :
    (rStore p x t S f T).wp X.P Q a w:=by
  have hsz:=hi.size
  refine SC.wp_reg (ops_mv (ops_mv (ops_nilc (ad:=⟨b,o,none⟩) ?_ (ops_fa hS (b:=b) (o:=o) ?_ (oNo rfl (opw_store_one (ad:=⟨b,o+off,none⟩) (v:=y) (v0:=cs[o+off]) hT ?_ ?_ hy ?_ ?_ (oNi ?_)))))))
  · rw [gTn (by omega),gTp (by omega)]
    exact hp
  · rw [gTp (by simp only [sPu];omega)]
  · rw [eTm,gTp (by simp only [sPu];omega)]
  · rw [eTm,gTn (by omega),gTn (by omega),gTp (by simp only [sPu];omega),gTn (by omega)]
    exact hx
  · rw [cell_of_row _ _ _ _ _ _ hrow]
    exact Array.getElem?_eq_getElem hlt
  · simp [World.frozen?,hrow]
  · rw [pNo,setCell_eq_setRow _ _ _ _ _ _ _ hrow]
    refine hQ _ ((hi.setRow hb hbS hB _).act (by simp [sPu]) (by simp [dPu]) fun s hs=>?_) fun s hs=>?_
    · rw [gTn (by omega),gTn (by omega),gTn (by omega),gTn (by omega)]
    · rw [gTn (by omega),gTn (by omega),gTn (by omega),gTn (by omega)]
theorem cset_ok {v:Nat} {x:Value} (hi:RInv X a w st) (hv:10≤v) (hvN:v < X.N) (hQ:∀ a',RInv X a' w st→getT a' v=x→(∀ s,s ≠ v→getT a' s=getT a s)→Q .normal a' w):(cset v x).wp X.P Q a w:=by
  have hsz:=hi.size
  refine SC.wp_reg (oNo rfl (opw_assign (oNi ?_)))
  rw [eCo]
  refine hQ _ (hi.act (by simp [sPu]) (by simp [dPu]) fun s hs=>?_) ?_ ?_
  · rw [gTn (by omega)]
  · rw [gTp (by omega)]
  · intro s h1
    rw [gTn h1]
theorem mvCond_ok {x t:Nat} {b:Bool} {y z:SC} (hi:RInv X a w st) (ht:10≤t) (htN:t < X.N) (hx:getT a x=.bool b)
    (hQ:∀ a',RInv X a' w st→(∀ s,s ≠ t→getT a' s=getT a s)→(if b then y else z).wp X.P Q a' w):(SC.seq (.reg [mv t x]) (.cond (.tmp t) y z)).wp X.P Q a w:=by
  have hsz:=hi.size
  refine SC.wp_seq (SC.wp_reg (ops_mv (oNi ?_)))
  refine SC.wp_cond (t:=b) (by rw [eTm,gTp (by omega)];exact hx) ?_
  refine hQ _ (hi.act (by simp [sPu]) (by simp [dPu]) fun s hs=>?_) fun s h1=>?_
  · rw [gTn (by omega)]
  · rw [gTn h1]
def okRP (I:RIds) (c:Ctx) (nul:Bool) (k:PK):Bool :=
  match k with
  | .str=>if nul then (c.never || I.rCNStr != 0) && I.rNStr != 0 else (c.never || I.rCStr != 0) && I.rStr != 0
  | .bytes=>if nul then c.never && I.rNBytes != 0 else (c.never || I.rCBytes != 0) && I.rBytes != 0
  | .uuid=>!nul && I.rUuid != 0
  | k=>!nul && rNum I k != 0
theorem rPrim_ok {k:PK} {nul:Bool} {v t:Nat} {rest:SC} (hX:X.ok) (hk:k ≠ .uuid) (hok:okRP X.I X.c nul k=true) (hi:RInv X a w st) (hv:10≤v) (hvT:v < X.T0) (ht:X.T0≤t) (htN:t+rPrimT X.c nul k≤X.N)
    (hQ:∀ a' w' y,RInv X a' w' (after st (pPrim X.flex nul k))→getT a' v=y→(∀ s,s ≠ v→s < t→getT a' s=getT a s)→Only X.rb w w'→tyP nul k y →
      (∀ b x r,st=some b→pPrim X.flex nul k b=some (x,r)→okP nul k w' (NewF X.S w w') x y)→rest.wp X.P Q a' w'):(rPrim X.I X.c nul k v t rest).wp X.P Q a w:=by
  have hten:=hX.ten
  have kr:=hX.kr
  have get:∀ {f:Nat} {p:Rd Tree} (a1:Act) (t':Nat) (Q':Exit→Act→World→Prop),p=pPrim X.flex nul k→RC X.P X.TR X.gb f p (tyP nul k) (okP nul k)→RInv X a1 w st→(∀ s,s ≠ v→s < t→getT a1 s=getT a s)→t≤t'→t' < X.N →
      (∀ a' w',rest.wp X.P Q a' w'→Q' .normal a' w')→(rGet f v t').wp X.P Q' a1 w:=by
    intro f p a1 t' Q' hp hf hi1 hs1 ht1 ht2 hQ'
    subst hp
    refine rGet_ok hX hf hi1 hv (by omega) (by omega) ht2 fun a' w' y h1 h2 h3 h4 h5 h6=>hQ' _ _ (hQ a' w' y h1 h2 (fun s hs1' hs2=>?_) h4 h5 h6)
    rw [h3 s hs1' (by omega)]
    exact hs1 s hs1' hs2
  have flex9:X.c.never=false→∀ a1,(∀ s,s ≠ v→s < t→getT a1 s=getT a s)→getT a1 9=.bool X.flex:=fun hn a1 h=>(h 9 (by omega) (by omega)).trans (hi.flex hn)
  have uns2:∀ a1,(∀ s,s ≠ v→s < t→getT a1 s=getT a s)→getT a1 2=.bool false:=fun a1 h=>(h 2 (by omega) (by omega)).trans hi.uns
  unfold rPrim
  unfold rPrimT at htN
  by_cases hs:k=.str
  · subst hs
    rw [if_pos rfl] at htN ⊢
    unfold rTextT at htN
    refine SC.wp_seq (cset_ok hi hv (by omega) fun a1 hi1 _ hs1=>?_)
    have hs1':∀ s,s ≠ v→s < t→getT a1 s=getT a s:=fun s h1 _=>hs1 s h1
    refine SC.wp_seq ?_
    unfold rText okRP at *
    cases hn:X.c.never with
    | true =>
      have hfl:=hX.never hn
      simp only [hn,if_true] at htN hok ⊢
      cases nul with
      | true =>
        simp only [if_true,Bool.true_or,Bool.true_and,bne_iff_ne,ne_eq] at hok ⊢
        refine mvCond_ok hi1 (by omega) (by omega) (uns2 a1 hs1') fun a2 hi2 hs2=>?_
        rw [if_neg (by simp)]
        exact get a2 (t+2) _ (by rw [hfl]) (kr.nstr hok) hi2 (fun s h1 h2=>(hs2 s (by omega)).trans (hs1' s h1 h2)) (by omega) (by omega) fun _ _ h=>h
      | false =>
        simp only [Bool.false_eq_true,if_false,Bool.true_or,Bool.true_and,bne_iff_ne,ne_eq] at hok ⊢
        refine mvCond_ok hi1 (by omega) (by omega) (uns2 a1 hs1') fun a2 hi2 hs2=>?_
        rw [if_neg (by simp)]
        exact get a2 (t+2) _ (by rw [hfl]) (kr.str hok) hi2 (fun s h1 h2=>(hs2 s (by omega)).trans (hs1' s h1 h2)) (by omega) (by omega) fun _ _ h=>h
    | false =>
      simp only [hn,Bool.false_eq_true,if_false,Bool.false_or,Bool.and_eq_true,bne_iff_ne,ne_eq] at htN hok ⊢
      cases nul with
      | true =>
        simp only [if_true,Bool.and_eq_true,bne_iff_ne,ne_eq] at hok ⊢
        refine mvCond_ok hi1 (by omega) (by omega) (flex9 hn a1 hs1') fun a2 hi2 hs2=>?_
        have hs2':∀ s,s ≠ v→s < t→getT a2 s=getT a s:=fun s h1 h2=>(hs2 s (by omega)).trans (hs1' s h1 h2)
        cases hfl:X.flex with
        | true =>
          rw [if_pos rfl]
          refine mvCond_ok hi2 (by omega) (by omega) (uns2 a2 hs2') fun a3 hi3 hs3=>?_
          rw [if_neg (by simp)]
          exact get a3 (t+3) _ (by rw [hfl]) (kr.cnstr hok.1) hi3 (fun s h1 h2=>(hs3 s (by omega)).trans (hs2' s h1 h2)) (by omega) (by omega) fun _ _ h=>h
        | false =>
          rw [if_neg (by simp)]
          refine mvCond_ok hi2 (by omega) (by omega) (uns2 a2 hs2') fun a3 hi3 hs3=>?_
          rw [if_neg (by simp)]
          exact get a3 (t+6) _ (by rw [hfl]) (kr.nstr hok.2) hi3 (fun s h1 h2=>(hs3 s (by omega)).trans (hs2' s h1 h2)) (by omega) (by omega) fun _ _ h=>h
      | false =>
        simp only [Bool.false_eq_true,if_false,Bool.and_eq_true,bne_iff_ne,ne_eq] at hok ⊢
        refine mvCond_ok hi1 (by omega) (by omega) (uns2 a1 hs1') fun a2 hi2 hs2=>?_
        have hs2':∀ s,s ≠ v→s < t→getT a2 s=getT a s:=fun s h1 h2=>(hs2 s (by omega)).trans (hs1' s h1 h2)
        rw [if_neg (by simp)]
        refine mvCond_ok hi2 (by omega) (by omega) (flex9 hn a2 hs2') fun a3 hi3 hs3=>?_
        cases hfl:X.flex with
        | true =>
          rw [if_pos rfl]
          exact get a3 (t+5) _ (by rw [hfl]) (kr.cstr hok.1) hi3 (fun s h1 h2=>(hs3 s (by omega)).trans (hs2' s h1 h2)) (by omega) (by omega) fun _ _ h=>h
        | false =>
          rw [if_neg (by simp)]
          exact get a3 (t+6) _ (by rw [hfl]) (kr.str hok.2) hi3 (fun s h1 h2=>(hs3 s (by omega)).trans (hs2' s h1 h2)) (by omega) (by omega) fun _ _ h=>h
  · rw [if_neg hs] at htN ⊢
    by_cases hb:k=.bytes∧X.c.never=false
    · obtain ⟨rfl,hn⟩:=hb
      rw [if_pos ⟨rfl,hn⟩] at htN ⊢
      unfold okRP at hok
      rw [hn] at hok
      cases nul with
      | true=>simp at hok
      | false =>
        simp only [Bool.false_eq_true,if_false,Bool.false_or,Bool.and_eq_true,bne_iff_ne,ne_eq] at hok
        refine SC.wp_seq (cset_ok hi hv (by omega) fun a1 hi1 _ hs1=>?_)
        have hs1':∀ s,s ≠ v→s < t→getT a1 s=getT a s:=fun s h1 _=>hs1 s h1
        refine SC.wp_seq ?_
        refine mvCond_ok hi1 (by omega) (by omega) (flex9 hn a1 hs1') fun a2 hi2 hs2=>?_
        have hs2':∀ s,s ≠ v→s < t→getT a2 s=getT a s:=fun s h1 h2=>(hs2 s (by omega)).trans (hs1' s h1 h2)
        cases hfl:X.flex with
        | true =>
          rw [if_pos rfl]
          exact get a2 (t+1) _ (by rw [hfl]) (kr.cbytes hok.1) hi2 hs2' (by omega) (by omega) fun _ _ h=>h
        | false =>
          rw [if_neg (by simp)]
          exact get a2 (t+2) _ (by rw [hfl]) (kr.bytes hok.2) hi2 hs2' (by omega) (by omega) fun _ _ h=>h
    · rw [if_neg hb] at htN ⊢
      by_cases hb2:k=.bytes∧nul=false
      · obtain ⟨rfl,rfl⟩:=hb2
        rw [if_pos ⟨rfl,rfl⟩]
        have hn:X.c.never=true:=by simpa using hb
        have hfl:=hX.never hn
        unfold okRP at hok
        simp only [hn,Bool.false_eq_true,if_false,Bool.true_or,Bool.true_and,bne_iff_ne,ne_eq] at hok
        exact SC.wp_seq (get a t _ (by rw [hfl]) (kr.bytes hok) hi (fun _ _ _=>rfl) (by omega) (by omega) fun _ _ h=>h)
      · rw [if_neg hb2]
        refine SC.wp_seq ?_
        have hnum:RC X.P X.TR X.gb (rNum X.I k) (pPrim X.flex nul k) (tyP nul k) (okP nul k):=by
          unfold okRP at hok
          cases k <;> simp only [Bool.and_eq_true,bne_iff_ne,ne_eq,Bool.not_eq_true'] at hok
          case str=>exact absurd rfl hs
          case uuid=>exact absurd rfl hk
          case bytes =>
            have hnn:nul=true:=by simpa using hb2
            subst hnn
            have hn:X.c.never=true:=by simpa using hb
            have hfl:=hX.never hn
            simp only [hn,if_true,Bool.true_and,bne_iff_ne,ne_eq] at hok
            rw [hfl]
            exact kr.nbytes hok
          all_goals
            obtain ⟨rfl,h2⟩:=hok
            exact kr.num _ rfl h2
        exact get a t _ rfl hnum hi (fun _ _ _=>rfl) (by omega) (by omega) fun _ _ h=>h
end
end Go.Proofs.YtgaplicnofhliaaDoor.K
namespace Go.Proofs.YtgaplicnofhliaaDoor.K
open Go Go.RowKit Go.Proofs.YtgaplicnofhliaaDoor.T
set_option linter.unusedVariables false
set_option linter.unusedSimpArgs false
def zOK (P:Program) (E size:Nat) (chk:(Nat→Option Value)→Bool):Bool :=
  match P.info? E with
  | some i=>match i.zero with
    | some z=>z.cells.size == size && i.size == size && decide (0 < size) && decide (i.bytes≤131072) && chk (fun j=>z.cells[j]?)
    | none=>false
  | none=>false
theorem zOK_of {P:Program} {E size:Nat} {chk:(Nat→Option Value)→Bool} (h:zOK P E size chk=true) :
    ∃ i z,P.info? E=some i∧i.zero=some z∧z.cells.size=size∧i.size=size∧0 < size∧i.bytes≤131072∧chk (fun j=>z.cells[j]?)=true:=by
  unfold zOK at h
  split at h <;> try (simp at h;done)
  rename_i i hi
  split at h <;> try (simp at h;done)
  rename_i z hz
  simp only [Bool.and_eq_true,beq_iff_eq,decide_eq_true_eq] at h
  obtain ⟨⟨⟨⟨h1,h2⟩,h3⟩,h4⟩,h5⟩:=h
  exact ⟨i,z,hi,hz,h1,h2,h3,h4,h5⟩
def okRTags (P:Program) (I:RIds) (c:Ctx) (S:Nat):Option (Nat × Nat)→Bool
  | none=>c.never
  | some (f,off)=>!c.never && fieldB P S f off && aggB P I.tTags 1 && I.rTags != 0
mutual
def okRElem (P:Program) (I:RIds) (c:Ctx) (T E size:Nat):Ty→Bool
  | .prim k=>if k=.uuid then size == 16 && arrB P E 16 && I.rUuid != 0 && zOK P E size (fun _=>true) else size == 1 && oneB P E && okRP I c false k && zOK P E size (fun _=>true)
  | .list _ _ _ _=>false
  | .struct S sz _ tags fs=>sz == size && zOK P E size (fun g=>frFsB g fs 0) && okRTags P I c S tags && okRFs P I c S fs
def okRVal (P:Program) (I:RIds) (c:Ctx) (h:Hd):Ty→Bool
  | .prim k =>
    if k=.uuid then !h.enum && !nuOf h && arrB P h.typ 16 && I.rUuid != 0
    else if h.enum then k == .i8 && !nuOf h && oneB P h.typ && I.rI8 != 0
    else oneB P h.typ && okRP I c (nuOf h) k
  | .list T E size of=>!h.enum && oneB P T && sliceB P T E size && (c.never || I.rCArr != 0) && I.rArr != 0 && I.rOk != 0 && (intK P I.tI32 == some .i32) && okRElem P I c T E size of
  | .struct S size _ tags fs=>!h.enum && (!nuOf h || (oneB P h.typ && I.rI8 != 0 && I.rOk != 0 && zOK P S size (fun g=>frFsB g fs 0))) && okRTags P I c S tags && okRFs P I c S fs
def okRFs (P:Program) (I:RIds) (c:Ctx) (S:Nat):Fs→Bool
  | .nil=>true
  | .cons h ty r=>fieldB P S h.idx h.off && (decide (h.null < 0) || decide (h.null≤h.from_)) && okRVal P I c h ty && okRFs P I c S r
end
mutual
def DefTy (P:Program):Ty→Prop
  | .prim _=>True
  | .list _ _ _ of=>DefTy P of
  | .struct _ size d _ fs=>(∃ out,DefAt P d size out∧outFs out fs 0=true∧(out.all fun x=>decide (x.1 < size))=true)∧DefFs P fs
def DefFs (P:Program):Fs→Prop
  | .nil=>True
  | .cons _ ty r=>DefTy P ty∧DefFs P r
end
abbrev RetOK (X:RX) (Q:Exit→Act→World→Prop) (C:Prop):Prop:=∀ (a':Act) (w':World),a'.defers=[]→getT a' 6=X.err→Below X.B X.w0 w'→C→Q .ret a' w'
def ValOK (X:RX) (ty:Ty):Prop:=∀ (S p:Nat) (h:Hd) (v t bk b o:Nat) (O:Nat→Prop) (a:Act) (w:World) (st:Option Bytes) (Q:Exit→Act→World→Prop),
  okRVal X.P X.I X.c h ty=true→layTy (nuOf h) ty=true→DefTy X.P ty→fieldB X.P S h.idx h.off=true→(h.null < 0∨h.null≤X.ver) →
  RInv X a w st→getT a p=.pointer (some ⟨b,o,none⟩)→Opn X O b w→RowAt w b (o+h.off) (szTy (nuOf h) ty)→FrTy w b (nuOf h) ty (o+h.off) →
  p < v→10≤v→v+rV h ty≤X.T0→X.T0≤t→t+rVT X.c h ty≤X.N →
  (∀ a' w',RInv X a' w' (after st (pTy X.ver X.flex ty (nuOf h)))→RSame X a a' v t→Foot X.rb b (o+h.off) (o+h.off+szTy (nuOf h) ty) w w' →
    (∀ r x r',st=some r→pTy X.ver X.flex ty (nuOf h) r=some (x,r')→FitTy X.ver ty x→HTy X.G w' (FO O w') X.ver X.flex ty (nuOf h) b (o+h.off) x)→Q .normal a' w') →
  RetOK X Q (after st (pTy X.ver X.flex ty (nuOf h))=none) →
  (rVal X.I X.c S p h v t bk ty).wp X.P Q a w
def ElemOK (X:RX) (ty:Ty):Prop:=∀ (T E size sa si v t bk bl l cap idx:Nat) (O:Nat→Prop) (a:Act) (w:World) (st:Option Bytes) (Q:Exit→Act→World→Prop),
  okRElem X.P X.I X.c T E size ty=true→sliceB X.P T E size=true→layTy false ty=true→DefTy X.P ty →
  RInv X a w st→getT a sa=.slice (some ⟨bl,0,none⟩) l cap→getT a si=.int .i32 (idx:Int)→idx < l→Opn X O bl w→RowAt w bl (idx * size) size→FrTy w bl false ty (idx * size) →
  sa < v→si < v→10≤v→v+rVE ty≤X.T0→X.T0≤t→t+rET X.c ty≤X.N →
  (∀ a' w',RInv X a' w' (after st (pTy X.ver X.flex ty false))→RSame X a a' v t→Foot X.rb bl (idx * size) (idx * size+size) w w' →
    (∀ r x r',st=some r→pTy X.ver X.flex ty false r=some (x,r')→FitTy X.ver ty x→HTy X.G w' (FO O w') X.ver X.flex ty false bl (idx * size) x)→Q .normal a' w') →
  RetOK X Q (after st (pTy X.ver X.flex ty false)=none) →
  wpL X.P Q (rElem X.I X.c T E sa si v t bk ty) a w
def FsOK (X:RX) (fs:Fs):Prop:=∀ (S p v t bk b o lo n:Nat) (O:Nat→Prop) (a:Act) (w:World) (st:Option Bytes) (Q:Exit→Act→World→Prop) (rest:List SC),
  okRFs X.P X.I X.c S fs=true→layFs lo n fs=true→DefFs X.P fs →
  RInv X a w st→getT a p=.pointer (some ⟨b,o,none⟩)→Opn X O b w→RowAt w b o n→FrFs w b fs o →
  p < v→10≤v→v+rVs fs≤X.T0→X.T0≤t→t+rFT X.c fs≤X.N →
  (∀ a' w',RInv X a' w' (after st (pFs X.ver X.flex fs))→RSame X a a' v t→Foot X.rb b (o+lo) (o+n) w w' →
    (∀ r xs r',st=some r→pFs X.ver X.flex fs r=some (xs,r')→FitFs X.ver fs xs→HFs X.G w' (FO O w') X.ver X.flex fs b o xs)→wpL X.P Q rest a' w') →
  RetOK X Q (after st (pFs X.ver X.flex fs)=none) →
  wpL X.P Q (rFs X.I X.c S p v t bk fs ++ rest) a w
section
variable {X:RX}
theorem hPrim_put {O:Nat→Prop} {b o:Nat} {w w1:World} {cs:Array Value} {E:TypeId} {nul:Bool} {k:PK} {x:Tree} {y:Value} (hk:k ≠ .uuid) (ho:Opn X O b w) (hs:w.heap.size≤w1.heap.size) (hsrc:∀ sb,X.S=some sb→sb < w.heap.size)
    (hrow:w1.heap[b]?=some (.cells cs E (0,0))) (hlt:o < cs.size) (hok:okP nul k w1 (NewF X.S w w1) x y) (hfit:x.s.length≤most):HPrim (w1.setRow b (cs.setIfInBounds o y)) (FO O (w1.setRow b (cs.setIfInBounds o y))) nul b o x k:=by
  unfold HPrim
  rw [if_neg hk]
  refine ⟨y,?_,?_⟩
  · rw [cell_setRow_same _ _ _ _ _ _ _ hrow]
    simp [Array.getElem?_setIfInBounds,hlt]
  · have:=hok hfit
    rw [if_neg hk] at this
    refine pVal_frame (fun k hk=>⟨?_,?_⟩) this
    · have:=newF_fo ho hs hsrc k hk
      exact ⟨by simpa using this.1,this.2⟩
    · refine setRow_other _ _ _ _ fun e=>?_
      have:=(newF_fo ho hs hsrc k hk).2
      exact this (e ▸ ho.ob)
theorem valOK_prim (hX:X.ok) (k:PK):ValOK X (.prim k):=by
  intro S p h v t bk b o O a w st Q hok hlay hdef hS hnull hi hp ho hrow hfr hpv hv hvT ht htN hQ hR
  have hten:=hX.ten
  have hbS:X.S ≠ some b:=fun e=>ho.src b e ho.ob
  unfold rVal
  simp only [rVT,rV] at htN hvT
  simp only [okRVal] at hok
  simp only [szTy] at hrow hQ
  obtain ⟨cs,E,hcs,hlen⟩:=hrow
  by_cases hk:k=.uuid
  · subst hk
    rw [if_pos rfl] at htN hok ⊢
    rw [if_pos rfl] at hlen
    simp only [Bool.and_eq_true,Bool.not_eq_true',bne_iff_ne,ne_eq] at hok
    obtain ⟨⟨⟨hen,hnu⟩,harr⟩,hfn⟩:=hok
    rw [hen] at hvT
    simp only [Bool.false_eq_true,if_false] at hvT
    have hsz:=hi.size
    have hrc:=hX.kr.uuid hfn
    obtain ⟨hagg,i,z,hii,hiz,hzc⟩:=arr_of harr
    refine SC.wp_seq (SC.wp_reg (ops_cal hrc.1 (R:=fun e w'=>∃ y,e=.returned y∧RdAt X.TR w' X.S X.rb (after st (pPrim false false .uuid))∧Only X.rb w w'∧tyP false .uuid y∧∀ b x r,st=some b→pPrim false false .uuid b=some (x,r)→okP false .uuid w' (NewF X.S w w') x y) ?_ ?_))
    · have:=hrc.2 w X.S X.rb st (Nat.lt_of_lt_of_le hX.hgb hi.heap) hi.at_ hi.src
      rw [show (([7].map (getT a)).toArray:Array Value)=#[.pointer (some ⟨X.rb,0,none⟩)] by simp [hi.rd]]
      exact this
    rintro e w1 ⟨y,rfl,hrd,honly,⟨bs,hbs,rfl⟩,hokv⟩
    refine ⟨_,rfl,?_⟩
    have hi1:RInv X a w1 (after st (pPrim false false .uuid)):=hi.only hX honly hrd
    have hl16:(cellsOf bs).length=16:=by rw [cLen];exact hbs
    refine oNo rfl (opw_alloc hii hiz ?_)
    have hnew:=heap_alloc_new w1 (.cells z.cells h.typ)
    refine oNo rfl (opw_store_agg (cs:=cellsOf bs) (cur:=z.cells) (b:=w1.heap.size) (E:=h.typ) (by rw [hl16];exact hagg) ?_ ?_ hnew (by rw [hzc,hl16]) (by intro v hv;simp [cellsOf] at hv;obtain ⟨u,_,rfl⟩:=hv;rfl) (oNi ?_))
    · rw [eTm,gTp (by rw [sPu];omega)]
    · rw [eTm,gTn (by omega),gTp (by omega)]
    rw [pNo]
    simp only [Exit.then]
    have hb1:w.heap.size≤w1.heap.size:=honly.size
    have hbw:b < w.heap.size:=ho.lt b ho.ob
    have hrow1:w1.heap[b]?=some (.cells cs E (0,0)):=by rw [honly.block b hbw ho.ne];exact hcs
    have hne:b ≠ w1.heap.size:=by omega
    generalize hw2:((w1.alloc (.cells z.cells h.typ)).setRow w1.heap.size (cellsOf bs).toArray)=w2
    have hi2:RInv X a w2 (after st (pPrim false false .uuid)):=by
      rw [← hw2]
      refine (hi1.alloc _).setRow (by have:=hi1.at_.lt;omega) (fun e=>?_) (by have:=hi1.heap;omega) _
      have:=(hi1.src _ e).2
      omega
    have hrow2:w2.heap[b]?=some (.cells cs E (0,0)):=by
      rw [← hw2,setRow_other _ _ _ _ hne,Below.heap_alloc _ _ _ (by omega)]
      exact hrow1
    have hval:∀ j v,(cellsOf bs)[j]?=some v→w2.cell? ⟨w1.heap.size,0+j,none⟩=some v:=by
      intro j v hv
      rw [← hw2,cell_setRow_same _ _ _ _ _ _ _ hnew]
      simpa using hv
    have hf2:Foot X.rb b (o+h.off) (o+h.off+16) w w2:=by
      refine (Foot.of_only honly ho.ne).trans ?_
      rw [← hw2]
      exact (foot_alloc _).other (foot_setRow (q:=0) (n:=16) (heap_alloc_new _ _) (by simp [hl16,hzc]) (fun j hj=>by
        rw [Array.getElem?_eq_none (by simp [hl16];omega),Array.getElem?_eq_none (by omega)])) (by omega) (by omega) ho.ne
    generalize ha1:((a.put (some t) (Value.agg (cellsOf bs).toArray)).put (some v) (Value.pointer (some ⟨w1.heap.size,0,none⟩)))=a1
    have hs1:a1.tmps.size=X.N:=by rw [← ha1];simp only [sPu];exact hsz
    have hg1:∀ s,s ≠ v→s ≠ t→getT a1 s=getT a s:=by
      intro s h1 h2
      rw [← ha1,gTn h1,gTn h2]
    have hgv:getT a1 v=.pointer (some ⟨w1.heap.size,0,none⟩):=by rw [← ha1,gTp (by rw [sPu];omega)]
    have hd1:a1.defers=[]:=by rw [← ha1];simp only [dPu];exact hi.defers
    refine SC.wp_reg (ops_mv (oNo rfl (opw_load_agg (cs:=cellsOf bs) (b:=w1.heap.size) (o:=0) (by rw [hl16];exact hagg) ?_ hval (ops_nilc (ad:=⟨b,o,none⟩) ?_ (ops_fa hS (b:=b) (o:=o) ?_ (oNo rfl (opw_store_aggAt (b:=b) (o:=o+h.off) (E:=E) (cur:=cs) (cs:=cellsOf bs) (by rw [hl16];exact hagg) ?_ ?_ hrow2 (by rw [hl16];omega) (by intro v hv;simp [cellsOf] at hv;obtain ⟨u,_,rfl⟩:=hv;rfl) (oNi ?_))))))))
    · rw [eTm,gTn (by omega)]
      exact hgv
    · rw [gTn (by omega),gTp (by omega)]
      rw [hg1 p (by omega) (by omega)]
      exact hp
    · rw [gTp (by simp only [sPu];omega)]
    · rw [eTm,gTp (by simp only [sPu];omega)]
    · rw [eTm,gTn (by omega),gTn (by omega),gTp (by simp only [sPu];omega)]
    rw [pNo]
    have hcl:(cs.toList.take (o+h.off) ++ cellsOf bs ++ cs.toList.drop (o+h.off+(cellsOf bs).length)).length=cs.size:=by
      simp only [List.length_append,List.length_take,List.length_drop,Array.length_toList,hl16]
      omega
    have hget:∀ j,(j < o+h.off∨o+h.off+16≤j)→((cs.toList.take (o+h.off) ++ cellsOf bs ++ cs.toList.drop (o+h.off+(cellsOf bs).length)).toArray)[j]?=cs[j]?:=by
      intro j hj
      rw [List.getElem?_toArray,hl16]
      rcases hj with hj | hj
      · rw [List.append_assoc,List.getElem?_append_left (by simp;omega),List.getElem?_take,if_pos hj,Array.getElem?_toList]
      · rw [List.getElem?_append_right (by simp [hl16];omega),List.getElem?_drop]
        simp only [List.length_append,List.length_take,Array.length_toList,hl16]
        rw [show o+h.off+16+(j - (min (o+h.off) cs.size+16))=j by omega,Array.getElem?_toList]
    refine hQ _ _ ?_ ?_ ?_ ?_
    · refine ((hi2.setRow ho.ne hbS ho.hB _).act (a:=a) ?_ ?_ fun s hs=>?_)
      · simp only [sPu];rw [hs1,hsz]
      · simp only [dPu];rw [hd1,hi.defers]
      · rw [gTn (by omega),gTn (by omega),gTn (by omega),gTn (by omega)]
        exact hg1 s (by omega) (by omega)
    · intro s hs
      rw [gTn (by omega),gTn (by omega),gTn (by omega),gTn (by omega)]
      exact hg1 s (by omega) (by omega)
    · refine hf2.trans (foot_setRow hrow2 (by simpa using hcl) hget)
    · intro r x r' hst hpx hfit
      simp only [HTy,HPrim,if_pos]
      have hkv:=hokv r x r' hst hpx (by simpa [FitTy] using hfit)
      rw [if_pos rfl] at hkv
      simp only [Value.agg.injEq] at hkv
      intro j u hu
      have hj:j < 16:=by
        have:=(List.getElem?_eq_some_iff.1 hu).1
        rw [uuidOf_length] at this
        exact this
      have hcu:(cellsOf bs)[j]?=some (cell u):=by
        have:cellsOf bs=cellsOf (uuidOf x):=by simpa using congrArg Array.toList hkv
        rw [this]
        simp [cellsOf,hu]
      rw [cell_setRow_same _ _ _ _ _ _ _ hrow2]
      have hlt:o+h.off≤cs.size:=by omega
      rw [List.getElem?_toArray,List.append_assoc,List.getElem?_append_right (by simp;omega),List.getElem?_append_left (by simp [hl16];omega)]
      simp only [List.length_take,Array.length_toList]
      rw [show o+h.off+j - min (o+h.off) cs.size=j by omega]
      exact hcu
  · rw [if_neg hk] at htN hok ⊢
    rw [if_neg hk] at hlen
    have key:∀ (a1:Act) (w1:World) (x t':Nat) (y:Value) (st':Option Bytes),RInv X a1 w1 st'→st'=after st (pPrim X.flex (nuOf h) k)→getT a1 p=.pointer (some ⟨b,o,none⟩)→getT a1 x=y→y.oneCell'=true→x < t'→t≤t'→t'+4≤X.N→oneB X.P h.typ=true →
        (∀ s,(s < v∨(X.T0≤s∧s < t))→getT a1 s=getT a s)→Only X.rb w w1→(∀ b x r,st=some b→pPrim X.flex (nuOf h) k b=some (x,r)→okP (nuOf h) k w1 (NewF X.S w w1) x y)→(rStore p x t' S h.idx h.typ).wp X.P Q a1 w1:=by
      intro a1 w1 x t' y st' hi1 hst1 hp1 hx1 hy hxt htt htN' hT hs1 honly hokv
      have hbw:b < w.heap.size:=ho.lt b ho.ob
      have hrow1:w1.heap[b]?=some (.cells cs E (0,0)):=by rw [honly.block b hbw ho.ne];exact hcs
      refine rStore_ok hX hi1 hp1 hx1 hy (by omega) hxt (by omega) htN' hS hT hrow1 (by omega) ho.ne hbS ho.hB fun a2 hi2 hs2=>?_
      refine hQ a2 _ ?_ ?_ ?_ ?_
      · simp only [pTy]
        rw [← hst1]
        exact hi2
      · intro s hs
        rw [hs2 s (by omega)]
        exact hs1 s hs
      · rw [if_neg hk]
        refine (Foot.of_only honly ho.ne).trans (foot_setRow hrow1 (by simp) fun j hj=>?_)
        rw [Array.getElem?_setIfInBounds_ne (by omega)]
      · intro r x r' hst hpx hfit
        simp only [HTy]
        simp only [pTy] at hpx
        exact hPrim_put hk ho honly.size (fun sb hsb=>(hi.src sb hsb).2) hrow1 (by omega) (hokv r x r' hst hpx) (by simpa [FitTy] using hfit)
    by_cases he:h.enum=true
    · rw [if_pos he] at hok htN hvT ⊢
      simp only [Bool.and_eq_true,Bool.not_eq_true',bne_iff_ne,ne_eq,beq_iff_eq] at hok
      obtain ⟨⟨⟨rfl,hnu⟩,hT⟩,hfn⟩:=hok
      refine SC.wp_seq (cset_ok hi (by omega) (by omega) fun a1 hi1 _ hs1=>SC.wp_seq (SC.wp_seq ?_))
      have hrc:=hX.kr.num .i8 rfl hfn
      refine rGet_ok hX hrc hi1 (by omega) (by omega) (by omega) (by omega) fun a2 w2 y hi2 hy2 hs2 honly hty hokv=>?_
      have hsz2:=hi2.size
      simp only [Exit.then]
      refine SC.wp_reg (ops_mv (ops_asg (oNi ?_)))
      simp only [Exit.then]
      generalize ha3:((a2.put (some (t+1)) (getT a2 (v+1))).put (some v) (getT (a2.put (some (t+1)) (getT a2 (v+1))) (t+1)))=a3
      have hs3:a3.tmps.size=X.N:=by rw [← ha3];simp only [sPu];exact hsz2
      have hg3:∀ s,s ≠ v→s ≠ t+1→getT a3 s=getT a2 s:=fun s h1 h2=>by rw [← ha3,gTn h1,gTn h2]
      have hv3:getT a3 v=y:=by rw [← ha3,gTp (by rw [sPu];omega),gTp (by omega)];exact hy2
      have hi3:RInv X a3 w2 (after st (pPrim false false .i8)):=hi2.act (by rw [hs3,hsz2]) (by rw [← ha3];simp [dPu]) fun s hs=>hg3 s (by omega) (by omega)
      refine SC.wp_seq (SC.wp_reg (ops_mv (ops_asg (oNi ?_))))
      simp only [Exit.then]
      generalize ha4:((a3.put (some (t+2)) (getT a3 v)).put (some (v+2)) (getT (a3.put (some (t+2)) (getT a3 v)) (t+2)))=a4
      have hs4:a4.tmps.size=X.N:=by rw [← ha4];simp only [sPu];exact hs3
      have hg4:∀ s,s ≠ v+2→s ≠ t+2→getT a4 s=getT a3 s:=fun s h1 h2=>by rw [← ha4,gTn h1,gTn h2]
      have hv4:getT a4 (v+2)=y:=by rw [← ha4,gTp (by rw [sPu];omega),gTp (by omega)];exact hv3
      have hi4:RInv X a4 w2 (after st (pPrim false false .i8)):=hi3.act (by rw [hs4,hs3]) (by rw [← ha4];simp [dPu]) fun s hs=>hg4 s (by omega) (by omega)
      have hall:∀ s,(s < v∨(X.T0≤s∧s < t))→getT a4 s=getT a s:=fun s hs=>by
        rw [hg4 s (by omega) (by omega),hg3 s (by omega) (by omega),hs2 s (by omega) (by omega),hs1 s (by omega)]
      exact key a4 w2 (v+2) (t+3) y _ hi4 rfl (by rw [hall p (by omega)];exact hp) hv4 (tyP_one (nul:=false) (k:=.i8) (by decide) hty) (by omega) (by omega) (by omega) hT hall honly hokv
    · rw [if_neg he] at hok htN hvT ⊢
      simp only [Bool.and_eq_true] at hok
      refine rPrim_ok hX hk hok.2 hi hv (by omega) ht (by change t+rPrimT X.c (decide (0≤h.null)) k≤X.N;omega) fun a1 w1 y hi1 hy1 hs1 honly hty hokv=>?_
      have hall:∀ s,(s < v∨(X.T0≤s∧s < t))→getT a1 s=getT a s:=fun s hs=>hs1 s (by omega) (by omega)
      exact key a1 w1 v _ y _ hi1 rfl (by rw [hall p (by omega)];exact hp) hy1 (tyP_one hk hty) (by omega) (by omega) (by omega) hok.1 hall honly hokv
end
end Go.Proofs.YtgaplicnofhliaaDoor.K
