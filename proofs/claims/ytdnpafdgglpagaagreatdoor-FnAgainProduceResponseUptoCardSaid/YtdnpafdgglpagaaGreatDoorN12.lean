/- Generic texts: R27 R28 T6 W7 S14 S15 R29 R33. No condition. -/
import Derived.Test.YtdnpafdgglpagaaGreatDoorN11
import Derived.Great.BuildSlice
import Derived.Great.FillDense
import Derived.Laws.CopyRow
import Derived.Laws.IdiomCopy
namespace Go.Proofs.YtdnpafdgglpagaaGreatDoor.K
open Go Go.RowKit Go.Proofs.YtdnpafdgglpagaaGreatDoor.T
attribute [local simp] eTm eCo pNo gTp gTn qv qcall vop iop
set_option linter.unusedVariables false
set_option linter.unusedSimpArgs false
set_option maxHeartbeats 4000000
def sc_ubody (T0 T1 T2 T3:Nat):SC:=.seq (.reg [⟨some 21,.indexAddr T0 (.tmp 17) (.tmp 19),none⟩,ld 22 T2 21,⟨some 8,.alloc T2,none⟩,⟨none,.store T2 (.tmp 8) (.tmp 22),none⟩]) (.seq (.reg [⟨some 9,.assign (.const (.int .i64 0)),none⟩]) (.seq (.block 2 (.loop (.seq (.seq (.dreg [mv 23 9,mv 24 6,lenOp 25 T0 24,⟨some 26,.binOp .lss T1 (.tmp 23) (.tmp 25) T1,none⟩,mv 27 26,⟨some 28,.move (.tmp 6),some (4,true)⟩,⟨some 29,.move (.tmp 9),some (4,true)⟩,⟨some 30,.indexAddr T0 (.tmp 28) (.tmp 29),some (4,true)⟩,⟨some 31,.fieldAddr T2 (.tmp 30) 0,some (4,true)⟩,⟨some 32,.load T3 (.tmp 31),some (4,true)⟩,⟨some 33,.fieldAddr T2 (.tmp 8) 0,some (4,true)⟩,⟨some 34,.load T3 (.tmp 33),some (4,true)⟩,⟨some 35,.binOp .lss T3 (.tmp 32) (.tmp 34) T3,some (4,true)⟩,⟨some 36,.pick (.tmp 27) (.tmp 35) (.const (.bool false)),none⟩] [[],[],[1],[0,2],[3],[4],[4],[5,6,4],[7,4],[8,4],[4],[10,4],[9,11,4],[4,12]]) (.cond (.tmp 36) (.skip) (.exit 2))) (.block 3 (.reg [mv 37 9,⟨some 38,.binOp .add T1 (.tmp 37) (.const (.int .i64 1)) T1,none⟩,asg 9 38]))))) (.seq (.seq (.dreg [fa 39 T2 8 0,ld 40 T3 39,mv 41 5,⟨some 42,.binOp .lss T3 (.tmp 40) (.tmp 41) T3,none⟩,mv 43 42,⟨some 44,.move (.tmp 9),some (4,false)⟩,⟨some 45,.move (.tmp 6),some (4,false)⟩,⟨some 46,.call ⟨.builtin .len,#[(.tmp 45)],#[T0]⟩,some (4,false)⟩,⟨some 47,.binOp .lss T1 (.tmp 44) (.tmp 46) T1,some (4,false)⟩,⟨some 48,.move (.tmp 47),some (4,false)⟩,⟨some 49,.move (.tmp 6),some (9,true)⟩,⟨some 50,.move (.tmp 9),some (9,true)⟩,⟨some 51,.indexAddr T0 (.tmp 49) (.tmp 50),some (9,true)⟩,⟨some 52,.fieldAddr T2 (.tmp 51) 0,some (9,true)⟩,⟨some 53,.load T3 (.tmp 52),some (9,true)⟩,⟨some 54,.fieldAddr T2 (.tmp 8) 0,some (9,true)⟩,⟨some 55,.load T3 (.tmp 54),some (9,true)⟩,⟨some 56,.binOp .eql T3 (.tmp 53) (.tmp 55) T3,some (9,true)⟩,⟨some 57,.pick (.tmp 48) (.tmp 56) (.const (.bool false)),some (4,false)⟩,⟨some 58,.pick (.tmp 43) (.const (.bool true)) (.tmp 57),none⟩] [[],[0],[],[1,2],[3],[4],[4],[6,4],[5,7,4],[8,4,4],[9],[9],[10,11,9],[12,9],[13,9],[9],[15,9],[14,16,9],[9,17,4],[4,18]]) (.cond (.tmp 58) (.exit 1) (.skip))) (.seq (.reg [mv 59 6,⟨some 60,.build T2 #[],none⟩,⟨some 61,.buildSlice T0 1 #[(0,(.tmp 60))],none⟩,⟨some 62,.call ⟨.builtin .append,#[(.tmp 59),(.tmp 61)],#[T0,T0]⟩,none⟩,asg 6 62]) (.seq (.seq (.reg [mv 63 6,lenOp 64 T0 63,⟨some 65,.binOp .sub T1 (.tmp 64) (.const (.int .i64 1)) T1,none⟩,asg 10 65]) (.block 4 (.loop (.seq (.seq (.reg [mv 66 10,mv 67 9,⟨some 68,.binOp .gtr T1 (.tmp 66) (.tmp 67) T1,none⟩]) (.cond (.tmp 68) (.skip) (.exit 4))) (.seq (.block 5 (.reg [mv 71 6,mv 72 10,mv 73 6,mv 74 10,⟨some 75,.binOp .sub T1 (.tmp 74) (.const (.int .i64 1)) T1,none⟩,⟨some 76,.indexAddr T0 (.tmp 73) (.tmp 75),none⟩,ld 77 T2 76,⟨some 78,.indexAddr T0 (.tmp 71) (.tmp 72),none⟩,⟨none,.store T2 (.tmp 78) (.tmp 77),none⟩])) (.reg [mv 69 10,⟨some 70,.binOp .sub T1 (.tmp 69) (.const (.int .i64 1)) T1,none⟩,asg 10 70])))))) (.reg [mv 79 6,mv 80 9,ld 81 T2 8,⟨some 82,.indexAddr T0 (.tmp 79) (.tmp 80),none⟩,⟨none,.store T2 (.tmp 82) (.tmp 81),none⟩]))))))
def sc_utail (T0 T1 T2 T3:Nat):SC:=.seq (.seq (.dreg [fa 39 T2 8 0,ld 40 T3 39,mv 41 5,⟨some 42,.binOp .lss T3 (.tmp 40) (.tmp 41) T3,none⟩,mv 43 42,⟨some 44,.move (.tmp 9),some (4,false)⟩,⟨some 45,.move (.tmp 6),some (4,false)⟩,⟨some 46,.call ⟨.builtin .len,#[(.tmp 45)],#[T0]⟩,some (4,false)⟩,⟨some 47,.binOp .lss T1 (.tmp 44) (.tmp 46) T1,some (4,false)⟩,⟨some 48,.move (.tmp 47),some (4,false)⟩,⟨some 49,.move (.tmp 6),some (9,true)⟩,⟨some 50,.move (.tmp 9),some (9,true)⟩,⟨some 51,.indexAddr T0 (.tmp 49) (.tmp 50),some (9,true)⟩,⟨some 52,.fieldAddr T2 (.tmp 51) 0,some (9,true)⟩,⟨some 53,.load T3 (.tmp 52),some (9,true)⟩,⟨some 54,.fieldAddr T2 (.tmp 8) 0,some (9,true)⟩,⟨some 55,.load T3 (.tmp 54),some (9,true)⟩,⟨some 56,.binOp .eql T3 (.tmp 53) (.tmp 55) T3,some (9,true)⟩,⟨some 57,.pick (.tmp 48) (.tmp 56) (.const (.bool false)),some (4,false)⟩,⟨some 58,.pick (.tmp 43) (.const (.bool true)) (.tmp 57),none⟩] [[],[0],[],[1,2],[3],[4],[4],[6,4],[5,7,4],[8,4,4],[9],[9],[10,11,9],[12,9],[13,9],[9],[15,9],[14,16,9],[9,17,4],[4,18]]) (.cond (.tmp 58) (.exit 1) (.skip))) (.seq (.reg [mv 59 6,⟨some 60,.build T2 #[],none⟩,⟨some 61,.buildSlice T0 1 #[(0,(.tmp 60))],none⟩,⟨some 62,.call ⟨.builtin .append,#[(.tmp 59),(.tmp 61)],#[T0,T0]⟩,none⟩,asg 6 62]) (.seq (.seq (.reg [mv 63 6,lenOp 64 T0 63,⟨some 65,.binOp .sub T1 (.tmp 64) (.const (.int .i64 1)) T1,none⟩,asg 10 65]) (.block 4 (.loop (.seq (.seq (.reg [mv 66 10,mv 67 9,⟨some 68,.binOp .gtr T1 (.tmp 66) (.tmp 67) T1,none⟩]) (.cond (.tmp 68) (.skip) (.exit 4))) (.seq (.block 5 (.reg [mv 71 6,mv 72 10,mv 73 6,mv 74 10,⟨some 75,.binOp .sub T1 (.tmp 74) (.const (.int .i64 1)) T1,none⟩,⟨some 76,.indexAddr T0 (.tmp 73) (.tmp 75),none⟩,ld 77 T2 76,⟨some 78,.indexAddr T0 (.tmp 71) (.tmp 72),none⟩,⟨none,.store T2 (.tmp 78) (.tmp 77),none⟩])) (.reg [mv 69 10,⟨some 70,.binOp .sub T1 (.tmp 69) (.const (.int .i64 1)) T1,none⟩,asg 10 70])))))) (.reg [mv 79 6,mv 80 9,ld 81 T2 8,⟨some 82,.indexAddr T0 (.tmp 79) (.tmp 80),none⟩,⟨none,.store T2 (.tmp 82) (.tmp 81),none⟩])))
def sc_urest (T0 T1 T2 T3:Nat):SC:=.seq (.reg [mv 59 6,⟨some 60,.build T2 #[],none⟩,⟨some 61,.buildSlice T0 1 #[(0,(.tmp 60))],none⟩,⟨some 62,.call ⟨.builtin .append,#[(.tmp 59),(.tmp 61)],#[T0,T0]⟩,none⟩,asg 6 62]) (.seq (.seq (.reg [mv 63 6,lenOp 64 T0 63,⟨some 65,.binOp .sub T1 (.tmp 64) (.const (.int .i64 1)) T1,none⟩,asg 10 65]) (.block 4 (.loop (.seq (.seq (.reg [mv 66 10,mv 67 9,⟨some 68,.binOp .gtr T1 (.tmp 66) (.tmp 67) T1,none⟩]) (.cond (.tmp 68) (.skip) (.exit 4))) (.seq (.block 5 (.reg [mv 71 6,mv 72 10,mv 73 6,mv 74 10,⟨some 75,.binOp .sub T1 (.tmp 74) (.const (.int .i64 1)) T1,none⟩,⟨some 76,.indexAddr T0 (.tmp 73) (.tmp 75),none⟩,ld 77 T2 76,⟨some 78,.indexAddr T0 (.tmp 71) (.tmp 72),none⟩,⟨none,.store T2 (.tmp 78) (.tmp 77),none⟩])) (.reg [mv 69 10,⟨some 70,.binOp .sub T1 (.tmp 69) (.const (.int .i64 1)) T1,none⟩,asg 10 70])))))) (.reg [mv 79 6,mv 80 9,ld 81 T2 8,⟨some 82,.indexAddr T0 (.tmp 79) (.tmp 80),none⟩,⟨none,.store T2 (.tmp 82) (.tmp 81),none⟩]))
section
variable {P:Program} {X:STy} {f fKn:FuncId} {fn:Func}
theorem w64q {n:Int} (h1:-9223372036854775808<=n) (h2:n < 9223372036854775808):IntKind.i64.wrap n=n:=by
 simp only [IntKind.wrap,IntKind.bits,IntKind.signed]
 simp
 split <;> omega
structure UL (X:STy) (ub:Option Addr) (uc:Nat) (l:List (Nat × Bytes)) (w:World) (F:Nat->Prop) (lz i:Nat) (acc:List (Nat × Bytes)) (rows:List (Value × Value)) (v:Value) (a:Act) (w':World):Prop where
 size:a.tmps.size=85
 defers:a.defers=[]
 s5:getT a 5=.int .u32 (lz:Int)
 s6:getT a 6=v
 s17:getT a 17=.slice ub l.length uc
 s18:getT a 18=.int .i64 (l.length:Int)
 s19:getT a 19=.int .i64 (i:Int)
 rws:TRows w F acc rows
 out:Out2 w' w.heap.size X.Tg v rows
 below:Below w.heap.size w w'
theorem Out2.frame {w w':World} {B T:Nat} {v:Value} {rows:List (Value × Value)} (h:Out2 w B T v rows) (hb:∀ k,B<=k->k < w.heap.size->w'.heap[k]?=w.heap[k]?):Out2 w' B T v rows:=by
 refine ⟨h.1,h.2.imp id ?_⟩
 rintro ⟨g,cap,cur,q1,q2,q3,q4⟩
 exact ⟨g,cap,cur,q1,q2,by rw [hb g q2 (Array.getElem?_eq_some_iff.1 q3).1];exact q3,q4⟩
structure UT (X:STy) (bb:Option Addr) (uc:Nat) (l:List (Nat × Bytes)) (w:World) (F:Nat->Prop) (lz i tb q:Nat) (x:Nat × Bytes) (r:Value × Value) (acc:List (Nat × Bytes)) (rows:List (Value × Value)) (v:Value) (a:Act) (w':World):Prop where
 size:a.tmps.size=85
 defers:a.defers=[]
 s5:getT a 5=.int .u32 (lz:Int)
 s6:getT a 6=v
 s8:getT a 8=.pointer (some ⟨tb,0,none⟩)
 s9:getT a 9=.int .i64 (q:Int)
 s17:getT a 17=.slice bb l.length uc
 s18:getT a 18=.int .i64 (l.length:Int)
 s19:getT a 19=.int .i64 (i:Int)
 hq:q<=acc.length
 less:∀ j y,j < q->acc[j]?=some y->y.1 < x.1
 ge:∀ y,acc[q]?=some y->¬ y.1 < x.1
 tbw:w.heap.size<=tb
 row:w'.heap[tb]?=some (.cells #[r.1,r.2] X.Tg (0,0))
 hr:TRow w F x r
 rws:TRows w F acc rows
 out:Out2 w' w.heap.size X.Tg v rows
 tbv:v.ownBlock ≠ some tb
 below:Below w.heap.size w w'
theorem unk_tail (hX:stOK P X=true) (hm:P.follows .mixedOrders=true) (hT:TagT P X) {ub:Option Addr} {uc lz i tb q:Nat} {F:Nat->Prop} {l:List (Nat × Bytes)} {w w5:World} {acc:List (Nat × Bytes)} {rows:List (Value × Value)} {v:Value} {a:Act} {Q:Exit->Act->World->Prop} {x:Nat × Bytes} {r:Value × Value}
  (h:UT X ub uc l w F lz i tb q x r acc rows v a w5) (hacc:acc.length<=32767)
  (hlow:x.1 < lz->∀ a' w',UL X ub uc l w F lz i acc rows v a' w'->Q (.exit 1) a' w')
  (hsame:lz<=x.1->∀ a' w',UL X ub uc l w F lz i (insTag x acc) rows v a' w'->Q (.exit 1) a' w') (hnew:lz<=x.1->∀ a' w' rows' v',UL X ub uc l w F lz i (insTag x acc) rows' v' a' w'->Q .normal a' w'):(sc_utail X.Tgs X.I X.Tg X.U32).wp P Q a w5:=by
 have hst:=st_facts hX
 obtain ⟨p,pd,p5,p6,p8,p9,p17,p18,p19,hq,hless,hge,htbw,hrow,hxr,hrows,hout,htbv,hbel⟩:=h
 have hlr:=hrows.1
 have htb:tb < w5.heap.size:=(Array.getElem?_eq_some_iff.1 hrow).1
 have hkey:w5.drew.cell? ⟨tb,0,none⟩=some (.int .u32 (x.1:Int)):=by
  have:w5.cell? ⟨tb,0,none⟩=some (.int .u32 (x.1:Int)):=by rw [cell_of_row _ _ _ _ _ _ hrow,<- hxr.1];rfl
  exact this
 obtain ⟨vbase,vcap,hv,hvc',hv2⟩:=hout.at
 have hout':Out2 w5.drew w.heap.size X.Tg v rows:=hout
 have go:∀ a:Act,a.tmps.size=85/\a.defers=[]/\getT a 5=.int .u32 (lz:Int)/\getT a 6=v/\getT a 8=.pointer (some ⟨tb,0,none⟩)/\getT a 9=.int .i64 (q:Int)/\getT a 17=.slice ub l.length uc/\getT a 18=.int .i64 (l.length:Int)/\getT a 19=.int .i64 (i:Int)->lz<=x.1->(∀ y,acc[q]?=some y->x.1 < y.1)->(sc_urest X.Tgs X.I X.Tg X.U32).wp P Q a w5.drew:=by
  clear p pd p5 p6 p8 p9 p17 p18 p19
  rintro a ⟨p,pd,p5,p6,p8,p9,p17,p18,p19⟩ hlz hgt
  refine wSq (wRg ?_)
  iterate 1 (apply ops_1;(focus (simp (disch:=(try simp only [sPu]);omega) [p6];try rfl)))
  refine oNo rfl (opw_build (cs:=#[.int .u32 0,.slice none 0 0]) (by simpa using hT.built) ?_)
  refine oNo rfl (opw_build2 (r:=(.int .u32 0,.slice none 0 0)) hT (by simp (disch:=(try simp only [sPu]);omega)) rfl rfl ?_)
  change opsw P _ _ _ _ (w5.drew.alloc (.cells #[.int .u32 0,.slice none 0 0] X.Tg))
  have hnb:=heap_alloc_new w5.drew (.cells #[.int .u32 0,.slice none 0 0] X.Tg)
  have hds:w5.drew.heap.size=w5.heap.size:=rfl
  have hws5:w.heap.size<=w5.heap.size:=hbel.size
  have hsz6:(w5.drew.alloc (.cells #[.int .u32 0,.slice none 0 0] X.Tg)).heap.size=w5.heap.size+1:=by simp
  have hoth6:∀ k,k < w5.heap.size->(w5.drew.alloc (.cells #[.int .u32 0,.slice none 0 0] X.Tg)).heap[k]?=w5.heap[k]?:=fun k hk=>Below.heap_alloc _ _ _ hk
  have hbel6:Below w.heap.size w (w5.drew.alloc (.cells #[.int .u32 0,.slice none 0 0] X.Tg)):=hbel.drew.alloc hbel.size _
  have hnb':∀ (i:Nat) (u:Value),[(Value.int .u32 0),.slice none 0 0][i]?=some u->(w5.drew.alloc (.cells #[.int .u32 0,.slice none 0 0] X.Tg)).cell? ((⟨w5.drew.heap.size,0,none⟩:Addr).add i)=some u:=fun i u hi=>by
   rw [add_none,cell_of_row _ _ _ _ _ _ hnb]
   simpa using hi
  have hout6:Out2 (w5.drew.alloc (.cells #[.int .u32 0,.slice none 0 0] X.Tg)) w.heap.size X.Tg v rows:=hout.frame fun k h1 h2=>hoth6 k h2
  refine oNo rfl (opw_append2 (B:=w.heap.size) (lv:=v) (rows:=rows) (r:=(.int .u32 0,.slice none 0 0)) (ad:=⟨w5.drew.heap.size,0,none⟩) hT rfl (by simp (disch:=(try simp only [sPu]);omega) [p6]) (by simp (disch:=(try simp only [sPu]);omega)) hout6 (by omega) (by omega) hnb' rfl rfl fun v7 w7 hout7 hgr7 hown7=>?_)
  have hrow7:w7.heap[tb]?=some (.cells #[r.1,r.2] X.Tg (0,0)):=by
   rw [hgr7.block tb (by omega) (fun e=>htbv e.symm),hoth6 tb htb]
   exact hrow
  have htb7:v7.ownBlock ≠ some tb:=by
   rcases hown7 with e | ⟨bb,e,hb⟩
   ·rw [e];exact htbv
   ·rw [e];intro e2;cases e2;omega
  have hbel7:Below w.heap.size w w7:=hbel6.trans ⟨hgr7.os,hgr7.tape,hgr7.output,hgr7.size,fun k hk=>hgr7.block k (by have:=hbel6.size;omega) (fun e=>by have:=(World.ownsRow.lt hout6 k e.symm).1;omega)⟩
  repeat (apply ops_1;(focus (simp (disch:=(try simp only [sPu]);omega) ;try rfl)))
  refine oNi (wSq (wSq (wRg ?_)))
  obtain ⟨vb7,vc7,hv7,hvc7,hv72⟩:=hout7.at
  have hl7:(rows ++ [((.int .u32 0,.slice none 0 0):Value × Value)]).length=rows.length+1:=by simp
  rw [hl7] at hv7
  have hwl:IntKind.i64.wrap (rows.length:Int)=(rows.length:Int):=w64q (by omega) (by omega)
  have p6v:=hv7
  repeat (apply ops_1;(focus (simp (disch:=(try simp only [sPu]);omega) [hst,hv7,hwl];try rfl)))
  refine oNi ?_
  simp only [Exit.then]
  have hins:insTag x acc=acc.take q ++ x :: acc.drop q:=ins_new hq hless hgt
  refine wBk (wLp (fun a' w'=>∃ (k:Nat) (z:Value × Value),a'.tmps.size=85/\a'.defers=[]/\getT a' 5=.int .u32 (lz:Int)/\getT a' 6=.slice vb7 (rows.length+1) vc7/\getT a' 8=.pointer (some ⟨tb,0,none⟩)/\getT a' 9=.int .i64 (q:Int)/\getT a' 10=.int .i64 (k:Int)/\getT a' 17=.slice ub l.length uc/\getT a' 18=.int .i64 (l.length:Int)/\getT a' 19=.int .i64 (i:Int)/\q<=k/\k<=rows.length /\
    Out2 w' w.heap.size X.Tg (.slice vb7 (rows.length+1) vc7) (rows.take k ++ z :: rows.drop k)/\w'.heap[tb]?=some (.cells #[r.1,r.2] X.Tg (0,0))/\Below w.heap.size w w')
   (fun a' _=>match getT a' 10 with | .int _ m=>m.toNat | _=>0) ⟨rows.length,(.int .u32 0,.slice none 0 0),by simp [sPu,p],by simp [dPu,pd],by simp (disch:=(try simp only [sPu]);omega) [p5],by simp (disch:=(try simp only [sPu]);omega) [hv7],by simp (disch:=(try simp only [sPu]);omega) [p8],by simp (disch:=(try simp only [sPu]);omega) [p9],by simp (disch:=(try simp only [sPu]);omega),by simp (disch:=(try simp only [sPu]);omega) [p17],by simp (disch:=(try simp only [sPu]);omega) [p18],by simp (disch:=(try simp only [sPu]);omega) [p19],by omega,Nat.le_refl _,by rw [List.take_length,List.drop_length,<- hv7];exact hout7,hrow7,hbel7⟩ ?_)
  clear p pd p5 p6 p8 p9 p17 p18 p19 a
  rintro a w8 ⟨k,z,p,pd,p5,p6,p8,p9,p10,p17,p18,p19,hqk,hkr,hout8,hrow8,hbel8⟩
  refine wSq (wSq (wRg ?_))
  repeat (apply ops_1;(focus (simp (disch:=(try simp only [sPu]);omega) [p9,p10];try rfl)))
  refine oNi (wCd (t:=decide ((k:Int) > (q:Int))) (by simp (disch:=(try simp only [sPu]);omega)) ?_)
  have hlen8:(rows.take k ++ z :: rows.drop k).length=rows.length+1:=by simp;omega
  by_cases hkq:k=q
  ·subst hkq
   rw [if_neg (by simp)]
   refine wXt ?_
   simp only [Exit.then,Exit.inBlock,if_true]
   have hkl:k < (rows.take k ++ z :: rows.drop k).length:=by omega
   obtain ⟨g8,cap8,hv8,hg8,-,-⟩:=hout8.read (List.getElem?_eq_getElem hkl)
   rw [hv8,hlen8] at p6
   rw [hv8] at hout8
   have hki:(0:Int)<=(k:Int)/\(k:Int) < ((rows.length+1:Nat):Int):=by omega
   have hki2:(k:Int) < (rows.length:Int)+1:=by omega
   have hrow8r:rangeV w8 tb 0 2=some [r.1,r.2]:=by
    have hc:∀ i,w8.cell? ⟨tb,i,none⟩=#[r.1,r.2][i]?:=fun i=>cell_of_row _ _ _ _ _ _ hrow8
    simp [rangeV,hc]
   refine wRg ?_
   iterate 4 (apply ops_1;(focus (simp (disch:=(try simp only [sPu]);omega) [hst,p6,p8,p9,hki,hki2,hrow8r];try rfl)))
   obtain ⟨hxr1,hxr2,xvb,xvc,hxr3,hxr4,hxr5⟩:=hxr
   refine oNo rfl (opw_store2 (B:=w.heap.size) (k:=k) (g0:=g8) (cap:=cap8) (r:=r) (rows:=rows.take k ++ z :: rows.drop k) hT.agg (by rw [hlen8] at hout8 ⊢;exact hout8) hkl (by simp (disch:=(try simp only [sPu]);omega)) (by simp (disch:=(try simp only [sPu]);omega)) (by rw [hxr1];rfl) (by rw [hxr3];rfl) fun w9 hout9 hs9 hoth9 hb9=>oNi ?_)
   rw [last_set hkr] at hout9
   refine hnew (by omega) _ w9 (rows.take k ++ r :: rows.drop k) (.slice (some ⟨g8,0,none⟩) (rows.take k ++ z :: rows.drop k).length cap8) ?_
   rw [hins]
   exact ⟨by simp [sPu,p],by simp [dPu,pd],by simp (disch:=(try simp only [sPu]);omega) [p5],by simp (disch:=(try simp only [sPu]);omega) [p6,hlen8],by simp (disch:=(try simp only [sPu]);omega) [p17],by simp (disch:=(try simp only [sPu]);omega) [p18],by simp (disch:=(try simp only [sPu]);omega) [p19],hrows.ins ⟨hxr1,hxr2,xvb,xvc,hxr3,hxr4,hxr5⟩ (by omega),hout9,hbel8.trans hb9⟩
  ·rw [if_pos (by simp;omega)]
   refine wSk ?_
   simp only [Exit.then]
   obtain ⟨k',rfl⟩:∃ k',k=k'+1:=⟨k - 1,by omega⟩
   have hkl:k' < rows.length:=by omega
   obtain ⟨g8,cap8,hv8,hg8,-,hrg8⟩:=hout8.read (hole_get (z:=z) hkl)
   rw [hlen8] at hv8
   cases hv8
   have hki:(0:Int)<=(k':Int)/\(k':Int) < ((rows.length+1:Nat):Int):=by omega
   have hki2:(k':Int) < (rows.length:Int)+1:=by omega
   have hki3:((k':Int)+1) < (rows.length:Int)+1:=by omega
   have hki4:(0:Int)<=(k':Int)+1:=by omega
   have hwk:IntKind.i64.wrap (k':Int)=(k':Int):=w64q (by omega) (by omega)
   have hrk:=hrows.2 k' acc[k'] rows[k'] (List.getElem?_eq_getElem (by omega)) (List.getElem?_eq_getElem hkl)
   obtain ⟨hk1,hk2,xvb,xvc,hk3,hk4,hk5⟩:=hrk
   refine wSq (wBk (wRg ?_))
   iterate 8 (apply ops_1;(focus (simp (disch:=(try simp only [sPu]);omega) [hst,p6,p10,hki,hki2,hki3,hki4,hwk,hrg8];try rfl)))
   refine oNo rfl (opw_store2 (B:=w.heap.size) (k:=k'+1) (g0:=g8) (cap:=vc7) (r:=rows[k']) (rows:=rows.take (k'+1) ++ z :: rows.drop (k'+1)) hT.agg (by rw [hlen8];exact hout8) (by omega) (by simp (disch:=(try simp only [sPu]);omega)) (by simp (disch:=(try simp only [sPu]);omega)) (by rw [hk1];rfl) (by rw [hk3];rfl) fun w9 hout9 hs9 hoth9 hb9=>oNi ?_)
   simp only [Exit.then,Exit.inBlock]
   refine wRg ?_
   repeat (apply ops_1;(focus (simp (disch:=(try simp only [sPu]);omega) [hst,p10,hwk];try rfl)))
   refine oNi ?_
   rw [shift_set hkl,hlen8] at hout9
   have htbg:tb ≠ g8:=fun e=>by
    rw [hv7] at htb7
    exact htb7 (by rw [e];rfl)
   refine ⟨⟨k',rows[k'],by simp [sPu,p],by simp [dPu,pd],by simp (disch:=(try simp only [sPu]);omega) [p5],by simp (disch:=(try simp only [sPu]);omega) [p6],by simp (disch:=(try simp only [sPu]);omega) [p8],by simp (disch:=(try simp only [sPu]);omega) [p9],by simp (disch:=(try simp only [sPu]);omega),by simp (disch:=(try simp only [sPu]);omega) [p17],by simp (disch:=(try simp only [sPu]);omega) [p18],by simp (disch:=(try simp only [sPu]);omega) [p19],by omega,by omega,hout9,by rw [hoth9 tb htbg];exact hrow8,hbel8.trans hb9⟩,?_⟩
   have e10:getT a 10=.int .i64 ((k':Int)+1):=by simpa using p10
   simp only [e10]
   simp (disch:=(try simp only [sPu]);omega)
 refine wSq (wSq (wDr hm (Below w5.heap.size w5.drew) [(0,true),(1,true),(2,true),(3,true),(4,true),(5,true),(6,true),(7,true),(8,true),(9,true),(10,true),(11,true),(12,true),(13,true),(14,true),(15,true),(16,true),(17,true),(18,true),(19,true)] (by rfl) (by rfl) (by decide) (Below.refl _ _) ?_))
 by_cases hlz:x.1 < lz
 ·have hx1:decide ((x.1:Int) < (lz:Int))=true:=decide_eq_true (by omega)
  have hx11:(x.1:Int) < (lz:Int):=by omega
  repeat (first | (apply dr_1;(focus rfl);(focus (simp (disch:=(try simp only [sPu]);omega) [hst,p5,p6,p8,p9,htb,hkey,hx1,hx11];try rfl))) | (apply dr_y;(focus rfl);(focus rfl);(focus ((try simp only [sPu]);omega));(focus (simp (disch:=(try simp only [sPu]);omega) [hst,p5,p6,p8,p9,htb,hkey,hx1,hx11];done));(focus (simp (disch:=(try simp only [sPu]);omega) [hst,p5,p6,p8,p9,htb,hkey,hx1,hx11];try rfl))) | (apply dr_n;(focus rfl);(focus rfl);(focus ((try simp only [sPu]);omega));(focus (first | (left;simp (disch:=(try simp only [sPu]);omega) [hst,p5,p6,p8,p9,htb,hkey,hx1,hx11];done) | (right;simp (disch:=(try simp only [sPu]);omega);done)))))
  refine dreg_nil ?_
  simp only [Exit.then]
  refine wCd (t:=true) (by simp (disch:=(try simp only [sPu]);omega) [hx1,hx11]) ?_
  rw [if_pos rfl]
  refine wXt ?_
  simp only [Exit.then]
  exact hlow hlz _ _ ⟨by simp [sPu,p],by simp [dPu,pd],by simp (disch:=(try simp only [sPu]);omega) [p5],by simp (disch:=(try simp only [sPu]);omega) [p6],by simp (disch:=(try simp only [sPu]);omega) [p17],by simp (disch:=(try simp only [sPu]);omega) [p18],by simp (disch:=(try simp only [sPu]);omega) [p19],hrows,hout',hbel.drew⟩
 have hx0:decide ((x.1:Int) < (lz:Int))=false:=decide_eq_false (by omega)
 have hx00:¬ ((x.1:Int) < (lz:Int)):=by omega
 by_cases hql:q < rows.length
 ·obtain ⟨g,cap,hvg,hgB,hcg,hrg⟩:=hout.read (List.getElem?_eq_getElem hql)
  have hgl:g < w5.heap.size:=by
   rcases Nat.lt_or_ge g w5.heap.size with h | h
   ·exact h
   ·simp [World.cell?,Array.getElem?_eq_none h] at hcg
  have hqa:q < acc.length:=by omega
  have htr:=hrows.2 q acc[q] rows[q] (List.getElem?_eq_getElem hqa) (List.getElem?_eq_getElem hql)
  rw [htr.1] at hcg
  have hcg':w5.drew.cell? ⟨g,q * 2,none⟩=some (.int .u32 (acc[q].1:Int)):=hcg
  have hqi:(0:Int)<=(q:Int)/\(q:Int) < (rows.length:Int):=by omega
  have p6':=p6
  rw [hvg] at p6'
  have hlt1:decide ((q:Int) < (rows.length:Int))=true:=decide_eq_true hqi.2
  repeat (first | (apply dr_1;(focus rfl);(focus (simp (disch:=(try simp only [sPu]);omega) [hst,p5,p6',p8,p9,hqi,hcg',hgl,htb,hkey,hlt1,hx0,hx00];try rfl))) | (apply dr_y;(focus rfl);(focus rfl);(focus ((try simp only [sPu]);omega));(focus (simp (disch:=(try simp only [sPu]);omega) [hst,p5,p6',p8,p9,hqi,hcg',hgl,htb,hkey,hlt1,hx0,hx00];done));(focus (simp (disch:=(try simp only [sPu]);omega) [hst,p5,p6',p8,p9,hqi,hcg',hgl,htb,hkey,hlt1,hx0,hx00];try rfl))) | (apply dr_n;(focus rfl);(focus rfl);(focus ((try simp only [sPu]);omega));(focus (first | (left;simp (disch:=(try simp only [sPu]);omega) [hst,p5,p6',p8,p9,hqi,hcg',hgl,htb,hkey,hlt1,hx0,hx00];done) | (right;simp (disch:=(try simp only [sPu]);omega);done)))))
  refine dreg_nil ?_
  simp only [Exit.then]
  refine wCd (t:=((acc[q].1:Int) == (x.1:Int))) (by simp (disch:=(try simp only [sPu]);omega)) ?_
  by_cases he:acc[q].1=x.1
  ·rw [if_pos (by rw [beq_iff_eq];omega)]
   refine wXt ?_
   simp only [Exit.then]
   have hins:insTag x acc=acc:=ins_same hless (List.getElem?_eq_getElem hqa) he
   refine hsame (by omega) _ _ (by
    rw [hins]
    exact ⟨by simp [sPu,p],by simp [dPu,pd],by simp (disch:=(try simp only [sPu]);omega) [p5],by simp (disch:=(try simp only [sPu]);omega) [p6],by simp (disch:=(try simp only [sPu]);omega) [p17],by simp (disch:=(try simp only [sPu]);omega) [p18],by simp (disch:=(try simp only [sPu]);omega) [p19],hrows,hout',hbel.drew⟩)
  ·rw [if_neg (by simp;omega)]
   refine wSk ?_
   simp only [Exit.then]
   refine go _ ⟨by simp [sPu,p],by simp [dPu,pd],by simp (disch:=(try simp only [sPu]);omega) [p5],by simp (disch:=(try simp only [sPu]);omega) [p6],by simp (disch:=(try simp only [sPu]);omega) [p8],by simp (disch:=(try simp only [sPu]);omega) [p9],by simp (disch:=(try simp only [sPu]);omega) [p17],by simp (disch:=(try simp only [sPu]);omega) [p18],by simp (disch:=(try simp only [sPu]);omega) [p19]⟩ (by omega) fun y hy=>?_
   have:=hge y hy
   rw [List.getElem?_eq_getElem hqa] at hy
   cases hy
   omega
 ·have hlt1:decide ((q:Int) < (rows.length:Int))=false:=decide_eq_false (by omega)
  have p6':=p6
  rw [hv] at p6'
  repeat (first | (apply dr_1;(focus rfl);(focus (simp (disch:=(try simp only [sPu]);omega) [hst,p5,p6',p8,p9,htb,hkey,hlt1,hql,hx0,hx00];try rfl))) | (apply dr_y;(focus rfl);(focus rfl);(focus ((try simp only [sPu]);omega));(focus (simp (disch:=(try simp only [sPu]);omega) [hst,p5,p6',p8,p9,htb,hkey,hlt1,hql,hx0,hx00];done));(focus (simp (disch:=(try simp only [sPu]);omega) [hst,p5,p6',p8,p9,htb,hkey,hlt1,hql,hx0,hx00];try rfl))) | (apply dr_n;(focus rfl);(focus rfl);(focus ((try simp only [sPu]);omega));(focus (first | (left;simp (disch:=(try simp only [sPu]);omega) [hst,p5,p6',p8,p9,htb,hkey,hlt1,hql,hx0,hx00];done) | (right;simp (disch:=(try simp only [sPu]);omega);done)))))
  refine dreg_nil ?_
  simp only [Exit.then]
  refine wCd (t:=false) (by simp (disch:=(try simp only [sPu]);omega)) ?_
  rw [if_neg (by simp)]
  refine wSk ?_
  simp only [Exit.then]
  refine go _ ⟨by simp [sPu,p],by simp [dPu,pd],by simp (disch:=(try simp only [sPu]);omega) [p5],by simp (disch:=(try simp only [sPu]);omega) [p6],by simp (disch:=(try simp only [sPu]);omega) [p8],by simp (disch:=(try simp only [sPu]);omega) [p9],by simp (disch:=(try simp only [sPu]);omega) [p17],by simp (disch:=(try simp only [sPu]);omega) [p18],by simp (disch:=(try simp only [sPu]);omega) [p19]⟩ (by omega) fun y hy=>?_
  rw [List.getElem?_eq_none (by omega)] at hy
  cases hy
theorem unk_body (hX:stOK P X=true) (hm:P.follows .mixedOrders=true) (hT:TagT P X) {ub:Option Addr} {uc lz i:Nat} {F:Nat->Prop} {l:List (Nat × Bytes)} {w w3:World} {acc:List (Nat × Bytes)} {rows:List (Value × Value)} {v:Value} {a:Act} {Q:Exit->Act->World->Prop} {x:Nat × Bytes} {b o:Nat}
  (h:UL X ub uc l w F lz i acc rows v a w3) (hi:i < l.length) (hub:ub=some ⟨b,o,none⟩) (hbB:b < w.heap.size) (hx4:x.1 < 4294967296) {vb:Option Addr} {vc:Nat} (hrng:rangeV w b (o+i * 2) 2=some [.int .u32 (x.1:Int),.slice vb x.2.length vc]) (hbs:BytesAt w F vb x.2) (hvc:x.2.length<=vc) (hacc:acc.length<=32767)
  (hQ:∀ a' w' rows' v',UL X ub uc l w F lz i (if lz<=x.1 then insTag x acc else acc) rows' v' a' w'->Q .normal a' w'):(SC.block 1 (sc_ubody X.Tgs X.I X.Tg X.U32)).wp P Q a w3:=by
 have hst:=st_facts hX
 obtain ⟨p,pd,p5,p6,p17,p18,p19,hrows,hout,hbel⟩:=h
 subst hub
 have hws:=hbel.size
 have hrng3:rangeV w3 b (o+i * 2) 2=some [.int .u32 (x.1:Int),.slice vb x.2.length vc]:=by rw [rangeV_mono (hbel.block b hbB)];exact hrng
 obtain ⟨iT,zT,hiT,hzT,hzTc,_,_⟩:=hT.info
 refine wBk ?_
 refine wSq (wRg ?_)
 have hii:(0:Int)<=(i:Int)/\(i:Int) < (l.length:Int):=by omega
 iterate 2 (apply ops_1;(focus (simp (disch:=(try simp only [sPu]);omega) [hst,p17,p19,hii,hrng3];try rfl)))
 refine oNo rfl (opw_alloc hiT hzT ?_)
 have hnew:=heap_alloc_new w3 (.cells zT.cells X.Tg)
 refine oNo rfl (opw_store_agg (cs:=[.int .u32 (x.1:Int),.slice vb x.2.length vc]) (cur:=zT.cells) (b:=w3.heap.size) (E:=X.Tg) hT.agg (by simp (disch:=(try simp only [sPu]);omega)) (by simp (disch:=(try simp only [sPu]);omega)) hnew (by rw [hzTc];rfl) (by intro v hv;simp at hv;rcases hv with rfl | rfl <;> rfl) (oNi ?_))
 rw [pNo]
 simp only [Exit.then]
 refine wSq (wRg ?_)
 repeat (apply ops_1;(focus (simp (disch:=(try simp only [sPu]);omega) ;try rfl)))
 refine oNi ?_
 simp only [Exit.then]
 obtain ⟨w4,hw4⟩:∃ w4,w4=(w3.alloc (.cells zT.cells X.Tg)).setRow w3.heap.size [Value.int .u32 (x.1:Int),.slice vb x.2.length vc].toArray:=⟨_,rfl⟩
 rw [<- hw4]
 have hrow4:w4.heap[w3.heap.size]?=some (.cells #[.int .u32 (x.1:Int),.slice vb x.2.length vc] X.Tg (0,0)):=by rw [hw4];exact setRow_heap _ _ _ _ _ _ hnew
 have hoth4:∀ k,k < w3.heap.size->w4.heap[k]?=w3.heap[k]?:=fun k hk=>by
  rw [hw4,setRow_other _ _ _ _ (by omega)]
  exact Below.heap_alloc _ _ _ hk
 have hsz4:w4.heap.size=w3.heap.size+1:=by rw [hw4];simp
 have hbel4:Below w.heap.size w w4:=by
  rw [hw4]
  exact (hbel.alloc (by omega) _).trans ⟨rfl,rfl,rfl,by simp,fun k hk=>setRow_other _ _ _ _ (by omega)⟩
 have hout4:Out2 w4 w.heap.size X.Tg v rows:=hout.frame fun k h1 h2=>hoth4 k h2
 have hlr:=hrows.1
 have hxr:TRow w F x (.int .u32 (x.1:Int),.slice vb x.2.length vc):=⟨rfl,hx4,vb,vc,rfl,hbs,hvc⟩
 have htv:v.ownBlock ≠ some w3.heap.size:=fun e=>by
  have:=(World.ownsRow.lt hout _ e).2
  omega
 have tail:∀ a w5 q,UT X (some ⟨b,o,none⟩) uc l w F lz i w3.heap.size q x (.int .u32 (x.1:Int),.slice vb x.2.length vc) acc rows v a w5->(sc_utail X.Tgs X.I X.Tg X.U32).wp P (Exit.inBlock 1 Q) a w5:=fun a w5 q hu =>
  unk_tail hX hm hT hu hacc (fun hl a' w' hul=>by
   simp only [Exit.inBlock,if_true]
   exact hQ _ _ _ _ (by rw [if_neg (by omega)];exact hul)) (fun hl a' w' hul=>by
   simp only [Exit.inBlock,if_true]
   exact hQ _ _ _ _ (by rw [if_pos hl];exact hul)) (fun hl a' w' rows' v' hul=>by
   simp only [Exit.inBlock]
   exact hQ _ _ _ _ (by rw [if_pos hl];exact hul))
 refine wSq (wBk (wLp (fun a' w'=>∃ p:Nat,a'.tmps.size=85/\a'.defers=[]/\getT a' 5=.int .u32 (lz:Int)/\getT a' 6=v/\getT a' 8=.pointer (some ⟨w3.heap.size,0,none⟩)/\getT a' 9=.int .i64 (p:Int)/\getT a' 17=.slice (some ⟨b,o,none⟩) l.length uc/\getT a' 18=.int .i64 (l.length:Int)/\getT a' 19=.int .i64 (i:Int)/\p<=acc.length/\(∀ j y,j < p->acc[j]?=some y->y.1 < x.1)/\Below w4.heap.size w4 w')
  (fun a' _=>match getT a' 9 with | .int _ m=>(acc.length - m).toNat | _=>0) ⟨0,by simp [sPu,p],by simp [dPu,pd],by simp (disch:=(try simp only [sPu]);omega) [p5],by simp (disch:=(try simp only [sPu]);omega) [p6],by simp (disch:=(try simp only [sPu]);omega),by simp (disch:=(try simp only [sPu]);omega),by simp (disch:=(try simp only [sPu]);omega) [p17],by simp (disch:=(try simp only [sPu]);omega) [p18],by simp (disch:=(try simp only [sPu]);omega) [p19],by omega,fun j y hj=>by omega,Below.refl _ _⟩ ?_))
 clear p pd p5 p6 p17 p18 p19 a
 rintro a w5 ⟨q,p,pd,p5,p6,p8,p9,p17,p18,p19,hq,hless,hb5⟩
 have hs5:=hb5.size
 have hout5:Out2 w5 w.heap.size X.Tg v rows:=hout4.frame fun k h1 h2=>hb5.block k h2
 have hrow5:w5.heap[w3.heap.size]?=some (.cells #[.int .u32 (x.1:Int),.slice vb x.2.length vc] X.Tg (0,0)):=by rw [hb5.block _ (by omega)];exact hrow4
 have hkey5:w5.drew.cell? ⟨w3.heap.size,0,none⟩=some (.int .u32 (x.1:Int)):=by
  have:w5.cell? ⟨w3.heap.size,0,none⟩=some (.int .u32 (x.1:Int)):=by rw [cell_of_row _ _ _ _ _ _ hrow5];rfl
  exact this
 have htb5:w3.heap.size < w5.heap.size:=by omega
 have hb5w:Below w.heap.size w w5:=⟨hb5.os.trans hbel4.os,hb5.tape.trans hbel4.tape,hb5.output.trans hbel4.output,Nat.le_trans hbel4.size hb5.size,fun k hk=>(hb5.block k (by omega)).trans (hbel4.block k hk)⟩
 refine wSq (wSq (wDr hm (Below w5.heap.size w5.drew) [(0,true),(1,true),(2,true),(3,true),(4,true),(5,true),(6,true),(7,true),(8,true),(9,true),(10,true),(11,true),(12,true),(13,true)] (by rfl) (by rfl) (by decide) (Below.refl _ _) ?_))
 obtain ⟨vbase,vcap,hv,hvc',hv2⟩:=hout5.at
 by_cases hql:q < rows.length
 ·obtain ⟨g,cap,hvg,hgB,hcg,hrg⟩:=hout5.read (List.getElem?_eq_getElem hql)
  have hgl:g < w5.heap.size:=by
   rcases Nat.lt_or_ge g w5.heap.size with h | h
   ·exact h
   ·simp [World.cell?,Array.getElem?_eq_none h] at hcg
  have hqa:q < acc.length:=by omega
  have htr:=hrows.2 q acc[q] rows[q] (List.getElem?_eq_getElem hqa) (List.getElem?_eq_getElem hql)
  rw [htr.1] at hcg
  have hcg':w5.drew.cell? ⟨g,q * 2,none⟩=some (.int .u32 (acc[q].1:Int)):=hcg
  have hqi:(0:Int)<=(q:Int)/\(q:Int) < (rows.length:Int):=by omega
  rw [hvg] at p6
  have hlt1:decide ((q:Int) < (rows.length:Int))=true:=decide_eq_true hqi.2
  repeat (first | (apply dr_1;(focus rfl);(focus (simp (disch:=(try simp only [sPu]);omega) [hst,p6,p8,p9,hqi,hcg',hgl,htb5,hkey5,hlt1];try rfl))) | (apply dr_y;(focus rfl);(focus rfl);(focus ((try simp only [sPu]);omega));(focus (simp (disch:=(try simp only [sPu]);omega) [hst,p6,p8,p9,hqi,hcg',hgl,htb5,hkey5,hlt1];done));(focus (simp (disch:=(try simp only [sPu]);omega) [hst,p6,p8,p9,hqi,hcg',hgl,htb5,hkey5,hlt1];try rfl))) | (apply dr_n;(focus rfl);(focus rfl);(focus ((try simp only [sPu]);omega));(focus (first | (left;simp (disch:=(try simp only [sPu]);omega) [hst,p6,p8,p9,hqi,hcg',hgl,htb5,hkey5,hlt1];done) | (right;simp (disch:=(try simp only [sPu]);omega);done)))))
  refine dreg_nil ?_
  simp only [Exit.then]
  refine wCd (t:=decide ((acc[q].1:Int) < (x.1:Int))) (by simp (disch:=(try simp only [sPu]);omega)) ?_
  by_cases hlx:acc[q].1 < x.1
  ·rw [if_pos (decide_eq_true (by omega))]
   refine wSk ?_
   simp only [Exit.then]
   have hwq:IntKind.i64.wrap ((q:Int)+1)=(q:Int)+1:=w64q (by omega) (by omega)
   refine wBk (wRg ?_)
   repeat (apply ops_1;(focus (simp (disch:=(try simp only [sPu]);omega) [hst,p9,hwq];try rfl)))
   refine oNi ?_
   simp only [Exit.then,Exit.inBlock]
   refine ⟨⟨q+1,by simp [sPu,p],by simp [dPu,pd],by simp (disch:=(try simp only [sPu]);omega) [p5],by simp (disch:=(try simp only [sPu]);omega) [p6,hvg],by simp (disch:=(try simp only [sPu]);omega) [p8],by simp (disch:=(try simp only [sPu]);omega),by simp (disch:=(try simp only [sPu]);omega) [p17],by simp (disch:=(try simp only [sPu]);omega) [p18],by simp (disch:=(try simp only [sPu]);omega) [p19],by omega,fun j y hj hy=>?_,hb5.drew⟩,?_⟩
   ·by_cases hjq:j=q
    ·subst hjq
     rw [List.getElem?_eq_getElem hqa] at hy
     cases hy
     exact hlx
    ·exact hless j y (by omega) hy
   ·have e9:getT a 9=.int .i64 (q:Int):=p9
    simp only [e9]
    simp (disch:=(try simp only [sPu]);omega)
    omega
  ·rw [if_neg (by rw [decide_eq_false (by omega)];simp)]
   refine wXt ?_
   simp only [Exit.then,Exit.inBlock,if_true]
   refine tail _ w5.drew q ⟨by simp [sPu,p],by simp [dPu,pd],by simp (disch:=(try simp only [sPu]);omega) [p5],by simp (disch:=(try simp only [sPu]);omega) [p6,hvg],by simp (disch:=(try simp only [sPu]);omega) [p8],by simp (disch:=(try simp only [sPu]);omega) [p9],by simp (disch:=(try simp only [sPu]);omega) [p17],by simp (disch:=(try simp only [sPu]);omega) [p18],by simp (disch:=(try simp only [sPu]);omega) [p19],hq,hless,fun y hy=>?_,hws,hrow5,hxr,hrows,hout5,htv,hb5w.drew⟩
   rw [List.getElem?_eq_getElem hqa] at hy
   cases hy
   exact hlx
 ·have hlt1:decide ((q:Int) < (rows.length:Int))=false:=decide_eq_false (by omega)
  rw [hv] at p6
  repeat (first | (apply dr_1;(focus rfl);(focus (simp (disch:=(try simp only [sPu]);omega) [hst,p6,p8,p9,hlt1,hql];try rfl))) | (apply dr_y;(focus rfl);(focus rfl);(focus ((try simp only [sPu]);omega));(focus (simp (disch:=(try simp only [sPu]);omega) [hst,p6,p8,p9,hlt1,hql];done));(focus (simp (disch:=(try simp only [sPu]);omega) [hst,p6,p8,p9,hlt1,hql];try rfl))) | (apply dr_n;(focus rfl);(focus rfl);(focus ((try simp only [sPu]);omega));(focus (first | (left;simp (disch:=(try simp only [sPu]);omega) [hst,p6,p8,p9,hlt1,hql];done) | (right;simp (disch:=(try simp only [sPu]);omega);done)))))
  refine dreg_nil ?_
  simp only [Exit.then]
  refine wCd (t:=false) (by simp (disch:=(try simp only [sPu]);omega)) ?_
  rw [if_neg (by simp)]
  refine wXt ?_
  simp only [Exit.then,Exit.inBlock,if_true]
  refine tail _ w5.drew q ⟨by simp [sPu,p],by simp [dPu,pd],by simp (disch:=(try simp only [sPu]);omega) [p5],by simp (disch:=(try simp only [sPu]);omega) [p6,hv],by simp (disch:=(try simp only [sPu]);omega) [p8],by simp (disch:=(try simp only [sPu]);omega) [p9],by simp (disch:=(try simp only [sPu]);omega) [p17],by simp (disch:=(try simp only [sPu]);omega) [p18],by simp (disch:=(try simp only [sPu]);omega) [p19],hq,hless,fun y hy=>?_,hws,hrow5,hxr,hrows,hout5,htv,hb5w.drew⟩
  rw [List.getElem?_eq_none (by omega)] at hy
  cases hy
end
def sc_zzFits2 (T0 T1 T2 T3 T4 T5 F0:Nat):SC:=.seq (.reg [⟨some 1,.box T0 (.tmp 0),none⟩,⟨some 2,.assign (.const (.bool false)),none⟩]) (.seq (.seq (.reg [fa 3 T0 1 1,ld 4 T1 3,lenOp 5 T1 4,⟨some 6,.binOp .gtr T2 (.tmp 5) (.const (.int .i64 2147483647)) T2,none⟩]) (.cond (.tmp 6) (.seq (.reg [⟨some 2,.assign (.const (.bool false)),none⟩]) (.ret)) (.skip))) (.seq (.seq (.reg [fa 7 T0 1 3,ld 8 T3 7,lenOp 9 T3 8,⟨some 10,.binOp .gtr T2 (.tmp 9) (.const (.int .i64 2147483647)) T2,none⟩]) (.cond (.tmp 10) (.seq (.reg [⟨some 2,.assign (.const (.bool false)),none⟩]) (.ret)) (.skip))) (.seq (.seq (.reg [fa 11 T0 1 4,ld 12 T4 11,cal 13 F0 [12],⟨some 14,.unOp .not T5 (.tmp 13),none⟩]) (.cond (.tmp 14) (.seq (.reg [⟨some 2,.assign (.const (.bool false)),none⟩]) (.ret)) (.skip))) (.seq (.reg [⟨some 2,.assign (.const (.bool true)),none⟩]) (.ret)))))
def sc_zzFits3 (T0 T1 T2 T3 F0:Nat):SC:=.seq (.reg [⟨some 2,.assign (.const (.bool false)),none⟩]) (.seq (.seq (.reg [mv 5 0,lenOp 6 T0 5,⟨some 7,.binOp .gtr T1 (.tmp 6) (.const (.int .i64 2147483647)) T1,none⟩]) (.cond (.tmp 7) (.seq (.reg [⟨some 2,.assign (.const (.bool false)),none⟩]) (.ret)) (.skip))) (.seq (.seq (.reg [mv 8 0,lenOp 9 T0 8,⟨some 10,.move (.const (.int .i64 0)),none⟩]) (.block 0 (.loop (.seq (.reg [⟨some 11,.binOp .lss T1 (.tmp 10) (.tmp 9) T1,none⟩]) (.seq (.cond (.tmp 11) (.skip) (.exit 0)) (.seq (.block 1 (.seq (.reg [⟨some 12,.indexAddr T0 (.tmp 8) (.tmp 10),none⟩,ld 13 T2 12,⟨some 4,.alloc T2,none⟩,⟨none,.store T2 (.tmp 4) (.tmp 13),none⟩]) (.seq (.reg [ld 14 T2 4,cal 15 F0 [14],⟨some 16,.unOp .not T3 (.tmp 15),none⟩]) (.cond (.tmp 16) (.seq (.reg [⟨some 2,.assign (.const (.bool false)),none⟩]) (.ret)) (.skip))))) (.reg [⟨some 17,.binOp .add T1 (.tmp 10) (.const (.int .i64 1)) T1,none⟩,mv 10 17]))))))) (.seq (.reg [⟨some 2,.assign (.const (.bool true)),none⟩]) (.ret))))
def sc_zzFits4 (T0 T1 T2:Nat):SC:=.seq (.reg [⟨some 1,.box T0 (.tmp 0),none⟩,⟨some 2,.assign (.const (.bool false)),none⟩]) (.seq (.seq (.reg [fa 3 T0 1 1,ld 4 T1 3,lenOp 5 T1 4,⟨some 6,.binOp .gtr T2 (.tmp 5) (.const (.int .i64 2147483647)) T2,none⟩]) (.cond (.tmp 6) (.seq (.reg [⟨some 2,.assign (.const (.bool false)),none⟩]) (.ret)) (.skip))) (.seq (.reg [⟨some 2,.assign (.const (.bool true)),none⟩]) (.ret)))
def Asks (w:World) (e:Ending) (w':World):Prop:=(∃ b:Bool,e=.returned (.bool b))/\Below w.heap.size w w'
section
variable {P:Program} {X:STy} {f:FuncId} {fn:Func}
theorem fits4_ok (hX:stOK P X=true) (hf:P.funcs[f]?=some fn) (hb:fn.body.map strip=some (sc_zzFits4 X.Tg X.Bs X.I)) (hn:fn.ntmps=7) (hr:fn.results=#[.tmp 2]) (w:World) (k:Value) (vb:Option Addr) (n vc:Nat) (hk:k.oneCell'=true) :
  Calls P f #[.agg #[k,.slice vb n vc]] w (Asks w):=by
 have hst:=st_facts hX
 refine fCa hf hb hn (by simp) fun a0 hs hd ha=>?_
 have h0:=ha 0 _ rfl
 simp only [List.getElem_toArray,List.getElem_cons_zero,List.getElem_cons_succ] at h0
 refine wSq (wRg (oNo rfl (opw_box (v:=.agg #[k,.slice vb n vc]) h0 ?_)))
 have hnew:=heap_alloc_new w (.cells (Value.agg #[k,.slice vb n vc]).cells X.Tg)
 have hc:(w.alloc (.cells (Value.agg #[k,.slice vb n vc]).cells X.Tg)).cell? ⟨w.heap.size,1,none⟩=some (.slice vb n vc):=by rw [cell_of_row _ _ _ _ _ _ hnew];rfl
 have hb1:Below w.heap.size w (w.alloc (.cells (Value.agg #[k,.slice vb n vc]).cells X.Tg)):=(Below.refl _ _).alloc (Nat.le_refl _) _
 generalize w.alloc (.cells (Value.agg #[k,.slice vb n vc]).cells X.Tg)=w1 at hc hb1 ⊢
 repeat (apply ops_1;(focus (simp (disch:=(try simp only [sPu]);omega) ;try rfl)))
 refine oNi (wSq (wSq (wRg ?_)))
 repeat (apply ops_1;(focus (simp (disch:=(try simp only [sPu]);omega) [hst,hc];try rfl)))
 refine oNi (wCd (t:=decide ((n:Int) > 2147483647)) (by simp (disch:=(try simp only [sPu]);omega)) ?_)
 split
 ·refine wSq (wRg ?_)
  repeat (apply ops_1;(focus (simp (disch:=(try simp only [sPu]);omega) ;try rfl)))
  refine oNi (wRt ?_)
  exact ret_tmp hr (by simp [dPu,hd]) ⟨⟨false,by simp (disch:=(try simp only [sPu]);omega)⟩,hb1⟩
 ·refine wSk ?_
  simp only [Exit.then]
  refine wSq (wRg ?_)
  repeat (apply ops_1;(focus (simp (disch:=(try simp only [sPu]);omega) ;try rfl)))
  refine oNi (wRt ?_)
  exact ret_tmp hr (by simp [dPu,hd]) ⟨⟨true,by simp (disch:=(try simp only [sPu]);omega)⟩,hb1⟩
theorem fits3_ok (hX:stOK P X=true) (hT:TagT P X) {F0 T3:Nat} (oF:FnOK P F0) (cF:∀ (w:World) (k:Value) (vb:Option Addr) (n vc:Nat),k.oneCell'=true->Calls P F0 #[.agg #[k,.slice vb n vc]] w (Asks w))
  (hf:P.funcs[f]?=some fn) (hb:fn.body.map strip=some (sc_zzFits3 X.Tgs X.I X.Tg T3 F0)) (hn:fn.ntmps=18) (hr:fn.results=#[.tmp 2]) (w:World) (u:List (Nat × Bytes)) (ub:Option Addr) (uc:Nat) (hu:UTagsAt w (· < w.heap.size) ub u) :
  Calls P f #[.slice ub u.length uc] w (Asks w):=by
 have hst:=st_facts hX
 obtain ⟨iT,zT,hiT,hzT,hzTc,_,_⟩:=hT.info
 refine fCa hf hb hn (by simp) fun a0 hs hd ha=>?_
 have h0:=ha 0 _ rfl
 simp only [List.getElem_toArray,List.getElem_cons_zero,List.getElem_cons_succ] at h0
 refine wSq (wRg ?_)
 repeat (apply ops_1;(focus (simp (disch:=(try simp only [sPu]);omega) ;try rfl)))
 refine oNi (wSq (wSq (wRg ?_)))
 repeat (apply ops_1;(focus (simp (disch:=(try simp only [sPu]);omega) [hst,h0];try rfl)))
 refine oNi (wCd (t:=decide ((u.length:Int) > 2147483647)) (by simp (disch:=(try simp only [sPu]);omega)) ?_)
 by_cases hbig:(u.length:Int) > 2147483647
 ·rw [if_pos (decide_eq_true hbig)]
  refine wSq (wRg ?_)
  repeat (apply ops_1;(focus (simp (disch:=(try simp only [sPu]);omega) ;try rfl)))
  refine oNi (wRt ?_)
  exact ret_tmp hr (by simp [dPu,hd]) ⟨⟨false,by simp (disch:=(try simp only [sPu]);omega)⟩,Below.refl _ _⟩
 rw [if_neg (by rw [decide_eq_false hbig];simp)]
 refine wSk ?_
 simp only [Exit.then]
 refine wSq (wSq (wRg ?_))
 repeat (apply ops_1;(focus (simp (disch:=(try simp only [sPu]);omega) [hst,h0];try rfl)))
 refine oNi ?_
 simp only [Exit.then]
 refine wBk (wLp (fun a' w'=>∃ i:Nat,a'.tmps.size=18/\a'.defers=[]/\getT a' 8=.slice ub u.length uc/\getT a' 9=.int .i64 (u.length:Int)/\getT a' 10=.int .i64 (i:Int)/\i<=u.length/\Below w.heap.size w w')
  (fun a' _=>match getT a' 10 with | .int _ m=>(u.length - m).toNat | _=>0) ⟨0,by simp [sPu,hs],by simp [dPu,hd],by simp (disch:=(try simp only [sPu]);omega),by simp (disch:=(try simp only [sPu]);omega),by simp (disch:=(try simp only [sPu]);omega),by omega,Below.refl _ _⟩ ?_)
 rintro a w1 ⟨i,p,pd,p8,p9,p10,hi,hb1⟩
 refine wSq (wRg ?_)
 repeat (apply ops_1;(focus (simp (disch:=(try simp only [sPu]);omega) [p9,p10];try rfl)))
 refine oNi ?_
 simp only [Exit.then]
 refine wSq (wCd (t:=decide ((i:Int) < (u.length:Int))) (by simp (disch:=(try simp only [sPu]);omega)) ?_)
 by_cases hlt:i < u.length
 ·rw [if_pos (decide_eq_true (by omega))]
  refine wSk ?_
  simp only [Exit.then]
  rcases hu with hu | ⟨b,o,hub,hbB,hall⟩
  ·rw [hu] at hlt
   simp at hlt
  subst hub
  obtain ⟨hx4,vb,vc,hrng,hbs,hvc⟩:=hall i _ (List.getElem?_eq_getElem hlt)
  have hrng1:rangeV w1 b (o+i * 2) 2=some [.int .u32 (u[i].1:Int),.slice vb u[i].2.length vc]:=by rw [rangeV_mono (hb1.block b hbB)];exact hrng
  have hii:(0:Int)<=(i:Int)/\(i:Int) < (u.length:Int):=by omega
  refine wSq (wBk (wSq (wRg ?_)))
  iterate 2 (apply ops_1;(focus (simp (disch:=(try simp only [sPu]);omega) [hst,p8,p10,hii,hrng1];try rfl)))
  refine oNo rfl (opw_alloc hiT hzT ?_)
  have hnew:=heap_alloc_new w1 (.cells zT.cells X.Tg)
  refine oNo rfl (opw_store_agg (cs:=[.int .u32 (u[i].1:Int),.slice vb u[i].2.length vc]) (cur:=zT.cells) (b:=w1.heap.size) (E:=X.Tg) hT.agg (by simp (disch:=(try simp only [sPu]);omega)) (by simp (disch:=(try simp only [sPu]);omega)) hnew (by rw [hzTc];rfl) (by intro v hv;simp at hv;rcases hv with rfl | rfl <;> rfl) (oNi ?_))
  rw [pNo]
  simp only [Exit.then]
  have hrow2:=setRow_heap _ _ _ [Value.int .u32 (u[i].1:Int),.slice vb u[i].2.length vc].toArray _ _ hnew
  have hb2:Below w.heap.size w ((w1.alloc (.cells zT.cells X.Tg)).setRow w1.heap.size [Value.int .u32 (u[i].1:Int),.slice vb u[i].2.length vc].toArray):=(hb1.alloc hb1.size _).trans ⟨rfl,rfl,rfl,by simp,fun k hk=>setRow_other _ _ _ _ (by have:=hb1.size;omega)⟩
  have hr2:rangeV ((w1.alloc (.cells zT.cells X.Tg)).setRow w1.heap.size [Value.int .u32 (u[i].1:Int),.slice vb u[i].2.length vc].toArray) w1.heap.size 0 2=some [.int .u32 (u[i].1:Int),.slice vb u[i].2.length vc]:=by
   have hc:∀ j,((w1.alloc (.cells zT.cells X.Tg)).setRow w1.heap.size [Value.int .u32 (u[i].1:Int),.slice vb u[i].2.length vc].toArray).cell? ⟨w1.heap.size,j,none⟩=#[.int .u32 (u[i].1:Int),.slice vb u[i].2.length vc][j]?:=fun j=>cell_of_row _ _ _ _ _ _ hrow2
   simp [rangeV,hc]
  generalize ((w1.alloc (.cells zT.cells X.Tg)).setRow w1.heap.size [Value.int .u32 (u[i].1:Int),.slice vb u[i].2.length vc].toArray)=w2 at hb2 hr2 ⊢
  refine wSq (wRg ?_)
  iterate 1 (apply ops_1;(focus (simp (disch:=(try simp only [sPu]);omega) [hst,hr2];try rfl)))
  refine ops_call oF (cF w2 (.int .u32 (u[i].1:Int)) vb u[i].2.length vc rfl) (by simp (disch:=(try simp only [sPu]);omega)) ?_
  rintro e w3 ⟨⟨bo,rfl⟩,hb3⟩
  refine ⟨_,rfl,?_⟩
  have hb3':Below w.heap.size w w3:=hb2.trans ⟨hb3.os,hb3.tape,hb3.output,hb3.size,fun k hk=>hb3.block k (Nat.lt_of_lt_of_le hk hb2.size)⟩
  repeat (apply ops_1;(focus (simp (disch:=(try simp only [sPu]);omega) ;try rfl)))
  refine oNi (wCd (t:=!bo) (by simp (disch:=(try simp only [sPu]);omega)) ?_)
  cases bo
  ·rw [if_pos (by rfl)]
   refine wSq (wRg ?_)
   repeat (apply ops_1;(focus (simp (disch:=(try simp only [sPu]);omega) ;try rfl)))
   refine oNi (wRt ?_)
   simp only [Exit.then,Exit.inBlock]
   exact ret_tmp hr (by simp [dPu,pd]) ⟨⟨false,by simp (disch:=(try simp only [sPu]);omega)⟩,hb3'⟩
  ·rw [if_neg (by simp)]
   refine wSk ?_
   simp only [Exit.then,Exit.inBlock]
   have hwi:IntKind.i64.wrap ((i:Int)+1)=(i:Int)+1:=w64q (by omega) (by omega)
   refine wRg ?_
   repeat (apply ops_1;(focus (simp (disch:=(try simp only [sPu]);omega) [p10,hwi];try rfl)))
   refine oNi ?_
   refine ⟨⟨i+1,by simp [sPu,p],by simp [dPu,pd],by simp (disch:=(try simp only [sPu]);omega) [p8],by simp (disch:=(try simp only [sPu]);omega) [p9],by simp (disch:=(try simp only [sPu]);omega),by omega,hb3'⟩,?_⟩
   have e10:getT a 10=.int .i64 (i:Int):=p10
   simp only [e10]
   simp (disch:=(try simp only [sPu]);omega)
   omega
 ·rw [if_neg (by rw [decide_eq_false (by omega)];simp)]
  refine wXt ?_
  simp only [Exit.then,Exit.inBlock,if_true]
  refine wSq (wRg ?_)
  repeat (apply ops_1;(focus (simp (disch:=(try simp only [sPu]);omega) ;try rfl)))
  refine oNi (wRt ?_)
  exact ret_tmp hr (by simp [dPu,pd]) ⟨⟨true,by simp (disch:=(try simp only [sPu]);omega)⟩,hb1⟩
theorem fits2_ok (hX:stOK P X=true) {F0 T5:Nat} (oF:FnOK P F0) (cF:∀ (w:World) (u:List (Nat × Bytes)) (ub:Option Addr) (uc:Nat),UTagsAt w (· < w.heap.size) ub u->Calls P F0 #[.slice ub u.length uc] w (Asks w))
  (hf:P.funcs[f]?=some fn) (hb:fn.body.map strip=some (sc_zzFits2 X.T X.Bs X.I X.Ts X.Tgs T5 F0)) (hn:fn.ntmps=15) (hr:fn.results=#[.tmp 2]) {G:List (Nat × Bytes)->Prop} (w:World) (t:Tree) (tv:Value) (ht:TV G w (· < w.heap.size) t tv) :
  Calls P f #[tv] w (Asks w):=by
 have hst:=st_facts hX
 obtain ⟨n,s,null,l,u,sb,lb,ub,sc,lc,uc,b,o,cs,hs0,hsc,hlc,huc,hl,hr0,ht0,hG,hu⟩:=ht
 refine fCa hf hb hn (by simp) fun a0 hs hd ha=>?_
 have h0:=ha 0 _ rfl
 simp only [List.getElem_toArray,List.getElem_cons_zero,List.getElem_cons_succ] at h0
 refine wSq (wRg (oNo rfl (opw_box (v:=treV n (.slice sb s.length sc) null (.slice lb l.length lc) (.slice ub u.length uc)) h0 ?_)))
 have hnew:=heap_alloc_new w (.cells (treV n (.slice sb s.length sc) null (.slice lb l.length lc) (.slice ub u.length uc)).cells X.T)
 have hc1:(w.alloc (.cells (treV n (.slice sb s.length sc) null (.slice lb l.length lc) (.slice ub u.length uc)).cells X.T)).cell? ⟨w.heap.size,1,none⟩=some (.slice sb s.length sc):=by rw [cell_of_row _ _ _ _ _ _ hnew];rfl
 have hc3:(w.alloc (.cells (treV n (.slice sb s.length sc) null (.slice lb l.length lc) (.slice ub u.length uc)).cells X.T)).cell? ⟨w.heap.size,3,none⟩=some (.slice lb l.length lc):=by rw [cell_of_row _ _ _ _ _ _ hnew];rfl
 have hc4:(w.alloc (.cells (treV n (.slice sb s.length sc) null (.slice lb l.length lc) (.slice ub u.length uc)).cells X.T)).cell? ⟨w.heap.size,4,none⟩=some (.slice ub u.length uc):=by rw [cell_of_row _ _ _ _ _ _ hnew];rfl
 have hb1:Below w.heap.size w (w.alloc (.cells (treV n (.slice sb s.length sc) null (.slice lb l.length lc) (.slice ub u.length uc)).cells X.T)):=(Below.refl _ _).alloc (Nat.le_refl _) _
 generalize w.alloc (.cells (treV n (.slice sb s.length sc) null (.slice lb l.length lc) (.slice ub u.length uc)).cells X.T)=w1 at hc1 hc3 hc4 hb1 ⊢
 have hu1:UTagsAt w1 (· < w1.heap.size) ub u:=tagsAt_mono hu (fun k hk=>Nat.lt_of_lt_of_le hk hb1.size) fun k hk=>hb1.block k hk
 repeat (apply ops_1;(focus (simp (disch:=(try simp only [sPu]);omega) ;try rfl)))
 refine oNi (wSq (wSq (wRg ?_)))
 repeat (apply ops_1;(focus (simp (disch:=(try simp only [sPu]);omega) [hst,hc1];try rfl)))
 refine oNi (wCd (t:=decide ((s.length:Int) > 2147483647)) (by simp (disch:=(try simp only [sPu]);omega)) ?_)
 split
 ·refine wSq (wRg ?_)
  repeat (apply ops_1;(focus (simp (disch:=(try simp only [sPu]);omega) ;try rfl)))
  refine oNi (wRt ?_)
  exact ret_tmp hr (by simp [dPu,hd]) ⟨⟨false,by simp (disch:=(try simp only [sPu]);omega)⟩,hb1⟩
 refine wSk ?_
 simp only [Exit.then]
 refine wSq (wSq (wRg ?_))
 repeat (apply ops_1;(focus (simp (disch:=(try simp only [sPu]);omega) [hst,hc3];try rfl)))
 refine oNi (wCd (t:=decide ((l.length:Int) > 2147483647)) (by simp (disch:=(try simp only [sPu]);omega)) ?_)
 split
 ·refine wSq (wRg ?_)
  repeat (apply ops_1;(focus (simp (disch:=(try simp only [sPu]);omega) ;try rfl)))
  refine oNi (wRt ?_)
  exact ret_tmp hr (by simp [dPu,hd]) ⟨⟨false,by simp (disch:=(try simp only [sPu]);omega)⟩,hb1⟩
 refine wSk ?_
 simp only [Exit.then]
 refine wSq (wSq (wRg ?_))
 iterate 2 (apply ops_1;(focus (simp (disch:=(try simp only [sPu]);omega) [hst,hc4];try rfl)))
 refine ops_call oF (cF w1 u ub uc hu1) (by simp (disch:=(try simp only [sPu]);omega)) ?_
 rintro e w2 ⟨⟨bo,rfl⟩,hb2⟩
 refine ⟨_,rfl,?_⟩
 have hb2':Below w.heap.size w w2:=hb1.trans ⟨hb2.os,hb2.tape,hb2.output,hb2.size,fun k hk=>hb2.block k (Nat.lt_of_lt_of_le hk hb1.size)⟩
 repeat (apply ops_1;(focus (simp (disch:=(try simp only [sPu]);omega) ;try rfl)))
 refine oNi (wCd (t:=!bo) (by simp (disch:=(try simp only [sPu]);omega)) ?_)
 split
 ·refine wSq (wRg ?_)
  repeat (apply ops_1;(focus (simp (disch:=(try simp only [sPu]);omega) ;try rfl)))
  refine oNi (wRt ?_)
  exact ret_tmp hr (by simp [dPu,hd]) ⟨⟨false,by simp (disch:=(try simp only [sPu]);omega)⟩,hb2'⟩
 refine wSk ?_
 simp only [Exit.then]
 refine wSq (wRg ?_)
 repeat (apply ops_1;(focus (simp (disch:=(try simp only [sPu]);omega) ;try rfl)))
 refine oNi (wRt ?_)
 exact ret_tmp hr (by simp [dPu,hd]) ⟨⟨true,by simp (disch:=(try simp only [sPu]);omega)⟩,hb2'⟩
end
end Go.Proofs.YtdnpafdgglpagaaGreatDoor.K
namespace Go.Proofs.YtdnpafdgglpagaaGreatDoor.T
set_option linter.unusedVariables false
set_option linter.unusedSimpArgs false
mutual
def Tree.bulk:Tree->Nat
 | .mk _ s _ l u=>1+s.length+bulkL l+bulkU u
def bulkL:List Tree->Nat
 | []=>0
 | t :: r=>Tree.bulk t+bulkL r
def bulkU:List (Nat × Bytes)->Nat
 | []=>0
 | x :: r=>1+x.2.length+bulkU r
end
theorem bulk_pos (t:Tree):1<=t.bulk:=by cases t;simp only [Tree.bulk];omega
theorem bulk_mk (t:Tree):t.bulk=1+t.s.length+bulkL t.l+bulkU t.u:=by cases t;simp only [Tree.bulk,Tree.s,Tree.l,Tree.u]
theorem bulkL_head:∀ ts:List Tree,(ts.headD Tree.zero).bulk<=1+bulkL ts
 | []=>by simp [Tree.zero,Tree.bulk,bulkL,bulkU]
 | t :: r=>by simp only [List.headD_cons,bulkL];omega
theorem bulkL_tail:∀ ts:List Tree,bulkL ts.tail<=bulkL ts
 | []=>by simp
 | t :: r=>by simp only [List.tail_cons,bulkL];omega
theorem bulkL_drop:∀ (n:Nat) (ts:List Tree),bulkL (ts.drop n)<=bulkL ts
 | 0,ts=>by simp
 | n+1,[]=>by simp
 | n+1,x :: r=>by simp only [List.drop_succ_cons,bulkL];have:=bulkL_drop n r;omega
theorem bulkL_mem {x:Tree}:∀ {ts:List Tree},x ∈ ts->x.bulk<=bulkL ts
 | y :: r,h=>by
  simp only [bulkL]
  rcases List.mem_cons.1 h with rfl | h
  ·omega
  ·have:=bulkL_mem h;omega
theorem bulkL_take:∀ (n:Nat) (ts:List Tree),bulkL (ts.take n)<=bulkL ts
 | 0,ts=>by simp [bulkL]
 | n+1,[]=>by simp
 | n+1,t :: r=>by simp only [List.take_succ_cons,bulkL];have:=bulkL_take n r;omega
theorem uvl:∀ (k n:Nat),n < 128 ^ (k+1)->(uvarint n).length<=k+1
 | 0,n,h=>by rw [uvarint_le (by simpa using (by omega:n<=127))];simp
 | k+1,n,h=>by
  by_cases hn:n<=127
  ·rw [uvarint_le hn];simp
  ·rw [uvarint_gt hn]
   have:=uvl k (n / 128) (Nat.div_lt_of_lt_mul (by rw [Nat.pow_succ] at h;omega))
   simp only [List.length_cons]
   omega
theorem uv5 {n:Nat} (h:n < 4294967296):(uvarint n).length<=5:=uvl 4 n (Nat.lt_trans h (by decide))
theorem counted8 (flex null:Bool) (n size:Nat) (hn:n<=most) (hs:size<=8):(counted flex null n size).length<=8:=by
 have hm:most=32767:=rfl
 have:=uv5 (n:=n+1) (by omega)
 unfold counted
 split <;> split
 ·simp
 ·omega
 ·rw [fixed_length];exact hs
 ·rw [fixed_length];exact hs
theorem prim_len8 (flex null:Bool) (t:Tree) (k:PK):(wPrim flex null t k).length<=16+t.s.length/\(wPrim flex null t k).length<=32783:=by
 have hm:most=32767:=rfl
 have hw:(whole t.s).length<=t.s.length:=by simp [whole];omega
 have hw':=whole_length t.s
 have hs:(if null=true then ([]:Bytes) else whole t.s).length<=t.s.length/\(if null=true then ([]:Bytes) else whole t.s).length<=most:=by
  split
  ·simp
  ·exact ⟨hw,hw'⟩
 cases k <;> simp only [wPrim,PK.width,fixed_length]
 case bool=>simp;omega
 case uuid=>simp
 case str =>
  rw [List.length_append]
  have:=counted8 flex null _ 2 hs.2 (by decide)
  omega
 case bytes =>
  rw [List.length_append]
  have:=counted8 flex null _ 4 hs.2 (by decide)
  omega
 all_goals omega
theorem whole_len (b:Bytes):(whole b).length<=b.length:=by simp [whole];omega
theorem tag_len {t:Nat × Bytes} (h:t.1 < 4294967296):(wTag t).length<=10 * (1+t.2.length)/\(wTag t).length<=32777:=by
 have hm:most=32767:=rfl
 have h1:=uv5 h
 have h2:=whole_length t.2
 have h3:=uv5 (n:=(whole t.2).length) (by omega)
 have h4:=whole_len t.2
 simp only [wTag,List.length_append]
 omega
theorem ins_len (t:Nat × Bytes):∀ l:List (Nat × Bytes),bulkU (insTag t l)<=1+t.2.length+bulkU l
 | []=>by simp [insTag,bulkU]
 | x :: r=>by
  simp only [insTag]
  split
  ·simp only [bulkU];have:=ins_len t r;omega
  ·split
   ·omega
   ·simp only [bulkU];omega
theorem fold_len:∀ (l acc:List (Nat × Bytes)),bulkU (l.foldl (fun acc t=>insTag t acc) acc)<=bulkU acc+bulkU l
 | [],acc=>by simp [bulkU]
 | x :: r,acc=>by
  simp only [List.foldl_cons,bulkU]
  have h1:=fold_len r (insTag x acc)
  have h2:=ins_len x acc
  omega
theorem bulkU_take:∀ (n:Nat) (ts:List (Nat × Bytes)),bulkU (ts.take n)<=bulkU ts
 | 0,ts=>by simp [bulkU]
 | n+1,[]=>by simp
 | n+1,t :: r=>by simp only [List.take_succ_cons,bulkU];have:=bulkU_take n r;omega
theorem unknown_bulk (u:List (Nat × Bytes)):bulkU (unknown u)<=bulkU u:=by
 have h1:=fold_len (u.take most) []
 have h2:=bulkU_take most u
 simp only [bulkU] at h1
 simp only [unknown]
 omega
theorem flat_tags:∀ u:List (Nat × Bytes),(∀ x ∈ u,x.1 < 4294967296)->(u.flatMap wTag).length<=10 * bulkU u/\(u.flatMap wTag).length<=32777 * u.length
 | [],_=>by simp [bulkU]
 | x :: r,h=>by
  have h1:=tag_len (h x (by simp))
  have h2:=flat_tags r fun y hy=>h y (List.mem_cons_of_mem _ hy)
  simp only [List.flatMap_cons,List.length_append,bulkU,List.length_cons]
  omega
theorem tags_len8 (flex:Bool) (u:List (Nat × Bytes)) (h:∀ x ∈ u,x.1 < 4294967296):(wTags flex u).length<=10 * (1+bulkU u)/\(wTags flex u).length<=if flex then 1074003964 else 0:=by
 have hm:most=32767:=rfl
 cases flex
 ·simp [wTags]
 ·obtain ⟨_,h2,h3⟩:=unknown_facts u
  have h1:=flat_tags (unknown u) fun x hx=>h x (h2 x hx)
  have h4:=uv5 (n:=(unknown u).length) (by omega)
  have h5:=unknown_bulk u
  simp only [wTags,if_true,List.length_append]
  omega
mutual
def cTy:Ty->Nat
 | .prim _=>16
 | .list _ _ _ of=>8+cTy of
 | .struct _ _ _ _ fs kn=>30+cFs fs+cFs kn
def cFs:Fs->Nat
 | .nil=>0
 | .cons _ ty r=>1+cTy ty+cFs r
end
theorem flat_len {w:Tree->Bytes} {c:Nat}:∀ l:List Tree,(∀ x ∈ l,(w x).length<=c * x.bulk)->(l.flatMap w).length<=c * bulkL l
 | [],_=>by simp
 | x :: r,h=>by
  have h1:=h x (by simp)
  have h2:=flat_len r fun y hy=>h y (List.mem_cons_of_mem _ hy)
  simp only [List.flatMap_cons,List.length_append,bulkL,Nat.mul_add]
  omega
theorem fold_len2:∀ (v acc:List (Nat × Bytes)),bulkU (v.foldl (fun acc t=>insTag t acc) acc)<=bulkU v+bulkU acc:=fun v acc=>by have:=fold_len v acc;omega
theorem bulkU_filter (f:Nat × Bytes->Bool):∀ u:List (Nat × Bytes),bulkU (u.filter f)<=bulkU u
 | []=>by simp [bulkU]
 | x :: r=>by
  have:=bulkU_filter f r
  simp only [List.filter_cons]
  split <;> simp only [bulkU] <;> omega
theorem unkB_bulk (u:List (Nat × Bytes)):bulkU (unkB u)<=bulkU u:=by
 have h1:=fold_len2 ((u.take most).filter fun t=>decide (1<=t.1)) []
 have h2:=bulkU_take most u
 have h3:=bulkU_filter (fun t=>decide (1<=t.1)) (u.take most)
 simp only [bulkU] at h1
 simp only [unkB]
 omega
theorem tagsB_len8 (flex:Bool) (kn:List (Option Bytes)) (u:List (Nat × Bytes)) (n:Nat) (hn:∀ c,some c ∈ kn->c.length<=n) (h32:n < 4294967296) (h:∀ x ∈ u,x.1 < 4294967296):(wTagsB flex kn u).length<=20+n+10 * bulkU u:=by
 have hm:most=32767:=rfl
 have hB:(uvarint (unkB u).length).length<=5/\(uvarint (1+(unkB u).length)).length<=5/\((unkB u).flatMap wTag).length<=10 * bulkU u:=by
  obtain ⟨_,h2,h3⟩:=unkB_facts u
  have h1:=flat_tags (unkB u) fun x hx=>h x (h2 x hx).1
  have h5:=unkB_bulk u
  exact ⟨uv5 (by omega),uv5 (by omega),by omega⟩
 match kn with
 | [] =>
  have:=(tags_len8 flex u h).1
  simp only [wTagsB]
  omega
 | none :: _ =>
  simp only [wTagsB]
  split
  ·rw [List.length_append];omega
  ·simp
 | some c :: r =>
  have hc:=hn c (by simp)
  have h6:=uv5 (n:=c.length) (by omega)
  have h7:=uv5 (n:=0) (by omega)
  simp only [wTagsB]
  split
  ·simp only [List.length_append];omega
  ·simp
mutual
theorem ty_len8 (ver:Int) (flex:Bool):∀ (ty:Ty) (nul:Bool) (t:Tree),KTy ver ty t->(wTy ver flex ty nul t).length<=cTy ty * t.bulk
 | .prim k,nul,t,_=>by
  have h:=(prim_len8 flex nul t k).1
  have hb:=bulk_mk t
  simp only [wTy,cTy]
  omega
 | .list a b c of,nul,t,hk=>by
  simp only [KTy] at hk
  have hmo:most=32767:=rfl
  have hb:=bulk_mk t
  simp only [wTy,cTy,List.length_append]
  have hl:(if nul=true then ([]:List Tree) else t.l.take most).length<=most/\bulkL (if nul=true then ([]:List Tree) else t.l.take most)<=bulkL t.l/\∀ x ∈ (if nul=true then ([]:List Tree) else t.l.take most),KTy ver of x:=by
   split
   ·simp [bulkL]
   ·exact ⟨by simp;omega,bulkL_take _ _,fun x hx=>hk x (List.mem_of_mem_take hx)⟩
  generalize (if nul=true then ([]:List Tree) else t.l.take most)=l at hl
  obtain ⟨l1,l2,l3⟩:=hl
  have h1:=counted8 flex nul l.length 4 l1 (by decide)
  have h2:=flat_len (w:=fun x=>wTy ver flex of false x) l fun x hx=>ty_len8 ver flex of false x (l3 x hx)
  have h3:cTy of * bulkL l<=cTy of * t.bulk:=Nat.mul_le_mul_left _ (by omega)
  rw [Nat.add_mul]
  have:=bulk_pos t
  omega
 | .struct a b c d fs kn,nul,t,hk=>by
  simp only [KTy] at hk
  have h1:=fs_len8 ver flex fs t.l hk.1
  have h2:=kn_len8 ver flex kn (t.l.drop (Fs.len fs)) t.u hk.2.2 hk.2.1
  have hb:=bulk_mk t
  have hd:=bulkL_drop (Fs.len fs) t.l
  simp only [wTy,cTy,List.length_append]
  have h3:cFs fs * (1+bulkL t.l)<=cFs fs * t.bulk:=Nat.mul_le_mul_left _ (by omega)
  have h4:cFs kn * (1+bulkL (t.l.drop (Fs.len fs)))<=cFs kn * t.bulk:=Nat.mul_le_mul_left _ (by omega)
  rw [Nat.add_mul,Nat.add_mul]
  omega
theorem fs_len8 (ver:Int) (flex:Bool):∀ (fs:Fs) (ts:List Tree),KFs ver fs ts->(wFs ver flex fs ts).length<=cFs fs * (1+bulkL ts)
 | .nil,ts,_=>by simp [wFs]
 | .cons h ty r,ts,hk=>by
  simp only [KFs] at hk
  rw [wFs_cons,List.length_append]
  have h1:=fs_len8 ver flex r ts.tail hk.2
  have ht:=bulkL_tail ts
  have h2:cFs r * (1+bulkL ts.tail)<=cFs r * (1+bulkL ts):=Nat.mul_le_mul_left _ (by omega)
  simp only [cFs,Nat.add_mul,Nat.one_mul]
  by_cases hh:h.has ver=true
  ·rw [if_pos hh]
   have hk1:=hk.1 hh
   have hbh:=bulkL_head ts
   generalize ts.headD Tree.zero=t at hk1 hbh
   have h3:=fun nul=>ty_len8 ver flex ty nul t hk1
   have h4:cTy ty * t.bulk<=cTy ty * (1+bulkL ts):=Nat.mul_le_mul_left _ (by omega)
   have key:(wField ver flex h ty t).length<=1+cTy ty * t.bulk:=by
    cases ty with
    | struct a b c d e k =>
     simp only [wField]
     have:=h3 false
     split
     ·split
      ·simp
      ·simp only [List.length_cons];omega
     ·omega
    | prim k=>simp only [wField];have:=h3 (h.isNull ver t);omega
    | list a b c e=>simp only [wField];have:=h3 (h.isNull ver t);omega
   omega
  ·rw [if_neg hh,List.length_nil]
   omega
theorem kn_len8 (ver:Int) (flex:Bool):∀ (kn:Fs) (ks:List Tree) (u:List (Nat × Bytes)),KKn ver kn ks->(∀ x ∈ u,x.1 < 4294967296)->(wTagsB flex (wKn ver flex kn ks) u).length<=20+cFs kn * (1+bulkL ks)+10 * bulkU u
 | .nil,ks,u,_,hu=>by
  have:=tagsB_len8 flex [] u 0 (fun c hc=>by cases hc) (by omega) hu
  simp only [wKn,cFs]
  omega
 | .cons h ty r,ks,u,hk,hu=>by
  simp only [KKn] at hk
  cases flex with
  | false =>
   have:wTagsB false (wKn ver false (.cons h ty r) ks) u=[]:=by
    simp only [wKn]
    split <;> simp [wTagsB]
   rw [this,List.length_nil]
   omega
  | true =>
   have h1:=ty_len8 ver true ty false (ks.headD Tree.zero) hk.1
   have hbh:=bulkL_head ks
   have h4:cTy ty * (ks.headD Tree.zero).bulk<=cTy ty * (1+bulkL ks):=Nat.mul_le_mul_left _ (by omega)
   have:=tagsB_len8 true (wKn ver true (.cons h ty r) ks) u (wTy ver true ty false (ks.headD Tree.zero)).length (fun c hc=>by
    simp only [wKn,List.mem_cons,List.not_mem_nil,or_false] at hc
    split at hc
    ·cases hc
    ·cases hc
     exact Nat.le_refl _) hk.2 hu
   simp only [cFs,Nat.add_mul,Nat.one_mul]
   omega
end
theorem msg_len8 (ver:Int) (flex:Bool) (fs kn:Fs) (t:Tree) (hk:KFs ver fs t.l) (hkn:KKn ver kn (t.l.drop (Fs.len fs))) (hu:∀ x ∈ t.u,x.1 < 4294967296):(wMsg ver flex fs kn t.l t.u).length<=(30+cFs fs+cFs kn) * t.bulk:=by
 have h1:=fs_len8 ver flex fs t.l hk
 have h2:=kn_len8 ver flex kn (t.l.drop (Fs.len fs)) t.u hkn hu
 have hb:=bulk_mk t
 have hd:=bulkL_drop (Fs.len fs) t.l
 have h3:cFs fs * (1+bulkL t.l)<=cFs fs * t.bulk:=Nat.mul_le_mul_left _ (by omega)
 have h4:cFs kn * (1+bulkL (t.l.drop (Fs.len fs)))<=cFs kn * t.bulk:=Nat.mul_le_mul_left _ (by omega)
 simp only [wMsg,List.length_append]
 rw [Nat.add_mul,Nat.add_mul]
 omega
inductive KAll:Tree->Prop where
 | mk (n:Int) (s:Bytes) (null:Bool) (l:List Tree) (u:List (Nat × Bytes)) (hl:∀ (i:Nat) (x:Tree),l[i]?=some x->KAll x) (hu:∀ x ∈ u,x.1 < 4294967296):KAll (.mk n s null l u)
theorem KAll.l {t:Tree} (h:KAll t):∀ x ∈ t.l,KAll x:=by
 cases h with
 | mk n s null l u hl hu =>
  intro x hx
  obtain ⟨i,hi⟩:=List.getElem?_of_mem hx
  exact hl i x hi
theorem KAll.u {t:Tree} (h:KAll t):∀ x ∈ t.u,x.1 < 4294967296:=by
 cases h with
 | mk n s null l u hl hu=>exact hu
theorem KAll.zero:KAll Tree.zero:=.mk _ _ _ _ _ (fun i x h=>by simp at h) (fun x h=>by cases h)
mutual
theorem kAll_ty (ver:Int):∀ (ty:Ty) (t:Tree),KAll t->cTy ty * t.bulk < 4294967296->KTy ver ty t
 | .prim _,t,_,_=>by simp [KTy]
 | .list _ _ _ of,t,h,hb=>by
  simp only [KTy]
  refine fun x hx=>kAll_ty ver of x (h.l x hx) ?_
  have h1:=bulkL_mem hx
  have h2:=bulk_mk t
  have h3:cTy of * x.bulk<=cTy of * t.bulk:=Nat.mul_le_mul_left _ (by omega)
  simp only [cTy,Nat.add_mul] at hb
  omega
 | .struct _ _ _ _ fs kn,t,h,hb=>by
  have h2:=bulk_mk t
  have hd:=bulkL_drop (Fs.len fs) t.l
  simp only [cTy,Nat.add_mul] at hb
  have h3:cFs fs * (1+bulkL t.l)<=cFs fs * t.bulk:=Nat.mul_le_mul_left _ (by omega)
  have h4:cFs kn * (1+bulkL (t.l.drop (Fs.len fs)))<=cFs kn * t.bulk:=Nat.mul_le_mul_left _ (by omega)
  simp only [KTy]
  exact ⟨kAll_fs ver fs t.l h.l (by omega),h.u,kAll_kn ver kn _ (fun x hx=>h.l x (List.mem_of_mem_drop hx)) (by omega)⟩
theorem kAll_fs (ver:Int):∀ (fs:Fs) (ts:List Tree),(∀ x ∈ ts,KAll x)->cFs fs * (1+bulkL ts) < 4294967296->KFs ver fs ts
 | .nil,ts,_,_=>by simp [KFs]
 | .cons h ty r,ts,hk,hb=>by
  have ht:=bulkL_tail ts
  have hbh:=bulkL_head ts
  have h2:cFs r * (1+bulkL ts.tail)<=cFs r * (1+bulkL ts):=Nat.mul_le_mul_left _ (by omega)
  have h4:cTy ty * (ts.headD Tree.zero).bulk<=cTy ty * (1+bulkL ts):=Nat.mul_le_mul_left _ (by omega)
  simp only [cFs,Nat.add_mul,Nat.one_mul] at hb
  simp only [KFs]
  refine ⟨fun _=>kAll_ty ver ty _ ?_ (by omega),kAll_fs ver r ts.tail (fun x hx=>hk x (List.mem_of_mem_tail hx)) (by omega)⟩
  cases ts with
  | nil=>exact KAll.zero
  | cons t r=>exact hk t (by simp)
theorem kAll_kn (ver:Int):∀ (kn:Fs) (ks:List Tree),(∀ x ∈ ks,KAll x)->cFs kn * (1+bulkL ks) < 4294967296->KKn ver kn ks
 | .nil,_,_,_=>by simp [KKn]
 | .cons h ty r,ks,hk,hb=>by
  have hbh:=bulkL_head ks
  have h4:cTy ty * (ks.headD Tree.zero).bulk<=cTy ty * (1+bulkL ks):=Nat.mul_le_mul_left _ (by omega)
  simp only [cFs,Nat.add_mul,Nat.one_mul] at hb
  have hK:KTy ver ty (ks.headD Tree.zero):=kAll_ty ver ty _ (by
   cases ks with
   | nil=>exact KAll.zero
   | cons t r=>exact hk t (by simp)) (by omega)
  have h1:=ty_len8 ver true ty false (ks.headD Tree.zero) hK
  simp only [KKn]
  exact ⟨hK,by omega⟩
end
end Go.Proofs.YtdnpafdgglpagaaGreatDoor.T
namespace Go.Proofs.YtdnpafdgglpagaaGreatDoor.K
open Go Go.RowKit Go.Proofs.YtdnpafdgglpagaaGreatDoor.T
set_option linter.unusedVariables false
set_option linter.unusedSimpArgs false
theorem nzTags_flat:∀ l:List (Nat × Bytes),(∀ x ∈ l,x.1 < 4294967296/\1<=x.1)->nzTags l.length (l.flatMap wTag)
 | [],_=>trivial
 | x :: l,h=>by
  obtain ⟨h1,h2⟩:=h x List.mem_cons_self
  have hw:(whole x.2).length < 4294967296:=by have:=whole_length x.2;have:most=32767:=rfl;omega
  refine ⟨x.1,_,_,_,whole x.2,l.flatMap wTag,?_,h2,pUv_uvarint hw _,pSpan_append (whole x.2) _,nzTags_flat l (fun y hy=>h y (List.mem_cons_of_mem _ hy))⟩
  rw [List.flatMap_cons]
  show pUv (uvarint x.1 ++ uvarint (whole x.2).length ++ whole x.2 ++ l.flatMap wTag)=_
  rw [List.append_assoc,List.append_assoc]
  exact pUv_uvarint h1 _
theorem zfTags_nz:∀ {n:Nat} {b:Bytes},nzTags n b->zfTags n b
 | 0,_,_=>trivial
 | _+1,_,⟨k,r,s,r2,v,r3,h1,_,h3,h4,h5⟩=>⟨k,r,s,r2,v,r3,h1,h3,h4,h5⟩
theorem kgood_msg {ver:Int} {flex:Bool} {fs kn:Fs} {ts:List Tree} {u:List (Nat × Bytes)} (hok:okFsR ver flex fs=true) (hk:KFs ver fs ts) (hkn:KKn ver kn (ts.drop (Fs.len fs))) (hu:∀ x ∈ u,x.1 < 4294967296) :
  KGood flex (after (some (wMsg ver flex fs kn ts u)) (pFs ver flex fs)) kn:=by
 obtain ⟨xs,h1,_,_⟩:=rt_fs ver flex fs ts (wTagsB flex (wKn ver flex kn (ts.drop (Fs.len fs))) u) hok hk
 have ha:after (some (wMsg ver flex fs kn ts u)) (pFs ver flex fs)=some (wTagsB flex (wKn ver flex kn (ts.drop (Fs.len fs))) u):=after_ok h1
 rw [ha]
 cases kn with
 | nil=>trivial
 | cons h ty r =>
  intro hf
  subst hf
  obtain ⟨_,hB1,hB2⟩:=unkB_facts u
  have hB3:∀ x ∈ unkB u,x.1 < 4294967296/\1<=x.1:=fun x hx=>⟨hu x (hB1 x hx).1,(hB1 x hx).2⟩
  have hm:most=32767:=rfl
  simp only [wKn]
  split
  ·refine .inr ⟨_,(unkB u).length,(unkB u).flatMap wTag,rfl,?_,zfTags_nz (nzTags_flat _ hB3)⟩
   simp only [wTagsB,if_true]
   exact pUv_uvarint (by omega) _
  ·simp only [KKn] at hkn
   generalize hc:wTy ver true ty false ((ts.drop (Fs.len fs)).headD Tree.zero)=c
   refine .inr ⟨_,1+(unkB u).length,uvarint 0 ++ (uvarint c.length ++ (c ++ (unkB u).flatMap wTag)),rfl,?_,?_⟩
   ·simp only [wTagsB,if_true]
    exact pUv_uvarint (by omega) _
   ·rw [Nat.add_comm]
    refine ⟨0,_,_,_,c,_,pUv_uvarint (by omega) _,pUv_uvarint (by rw [<- hc];exact hkn.2) _,pSpan_append c _,nzTags_flat _ hB3⟩
theorem bulk_ok (fs kn:Fs) (t:Tree) (hk:KAll t) (hc:(30+cFs fs+cFs kn) * 1048576<=4294967295) (hb:t.bulk<=1048576) :
  (∀ v:Int,KFs v fs t.l/\KKn v kn (t.l.drop (Fs.len fs)))/\∀ (v:Int) (flex:Bool),(wMsg v flex fs kn t.l t.u).length<=lim:=by
 have hlm:lim=4294967295:=rfl
 have h1:(30+cFs fs+cFs kn) * t.bulk<=(30+cFs fs+cFs kn) * 1048576:=Nat.mul_le_mul_left _ hb
 have hbm:=bulk_mk t
 have hbd:=bulkL_drop (Fs.len fs) t.l
 have e1:(30+cFs fs+cFs kn) * t.bulk=30 * t.bulk+cFs fs * t.bulk+cFs kn * t.bulk:=by rw [Nat.add_mul,Nat.add_mul]
 have h2:cFs fs * (1+bulkL t.l)<=cFs fs * t.bulk:=Nat.mul_le_mul_left _ (by omega)
 have h3:cFs kn * (1+bulkL (t.l.drop (Fs.len fs)))<=cFs kn * t.bulk:=Nat.mul_le_mul_left _ (by omega)
 have hkf:∀ v:Int,KFs v fs t.l/\KKn v kn (t.l.drop (Fs.len fs)):=fun v=>⟨kAll_fs v fs t.l hk.l (by omega),kAll_kn v kn _ (fun x hx=>hk.l x (List.mem_of_mem_drop hx)) (by omega)⟩
 exact ⟨hkf,fun v flex=>by
  have h:=msg_len8 v flex fs kn t (hkf v).1 (hkf v).2 hk.u
  omega⟩
set_option maxHeartbeats 4000000
def hasSub:Ty->Bool
 | .struct _ _ _ _ _ _=>true
 | .list _ _ _ of=>hasSub of
 | .prim _=>false
def ofPart:Ty->List (Nat × Int)
 | .list _ _ _ of=>[(6,kindOf of)]
 | _=>[]
def fldInts (tg:Int) (h:Hd) (ty:Ty):List (Nat × Int) :=
 (0,kindOf ty) :: (if h.from_=0 then [] else [(1,h.from_)]) ++ [(2,h.to),(3,h.null),(4,tg)] ++ (if h.dflt=0 then [] else [(5,h.dflt)]) ++ ofPart ty
def fldParts (tg:Int) (h:Hd) (ty:Ty) (sub:Option Nat):List (Nat × Operand) :=
 (fldInts tg h ty).map (fun x=>(x.1,.const (.int .i64 x.2))) ++ (match sub with | some t=>[(7,.tmp t)] | none=>[])
def bOps (F:Nat) (tg:Int):Fs->List Nat->Nat->List SOp
 | .nil,_,_=>[]
 | .cons h ty r,subs,t =>
  if hasSub ty then cal t (subs.headD 0) [] :: ⟨some (t+1),.build F (fldParts tg h ty (some t)).toArray,none⟩ :: bOps F tg r subs.tail (t+2)
  else ⟨some t,.build F (fldParts tg h ty none).toArray,none⟩ :: bOps F tg r subs (t+1)
def bSlots:Fs->Nat->List Nat
 | .nil,_=>[]
 | .cons _ ty r,t=>if hasSub ty then (t+1) :: bSlots r (t+2) else t :: bSlots r (t+1)
def bEnd:Fs->Nat->Nat
 | .nil,t=>t
 | .cons _ ty r,t=>if hasSub ty then bEnd r (t+2) else bEnd r (t+1)
def bEnd2 (fs kn:Fs):Nat:=bEnd kn (bEnd fs 1)
def bSlice (Fs_:Nat) (fs kn:Fs):SOp:=⟨some (bEnd2 fs kn),.buildSlice Fs_ (Fs.len fs+Fs.len kn) (((bSlots fs 1 ++ bSlots kn (bEnd fs 1)).zipIdx 0).map fun x=>(x.2,.tmp x.1)).toArray,none⟩
def sc_bSub (F Fs_:Nat) (fs kn:Fs) (subs subsK:List Nat):SC :=
 .seq (.reg [⟨some 0,.assign (.const (.slice none 0 0)),none⟩]) (.seq (.reg (bOps F (-1) fs subs 1 ++ (bOps F 0 kn subsK (bEnd fs 1) ++ [bSlice Fs_ fs kn,asg 0 (bEnd2 fs kn)]))) .ret)
def sc_bTop (F Fs_ M:Nat) (fs kn:Fs) (flex:Int) (subs subsK:List Nat):SC :=
 .seq (.reg [⟨some 0,.alloc M,none⟩]) (.seq (.reg (bOps F (-1) fs subs 1 ++ (bOps F 0 kn subsK (bEnd fs 1) ++ [bSlice Fs_ fs kn,⟨some (bEnd2 fs kn+1),.build M #[(1,.const (.int .i64 flex)),(0,.tmp (bEnd2 fs kn))],none⟩,⟨none,.store M (.tmp 0) (.tmp (bEnd2 fs kn+1)),none⟩]))) .ret)
def zeroF:List Value:=[.int .i64 0,.int .i64 0,.int .i64 0,.int .i64 0,.int .i64 0,.int .i64 0,.int .i64 0,.slice none 0 0]
def fOK (P:Program) (F:Nat):Bool :=
 match P.info? F,P.underlying F with
 | some it,some (.struct fields) =>
  match it.zero,fields.toList.mapM (fun f=>(P.info? f.type).map fun i=>(f.offset,i.size)) with
  | some (.agg ⟨[.int .i64 0,.int .i64 0,.int .i64 0,.int .i64 0,.int .i64 0,.int .i64 0,.int .i64 0,.slice none 0 0]⟩),some [(0,1),(1,1),(2,1),(3,1),(4,1),(5,1),(6,1),(7,1)]=>true
  | _,_=>false
 | _,_=>false
def setAll:List (Nat × Value)->List Value->List Value
 | [],cs=>cs
 | (i,v) :: r,cs=>setAll r (cs.set i v)
section
variable {P:Program} {X:STy} {f:FuncId} {fn:Func}
theorem fill8:∀ (parts:List (Nat × Value)) (cs:List Value),cs.length=8->(∀ x ∈ parts,x.1 < 8/\x.2.cells=#[x.2]) ->
  Instr.fill (fun x=>(#[(0,1),(1,1),(2,1),(3,1),(4,1),(5,1),(6,1),(7,1)]:Array (Nat × Nat))[x]?) cs.toArray parts=some (setAll parts cs).toArray
 | [],cs,_,_=>by simp [Instr.fill,setAll]
 | (i,v) :: r,cs,hl,h=>by
  obtain ⟨h1,h2⟩:=h (i,v) List.mem_cons_self
  have ih:=fill8 r (cs.set i v) (by simpa using hl) (fun x hx=>h x (List.mem_cons_of_mem _ hx))
  have hp:(#[(0,1),(1,1),(2,1),(3,1),(4,1),(5,1),(6,1),(7,1)]:Array (Nat × Nat))[i]?=some (i,1):=by
   have:i=0∨i=1∨i=2∨i=3∨i=4∨i=5∨i=6∨i=7:=by simp only at h1;omega
   rcases this with rfl | rfl | rfl | rfl | rfl | rfl | rfl | rfl <;> rfl
  simp only at h1 h2
  unfold Instr.fill
  rw [hp]
  simp only [h2,setAll]
  have hc:¬ (i+1 > cs.length):=by omega
  simp [hl,show ¬ (8 < i+1) by omega]
  simpa using ih
theorem built8 (h:fOK P X.F=true) (parts:List (Nat × Value)) (hp:∀ x ∈ parts,x.1 < 8/\x.2.cells=#[x.2]):P.built X.F parts=some (setAll parts zeroF).toArray:=by
 unfold fOK at h
 split at h <;> try (simp at h;done)
 rename_i it fields hi hu
 split at h <;> try (simp at h;done)
 rename_i hz hpl
 unfold Program.built
 simp only [hi,hu,hz,hpl]
 exact fill8 parts zeroF rfl hp
def ofOK2 (of_:Int):Ty->Prop
 | .list _ _ _ of=>of_=kindOf of
 | _=>True
theorem fldInts_set (tg:Int) (h:Hd) (ty:Ty):∃ of_,ofOK2 of_ ty/\setAll ((fldInts tg h ty).map fun x=>(x.1,Value.int .i64 x.2)) zeroF=[.int .i64 (kindOf ty),.int .i64 h.from_,.int .i64 h.to,.int .i64 h.null,.int .i64 tg,.int .i64 h.dflt,.int .i64 of_,.slice none 0 0]:=by
 have e:∀ (l:List (Nat × Int)) (of_:Int),ofPart ty=l->(l=[]/\of_=0∨l=[(6,of_)])->setAll ((fldInts tg h ty).map fun x=>(x.1,Value.int .i64 x.2)) zeroF=[.int .i64 (kindOf ty),.int .i64 h.from_,.int .i64 h.to,.int .i64 h.null,.int .i64 tg,.int .i64 h.dflt,.int .i64 of_,.slice none 0 0]:=by
  intro l of_ hl ho
  unfold fldInts
  rw [hl]
  rcases ho with ⟨rfl,rfl⟩ | rfl <;> by_cases e1:h.from_=0 <;> by_cases e2:h.dflt=0 <;> simp [e1,e2,setAll,zeroF]
 cases ty with
 | prim k=>exact ⟨0,trivial,e [] 0 rfl (.inl ⟨rfl,rfl⟩)⟩
 | struct _ _ _ _ _ _=>exact ⟨0,trivial,e [] 0 rfl (.inl ⟨rfl,rfl⟩)⟩
 | list _ _ _ of=>exact ⟨kindOf of,rfl,e [(6,kindOf of)] _ rfl (.inr rfl)⟩
def SubFns (P:Program):Fs->List Nat->Prop
 | .nil,_=>True
 | .cons _ ty r,subs=>if hasSub ty then
   (FnOK P (subs.headD 0)/\∀ w:World,Calls P (subs.headD 0) #[] w fun e w'=>∃ v,e=.returned v/\v.oneCell'=true/\SubV w' (fun k=>w.heap.size<=k/\k < w'.heap.size) ty v/\Below w.heap.size w w')/\SubFns P r subs.tail
  else SubFns P r subs
def flatTy:Ty->Bool
 | .list _ _ _ of=>!isList of
 | _=>true
def flatFs:Fs->Bool
 | .nil=>true
 | .cons _ ty r=>flatTy ty && flatFs r
def FsRows (w:World) (F:Nat->Prop) (tg:Int):Fs->List (List Value)->Prop
 | .nil,rows=>rows=[]
 | .cons h ty r,rows=>∃ of_ sub rest,rows=[.int .i64 (kindOf ty),.int .i64 h.from_,.int .i64 h.to,.int .i64 h.null,.int .i64 tg,.int .i64 h.dflt,.int .i64 of_,sub] :: rest/\sub.oneCell'=true/\ofOK of_ ty/\SubV w F ty sub/\FsRows w F tg r rest
theorem FsRows.mono {w0 w:World} {F F':Nat->Prop} {tg:Int} (hF:∀ k,F k->F' k) (hw:∀ k,F k->w.heap[k]?=w0.heap[k]?):∀ (fs:Fs) (rows:List (List Value)),FsRows w0 F tg fs rows->FsRows w F' tg fs rows
 | .nil,_,h=>h
 | .cons h ty r,rows,hh=>by
  simp only [FsRows] at hh ⊢
  obtain ⟨of_,sub,rest,h1,h2,h3,h4,h5⟩:=hh
  exact ⟨of_,sub,rest,h1,h2,h3,SubV.mono hF hw ty sub h4,FsRows.mono hF hw r rest h5⟩
theorem fsAt_rows {w:World} {F:Nat->Prop} {tg:Int} {b:Nat}:∀ (fs:Fs) (rows:List (List Value)) (o:Nat),FsRows w F tg fs rows->(∀ i v,rows.flatten[i]?=some v->w.cell? ⟨b,o+i,none⟩=some v)->FsAt w F tg fs b o
 | .nil,_,_,_,_=>by simp [FsAt]
 | .cons h ty r,rows,o,hh,hc=>by
  simp only [FsRows] at hh
  obtain ⟨of_,sub,rest,rfl,h2,h3,h4,h5⟩:=hh
  simp only [FsAt]
  refine ⟨⟨of_,sub,?_,h2,h3,h4⟩,fsAt_rows r rest (o+8) h5 (fun i v hv=>?_)⟩
  ·refine rangeV_of [.int .i64 (kindOf ty),.int .i64 h.from_,.int .i64 h.to,.int .i64 h.null,.int .i64 tg,.int .i64 h.dflt,.int .i64 of_,sub] o (fun j v hv=>hc j v ?_)
   rw [List.flatten_cons,List.getElem?_append_left (by have:=(List.getElem?_eq_some_iff.1 hv).1;simpa using this)]
   exact hv
  ·rw [show o+8+i=o+(i+8) by omega]
   refine hc (i+8) v ?_
   rw [List.flatten_cons,List.getElem?_append_right (by simp)]
   simpa using hv
theorem fsRows_len {w:World} {F:Nat->Prop} {tg:Int}:∀ (fs:Fs) (rows:List (List Value)),FsRows w F tg fs rows->rows.length=Fs.len fs/\∀ r ∈ rows,r.length=8
 | .nil,rows,h=>by simp only [FsRows] at h;subst h;simp [Fs.len]
 | .cons h ty r,rows,hh=>by
  simp only [FsRows] at hh
  obtain ⟨of_,sub,rest,rfl,h2,h3,h4,h5⟩:=hh
  obtain ⟨q1,q2⟩:=fsRows_len r rest h5
  refine ⟨by simp [Fs.len,q1],fun x hx=>?_⟩
  rcases List.mem_cons.1 hx with rfl | hx
  ·rfl
  ·exact q2 x hx
theorem ofOK_of {of_:Int} {ty:Ty} (hfl:flatTy ty=true) (h:ofOK2 of_ ty):ofOK of_ ty:=by
 cases ty with
 | list _ _ _ of =>
  simp only [flatTy,Bool.not_eq_true'] at hfl
  exact ⟨h,hfl⟩
 | prim k=>exact trivial
 | struct _ _ _ _ _ _=>exact trivial
theorem fldInts_lt (tg:Int) (h:Hd) (ty:Ty):∀ x ∈ fldInts tg h ty,x.1 < 7:=by
 intro x hx
 have a1:∀ (c:Prop) [Decidable c] (k:Nat) (v:Int),x ∈ (if c then [] else [(k,v)])->x.1=k:=by
  intro c _ k v hx
  split at hx
  ·simp at hx
  ·simp at hx;rw [hx]
 have a2:x ∈ ofPart ty->x.1=6:=by
  intro hx
  cases ty <;> simp [ofPart] at hx
  rw [hx]
 simp only [fldInts,List.mem_append,List.mem_cons,List.not_mem_nil,or_false] at hx
 rcases hx with (((hx | hx) | (hx | hx | hx)) | hx) | hx
 ·rw [hx];simp
 ·have:=a1 _ _ _ hx;omega
 ·rw [hx];simp
 ·rw [hx];simp
 ·rw [hx];simp
 ·have:=a1 _ _ _ hx;omega
 ·have:=a2 hx;omega
theorem setAll_append:∀ (l l':List (Nat × Value)) (cs:List Value),setAll (l ++ l') cs=setAll l' (setAll l cs)
 | [],_,_=>rfl
 | (i,v) :: l,l',cs=>by simp only [List.cons_append,setAll,setAll_append l l']
theorem bEnd_ge:∀ (fs:Fs) (t:Nat),t<=bEnd fs t
 | .nil,t=>Nat.le_refl _
 | .cons _ ty r,t=>by
  simp only [bEnd]
  split
  ·have:=bEnd_ge r (t+2);omega
  ·have:=bEnd_ge r (t+1);omega
theorem subV_none {w:World} {F:Nat->Prop}:∀ (ty:Ty) (v:Value),hasSub ty=false->SubV w F ty v
 | .prim _,_,_=>by simp [SubV]
 | .struct _ _ _ _ _ _,_,h=>by simp [hasSub] at h
 | .list _ _ _ of,v,h=>by
  simp only [hasSub] at h
  simp only [SubV]
  exact subV_none of v h
theorem cells_one {v:Value} (h:v.oneCell'=true):v.cells=#[v]:=cells_oneCell h
theorem bOps_ok (hX:fOK P X.F=true) (tg:Int):∀ (fs:Fs) (subs:List Nat) (t:Nat) (all r:List SOp) (K:Act->World->Prop) (a:Act) (w:World),flatFs fs=true->SubFns P fs subs->bEnd fs t<=a.tmps.size ->
  (∀ (a':Act) (w':World) (rows:List (List Value)),a'.tmps.size=a.tmps.size->a'.defers=a.defers->(∀ s,s < t->getT a' s=getT a s)->FsRows w' (fun k=>w.heap.size<=k/\k < w'.heap.size) tg fs rows->((bSlots fs t).map (getT a'))=rows.map (fun r=>Value.agg r.toArray)->Below w.heap.size w w'->opsw P all r K a' w') ->
  opsw P all (bOps X.F tg fs subs t ++ r) K a w
 | .nil,subs,t,all,r,K,a,w,_,_,_,h=>h a w [] rfl rfl (fun _ _=>rfl) rfl rfl (Below.refl _ _)
 | .cons hd ty rs,subs,t,all,r,K,a,w,hfl,hsf,hsz,h=>by
  simp only [flatFs,Bool.and_eq_true] at hfl
  obtain ⟨of_,hof,hset⟩:=fldInts_set tg hd ty
  have hints:∀ x ∈ (fldInts tg hd ty).map (fun x=>(x.1,Value.int .i64 x.2)),x.1 < 8/\x.2.cells=#[x.2]:=by
   intro x hx
   obtain ⟨y,hy,rfl⟩:=List.mem_map.1 hx
   have:=fldInts_lt tg hd ty y hy
   exact ⟨by simp only;omega,rfl⟩
  cases hs:hasSub ty
  ·simp only [SubFns,hs,Bool.false_eq_true,if_false] at hsf
   simp only [bEnd,hs,Bool.false_eq_true,if_false] at hsz
   have hge:=bEnd_ge rs (t+1)
   simp only [bOps,bSlots,hs,Bool.false_eq_true,if_false,List.cons_append] at h ⊢
   refine oNo rfl (opw_build (cs:=#[.int .i64 (kindOf ty),.int .i64 hd.from_,.int .i64 hd.to,.int .i64 hd.null,.int .i64 tg,.int .i64 hd.dflt,.int .i64 of_,.slice none 0 0]) ?_ ?_)
   ·have:=built8 hX _ hints
    rw [hset] at this
    rw [<- this]
    simp [fldParts]
    rfl
   refine bOps_ok hX tg rs subs (t+1) all r K _ w hfl.2 hsf (by rw [sPu];exact hsz) ?_
   intro a' w' rows q qd qs qr qm qb
   refine h a' w' ([.int .i64 (kindOf ty),.int .i64 hd.from_,.int .i64 hd.to,.int .i64 hd.null,.int .i64 tg,.int .i64 hd.dflt,.int .i64 of_,.slice none 0 0] :: rows) (by rw [q,sPu]) (by rw [qd,dPu]) ?_ ?_ ?_ qb
   ·intro s hs
    rw [qs s (by omega),gTn (by omega)]
   ·simp only [FsRows]
    exact ⟨of_,_,rows,rfl,rfl,ofOK_of hfl.1 hof,subV_none ty _ hs,qr⟩
   ·simp only [List.map_cons]
    rw [qm,qs t (by omega),gTp (by omega)]
  ·simp only [SubFns,hs,if_true] at hsf
   obtain ⟨⟨oF,cF⟩,hsf⟩:=hsf
   simp only [bEnd,hs,if_true] at hsz
   have hge:=bEnd_ge rs (t+2)
   simp only [bOps,bSlots,hs,if_true,List.cons_append] at h ⊢
   refine ops_cal oF (R:=fun e w'=>∃ v,e=.returned v/\v.oneCell'=true/\SubV w' (fun k=>w.heap.size<=k/\k < w'.heap.size) ty v/\Below w.heap.size w w') (cF w) ?_
   rintro e w1 ⟨v,rfl,hv1,hsv,hb1⟩
   refine ⟨v,rfl,?_⟩
   have hs1:w.heap.size<=w1.heap.size:=hb1.size
   refine oNo rfl (opw_build (cs:=#[.int .i64 (kindOf ty),.int .i64 hd.from_,.int .i64 hd.to,.int .i64 hd.null,.int .i64 tg,.int .i64 hd.dflt,.int .i64 of_,v]) ?_ ?_)
   ·have:=built8 hX ((fldInts tg hd ty).map (fun x=>(x.1,Value.int .i64 x.2)) ++ [(7,v)]) (by
     intro x hx
     rcases List.mem_append.1 hx with hx | hx
     ·exact hints x hx
     ·simp at hx
      subst hx
      exact ⟨by simp,cells_one hv1⟩)
    rw [setAll_append,hset] at this
    simp only [setAll,List.set_cons_succ,List.set_cons_zero] at this
    rw [<- this]
    have ht:getT (a.put (some t) v) t=v:=gTp (by omega)
    simp [fldParts,eTm,ht]
    rfl
   refine bOps_ok hX tg rs subs.tail (t+2) all r K _ w1 hfl.2 hsf (by rw [sPu,sPu];exact hsz) ?_
   intro a' w' rows q qd qs qr qm qb
   have hs2:w1.heap.size<=w'.heap.size:=qb.size
   refine h a' w' ([.int .i64 (kindOf ty),.int .i64 hd.from_,.int .i64 hd.to,.int .i64 hd.null,.int .i64 tg,.int .i64 hd.dflt,.int .i64 of_,v] :: rows) (by rw [q,sPu,sPu]) (by rw [qd,dPu,dPu]) ?_ ?_ ?_ (hb1.trans (qb.mono hs1))
   ·intro s hs
    rw [qs s (by omega),gTn (by omega),gTn (by omega)]
   ·simp only [FsRows]
    refine ⟨of_,v,rows,rfl,hv1,ofOK_of hfl.1 hof,SubV.mono (fun k hk=>?_) (fun k hk=>qb.block k hk.2) ty v hsv,FsRows.mono (w0:=w') (fun k hk=>?_) (fun _ _=>rfl) rs rows qr⟩
    ·omega
    ·omega
   ·simp only [List.map_cons]
    rw [qm,qs (t+1) (by omega),gTp (by rw [sPu];omega)]
theorem opw_buildFs (hX:fOK P X.F=true) (hS:P.underlying X.Fs=some (.slice X.F)) (hF8:∃ i,P.info? X.F=some i/\i.size=8) {a:Act} {w:World} {K:Act->World->Prop} {d:Option Tmp} {g:Option (Nat × Bool)} {n:Nat} {slots:List Nat} {rows:List (List Value)} (hn:n=rows.length) (hn0:0 < n) (hn1:n<=1000) (hm:slots.map (getT a)=rows.map (fun r=>Value.agg r.toArray)) (hr:∀ r ∈ rows,r.length=8)
  (h:K (a.put d (.slice (some ⟨w.heap.size,0,none⟩) n n)) (w.alloc (.cells rows.flatten.toArray X.F))):opw P ⟨d,.buildSlice X.Fs n (((slots.zipIdx 0).map fun x=>(x.2,Operand.tmp x.1)).toArray),g⟩ a w K:=by
 obtain ⟨i,hi,hs8⟩:=hF8
 have hz:∃ z,i.zero=some z:=by
  unfold fOK at hX
  rw [hi] at hX
  split at hX <;> try (simp at hX;done)
  rename_i it fields h1 h2
  split at hX <;> try (simp at hX;done)
  rename_i hz _
  cases h1
  exact ⟨_,hz⟩
 obtain ⟨z,hz⟩:=hz
 have hparts:((((slots.zipIdx 0).map fun x=>(x.2,Operand.tmp x.1)).toArray).map fun x=>(x.1,a.eval x.2)).toList=(((rows.map fun r=>Value.agg r.toArray).zipIdx 0).map fun x=>(x.2,x.1)):=by
  rw [<- hm,List.zipIdx_map,List.map_map]
  simp [eTm,Function.comp_def]
 have hfill:=Go.Great.fill_whole (s:=8) (by decide) (rows.map fun r=>Value.agg r.toArray) ((Array.range (n * i.size)).map (z.cells[· % z.cells.size]!)) (by
  intro v hv
  obtain ⟨r,hr',rfl⟩:=List.mem_map.1 hv
  simpa [Value.cells] using hr r hr') (by rw [hs8];simp [hn])
 have hfl:(rows.map fun r=>Value.agg r.toArray).flatMap (fun v=>v.cells.toList)=rows.flatten:=by
  rw [List.flatMap_map]
  simp [Value.cells,List.flatMap_def]
 rw [hfl] at hfill
 refine oVa (v:=.slice (some ⟨w.heap.size,0,none⟩) n n) (w':=w.alloc (.cells rows.flatten.toArray X.F)) (by simp) (fun p hp=>?_) h
 have hrun:=run_buildSlice (P:=P) w X.Fs X.F n ((((slots.zipIdx 0).map fun x=>(x.2,Operand.tmp x.1)).toArray).map fun x=>(x.1,a.eval x.2)) rows.flatten.toArray i z hS hi hz (by rw [hs8];omega) (by rw [hs8];omega) (by rw [hparts,hs8] at *;exact hfill)
 simp only [execOp,hp]
 simp only [Sem.run_bind]
 rw [hrun]
 rfl
end
section
variable {P:Program} {X:STy} {f:FuncId} {fn:Func}
theorem bSlots_lt:∀ (fs:Fs) (t:Nat),∀ s ∈ bSlots fs t,s < bEnd fs t
 | .nil,_,s,h=>by simp [bSlots] at h
 | .cons _ ty r,t,s,h=>by
  simp only [bSlots,bEnd] at h ⊢
  cases hs:hasSub ty
  ·simp only [hs,Bool.false_eq_true,if_false] at h ⊢
   rcases List.mem_cons.1 h with rfl | h
   ·have:=bEnd_ge r (s+1);omega
   ·exact bSlots_lt r (t+1) s h
  ·simp only [hs,if_true] at h ⊢
   rcases List.mem_cons.1 h with rfl | h
   ·have:=bEnd_ge r (t+2);omega
   ·exact bSlots_lt r (t+2) s h
theorem bSlice_ok (hX:stOK P X=true) (hF:fOK P X.F=true) (hS:P.underlying X.Fs=some (.slice X.F)) (fs kn:Fs) (subs subsK:List Nat) (hfl:flatFs fs=true) (hflk:flatFs kn=true) (hsf:SubFns P fs subs) (hsfk:SubFns P kn subsK) (hlen:0 < Fs.len fs/\Fs.len fs+Fs.len kn<=1000) {all r:List SOp} {K:Act->World->Prop} {a:Act} {w:World} (hsz:bEnd2 fs kn < a.tmps.size)
  (h:∀ (a':Act) (w':World) (v:Value),a'.tmps.size=a.tmps.size->a'.defers=a.defers->getT a' 0=getT a 0->getT a' (bEnd2 fs kn)=v->(∃ b l c,v=.slice b l c)->FsV w' (fun k=>w.heap.size<=k/\k < w'.heap.size) fs kn v->Below w.heap.size w w'->opsw P all r K a' w') :
  opsw P all (bOps X.F (-1) fs subs 1 ++ (bOps X.F 0 kn subsK (bEnd fs 1) ++ bSlice X.Fs fs kn :: r)) K a w:=by
 have hst:=st_facts hX
 have hF8:∃ i,P.info? X.F=some i/\i.size=8:=by
  obtain ⟨i,hi,hs,_⟩:=agg_of (w:=w) (aggB_of hst.2.2.1.2.1)
  exact ⟨i,hi,hs⟩
 have h1:=bEnd_ge fs 1
 have h2:=bEnd_ge kn (bEnd fs 1)
 have he2:bEnd2 fs kn=bEnd kn (bEnd fs 1):=rfl
 refine bOps_ok hF (-1) fs subs 1 all _ K a w hfl hsf (by omega) ?_
 intro a1 w1 rows1 q1 qd1 qs1 qr1 qm1 qb1
 have hsw1:w.heap.size<=w1.heap.size:=qb1.size
 refine bOps_ok hF 0 kn subsK (bEnd fs 1) all _ K a1 w1 hflk hsfk (by omega) ?_
 intro a' w' rows2 q qd qs qr qm qb
 have hsw2:w1.heap.size<=w'.heap.size:=qb.size
 obtain ⟨hrl1,hr81⟩:=fsRows_len fs rows1 qr1
 obtain ⟨hrl2,hr82⟩:=fsRows_len kn rows2 qr
 have qm1':(bSlots fs 1).map (getT a')=rows1.map (fun r=>Value.agg r.toArray):=by
  rw [<- qm1]
  refine List.map_congr_left fun s hs=>qs s (bSlots_lt fs 1 s hs)
 refine oNo rfl (opw_buildFs (rows:=rows1 ++ rows2) hF hS hF8 (by rw [List.length_append];omega) (by omega) (by omega) (by rw [List.map_append,List.map_append,qm1',qm]) (fun r hr=>(List.mem_append.1 hr).elim (hr81 r) (hr82 r)) ?_)
 have hnew:=heap_alloc_new w' (.cells (rows1 ++ rows2).flatten.toArray X.F)
 have hbn:Below w'.heap.size w' (w'.alloc (.cells (rows1 ++ rows2).flatten.toArray X.F)):=(Below.refl _ _).alloc (Nat.le_refl _) _
 have hsn:(w'.alloc (.cells (rows1 ++ rows2).flatten.toArray X.F)).heap.size=w'.heap.size+1:=by simp
 have hsw:w.heap.size<=w'.heap.size:=by omega
 generalize w'.alloc (.cells (rows1 ++ rows2).flatten.toArray X.F)=w2 at *
 have hfl1:rows1.flatten.length=Fs.len fs * 8:=by
  rw [<- hrl1]
  clear hrl1 qr1 qm1 qm1' hnew
  induction rows1 with
  | nil=>rfl
  | cons r rs ih =>
   rw [List.flatten_cons,List.length_append,ih (fun x hx=>hr81 x (List.mem_cons_of_mem _ hx)),hr81 r List.mem_cons_self,List.length_cons]
   omega
 refine h _ w2 (.slice (some ⟨w'.heap.size,0,none⟩) (Fs.len fs+Fs.len kn) (Fs.len fs+Fs.len kn)) (by rw [sPu,q,q1]) (by rw [dPu,qd,qd1]) (by rw [gTn (by omega),qs 0 (by omega),qs1 0 (by omega)]) (by rw [gTp (by omega)]) ⟨_,_,_,rfl⟩ ⟨_,_,rfl,.inr ⟨w'.heap.size,0,rfl,⟨by omega,by omega⟩,?_,?_⟩⟩ ((qb1.trans (qb.mono hsw1)).trans (hbn.mono hsw))
 ·refine fsAt_rows fs rows1 0 (FsRows.mono (fun k hk=>⟨hk.1,by omega⟩) (fun k hk=>(hbn.block k (by omega)).trans (qb.block k hk.2)) fs rows1 qr1) (fun i v hv=>?_)
  rw [cell_of_row _ _ _ _ _ _ hnew,List.flatten_append]
  have hi:=(List.getElem?_eq_some_iff.1 hv).1
  have:(rows1.flatten ++ rows2.flatten)[0+i]?=some v:=by rw [Nat.zero_add,List.getElem?_append_left hi];exact hv
  simpa using this
 ·refine fsAt_rows kn rows2 (0+Fs.len fs * 8) (FsRows.mono (fun k hk=>⟨by omega,by omega⟩) (fun k hk=>hbn.block k hk.2) kn rows2 qr) (fun i v hv=>?_)
  rw [cell_of_row _ _ _ _ _ _ hnew,List.flatten_append]
  have:(rows1.flatten ++ rows2.flatten)[0+Fs.len fs * 8+i]?=some v:=by
   rw [List.getElem?_append_right (by omega),hfl1,show 0+Fs.len fs * 8+i - Fs.len fs * 8=i by omega]
   exact hv
  simpa using this
theorem bSub_ok (hX:stOK P X=true) (hF:fOK P X.F=true) (hS:P.underlying X.Fs=some (.slice X.F)) (fs kn:Fs) (subs subsK:List Nat) (hfl:flatFs fs=true) (hflk:flatFs kn=true) (hsf:SubFns P fs subs) (hsfk:SubFns P kn subsK) (hlen:0 < Fs.len fs/\Fs.len fs+Fs.len kn<=1000)
  (hf:P.funcs[f]?=some fn) (hb:fn.body.map strip=some (sc_bSub X.F X.Fs fs kn subs subsK)) (hn:fn.ntmps=bEnd2 fs kn+1) (hr:fn.results=#[.tmp 0]) (w:World) :
  Calls P f #[] w fun e w'=>∃ v,e=.returned v/\v.oneCell'=true/\FsV w' (fun k=>w.heap.size<=k/\k < w'.heap.size) fs kn v/\Below w.heap.size w w':=by
 refine fCa hf hb hn (by simp) fun a0 hs hd ha=>?_
 refine wSq (wRg (oNo rfl (opw_assign (oNi ?_))))
 refine wSq (wRg ?_)
 refine bSlice_ok hX hF hS fs kn subs subsK hfl hflk hsf hsfk hlen (by rw [sPu,hs];omega) ?_
 intro a' w' v q qd q0 qe hv qf qb
 refine ops_asg (oNi (wRt (ret_tmp hr (by rw [dPu,qd,dPu,hd]) ⟨v,?_,?_,qf,qb⟩)))
 ·rw [gTp (by rw [q,sPu,hs];omega),qe]
 ·obtain ⟨b,l,c,rfl⟩:=hv;rfl
theorem bTop_ok (hX:stOK P X=true) (hF:fOK P X.F=true) (hS:P.underlying X.Fs=some (.slice X.F)) (hM:arrB P X.M 2=true) (hMb:∀ (n:Int) (b:Option Addr) (l c:Nat),P.built X.M [(1,.int .i64 n),(0,.slice b l c)]=some #[.slice b l c,.int .i64 n])
  (fs kn:Fs) (flex:Int) (subs subsK:List Nat) (hfl:flatFs fs=true) (hflk:flatFs kn=true) (hsf:SubFns P fs subs) (hsfk:SubFns P kn subsK) (hlen:0 < Fs.len fs/\Fs.len fs+Fs.len kn<=1000)
  (hf:P.funcs[f]?=some fn) (hb:fn.body.map strip=some (sc_bTop X.F X.Fs X.M fs kn flex subs subsK)) (hn:fn.ntmps=bEnd2 fs kn+2) (hr:fn.results=#[.cell 0 X.M]) (w:World) :
  Calls P f #[] w fun e w'=>∃ v,e=.returned (msgV v flex)/\v.oneCell'=true/\FsV w' (fun k=>w.heap.size<=k/\k < w'.heap.size) fs kn v/\Below w.heap.size w w':=by
 have hst:=st_facts hX
 obtain ⟨hM1,iM,zM,hiM,hzM,hzMs⟩:=arr_of hM
 refine fCa hf hb hn (by simp) fun a0 hs hd ha=>?_
 refine wSq (wRg (oNo rfl (opw_alloc hiM hzM (oNi ?_))))
 have hnew:=heap_alloc_new w (.cells zM.cells X.M)
 have hbn:Below w.heap.size w (w.alloc (.cells zM.cells X.M)):=(Below.refl _ _).alloc (Nat.le_refl _) _
 have hsn:(w.alloc (.cells zM.cells X.M)).heap.size=w.heap.size+1:=by simp
 generalize w.alloc (.cells zM.cells X.M)=w1 at *
 refine wSq (wRg ?_)
 have h1:=bEnd_ge fs 1
 have h2:=bEnd_ge kn (bEnd fs 1)
 have hge:bEnd2 fs kn=bEnd kn (bEnd fs 1):=rfl
 refine bSlice_ok hX hF hS fs kn subs subsK hfl hflk hsf hsfk hlen (by rw [sPu,hs];omega) ?_
 intro a' w' v q qd q0 qe hv qf qb
 rw [gTp (by omega)] at q0
 rw [sPu,hs] at q
 rw [dPu,hd] at qd
 obtain ⟨b,l,c,rfl⟩:=hv
 have hsw:w1.heap.size<=w'.heap.size:=qb.size
 refine oNo rfl (opw_build (cs:=#[.slice b l c,.int .i64 flex]) ?_ ?_)
 ·rw [<- hMb]
  congr 1
  simp [eCo,eTm,qe]
 have hn1:w'.heap[w.heap.size]?=_:=(qb.block w.heap.size (by omega)).trans hnew
 refine oNo rfl (opw_store_agg (b:=w.heap.size) (cs:=[.slice b l c,.int .i64 flex]) hM1 ?_ ?_ hn1 (by simp [hzMs]) (by simp [Value.oneCell']) (oNi (wRt ?_)))
 ·rw [eTm,gTn (by omega)];exact q0
 ·rw [eTm,gTp (by omega)]
 have hnf:=setRow_heap w' w.heap.size _ #[Value.slice b l c,.int .i64 flex] _ _ hn1
 refine ret_cell hr (by simp [hst]) (b:=w.heap.size) ?_ hnf (by rw [pNo,dPu,qd]) ⟨.slice b l c,rfl,rfl,?_,below_setRow (hbn.trans (qb.mono (by omega))) (Nat.le_refl _) _⟩
 ·rw [pNo,gTn (by omega)];exact q0
 ·exact qf.mono (fun k hk=>⟨by omega,by simp;omega⟩) (fun k hk=>setRow_other _ _ _ _ (by omega))
end
end Go.Proofs.YtdnpafdgglpagaaGreatDoor.K
namespace Go.Proofs.YtdnpafdgglpagaaGreatDoor.K
open Go Go.RowKit Go.Proofs.YtdnpafdgglpagaaGreatDoor.T
attribute [local simp] eTm eCo pNo gTp gTn qv qcall vop iop
set_option linter.unusedVariables false
set_option linter.unusedSimpArgs false
set_option maxHeartbeats 4000000
def sc_LawAgain (T0 T1 T2 F0 F1 F2 F3 F4 F5 F6:Nat):SC:=.seq (.reg [⟨some 3,.box T0 (.tmp 1),none⟩,⟨some 4,.assign (.const (.bool false)),none⟩]) (.seq (.seq (.reg [ld 9 T0 3,cal 10 F0 [9],⟨some 11,.unOp .not T1 (.tmp 10),none⟩]) (.cond (.tmp 11) (.seq (.reg [⟨some 4,.assign (.const (.bool true)),none⟩]) (.ret)) (.skip))) (.seq (.reg [cal 12 F1 [],asg 5 12]) (.seq (.seq (.reg [mv 13 5,⟨some 14,.binOp .lss T2 (.tmp 13) (.const (.int .i64 0)) T2,none⟩]) (.cond (.tmp 14) (.seq (.reg [⟨some 4,.assign (.const (.bool false)),none⟩]) (.ret)) (.skip))) (.seq (.dreg [cal 15 F2 [],mv 16 0,mv 17 5,cal 18 F3 [16,17],ld 19 T0 3,cal 20 F4 [15,18,19],asg 6 20] [[],[],[],[1,2,0],[],[0,3,4,3],[5,5,0,1,2,3,4,5]]) (.seq (.reg [mv 22 0,mv 23 5,cal 24 F3 [22,23],mv 25 6,cal 26 F5 [24,25],mv 21 26,⟨some 27,.extract (.tmp 21) 0,none⟩,⟨some 28,.extract (.tmp 21) 1,none⟩,asg 7 27,asg 8 28]) (.seq (.reg [mv 29 8,mv 30 29,⟨some 31,.move (.tmp 7),some (1,true)⟩,⟨some 32,.move (.tmp 6),some (1,true)⟩,⟨some 33,.call ⟨.value (.func F6),#[(.tmp 31),(.tmp 32)],#[]⟩,some (1,true)⟩,⟨some 34,.pick (.tmp 30) (.tmp 33) (.const (.bool false)),none⟩,asg 4 34]) (.ret)))))))
section
variable {G:List (Nat × Bytes)->Prop} {P:Program} {X:STy} {f:FuncId} {fn:Func}
theorem lawAgain_ok (hX:stOK P X=true) (hm:P.follows .mixedOrders=true) {fFit fMax fSp fVer fWr fAg fSame T1:FuncId} {gb m:Nat} {Gl:World->Prop} (hm16:m < 32768) (fs kn:Fs) (mflex:Int) (flexO:Option Int)
  (hfl:∀ v:Nat,flexAt flexO v=(decide (0<=mflex) && decide (mflex<=(v:Int))))
  (oFit:FnOK P fFit) (cFit:∀ (w:World) (t:Tree) (tv:Value),TV G w (· < w.heap.size) t tv->Calls P fFit #[tv] w (Asks w))
  (oMax:FnOK P fMax) (cMax:∀ w:World,Calls P fMax #[] w fun e w'=>e=.returned (.int .i64 (m:Int))/\Below w.heap.size w w')
  (oSp:FnOK P fSp) (cSp:∀ w:World,Calls P fSp #[] w fun e w'=>∃ v,e=.returned (msgV v mflex)/\v.oneCell'=true/\FsV w' (fun k=>w.heap.size<=k/\k < w'.heap.size) fs kn v/\Below w.heap.size w w')
  (oVer:FnOK P fVer) (cVer:∀ (w:World) (n m:Nat),n < 256->m < 65536->Calls P fVer #[.int .u8 (n:Int),.int .i64 (m:Int)] w fun e w'=>e=.returned (.int .i64 ((n % (m+1):Nat):Int))/\w=w')
  (oWr:FnOK P fWr) (cWr:∀ (w:World) (fv:Value) (mflex ver:Int) (t:Tree) (tv:Value),0<=ver->FsV w (· < w.heap.size) fs kn fv->TV G w (· < w.heap.size) t tv->(wFs ver (decide (0<=mflex) && decide (mflex<=ver)) fs t.l ++ wTagsB (decide (0<=mflex) && decide (mflex<=ver)) (wKn ver (decide (0<=mflex) && decide (mflex<=ver)) kn (t.l.drop (Fs.len fs))) t.u).length<=lim ->
   Calls P fWr #[msgV fv mflex,.int .i64 ver,tv] w (RetOwn X.U8 w (wFs ver (decide (0<=mflex) && decide (mflex<=ver)) fs t.l ++ wTagsB (decide (0<=mflex) && decide (mflex<=ver)) (wKn ver (decide (0<=mflex) && decide (mflex<=ver)) kn (t.l.drop (Fs.len fs))) t.u)))
  (cAg:AgC P X.U8 flexO fs kn gb m Gl fAg)
  (oSame:FnOK P fSame) (cSame:∀ (w:World) (xs:Bytes) (b1 b2:Option Addr) (c1 c2:Nat),BytesAt w (fun k=>k < w.heap.size) b1 xs->BytesAt w (fun k=>k < w.heap.size) b2 xs->xs.length<=lim->Calls P fSame #[.slice b1 xs.length c1,.slice b2 xs.length c2] w fun e w'=>e=.returned (.bool true)/\Below w.heap.size w w')
  (hf:P.funcs[f]?=some fn) (hb:fn.body.map strip=some (sc_LawAgain X.T T1 X.I fFit fMax fSp fVer fWr fAg fSame)) (hn:fn.ntmps=35) (hr:fn.results=#[.tmp 4]) (w:World) (n:Nat) (hn8:n < 256) (t:Tree) (tv:Value) (ht:TV G w (· < w.heap.size) t tv) (hgb:gb < w.heap.size) (hgl:∀ w',Below w.heap.size w w'->Gl w')
  (hok:∀ v:Nat,v<=m->okFsR v (flexAt flexO v) fs=true/\okKn v (flexAt flexO v) kn=true) (hk:∀ v:Nat,v<=m->KFs v fs t.l/\KKn v kn (t.l.drop (Fs.len fs))) (hu:∀ x ∈ t.u,x.1 < 4294967296) (hlim:∀ v:Nat,v<=m->(wMsg v (flexAt flexO v) fs kn t.l t.u).length<=lim) :
  Calls P f #[.int .u8 (n:Int),tv] w fun e w'=>e=.returned (.bool true)/\Below w.heap.size w w':=by
 have hst:=st_facts hX
 obtain ⟨vs,hvs,hvs5⟩:∃ vs:List Value,tv=.agg vs.toArray/\vs.length=5:=by
  cases ht
  exact ⟨[_,_,_,_,_],rfl,rfl⟩
 refine fCa hf hb hn (by simp) fun a0 hs hd ha=>?_
 have k0:=ha 0 _ rfl
 have k1:=ha 1 _ rfl
 simp only [List.getElem_toArray,List.getElem_cons_zero,List.getElem_cons_succ] at k0 k1
 refine wSq (wRg (oNo rfl (opw_box (v:=tv) k1 ?_)))
 have hnew:=heap_alloc_new w (.cells tv.cells X.T)
 have hb1:Below w.heap.size w (w.alloc (.cells tv.cells X.T)):=(Below.refl _ _).alloc (Nat.le_refl _) _
 have hs1:(w.alloc (.cells tv.cells X.T)).heap.size=w.heap.size+1:=by simp
 have hbox:rangeV (w.alloc (.cells tv.cells X.T)) w.heap.size 0 5=some vs:=by
  have:=rangeV_of (w:=w.alloc (.cells tv.cells X.T)) (b:=w.heap.size) vs 0 (fun j v hj=>by
   rw [Nat.zero_add,cell_of_row _ _ _ _ _ _ hnew,hvs]
   simpa [Value.cells] using hj)
  rwa [hvs5] at this
 generalize w.alloc (.cells tv.cells X.T)=w1 at hb1 hs1 hbox ⊢
 have ht1:TV G w1 (· < w1.heap.size) t tv:=ht.down hb1 (by omega)
 repeat (apply ops_1;(focus (simp (disch:=(try simp only [sPu]);omega) ;try rfl)))
 refine oNi (wSq (wSq (wRg ?_)))
 iterate 1 (apply ops_1;(focus (simp (disch:=(try simp only [sPu]);omega) [hst,hbox];try rfl)))
 refine ops_call oFit (cFit w1 t tv ht1) (by rw [hvs];simp (disch:=(try simp only [sPu]);omega)) ?_
 rintro e w2 ⟨⟨bo,rfl⟩,hb2⟩
 refine ⟨_,rfl,?_⟩
 have hbw2:Below w.heap.size w w2:=hb1.trans ⟨hb2.os,hb2.tape,hb2.output,hb2.size,fun k hk=>hb2.block k (by omega)⟩
 repeat (apply ops_1;(focus (simp (disch:=(try simp only [sPu]);omega) ;try rfl)))
 refine oNi (wCd (t:=!bo) (by simp (disch:=(try simp only [sPu]);omega)) ?_)
 cases bo
 ·rw [if_pos (by rfl)]
  refine wSq (wRg ?_)
  repeat (apply ops_1;(focus (simp (disch:=(try simp only [sPu]);omega) ;try rfl)))
  refine oNi (wRt ?_)
  try simp only [Exit.then]
  exact ret_tmp hr (by simp [dPu,hd]) ⟨by simp (disch:=(try simp only [sPu]);omega),hbw2⟩
 rw [if_neg (by simp)]
 refine wSk ?_
 simp only [Exit.then]
 have hs2:=hb2.size
 refine wSq (wRg (ops_call oMax (cMax w2) (by simp (disch:=(try simp only [sPu]);omega)) ?_))
 rintro e w3 ⟨rfl,hb3⟩
 refine ⟨_,rfl,?_⟩
 repeat (apply ops_1;(focus (simp (disch:=(try simp only [sPu]);omega) ;try rfl)))
 refine oNi (wSq (wSq (wRg ?_)))
 have em:decide ((m:Int) < 0)=false:=by simp
 repeat (apply ops_1;(focus (simp (disch:=(try simp only [sPu]);omega) [em];try rfl)))
 refine oNi (wCd (t:=false) (by simp (disch:=(try simp only [sPu]);omega)) ?_)
 rw [if_neg (by simp)]
 refine wSk ?_
 simp only [Exit.then]
 have hs3:=hb3.size
 have hbw3:Below w.heap.size w w3:=hbw2.trans ⟨hb3.os,hb3.tape,hb3.output,hb3.size,fun k hk=>hb3.block k (by omega)⟩
 have hb13:Below w1.heap.size w1 w3:=hb2.trans ⟨hb3.os,hb3.tape,hb3.output,hb3.size,fun k hk=>hb3.block k (by omega)⟩
 have hbox3:rangeV w3.drew w.heap.size 0 5=some vs:=by
  have:rangeV w3 w.heap.size 0 5=some vs:=by rw [rangeV_mono (hb13.block w.heap.size (by omega))];exact hbox
  exact this
 have hbx3:w.heap.size < w3.heap.size:=by omega
 refine wSq (wDr hm (Below w3.heap.size w3.drew) [(1,true),(2,true),(4,true),(0,false),(3,false),(5,false),(6,true)] (by rfl) (by rfl) (by decide) (Below.refl _ _) ?_)
 iterate 3 (apply dr_1;(focus rfl);(focus (simp (disch:=(try simp only [sPu]);omega) [hst,k0,hbox3,hbx3];try rfl)))
 refine dreg_call (argsV:=#[]) rfl oSp (cSp w3.drew) (by simp (disch:=(try simp only [sPu]);omega)) ?_
 rintro e w4 ⟨fv,rfl,hfv1,hfv,hb4⟩
 refine ⟨_,rfl,hb4,?_⟩
 refine dreg_call (argsV:=#[.int .u8 (n:Int),.int .i64 (m:Int)]) rfl oVer (cVer w4 n m hn8 (by omega)) (by simp (disch:=(try simp only [sPu]);omega) [k0]) ?_
 rintro e w5 ⟨rfl,rfl⟩
 refine ⟨_,rfl,hb4,?_⟩
 obtain ⟨v,hv⟩:∃ v,v=n % (m+1):=⟨_,rfl⟩
 rw [<- hv]
 have hvm:v<=m:=by rw [hv];exact Nat.lt_succ_iff.1 (Nat.mod_lt _ (by omega))
 have hw35:w3.drew.heap.size=w3.heap.size:=rfl
 have hs4:=hb4.size
 have hbw5:Below w.heap.size w w4:=hbw3.trans ⟨hb4.os,hb4.tape,hb4.output,hb4.size,fun k hk=>hb4.block k (by omega)⟩
 have ht5:TV G w4 (· < w4.heap.size) t tv:=ht.down hbw5 (by omega)
 have hfv5:FsV w4 (· < w4.heap.size) fs kn fv:=FsV.mono (fun k hk=>hk.2) (fun _ _=>rfl) hfv
 have hfv':=hfl v
 obtain ⟨fl,hfl'⟩:∃ fl,fl=flexAt flexO v:=⟨_,rfl⟩
 have hlimv:=hlim v hvm
 refine dreg_call (argsV:=#[msgV fv mflex,.int .i64 (v:Int),tv]) rfl oWr (cWr w4 fv mflex v t tv (by omega) hfv5 ht5 (by rw [<- hfv'];exact hlimv)) (by rw [hvs];simp (disch:=(try simp only [sPu]);omega)) ?_
 rintro e w6 ⟨dv,rfl,hown,hb6⟩
 rw [<- hfv'] at hown
 refine ⟨_,rfl,hb4.trans ⟨hb6.os,hb6.tape,hb6.output,hb6.size,fun k hk=>hb6.block k (by omega)⟩,?_⟩
 repeat (apply dr_1;(focus rfl);(focus (simp (disch:=(try simp only [sPu]);omega) ;try rfl)))
 refine dreg_nil ?_
 simp only [Exit.then]
 have hs6:=hb6.size
 have hbw6:Below w.heap.size w w6:=hbw5.trans ⟨hb6.os,hb6.tape,hb6.output,hb6.size,fun k hk=>hb6.block k (by omega)⟩
 have hown':Own X.U8 w6 w4.heap.size dv (wMsg v (flexAt flexO v) fs kn t.l t.u):=hown
 obtain ⟨S,base,cap,rfl,hsr,hS⟩:=own_src hown'
 refine wSq (wRg ?_)
 iterate 2 (apply ops_1;(focus (simp (disch:=(try simp only [sPu]);omega) [k0];try rfl)))
 refine ops_call oVer (cVer w6 n m hn8 (by omega)) (by simp (disch:=(try simp only [sPu]);omega) [k0]) ?_
 rintro e w7 ⟨rfl,rfl⟩
 refine ⟨_,rfl,?_⟩
 rw [<- hv]
 iterate 1 (apply ops_1;(focus (simp (disch:=(try simp only [sPu]);omega) ;try rfl)))
 obtain ⟨ts',u',hpm,hft1,hft2,hft3,-,hwm⟩:=msg_again (hok v hvm).1 (hok v hvm).2 (hk v hvm).1 (hk v hvm).2 hu
 have hkg:=kgood_msg (hok v hvm).1 (hk v hvm).1 (hk v hvm).2 hu
 refine ops_call cAg.1 (cAg.2 w6 S base _ cap v hvm (by omega) (fun w' h=>hgl w' (hbw6.trans ⟨h.os,h.tape,h.output,h.size,fun k hk=>h.block k (by omega)⟩)) hsr (fun sb h=>(hS sb h).2) hlimv hkg (fun xs u r h=>by
  rw [hpm] at h
  cases h
  exact ⟨hft1,hft2,hft3,by rw [hwm];exact hlimv⟩)) (by simp (disch:=(try simp only [sPu]);omega)) ?_
 rw [hpm]
 rintro e w8 ⟨hb8,dv8,rfl,hown8⟩
 rw [hwm] at hown8
 refine ⟨_,rfl,?_⟩
 iterate 1 (apply ops_1;(focus (simp (disch:=(try simp only [sPu]);omega) ;try rfl)))
 refine oNo rfl (opw_extract (vs:=#[dv8,.bool true]) (v:=dv8) (by simp (disch:=(try simp only [sPu]);omega)) rfl ?_)
 refine oNo rfl (opw_extract (vs:=#[dv8,.bool true]) (v:=.bool true) (by simp (disch:=(try simp only [sPu]);omega)) rfl ?_)
 repeat (apply ops_1;(focus (simp (disch:=(try simp only [sPu]);omega) ;try rfl)))
 refine oNi ?_
 simp only [Exit.then]
 have hs8:=hb8.size
 have hbw8:Below w.heap.size w w8:=hbw6.trans ⟨hb8.os,hb8.tape,hb8.output,hb8.size,fun k hk=>hb8.block k (by omega)⟩
 obtain ⟨S8,base8,cap8,rfl,hsr8,hS8⟩:=own_src hown8
 have hB1:BytesAt w8 (fun k=>k < w8.heap.size) base8 (wMsg v (flexAt flexO v) fs kn t.l t.u):=bytesAt_src hsr8 fun sb h=>(hS8 sb h).2
 have hB2:BytesAt w8 (fun k=>k < w8.heap.size) base (wMsg v (flexAt flexO v) fs kn t.l t.u):=bytesAt_src (hsr.frame fun sb h=>hb8.block sb (hS sb h).2) fun sb h=>by have:=(hS sb h).2;omega
 refine wSq (wRg ?_)
 iterate 4 (first | (apply ops_1;(focus (simp (disch:=(try simp only [sPu]);omega) ;try rfl))) | (apply ops_y;(focus rfl);(focus ((try simp only [sPu]);omega));(focus (simp (disch:=(try simp only [sPu]);omega);done));(focus (simp (disch:=(try simp only [sPu]);omega) ;try rfl))) | (apply ops_n;(focus rfl);(focus ((try simp only [sPu]);omega));(focus (first | (left;simp (disch:=(try simp only [sPu]);omega);done) | (right;simp (disch:=(try simp only [sPu]);omega);done)))))
 refine ops_callg (argsV:=#[.slice base8 _ cap8,.slice base _ cap]) rfl (by simp [sPu,hs]) (by simp (disch:=(try simp only [sPu]);omega)) oSame (cSame w8 _ base8 base cap8 cap hB1 hB2 hlimv) (by simp (disch:=(try simp only [sPu]);omega)) ?_
 rintro e w9 ⟨rfl,hb9⟩
 refine ⟨_,rfl,?_⟩
 repeat (apply ops_1;(focus (simp (disch:=(try simp only [sPu]);omega) ;try rfl)))
 refine oNi (wRt ?_)
 try simp only [Exit.then]
 exact ret_tmp hr (by simp [dPu,hd]) ⟨by simp (disch:=(try simp only [sPu]);omega),hbw8.trans ⟨hb9.os,hb9.tape,hb9.output,hb9.size,fun k hk=>hb9.block k (by omega)⟩⟩
end
set_option maxHeartbeats 2000000
def sc_RUuid (T0 T1 F0:Nat):SC:=.seq (.reg [⟨some 2,.alloc T0,none⟩]) (.seq (.reg [⟨some 3,.alloc T0,none⟩]) (.seq (.dreg [⟨some 4,.slice T0 (.tmp 3) none none none,none⟩,mv 5 0,⟨some 6,.call ⟨.value (.func F0),#[(.tmp 5),(.const (.int .i64 16))],#[]⟩,none⟩,⟨some 7,.call ⟨.builtin .copy,#[(.tmp 4),(.tmp 6)],#[T1,T1]⟩,none⟩] [[],[],[1],[0,2,2]]) (.seq (.reg [ld 8 T0 3,⟨none,.store T0 (.tmp 2) (.tmp 8),none⟩]) (.ret))))
section
variable {P:Program} {R:RTy} {f:FuncId} {fn:Func}
theorem dreg_op {S:World->Prop} {ops:List SOp} {i:Nat} {s:SOp} {r:List (Nat × Bool)} {K:Act->World->Prop} {a:Act} {w:World} (hs:ops[i]?=some s) (hg:s.guard=none) (h:opw P s a w (fun a' w'=>S w'/\dregw P S ops r K a' w')):dregw P S ops ((i,false) :: r) K a w:=by
 unfold dregw
 refine ⟨s,hs,?_⟩
 rw [hg]
 simpa using h
theorem opw_copy {a:Act} {w:World} {K:Act->World->Prop} {d:Option Tmp} {g:Option (Nat × Bool)} {T tU8 b n m cap:Nat} {E:TypeId} {x y:Operand} {cur:Array Value} {S:Option Nat} {base:Option Addr} {bs:Bytes} (hT:u8sB P T tU8=true) (hx:a.eval x=.slice (some ⟨b,0,none⟩) n m) (hy:a.eval y=.slice base bs.length cap) (hs:SrcAt w S base bs) (hb:w.heap[b]?=some (.cells cur E (0,0))) (hn:n<=cur.size)
  (h:K (a.put d (.int .i64 ((min bs.length n:Nat):Int))) (w.setRow b (cellsOf (bs.take (min bs.length n)) ++ cur.toList.drop (min bs.length n)).toArray)):opw P ⟨d,.call ⟨.builtin .copy,#[x,y],#[T,T]⟩,g⟩ a w K:=by
 obtain ⟨hu,i,hi,hz,hs1,_⟩:=u8s_of hT
 have hsz:(P.info? tU8).map (·.size)=some 1:=by rw [hi];simp [hs1]
 refine opw_of fun o next Q hd hop hnn=>?_
 have hop':o.op=.call ⟨.builtin .copy,#[x,y],#[T,T]⟩:=stripOp_eq (by simp) hop
 have hr:(Builtin.copy_ #[T,T] o.type #[.slice (some ⟨b,0,none⟩) n m,.slice base bs.length cap]).run P w=.ok (goInt ((min bs.length n:Nat):Int)) (w.setRow b (cellsOf (bs.take (min bs.length n)) ++ cur.toList.drop (min bs.length n)).toArray):=by
  cases S with
  | none =>
   obtain ⟨rfl,rfl⟩:=hs
   rw [run_copy_none w T T o.type tU8 _ _ _ _ _ _ hu hsz (by simp),show min ([]:Bytes).length n=0 by simp]
   simp [cellsOf,setRow_self w b cur E (0,0) hb]
  | some sb =>
   obtain ⟨q,rfl,hc⟩:=hs
   have hl:(cellsOf (bs.take (min bs.length n))).length=min bs.length n:=by rw [cLen,List.length_take];omega
   have:=run_copy_row (P:=P) w T T o.type tU8 b 0 n m ⟨sb,q,none⟩ bs.length cap cur E (cellsOf (bs.take (min bs.length n))) hu hsz hb hl (fun j v hj=>by
    rw [add_none]
    simp only [cellsOf,List.getElem?_map,Option.map_eq_some_iff] at hj
    obtain ⟨u',hu',rfl⟩:=hj
    refine hc j u' ?_
    rw [List.getElem?_take] at hu'
    split at hu'
    ·exact hu'
    ·cases hu') (by rw [hl];omega) (by intro v hv;simp only [cellsOf,List.mem_map] at hv;obtain ⟨u',_,rfl⟩:=hv;rfl)
   rw [this]
   simp only [List.take_zero,List.nil_append,Nat.zero_add,hl]
 have hr':(execOp a.eval o).run P w=.ok (.value (goInt ((min bs.length n:Nat):Int))) (w.setRow b (cellsOf (bs.take (min bs.length n)) ++ cur.toList.drop (min bs.length n)).toArray):=by
  simp [execOp,hop',resolve,invoke,builtin,hx,hy,hr]
 rw [hr',Oper.upon_value,hd]
 exact hnn _ _ h
theorem rUuidFn_ok {TR gb T0 T1 tU8 F0:Nat} (hm:P.follows .mixedOrders=true) (hA:arrN P T0=some 16) (hag:aggB P T0 16=true) (hz:∃ i z,P.info? T0=some i/\i.zero=some z/\z.cells=(cellsOf (List.replicate 16 0)).toArray) (hT1:u8sB P T1 tU8=true) (hSp:SpC P TR F0)
  (hf : P.funcs[f]? = some fn) (hb : fn.body.map strip = some (sc_RUuid T0 T1 F0)) (hnm : (fn.name == "runtime.NumGoroutine") = false) (hn : fn.ntmps = 9) (hr : fn.results = #[.cell 2 T0]) :
  RC P TR gb f (pPrim false false .uuid) (tyP false .uuid) (okP false .uuid):=by
 refine ⟨fnOK_of hf hb hnm,fun w S rb st hgb hrd hsrc=>?_⟩
 obtain ⟨iz,z,hiz,hzz,hzc⟩:=hz
 have hrbl:rb < w.heap.size:=RdAt.lt hrd
 refine fCa hf hb hn (by simp) fun a0 hs hd ha=>?_
 have h0:=ha 0 _ rfl
 simp only [List.getElem_toArray,List.getElem_cons_zero,List.getElem_cons_succ] at h0
 refine wSq (wRg (oNo rfl (opw_alloc hiz hzz (oNi ?_))))
 simp only [Exit.then]
 refine wSq (wRg (oNo rfl (opw_alloc hiz hzz (oNi ?_))))
 simp only [Exit.then]
 rw [hzc]
 have hn1:=heap_alloc_new w (.cells (cellsOf (List.replicate 16 0)).toArray T0)
 have hn2:=heap_alloc_new (w.alloc (.cells (cellsOf (List.replicate 16 0)).toArray T0)) (.cells (cellsOf (List.replicate 16 0)).toArray T0)
 have hsz1:(w.alloc (.cells (cellsOf (List.replicate 16 0)).toArray T0)).heap.size=w.heap.size+1:=by simp
 rw [hsz1] at hn2 ⊢
 obtain ⟨w2,hw2⟩:∃ w2,w2=(w.alloc (.cells (cellsOf (List.replicate 16 0)).toArray T0)).alloc (.cells (cellsOf (List.replicate 16 0)).toArray T0):=⟨_,rfl⟩
 rw [<- hw2] at hn2 ⊢
 have hsz2:w2.heap.size=w.heap.size+2:=by rw [hw2];simp
 have hold:∀ k,k < w.heap.size->w2.heap[k]?=w.heap[k]?:=fun k hk=>by
  rw [hw2,Below.heap_alloc _ _ _ (by simp;omega),Below.heap_alloc _ _ _ hk]
 have hr2:w2.heap[w.heap.size]?=some (.cells (cellsOf (List.replicate 16 0)).toArray T0 (0,0)):=by
  rw [hw2,Below.heap_alloc _ _ _ (by simp)]
  exact hn1
 have hon2:Only rb w w2.drew:=by rw [hw2];exact (((Only.refl rb w).alloc _).alloc _).drew
 have hrd2:RdAt TR w2.drew S rb st:=RdAt.frame hrd (hold _ hrbl) fun sb h=>hold _ (hsrc sb h).2
 refine wSq (wDr hm (Below 0 w2.drew) [(1,true),(0,true),(2,false),(3,false)] (by rfl) (by rfl) (by decide) (Below.refl _ _) ?_)
 iterate 2 (apply dr_1;(focus rfl);(focus (simp (disch:=(try simp only [sPu]);omega) [h0,hA];try rfl)))
 refine dreg_call (argsV:=#[.pointer (some ⟨rb,0,none⟩),.int .i64 16]) rfl hSp.1 (hSp.2 w2.drew S rb st 16 hrd2 (fun sb h=>⟨(hsrc sb h).1,by have:=(hsrc sb h).2;show sb < w2.heap.size;omega⟩)) (by simp (disch:=(try simp only [sPu]);omega) [h0]) ?_
 rintro e w3 ⟨S',base,cap,x,rfl,m1,m2,m3,m4,m5⟩
 refine ⟨_,rfl,⟨m2.os,m2.tape,m2.output,m2.size,fun k hk=>by omega⟩,?_⟩
 have hs3:=m2.size
 have hsd:w2.drew.heap.size=w2.heap.size:=rfl
 have hr3:w3.heap[w.heap.size]?=some (.cells (cellsOf (List.replicate 16 0)).toArray T0 (0,0)):=(m2.block _ (by omega) (by omega)).trans hr2
 have hb3:w3.heap[w.heap.size+1]?=some (.cells (cellsOf (List.replicate 16 0)).toArray T0 (0,0)):=(m2.block _ (by omega) (by omega)).trans hn2
 refine dreg_op rfl rfl (opw_copy (b:=w.heap.size+1) (n:=16) (m:=16) (bs:=x) (base:=base) (cap:=cap) (cur:=(cellsOf (List.replicate 16 0)).toArray) hT1 (by simp (disch:=(try simp only [sPu]);omega)) (by simp (disch:=(try simp only [sPu]);omega)) m3 hb3 (by simp [cellsOf]) ?_)
 obtain ⟨bs,hbs⟩:∃ bs:Bytes,bs=x.take (min x.length 16) ++ (List.replicate 16 0).drop (min x.length 16):=⟨_,rfl⟩
 have hbl:bs.length=16:=by rw [hbs];simp;omega
 have hcb:(cellsOf (x.take (min x.length 16)) ++ ((cellsOf (List.replicate 16 0)).toArray).toList.drop (min x.length 16))=cellsOf bs:=by rw [hbs];simp [cellsOf]
 rw [hcb]
 obtain ⟨w4,hw4⟩:∃ w4,w4=w3.setRow (w.heap.size+1) (cellsOf bs).toArray:=⟨_,rfl⟩
 rw [<- hw4]
 have hoth4:∀ k,k ≠ w.heap.size+1->w4.heap[k]?=w3.heap[k]?:=fun k hk=>by rw [hw4];exact setRow_other _ _ _ _ hk
 have hb4:w4.heap[w.heap.size+1]?=some (.cells (cellsOf bs).toArray T0 (0,0)):=by rw [hw4];exact setRow_heap _ _ _ _ _ _ hb3
 have hr4:w4.heap[w.heap.size]?=some (.cells (cellsOf (List.replicate 16 0)).toArray T0 (0,0)):=by rw [hoth4 _ (by omega)];exact hr3
 have hon4:Only rb w w4:=by rw [hw4];exact (hon2.trans m2).own (by omega) _
 refine ⟨⟨hon4.os.trans hon2.os.symm,hon4.tape.trans hon2.tape.symm,hon4.output.trans hon2.output.symm,by rw [hw4];simpa using hs3,fun k hk=>by omega⟩,dreg_nil ?_⟩
 simp only [Exit.then]
 have hlb:(cellsOf bs).length=16:=by rw [cLen];exact hbl
 refine wSq (wRg (oNo rfl (opw_load_agg (cs:=cellsOf bs) (b:=w.heap.size+1) (o:=0) (by rw [hlb];exact hag) (by simp (disch:=(try simp only [sPu]);omega)) (fun j v hj=>by
  rw [Nat.zero_add,cell_of_row _ _ _ _ _ _ hb4,List.getElem?_toArray];exact hj) (oNo rfl (opw_store_agg (cs:=cellsOf bs) (cur:=(cellsOf (List.replicate 16 0)).toArray) (b:=w.heap.size) (E:=T0) (by rw [hlb];exact hag) (by simp (disch:=(try simp only [sPu]);omega)) (by simp (disch:=(try simp only [sPu]);omega)) hr4 (by rw [hlb];simp [cellsOf]) (by intro v hv;simp only [cellsOf,List.mem_map] at hv;obtain ⟨u',_,rfl⟩:=hv;rfl) (oNi ?_))))))
 rw [pNo]
 simp only [Exit.then]
 refine wRt ?_
 have hfin:=setRow_heap w4 w.heap.size _ (cellsOf bs).toArray _ _ hr4
 have hoth5:∀ k,k ≠ w.heap.size->(w4.setRow w.heap.size (cellsOf bs).toArray).heap[k]?=w4.heap[k]?:=fun k hk=>setRow_other _ _ _ _ hk
 have haft:after st (pPrim false false .uuid)=after st (pSpan 16):=by
  simp only [pPrim]
  exact after_map
 refine ret_cellAgg (cs:=cellsOf bs) (b:=w.heap.size) hr (by rw [hlb];exact hag) (by simp (disch:=(try simp only [sPu]);omega)) (fun j v hj=>by
  rw [cell_of_row _ _ _ _ _ _ hfin,List.getElem?_toArray];exact hj) (by simp [dPu,hd]) ⟨_,rfl,?_,hon4.own (Nat.le_refl _) _,⟨bs,hbl,rfl⟩,fun b t r hst hp=>?_⟩
 ·rw [haft]
  exact RdAt.frame m1 (by rw [hoth5 _ (by omega),hoth4 _ (by omega)]) fun sb h=>by have:=(hsrc sb h).2;rw [hoth5 _ (by omega),hoth4 _ (by omega)]
 ·intro hm
  rw [if_pos rfl]
  simp only [pPrim] at hp
  obtain ⟨s,r1,k1,k2⟩:=rThen_some hp
  obtain ⟨rfl,rfl⟩:=rOk_some k2
  obtain ⟨rfl,-⟩:=m4 b s _ hst k1
  have hl:=pSpan_facts k1
  have hx16:x.length=16:=by omega
  have e1:bs=x:=by rw [hbs,hx16,Nat.min_self,List.take_of_length_le (by omega),List.drop_of_length_le (by simp),List.append_nil]
  have e2:uuidOf (tS x)=x:=by simp [uuidOf,tS,Tree.s,List.take_append,hx16]
  rw [e1,e2]
end
end Go.Proofs.YtdnpafdgglpagaaGreatDoor.K
