/- Generic texts: Y8 Y9 Y10 Y11 Y12 Y13 Y14. No condition. -/
import Derived.Test.YtoiipagmhmohdaaDoorN12
namespace Go.Proofs.YtoiipagmhmohdaaDoor.K
open Go Go.RowKit Go.Proofs.YtoiipagmhmohdaaDoor.T
attribute [local simp] eTm eCo pNo gTp gTn qv qcall vop iop
set_option linter.unusedSimpArgs false
set_option linter.unusedVariables false
set_option maxHeartbeats 4000000
structure Keep (E:Nat→Prop) (w w':World):Prop where
  os:w'.os=w.os
  tape:w'.tape=w.tape
  output:w'.output=w.output
  size:w.heap.size≤w'.heap.size
  block:∀ k,k < w.heap.size→¬ E k→w'.heap[k]?=w.heap[k]?
theorem Keep.refl (E:Nat→Prop) (w:World):Keep E w w:=⟨rfl,rfl,rfl,Nat.le_refl _,fun _ _ _=>rfl⟩
theorem Keep.drew {E:Nat→Prop} {w w':World} (h:Keep E w w'):Keep E w w'.drew:=⟨h.os,h.tape,h.output,h.size,h.block⟩
theorem Keep.trans {E:Nat→Prop} {a b c:World} (h:Keep E a b) (k:Keep E b c):Keep E a c :=
  ⟨k.os.trans h.os,k.tape.trans h.tape,k.output.trans h.output,Nat.le_trans h.size k.size,fun i hi hn=>(k.block i (Nat.lt_of_lt_of_le hi h.size) hn).trans (h.block i hi hn)⟩
theorem Keep.mono {E E':Nat→Prop} {a b:World} (h:Keep E a b) (hE:∀ k,k < a.heap.size→E k→E' k):Keep E' a b :=
  ⟨h.os,h.tape,h.output,h.size,fun i hi hn=>h.block i hi fun e=>hn (hE i hi e)⟩
theorem Keep.of_only {E:Nat→Prop} {rb:Nat} {a b:World} (h:Only rb a b) (hE:E rb):Keep E a b :=
  ⟨h.os,h.tape,h.output,h.size,fun i hi hn=>h.block i hi fun e=>hn (e ▸ hE)⟩
theorem Keep.setRow {E:Nat→Prop} {a w:World} (h:Keep E a w) {b:Nat} (hb:E b∨a.heap.size≤b) (cs:Array Value):Keep E a (w.setRow b cs) :=
  ⟨h.os,h.tape,h.output,by simpa using h.size,fun k hk hn=>(setRow_other _ _ _ _ (by rintro rfl;rcases hb with hb | hb;exact hn hb;omega)).trans (h.block k hk hn)⟩
theorem Keep.alloc {E:Nat→Prop} {a w:World} (h:Keep E a w) (o:Obj):Keep E a (w.alloc o) :=
  ⟨h.os,h.tape,h.output,by have:=h.size;simp;omega,fun k hk hn=>(Below.heap_alloc _ _ _ (Nat.lt_of_lt_of_le hk h.size)).trans (h.block k hk hn)⟩
theorem Keep.below {E:Nat→Prop} {B:Nat} {a w:World} (h:Keep E a w) (hE:∀ k,E k→B≤k) (hB:B≤a.heap.size):Below B a w :=
  ⟨h.os,h.tape,h.output,h.size,fun k hk=>h.block k (by omega) fun e=>by have:=hE k e;omega⟩
theorem Keep.trans' {E E':Nat→Prop} {a b c:World} (h:Keep E a b) (k:Keep E' b c) (hE:∀ i,i < a.heap.size→E' i→E i):Keep E a c :=
  ⟨k.os.trans h.os,k.tape.trans h.tape,k.output.trans h.output,Nat.le_trans h.size k.size,fun i hi hn=>(k.block i (Nat.lt_of_lt_of_le hi h.size) fun e=>hn (hE i hi e)).trans (h.block i hi hn)⟩
section
variable {P:Program} {a:Act} {w:World} {K:Act→World→Prop} {d:Option Tmp} {g:Option (Nat × Bool)}
theorem opw_cap {T len cap:Nat} {base:Option Addr} {x:Operand} {ts:Array TypeId} (hT:(sliceN P T).isSome=true) (hx:a.eval x=.slice base len cap) (ht:ts=#[T])
    (h:K (a.put d (.int .i64 (cap:Int))) w):opw P ⟨d,.call ⟨.builtin .cap,#[x],ts⟩,g⟩ a w K:=by
  subst ht
  obtain ⟨n,hn⟩:=Option.isSome_iff_exists.1 hT
  obtain ⟨E,hE⟩:=sliceB_of hn
  obtain ⟨hu,_⟩:=slice_of hE
  refine oVa (by simp) (fun p hp=>?_) h
  simp [execOp,hp,hx,resolve,invoke,builtin,Builtin.cap_,run_underlying hu,goInt]
theorem opw_makeZ {T E n TN:Nat} {x y:Operand} {i:TypeInfo} {z:Value} {m:Nat} (hT:sliceB P T E n=true) (hN:intK P TN=some .i32) (hi:P.info? E=some i) (hz:i.zero=some z) (h0:0 < i.size) (hb:i.bytes≤131072)
    (hx:a.eval x=.slice none 0 0) (hy:a.eval y=.int .i32 (m:Int)) (hm:0 < m) (hm2:m < 2147483648)
    (h:∀ cap,m≤cap→K (a.put d (.slice (some ⟨w.heap.size,0,none⟩) m cap)) (w.drew.alloc (.cells (Builtin.zeroCells z.cells m ++ Builtin.zeroCells z.cells (cap - m)) E))) :
    opw P ⟨d,.call ⟨.builtin .append,#[x,y],#[T,TN]⟩,g⟩ a w K:=by
  obtain ⟨hu,_⟩:=slice_of hT
  have hu2:=intB_of hN
  unfold intB at hu2
  split at hu2 <;> try (simp at hu2;done)
  rename_i k hk
  have h48:m * i.bytes≤281474976710656:=by
    have:m * i.bytes≤2147483648 * 131072:=Nat.mul_le_mul (by omega) hb
    omega
  refine oVa (v:=.slice (some ⟨w.heap.size,0,none⟩) m (grownCap w m 0 E)) (w':=w.drew.alloc (.cells (Builtin.zeroCells z.cells m ++ Builtin.zeroCells z.cells (grownCap w m 0 E - m)) E)) (by simp) (fun p hp=>?_) (h _ (grownCap_ge w m 0 E))
  have hr:=Lib.run_append_nil_zeros (P:=P) w T TN p.type E i z .i32 k hu hk hi hz m hm h0 (by omega) h48
  simp [execOp,hp,hx,hy,resolve,invoke,builtin,hr]
end
def sc_partsRd (T1 T4 T5 T7 F3:Nat):SC:=.seq (.reg [mv 110 13,nilc 111 110,fa 112 T5 111 1,ld 113 T7 112,lenOp 114 T7 113,⟨some 115,.move (.const (.int .i64 0)),none⟩]) (.block 2 (.loop (.seq (.reg [⟨some 116,.binOp .lss T4 (.tmp 115) (.tmp 114) T4,none⟩]) (.seq (.cond (.tmp 116) (.skip) (.exit 2)) (.seq (.block 3 (.seq (.reg [mv 117 115,asg 15 117]) (.dreg [mv 118 13,nilc 119 118,fa 120 T5 119 1,ld 121 T7 120,mv 122 15,cal 123 F3 [7],⟨some 124,.indexAddr T7 (.tmp 121) (.tmp 122),none⟩,⟨none,.store T1 (.tmp 124) (.tmp 123),none⟩] [[],[0],[1],[2],[],[],[3,4,0,1,2,3,4,5],[6,5,5,0,1,2,3,4,5]]))) (.reg [⟨some 125,.binOp .add T4 (.tmp 115) (.const (.int .i64 1)) T4,none⟩,mv 115 125]))))))
section
variable {P:Program} {f:FuncId} {fn:Func}
theorem partsRd_ok {TR T1 T4 T5 T7 F3 gb Ts rb cb e q pc:Nat} {pb:Option Addr} {S:Option Nat} {st:Option Bytes} {cs:Array Value} {a:Act} {w:World} {Q:Exit→Act→World→Prop} (hm:P.follows .mixedOrders=true) (hR:RowT P Ts T5) (h7:oneB P T7=true) (hs7:sliceN P T7=some 1) (h1:oneB P T1=true) (cI:RCZ P TR gb .i32 F3 (pInt 4))
    (hs:a.tmps.size=138) (hd:a.defers=[]) (g7:getT a 7=.pointer (some ⟨rb,0,none⟩)) (g13:getT a 13=.pointer (some ⟨cb,e,none⟩)) (hrow:w.heap[cb]?=some (.cells cs T5 (0,0))) (hce:cs[e+1]?=some (.slice pb q pc)) (hcr:cb ≠ rb) (hgb:gb < w.heap.size) (hq:q < 2147483648)
    (hpb:q=0∨∃ (p0:Nat) (ps:Array Value),pb=some ⟨p0,0,none⟩∧w.heap[p0]?=some (.cells ps T1 (0,0))∧q≤ps.size∧p0 ≠ rb∧p0 ≠ cb∧S ≠ some p0) (hst:RdAt TR w S rb st) (hS:∀ sb,S=some sb→sb ≠ rb∧sb < w.heap.size)
    (h:∀ a' w' (vs:List Int),a'.tmps.size=138→a'.defers=[]→(∀ s,s < 110→s ≠ 15→getT a' s=getT a s)→RdAt TR w' S rb (after st (pMany (pInt 4) q))→Keep (fun k=>k=rb∨∃ p0,pb=some ⟨p0,0,none⟩∧k=p0) w w'→vs.length=q→(∀ p0,pb=some ⟨p0,0,none⟩→∀ (j:Nat) (x:Int),vs[j]?=some x→w'.cell? ⟨p0,j,none⟩=some (.int .i32 x))→(∀ b xs r,st=some b→pMany (pInt 4) q b=some (xs,r)→vs=xs)→Q .normal a' w'):(sc_partsRd T1 T4 T5 T7 F3).wp P Q a w:=by
  have hf1:=hR.f1
  have hcbl:cb < w.heap.size:=(Array.getElem?_eq_some_iff.1 hrow).1
  have e1:w.cell? ⟨cb,e+1,none⟩=some (.slice pb q pc):=by rw [cell_of_row _ _ _ _ _ _ hrow];exact hce
  unfold sc_partsRd
  refine SC.wp_seq (SC.wp_reg ?_)
  repeat (apply ops_1;(focus (simp (disch:=(try simp only [sPu]);omega) [hf1,h7,hs7,g13,e1];try rfl)))
  refine oNi ?_
  simp only [Exit.then]
  obtain ⟨E,hE⟩:∃ E:Nat→Prop,E=fun k=>k=rb∨∃ p0,pb=some ⟨p0,0,none⟩∧k=p0:=⟨_,rfl⟩
  refine SC.wp_block (SC.wp_loop (fun a4 w5=>∃ (j:Nat) (vs:List Int),a4.tmps.size=138∧a4.defers=[]∧(∀ s,s < 110→s ≠ 15→getT a4 s=getT a s)∧getT a4 114=.int .i64 (q:Int)∧getT a4 115=.int .i64 (j:Int)∧j≤q∧RdAt TR w5 S rb (after st (pMany (pInt 4) j))∧Keep E w w5∧vs.length=j∧(∀ p0,pb=some ⟨p0,0,none⟩→0 < q→∃ ps:Array Value,w5.heap[p0]?=some (.cells ps T1 (0,0))∧q≤ps.size∧∀ (i:Nat) (x:Int),vs[i]?=some x→ps[i]?=some (.int .i32 x))∧(∀ b xs r,st=some b→pMany (pInt 4) j b=some (xs,r)→vs=xs))
    (fun a4 _=>match getT a4 115 with | .int _ m=>(q - m).toNat | _=>0) ⟨0,[],by simp [sPu,hs],by simp [dPu,hd],fun s z1 z2=>by simp (disch:=(try simp only [sPu]);omega),by simp (disch:=(try simp only [sPu]);omega),by simp (disch:=(try simp only [sPu]);omega),by omega,by rw [show pMany (pInt 4) 0=rOk [] from rfl,after_rOk];exact hst,Keep.refl _ _,rfl,fun p0 hp hq=>?_,fun b xs r _ hp=>?_⟩ ?_)
  · rcases hpb with h0 | ⟨p1,ps,rfl,k1,k2,_⟩
    · omega
    · cases hp
      exact ⟨ps,k1,k2,fun i x hx=>by simp at hx⟩
  · cases hp
    rfl
  rintro a4 w5 ⟨j,vs,q1,qd,qk,q14,q15,hj,hat,hkp,hvl,hps,hvs⟩
  have hs5:=hkp.size
  refine SC.wp_seq (SC.wp_reg ?_)
  repeat (apply ops_1;(focus (simp (disch:=(try simp only [sPu]);omega) [q14,q15];try rfl)))
  refine oNi ?_
  simp only [Exit.then]
  refine SC.wp_seq (SC.wp_cond (t:=decide ((j:Int) < (q:Int))) (by simp (disch:=(try simp only [sPu]);omega)) ?_)
  refine Decidable.byCases (p:=j < q) (fun hjl=>?_) (fun hjl=>?_)
  · rw [if_pos (decide_eq_true (by omega))]
    refine SC.wp_skip ?_
    simp only [Exit.then]
    rcases hpb with h0 | ⟨p0,ps0,rfl,m1,m2,m3,m4,m5⟩
    · omega
    obtain ⟨ps,n1,n2,n3⟩:=hps p0 rfl (by omega)
    have hp0l:p0 < w.heap.size:=(Array.getElem?_eq_some_iff.1 m1).1
    have hcb5:w5.heap[cb]?=some (.cells cs T5 (0,0)):=by
      rw [hkp.block cb hcbl (by rw [hE];rintro (h | ⟨p1,h1,h2⟩);exact hcr h;cases h1;exact m4 h2.symm)]
      exact hrow
    have y7:getT a4 7=.pointer (some ⟨rb,0,none⟩):=by rw [qk 7 (by omega) (by omega)];exact g7
    have y13:getT a4 13=.pointer (some ⟨cb,e,none⟩):=by rw [qk 13 (by omega) (by omega)];exact g13
    refine SC.wp_seq (SC.wp_block (SC.wp_seq (SC.wp_reg ?_)))
    repeat (apply ops_1;(focus (simp (disch:=(try simp only [sPu]);omega) [q15];try rfl)))
    refine oNi ?_
    simp only [Exit.then]
    obtain ⟨SS,hSS⟩:∃ SS:World→Prop,SS=fun w'=>w'.heap[cb]?=some (.cells cs T5 (0,0)):=⟨_,rfl⟩
    have hS0:SS w5.drew:=by rw [hSS];exact hcb5
    have hSc:∀ w',SS w'→∀ b' o',(fun b'=>decide (b'=cb)) b'=true→w'.cell? ⟨b',o',none⟩=w5.cell? ⟨b',o',none⟩:=fun w' h b' o' hb'=>by
      rw [hSS] at h
      have:b'=cb:=of_decide_eq_true hb'
      rw [this,cell_of_row _ _ _ _ _ _ h,cell_of_row _ _ _ _ _ _ hcb5]
    have e5:w5.cell? ⟨cb,e+1,none⟩=some (.slice (some ⟨p0,0,none⟩) q pc):=by rw [cell_of_row _ _ _ _ _ _ hcb5];exact hce
    refine SC.wp_dreg hm SS [(0,true),(1,true),(2,true),(3,true),(4,true),(5,false),(6,true),(7,false)] (by rfl) (by rfl) (by decide) hS0 ?_
    refine dr_S (v:=.pointer (some ⟨cb,e,none⟩)) hSc rfl (by simp (disch:=(try simp only [sPu]);omega) [qv,y13]) ?_
    refine dr_S (v:=.pointer (some ⟨cb,e,none⟩)) hSc rfl (by simp (disch:=(try simp only [sPu]);omega) [qv]) ?_
    refine dr_S (v:=.pointer (some ⟨cb,e+1,none⟩)) hSc rfl (by simp (disch:=(try simp only [sPu]);omega) [qv,hf1]) ?_
    refine dr_S (v:=.slice (some ⟨p0,0,none⟩) q pc) hSc rfl (by simp (disch:=(try simp only [sPu]);omega) [qv,h7];exact e5) ?_
    refine dr_S (v:=.int .i64 (j:Int)) hSc rfl (by simp (disch:=(try simp only [sPu]);omega) [qv]) ?_
    have hat5:RdAt TR w5.drew S rb (after st (pMany (pInt 4) j)):=hat
    refine dreg_call (argsV:=#[.pointer (some ⟨rb,0,none⟩)]) rfl cI.1 (cI.2 w5.drew S rb _ (by show gb < w5.heap.size;omega) hat5 (fun sb h=>⟨(hS sb h).1,by show sb < w5.heap.size;have:=(hS sb h).2;omega⟩)) (by simp (disch:=(try simp only [sPu]);omega) [y7]) ?_
    rintro ee w6 ⟨n,rfl,hat6,ho6,hz6,hn6⟩
    have hcb6:w6.heap[cb]?=some (.cells cs T5 (0,0)):=by rw [ho6.block cb (by show cb < w5.heap.size;omega) hcr];exact hcb5
    refine ⟨_,rfl,by rw [hSS];exact hcb6,?_⟩
    have hp6:w6.heap[p0]?=some (.cells ps T1 (0,0)):=by rw [ho6.block p0 (by show p0 < w5.heap.size;omega) m3];exact n1
    have hjq:(j:Int) < (q:Int):=by omega
    refine dr_S (v:=.pointer (some ⟨p0,j,none⟩)) hSc rfl (by simp (disch:=(try simp only [sPu]);omega) [qv,hs7,hjl,hjq]) ?_
    refine dreg_n rfl rfl (opw_store_one (ad:=⟨p0,j,none⟩) (v:=.int .i32 n) (v0:=ps[j]) h1 (by simp (disch:=(try simp only [sPu]);omega)) (by simp (disch:=(try simp only [sPu]);omega)) rfl (by rw [cell_of_row _ _ _ _ _ _ hp6];exact Array.getElem?_eq_getElem (by omega)) (by simp [World.frozen?,hp6]) ?_)
    rw [pNo,setCell_eq_setRow _ _ _ _ _ _ _ hp6]
    have hrow7:=setRow_heap w6 p0 _ (ps.setIfInBounds j (.int .i32 n)) _ _ hp6
    have hcb7:(w6.setRow p0 (ps.setIfInBounds j (.int .i32 n))).heap[cb]?=some (.cells cs T5 (0,0)):=by rw [setRow_other _ _ _ _ (Ne.symm m4)];exact hcb6
    refine ⟨by rw [hSS];exact hcb7,dreg_nil ?_⟩
    have hat7:RdAt TR (w6.setRow p0 (ps.setIfInBounds j (.int .i32 n))) S rb (after (after st (pMany (pInt 4) j)) (pInt 4)):=RdAt.frame hat6 (setRow_other _ _ _ _ (Ne.symm m3)) (fun sb h=>setRow_other _ _ _ _ (by intro e0;exact m5 (by rw [← e0];exact h)))
    have hk6:Keep E w w6:=hkp.trans (Keep.of_only (rb:=rb) ⟨ho6.os,ho6.tape,ho6.output,ho6.size,ho6.block⟩ (by rw [hE];exact .inl rfl))
    have hk7:Keep E w (w6.setRow p0 (ps.setIfInBounds j (.int .i32 n))):=hk6.setRow (.inl (by rw [hE];exact .inr ⟨p0,rfl,rfl⟩)) _
    generalize w6.setRow p0 (ps.setIfInBounds j (.int .i32 n))=w7 at *
    simp only [Exit.inBlock,Exit.then]
    have ew2:IntKind.i64.wrap ((j:Int)+1)=((j:Int)+1):=by rw [wrap_i64'];split <;> omega
    refine SC.wp_reg ?_
    repeat (apply ops_1;(focus (simp (disch:=(try simp only [sPu]);omega) [q15,ew2];try rfl)))
    refine oNi ?_
    refine ⟨⟨j+1,vs ++ [n],by simp [sPu,q1],by simp [dPu,qd],fun s z1 z2=>?_,by simp (disch:=(try simp only [sPu]);omega) [q14],by simp (disch:=(try simp only [sPu]);omega),by omega,by rw [after_many_succ];exact hat7,hk7,by simp [hvl],fun p1 hp1 _=>?_,fun b xs r hb hp=>?_⟩,?_⟩
    · rw [← qk s z1 z2]
      simp (disch:=(try simp only [sPu]);omega)
    · cases hp1
      refine ⟨_,hrow7,by simpa using n2,fun i x hx=>?_⟩
      rcases Nat.lt_or_ge i j with hi | hi
      · rw [List.getElem?_append_left (by omega)] at hx
        rw [Array.getElem?_setIfInBounds_ne (by omega)]
        exact n3 i x hx
      · rw [List.getElem?_append_right (by omega)] at hx
        have hi0:i=j:=by
          rcases Nat.lt_or_ge (i - vs.length) 1 with h | h
          · omega
          · rw [List.getElem?_eq_none (by simpa using h)] at hx
            cases hx
        subst hi0
        rw [hvl,Nat.sub_self] at hx
        simp only [List.getElem?_cons_zero,Option.some.injEq] at hx
        subst hx
        rw [Array.getElem?_setIfInBounds_self_of_lt (by omega)]
    · rw [pMany_succ] at hp
      obtain ⟨z,hz,hp⟩:=Option.bind_eq_some_iff.1 hp
      obtain ⟨y,hy,hp⟩:=Option.map_eq_some_iff.1 hp
      cases hp
      rw [hvs b z.1 z.2 hb hz]
      rw [hn6 z.2 y.1 y.2 (by rw [hb,after_ok hz]) hy]
    · rw [q15]
      simp (disch:=(try simp only [sPu]);omega)
      omega
  · rw [if_neg (by rw [decide_eq_false (by omega)];simp)]
    refine SC.wp_exit ?_
    simp only [Exit.then,Exit.inBlock,if_true]
    have:j=q:=by omega
    subst this
    refine h _ _ vs (by simp [sPu,q1]) (by simp [dPu,qd]) (fun s z1 z2=>by rw [← qk s z1 z2];simp (disch:=(try simp only [sPu]);omega)) hat (by rw [← hE];exact hkp) hvl (fun p0 hp i x hx=>?_) hvs
    have hi:=(List.getElem?_eq_some_iff.1 hx).1
    obtain ⟨ps,n1,n2,n3⟩:=hps p0 hp (by omega)
    rw [cell_of_row _ _ _ _ _ _ n1]
    exact n3 i x hx
end
end Go.Proofs.YtoiipagmhmohdaaDoor.K
namespace Go.Proofs.YtoiipagmhmohdaaDoor.K
open Go Go.RowKit Go.Proofs.YtoiipagmhmohdaaDoor.T
set_option linter.unusedSimpArgs false
set_option linter.unusedVariables false
section
variable {P:Program} {ops:Array Oper} {Q:Exit→Act→World→Prop} {md:Region.Mode} {S:World→Prop} {kx:Nat}
def wpAnyL (P:Program) (md:Region.Mode) (ops:Array Oper) (Q:Exit→Act→World→Prop) (S:World→Prop) (kx:Nat):Nat→Array Bool→Act→World→Prop
  | 0,listed,a,w=>Region.ready md ops listed=[]∧Q .normal a w
  | fuel+1,listed,a,w =>
    (Region.ready md ops listed=[]→Q .normal a w) ∧
    ∀ i ∈ Region.ready md ops listed,wpOp P ops Q i (fun a' w'=>(i ≠ kx→S w')∧wpAnyL P md ops Q S kx fuel (listed.setIfInBounds i true) a' w') a w
theorem wpAny_of_L:∀ (fuel:Nat) (listed:Array Bool) (a:Act) (w:World),wpAnyL P md ops Q S kx fuel listed a w→wpAny P md ops Q fuel listed a w
  | 0,_,_,_,h=>h
  | fuel+1,_,_,_,h=>⟨h.1,fun i hi=>wpOp_mono (fun a' w' h'=>wpAny_of_L fuel _ a' w' h'.2) (h.2 i hi)⟩
theorem wpAnyL_first {i:Nat} {oi:Oper} {v:Value} (hi:ops[i]?=some oi) (hk:∀ ok,ops[kx]?=some ok→∃ e ∈ ok.after,Region.binds md e=true∧e.on=i) (hsel:∀ (j:Nat) (o:Oper) cs b,ops[j]?=some o→o.op ≠ .select cs b)
    (hQ:∀ c a w,Q (.panic c) (a.put oi.dst v) w→Q (.panic c) a w) :
    ∀ (fuel:Nat) (listed:Array Bool) (a:Act) (w:World),
      (∀ j oj,ops[j]?=some oj→j ≠ i→listed.getD j true=false→(∀ e ∈ oj.after,Region.binds md e=true→e.on ≠ i)→oi.apart ops oj=true) →
      i ∈ Region.ready md ops listed→YieldsIf P ops S oi v a→S w →
      wpAnyL P md ops Q S kx fuel (listed.setIfInBounds i true) (a.put oi.dst v) w→wpAnyL P md ops Q S kx (fuel+1) listed a w:=by
  intro fuel
  induction fuel with
  | zero =>
    intro listed a w _ hr hy hS H
    refine ⟨fun h=>(by rw [h] at hr;cases hr),fun j hj=>?_⟩
    by_cases hji:j=i
    · subst hji;exact hy.wpOp hi hS ⟨fun _=>hS,H⟩
    · have:=ready_mono hj hji
      rw [H.1] at this
      cases this
  | succ fuel ih =>
    intro listed a w hfree hr hy hS H
    refine ⟨fun h=>(by rw [h] at hr;cases hr),fun j hj=>?_⟩
    by_cases hji:j=i
    · subst hji;exact hy.wpOp hi hS ⟨fun _=>hS,H⟩
    · have h1:=H.2 j (ready_mono hj hji)
      obtain ⟨hjun,oj,hoj,hall⟩:=mem_ready.1 hj
      have hnot:∀ e ∈ oj.after,Region.binds md e=true→e.on ≠ i:=fun e he hb heq=>by
        have h1:=hall e he hb
        have h0:=(mem_ready.1 hr).1
        rw [heq] at h1
        rcases Nat.lt_or_ge i listed.size with h' | h'
        · simp [h'] at h0 h1;rw [h0] at h1;cases h1
        · simp [Array.getElem?_eq_none h'] at h1
      have hjk:j ≠ kx:=by
        rintro rfl
        obtain ⟨e,he,hb,ho⟩:=hk oj hoj
        exact hnot e he hb ho
      have h2:=wpOp_putIf hoj (hfree j oj hoj hji hjun hnot) (fun cs b=>hsel i oi cs b hi) (fun cs b=>hsel j oj cs b hoj) hQ hy h1
      have hfree':∀ k ok,ops[k]?=some ok→k ≠ i→(listed.setIfInBounds j true).getD k true=false →
          (∀ e ∈ ok.after,Region.binds md e=true→e.on ≠ i)→oi.apart ops ok=true:=fun k ok hk hki hun hno=>by
        refine hfree k ok hk hki ?_ hno
        by_cases hjk:j=k
        · subst hjk;exact hjun
        · rw [getD_set_ne true hjk] at hun;exact hun
      refine wpOp_mono (fun a' w' h3=>⟨h3.2.1,ih (listed.setIfInBounds j true) a' w' hfree' (ready_mono hr (Ne.symm hji)) h3.1 (h3.2.1 hjk) ?_⟩) h2
      rw [Array.setIfInBounds_comm _ _ hji]
      exact h3.2.2
def chkL (ops:List SOp) (after:List (List Nat)) (kx:Nat):List (Nat × Bool)→Array Bool→Bool
  | [],listed=>(sReady after listed).isEmpty
  | (i,q) :: r,listed=>(if q then sFree ops after listed i && (sReady after listed).contains i && (match after[kx]? with | some l=>l.contains i | none=>false) else decide (sReady after listed=[i]) && (i != kx || r.isEmpty)) && chkL ops after kx r (listed.setIfInBounds i true)
def dregL (P:Program) (S:World→Prop) (kx:Nat) (ops:List SOp):List (Nat × Bool)→(Act→World→Prop)→Act→World→Prop
  | [],K,a,w=>K a w
  | (i,q) :: r,K,a,w=>∃ s,ops[i]?=some s∧s.guard=none ∧
    if q then ∃ v,opq P S s a v∧dregL P S kx ops r K (a.put s.dst v) w else opw P s a w (fun a' w'=>(i ≠ kx→S w')∧dregL P S kx ops r K a' w')
theorem dregL_sound {K:Act→World→Prop} (hQ:∀ c a w,¬ Q (.panic c) a w) (hK:∀ a w,K a w→Q .normal a w) (hns:Region.noSelect ops=true) :
    ∀ (π:List (Nat × Bool)) (fuel:Nat) (listed:Array Bool) (a:Act) (w:World),π.length≤fuel→chkL (ops.toList.map sop) (ops.toList.map aft) kx π listed=true→(π ≠ []→S w) →
      dregL P S kx (ops.toList.map sop) π K a w→wpAnyL P .any ops Q S kx fuel listed a w
  | [],fuel,listed,a,w,_,hc,_,h=>by
    simp only [chkL,ready_strip,List.isEmpty_iff] at hc
    cases fuel with
    | zero=>exact ⟨hc,hK _ _ h⟩
    | succ n=>exact ⟨fun _=>hK _ _ h,by rw [hc];simp⟩
  | (i,q) :: r,fuel,listed,a,w,hl,hc,hS,h=>by
    obtain ⟨fuel,rfl⟩:∃ f,fuel=f+1:=⟨fuel - 1,by simp at hl;omega⟩
    have hl':r.length≤fuel:=by simp at hl;omega
    have hSw:=hS (by simp)
    simp only [chkL,Bool.and_eq_true,ready_strip,free_strip] at hc
    obtain ⟨hc1,hc2⟩:=hc
    unfold dregL at h
    obtain ⟨s,hs,hg,h⟩:=h
    simp only [List.getElem?_map,Array.getElem?_toList] at hs
    obtain ⟨o,ho,rfl⟩:=Option.map_eq_some_iff.1 hs
    have hgo:o.guard=none:=hg
    have hw:Region.wanted o (yielded ops a.tmps)=true:=by simp only [Region.wanted,hgo]
    cases q with
    | true =>
      simp only [if_true,Bool.and_eq_true] at hc1 h
      obtain ⟨v,hv,h⟩:=h
      have hk:∀ ok,ops[kx]?=some ok→∃ e ∈ ok.after,Region.binds .any e=true∧e.on=i:=by
        intro ok hok
        have h3:=hc1.2
        simp only [List.getElem?_map,Array.getElem?_toList,hok,Option.map_some,aft,List.contains_iff_mem,List.mem_map,List.mem_filter] at h3
        obtain ⟨e,⟨he,hb⟩,ho⟩:=h3
        exact ⟨e,by simpa using he,hb,ho⟩
      exact wpAnyL_first ho hk (Region.noSelect_spec hns) (fun c a w hq=>absurd hq (hQ _ _ _)) fuel listed a w (Region.free_spec ho hc1.1.1) (by simpa using hc1.1.2) (.inl ⟨hw,fun w hS=>hv o rfl w hS⟩) hSw (dregL_sound hQ hK hns r fuel _ _ w hl' hc2 (fun _=>hSw) h)
    | false =>
      simp only [if_false,Bool.false_eq_true,Bool.and_eq_true,decide_eq_true_eq] at hc1 h
      obtain ⟨hc1,hc3⟩:=hc1
      refine ⟨fun h0=>(by rw [hc1] at h0;cases h0),fun i' hi'=>?_⟩
      rw [hc1] at hi'
      simp at hi'
      subst hi'
      unfold wpOp
      simp only [ho]
      rw [if_pos hw]
      refine .inl (h o _ Q rfl fun a' w' hq=>⟨hq.1,dregL_sound hQ hK hns r fuel _ _ w' hl' hc2 (fun hr=>hq.1 ?_) hq.2⟩)
      rintro rfl
      simp only [bne_self_eq_false,Bool.false_or,List.isEmpty_iff] at hc3
      exact hr hc3
end
theorem SC.wp_dregL {P:Program} {Q:Exit→Act→World→Prop} {a:Act} {w:World} {l:List SOp} {after:List (List Nat)} (hm:P.follows .mixedOrders=true) (S:World→Prop) (kx:Nat) (π:List (Nat × Bool))
    (hns:sNoSel l=true) (hc:chkL l after kx π (Array.replicate after.length false)=true) (hlen:π.length≤after.length) (hS:S w.drew)
    (h:dregL P S kx l π (Q .normal) a w.drew):(SC.dreg l after).wp P Q a w:=by
  intro c hcd
  cases c <;> simp [strip] at hcd
  rename_i id ops draw
  split at hcd
  · rename_i hd
    subst hd
    simp only [SC.dreg.injEq] at hcd
    obtain ⟨rfl,rfl⟩:=hcd
    let Q':Exit→Act→World→Prop:=fun e a w=>match e with | .panic _=>False | _=>Q e a w
    have hQ':∀ e a w,Q' e a w→Q e a w:=by
      intro e a w h
      cases e <;> first | exact h | exact h.elim
    refine Go.wp_mono ?_ hQ'
    rw [noSel_strip] at hns
    have haft:(ops.toList.map fun o=>(o.after.toList.filter (Region.binds .any)).map (·.on))=ops.toList.map aft:=rfl
    rw [haft] at hc hlen
    have hsz:(ops.toList.map aft).length=ops.size:=by simp
    rw [hsz] at hc hlen
    exact wp_region_any hm (wpAny_of_L _ _ _ _ (dregL_sound (S:=S) (K:=Q .normal) (Q:=Q') (fun c a w h=>h.elim) (fun a w h=>h) hns π ops.size _ a _ hlen hc (fun _=>hS) h))
  · simp at hcd
section
variable {P:Program} {a:Act} {w:World} {K:Act→World→Prop} {S:World→Prop} {kx:Nat}
theorem dl_S {ok:Nat→Bool} {w0:World} {i d:Nat} {op:Op} {ops:List SOp} {v:Value} {r:List (Nat × Bool)} (hS:∀ w',S w'→∀ b o,ok b=true→w'.cell? ⟨b,o,none⟩=w0.cell? ⟨b,o,none⟩) (hs:ops[i]?=some ⟨some d,op,none⟩) (h:qv ok P w0 a op=some v)
    (hk:dregL P S kx ops r K (a.put (some d) v) w):dregL P S kx ops ((i,true) :: r) K a w:=by
  unfold dregL
  exact ⟨_,hs,rfl,by simpa only [if_true] using ⟨v,(fun o ho w' hS'=>qv_sound (hS w' hS') h o (congrArg SOp.op ho):opq P S ⟨some d,op,none⟩ a v),hk⟩⟩
theorem dl_n {ops:List SOp} {i:Nat} {s:SOp} {r:List (Nat × Bool)} (hs:ops[i]?=some s) (hg:s.guard=none) (h:opw P s a w (fun a' w'=>(i ≠ kx→S w')∧dregL P S kx ops r K a' w')):dregL P S kx ops ((i,false) :: r) K a w:=by
  unfold dregL
  exact ⟨s,hs,hg,by simpa only [if_false,Bool.false_eq_true] using h⟩
theorem dl_1 {i d:Nat} {op:Op} {ops:List SOp} {v:Value} {r:List (Nat × Bool)} (hs:ops[i]?=some ⟨some d,op,none⟩) (h:qv (fun _=>true) P w a op=some v) (hS:S w) (hk:dregL P S kx ops r K (a.put (some d) v) w):dregL P S kx ops ((i,false) :: r) K a w :=
  dl_n hs rfl (opw_of fun o next Q hd ho hn=>by
    rw [qv_sound (fun _ _ _=>rfl) h o ho,Oper.upon_value,hd]
    exact hn _ _ ⟨fun _=>hS,hk⟩)
theorem dl_call {ops:List SOp} {i t g:Nat} {args:Array Operand} {argsV:Array Value} {r:List (Nat × Bool)} {R:Ending→World→Prop} (hs:ops[i]?=some ⟨some t,.call ⟨.value (.func g),args,#[]⟩,none⟩) (hf:FnOK P g) (hc:Calls P g argsV w R) (hargs:args.map a.eval=argsV)
    (hR:∀ e w',R e w'→∃ v,e=.returned v∧(i ≠ kx→S w')∧dregL P S kx ops r K (a.put (some t) v) w'):dregL P S kx ops ((i,false) :: r) K a w:=by
  obtain ⟨fn,h1,h2,h3⟩:=hf
  exact dl_n hs rfl (opw_call (R:=R) h1 h2 h3 (by rw [hargs];exact hc) hR)
theorem dl_nil {ops:List SOp} (h:K a w):dregL P S kx ops [] K a w:=h
end
end Go.Proofs.YtoiipagmhmohdaaDoor.K
namespace Go.Proofs.YtoiipagmhmohdaaDoor.K
open Go Go.RowKit Go.Proofs.YtoiipagmhmohdaaDoor.T
attribute [local simp] eTm eCo pNo gTp gTn qv qcall vop iop
set_option linter.unusedSimpArgs false
set_option linter.unusedVariables false
set_option maxHeartbeats 4000000
def sc_elem (T1 T2 T3 T4 T5 T6 T7 F0 F1 F2 F3:Nat):SC:=.seq (.reg [⟨some 11,.assign (.const (.string ⟨#[]⟩)),none⟩]) (.seq (.seq (.reg [mv 60 2]) (.cond (.tmp 60) (.reg [cal 61 F1 [7],asg 11 61]) (.reg [cal 62 F2 [7],asg 11 62]))) (.seq (.reg [cal 63 F0 [7],asg 12 63]) (.seq (.seq (.reg [mv 64 12,⟨some 65,.binOp .lss T1 (.tmp 64) (.const (.int .i32 0)) T1,none⟩]) (.cond (.tmp 65) (.reg [⟨some 12,.assign (.const (.int .i32 0)),none⟩]) (.skip))) (.seq (.reg [mv 66 0,nilc 67 66,fa 68 T2 67 0,ld 69 T3 68,mv 70 10,⟨some 71,.indexAddr T3 (.tmp 69) (.tmp 70),none⟩,asg 13 71]) (.seq (.reg [mv 72 13,mv 73 11,nilc 74 72,fa 75 T5 74 0,⟨none,.store T6 (.tmp 75) (.tmp 73),none⟩]) (.seq (.reg [mv 76 12,mv 77 13,nilc 78 77,fa 79 T5 78 1,ld 80 T7 79,⟨some 81,.call ⟨.builtin .cap,#[(.tmp 80)],#[T7]⟩,none⟩,⟨some 82,.convert T4 T1 (.tmp 81),none⟩,⟨some 83,.binOp .sub T1 (.tmp 76) (.tmp 82) T1,none⟩,asg 14 83]) (.seq (.seq (.reg [mv 84 14,⟨some 85,.binOp .gtr T1 (.tmp 84) (.const (.int .i32 0)) T1,none⟩]) (.cond (.tmp 85) (.dreg [mv 86 13,mv 87 13,nilc 88 87,fa 89 T5 88 1,ld 90 T7 89,mv 91 13,nilc 92 91,fa 93 T5 92 1,ld 94 T7 93,⟨some 95,.call ⟨.builtin .cap,#[(.tmp 94)],#[T7]⟩,none⟩,⟨some 96,.slice T7 (.tmp 90) none (some (.tmp 95)) none,none⟩,mv 97 14,⟨some 98,.call ⟨.builtin .append,#[(.tmp 96),(.tmp 97)],#[T7,T1]⟩,none⟩,nilc 99 86,fa 100 T5 99 1,⟨none,.store T7 (.tmp 100) (.tmp 98),none⟩] [[],[],[1],[2],[3],[],[5],[6],[7],[8],[4,9],[],[10,11],[0,0,1,2,3,4,5,6,7,8,9,10,11,12],[13,0,1,2,3,4,5,6,7,8,9,10,11,12],[14,12,12,0,1,2,3,4,5,6,7,8,9,10,11,12]]) (.reg [mv 101 13,mv 102 13,nilc 103 102,fa 104 T5 103 1,ld 105 T7 104,mv 106 12,⟨some 107,.slice T7 (.tmp 105) none (some (.tmp 106)) none,none⟩,nilc 108 101,fa 109 T5 108 1,⟨none,.store T7 (.tmp 109) (.tmp 107),none⟩]))) (sc_partsRd T1 T4 T5 T7 F3))))))))
section
variable {P:Program} {f:FuncId} {fn:Func}
def RStrC (P:Program) (TR gb:Nat) (F:FuncId):Prop:=FnOK P F∧∀ (w:World) (S:Option Nat) (rb:Nat) (st:Option Bytes),gb < w.heap.size→RdAt TR w S rb st→(∀ sb,S=some sb→sb ≠ rb∧sb < w.heap.size) →
  Calls P F #[.pointer (some ⟨rb,0,none⟩)] w fun e w'=>∃ t:Bytes,e=.returned (.string ⟨t.toArray⟩)∧RdAt TR w' S rb (after st pStr)∧Only rb w w'∧∀ b x r,st=some b→pStr b=some (x,r)→t=x
theorem pPrim_str_len {b r:Bytes} {t:Tree} (h:pPrim false false .str b=some (t,r)):t.s.length≤most:=by
  simp only [pPrim,pCount,Bool.false_eq_true,if_false,Bool.false_and] at h
  obtain ⟨l,r1,h1,h2⟩:=rThen_some h
  obtain ⟨s,r2,h3,h4⟩:=rThen_some h2
  obtain ⟨rfl,rfl⟩:=rOk_some h4
  obtain ⟨k1,k2,_,_⟩:=pSpan_facts h3
  have hl:l < 32768:=by
    unfold pInt at h1
    obtain ⟨m,r3,q1,q2⟩:=rThen_some h1
    obtain ⟨rfl,rfl⟩:=rOk_some q2
    obtain ⟨e1,e2,e3⟩:=pFix_facts q1
    have hlt:=unfix_lt (b.take 2)
    have hl2:(b.take 2).length=2:=by rw [List.length_take];omega
    rw [hl2,← e2] at hlt
    unfold sgn
    have e:(256:Nat) ^ 2=65536:=by decide
    rw [e] at hlt ⊢
    split <;> omega
  show s.length≤32767
  omega
theorem rStrC_of {TR gb:Nat} {F:FuncId} (h:RC P TR gb F (pPrim false false .str) (tyP false .str) (okP false .str)):RStrC P TR gb F:=by
  refine ⟨h.1,fun w S rb st q1 q2 q3=>(h.2 w S rb st q1 q2 q3).mono ?_⟩
  rintro e w' ⟨v,rfl,k1,k2,k3,k4⟩
  obtain ⟨s,rfl⟩:∃ s,v=.string s:=by simpa [tyP] using k3
  obtain ⟨⟨t⟩⟩:=s
  refine ⟨t,rfl,by unfold pStr;rw [after_map];exact k1,k2,fun b x r hb hp=>?_⟩
  unfold pStr at hp
  obtain ⟨tt,r1,p1,p2⟩:=rThen_some hp
  obtain ⟨rfl,rfl⟩:=rOk_some p2
  have:=k4 b tt r1 hb p1 (pPrim_str_len p1)
  rw [if_neg (by decide)] at this
  obtain ⟨s,e1,e2,_⟩:=(by simpa [PVal] using this:∃ s:ByteArray,Value.string ⟨t.toArray⟩=.string s∧s.data.toList=tt.s∧tt.s.length≤most)
  cases e1
  simpa using e2
theorem after_ownd {st:Option Bytes} {q:Nat} (hq:∀ b x r1 n r2,st=some b→pStr b=some (x,r1)→pLen false r1=some (n,r2)→q=n.toNat) :
    after st pOwnd=after (after (after st pStr) (pLen false)) (pMany (pInt 4) q):=by
  unfold pOwnd
  cases st with
  | none=>rfl
  | some b =>
    cases h1:pStr b with
    | none=>rw [after_then_none (after_no h1),after_no h1];rfl
    | some z =>
      obtain ⟨x,r1⟩:=z
      rw [after_then _ _ _ rfl h1,after_ok h1]
      cases h2:pLen false r1 with
      | none=>rw [after_then_none (after_no h2),after_no h2];rfl
      | some z2 =>
        obtain ⟨n,r2⟩:=z2
        rw [after_then _ _ _ rfl h2,after_ok h2,hq b x r1 n r2 rfl h1 h2,after_map]
theorem w32 {n:Int} (h1:-2147483648≤n) (h2:n < 2147483648):IntKind.i32.wrap n=n:=by
  simp only [IntKind.wrap,IntKind.bits,IntKind.signed]
  simp
  split <;> omega
structure StTy (P:Program) (TR T1 T2 T3 T4 T5 T6 T7:Nat):Prop where
  row:RowT P T3 T5
  i1:intK P T1=some .i32
  i4:intK P T4=some .i64
  one1:oneB P T1=true
  f20:fieldOff P T2 0=some 0
  f21:fieldOff P T2 1=some 1
  one3:oneB P T3=true
  one6:oneB P T6=true
  one7:oneB P T7=true
  sl7:sliceB P T7 T1 1=true
  sl3:sliceB P T3 T5 2=true
  z5:∃ i z,P.info? T5=some i∧i.zero=some z∧0 < i.size∧i.bytes≤131072∧z.cells=#[.string ⟨#[]⟩,.slice none 0 0]
  z1:∃ i z,P.info? T1=some i∧i.zero=some z∧0 < i.size∧i.bytes≤131072∧z.cells.size=1
theorem elem_ok {TR T1 T2 T3 T4 T5 T6 T7 F0 F1 F2 F3 gb rb b cb i m mc:Nat} {gen0:Value} {S:Option Nat} {st:Option Bytes} {cs:Array Value} {a:Act} {w:World} {Q:Exit→Act→World→Prop} (hm:P.follows .mixedOrders=true) (hT:StTy P TR T1 T2 T3 T4 T5 T6 T7) (cA:RCZ P TR gb .i32 F0 (pLen false)) (cS:RStrC P TR gb F2) (cI:RCZ P TR gb .i32 F3 (pInt 4))
    (hs:a.tmps.size=138) (hd:a.defers=[]) (g0:getT a 0=.pointer (some ⟨b,0,none⟩)) (g2:getT a 2=.bool false) (g7:getT a 7=.pointer (some ⟨rb,0,none⟩)) (g10:getT a 10=.int .i32 (i:Int)) (hi:i < m)
    (hb:w.heap[b]?=some (.cells #[.slice (some ⟨cb,0,none⟩) m mc,gen0] T2 (0,0))) (hrow:w.heap[cb]?=some (.cells cs T5 (0,0))) (hz:cs[i * 2]?=some (.string ⟨#[]⟩)∧cs[i * 2+1]?=some (.slice none 0 0)) (hbr:b ≠ rb) (hcr:cb ≠ rb) (hbc:b ≠ cb) (hgb:gb < w.heap.size)
    (hst:RdAt TR w S rb st) (hS:∀ sb,S=some sb→sb ≠ rb∧sb < w.heap.size∧sb ≠ cb)
    (h:∀ a' w' (x:Ownd) (cs':Array Value),a'.tmps.size=138→a'.defers=[]→(∀ s,s < 11→getT a' s=getT a s)→RdAt TR w' S rb (after st pOwnd)→Keep (fun k=>k=rb∨k=cb) w w'→w'.heap[cb]?=some (.cells cs' T5 (0,0))→cs'.size=cs.size→(∀ k,k ≠ i * 2→k ≠ i * 2+1→cs'[k]?=cs[k]?)→(∃ v1 v2,cs'[i * 2]?=some v1∧cs'[i * 2+1]?=some v2∧OwndV w' (fun k=>w.heap.size≤k∧k < w'.heap.size) x v1 v2)→(∀ bb y r,st=some bb→pOwnd bb=some (y,r)→x=y)→Q .normal a' w') :
    (sc_elem T1 T2 T3 T4 T5 T6 T7 F0 F1 F2 F3).wp P Q a w:=by
  obtain ⟨hR,hi1,hi4,ho1,hf20,hf21,ho3,ho6,ho7,hsl7,_,_,⟨it,zt,hit,hzt,hzs,hzb,hzc⟩⟩:=hT
  have hf0:=hR.f0
  have hf1:=hR.f1
  have hs3:=hR.sl
  have hs7:=sliceN_of hsl7
  have hbl:b < w.heap.size:=(Array.getElem?_eq_some_iff.1 hb).1
  have hcl:cb < w.heap.size:=(Array.getElem?_eq_some_iff.1 hrow).1
  have hsz:i * 2+1 < cs.size:=(Array.getElem?_eq_some_iff.1 hz.2).1
  unfold sc_elem
  refine SC.wp_seq (SC.wp_reg ?_)
  repeat (apply ops_1;(focus (simp (disch:=(try simp only [sPu]);omega) ;try rfl)))
  refine oNi (SC.wp_seq (SC.wp_seq (SC.wp_reg ?_)))
  repeat (apply ops_1;(focus (simp (disch:=(try simp only [sPu]);omega) [g2];try rfl)))
  refine oNi ?_
  simp only [Exit.then]
  refine SC.wp_cond (t:=false) (by simp (disch:=(try simp only [sPu]);omega)) ?_
  rw [if_neg (by simp)]
  refine SC.wp_reg ?_
  refine ops_call cS.1 (cS.2 w S rb st hgb hst (fun sb h=>⟨(hS sb h).1,(hS sb h).2.1⟩)) (by simp (disch:=(try simp only [sPu]);omega) [g7]) ?_
  rintro e w1 ⟨t,rfl,hat1,hon1,ht1⟩
  refine ⟨_,rfl,?_⟩
  repeat (apply ops_1;(focus (simp (disch:=(try simp only [sPu]);omega) ;try rfl)))
  refine oNi ?_
  simp only [Exit.then]
  have hs1:=hon1.size
  refine SC.wp_seq (SC.wp_reg ?_)
  refine ops_call cA.1 (cA.2 w1 S rb _ (by omega) hat1 (fun sb h=>⟨(hS sb h).1,by have:=(hS sb h).2.1;omega⟩)) (by simp (disch:=(try simp only [sPu]);omega) [g7]) ?_
  rintro e w2 ⟨n,rfl,hat2,hon2,hn0,hn2⟩
  refine ⟨_,rfl,?_⟩
  repeat (apply ops_1;(focus (simp (disch:=(try simp only [sPu]);omega) ;try rfl)))
  refine oNi ?_
  simp only [Exit.then]
  have hs2:=hon2.size
  have hon12:Only rb w w2:=hon1.trans hon2
  have hrng:-2147483648≤n∧n < 2147483648:=by
    cases e1:after (after st pStr) (pLen false) with
    | none=>rw [hn0 e1];omega
    | some rr =>
      cases e2:after st pStr with
      | none=>rw [e2] at e1;cases e1
      | some r1 =>
        rw [e2] at e1
        cases e3:pLen false r1 with
        | none=>rw [after_no e3] at e1;cases e1
        | some z =>
          obtain ⟨l,r2⟩:=z
          rw [hn2 r1 l r2 e2 e3]
          have h1:=pLen_lt e3
          rw [pLen_eq] at e3
          obtain ⟨l2,r3,k1,k2⟩:=rThen_some e3
          have h2:=pInt_rng (k:=4) (by omega) (show pInt 4 r1=some (l2,r3) from k1)
          split at k2
          · cases k2
          · cases k2
            omega
  obtain ⟨q,hq⟩:∃ q:Nat,q=n.toNat:=⟨_,rfl⟩
  have hq31:q < 2147483648:=by omega
  have hst3:after st pOwnd=after (after (after st pStr) (pLen false)) (pMany (pInt 4) q):=after_ownd fun b0 x r1 n0 r2 e1 e2 e3=>by
    rw [hq,hn2 r1 n0 r2 (by rw [e1,after_ok e2]) e3]
  have stepD:∀ (a1:Act) (Q1:Exit→Act→World→Prop),a1.tmps.size=138→getT a1 12=.int .i32 n→(∀ a2,a2.tmps.size=138→a2.defers=a1.defers→(∀ s,s < 12→getT a2 s=getT a1 s)→getT a2 12=.int .i32 (q:Int)→Q1 .normal a2 w2) →
      (SC.seq (.reg [mv 64 12,⟨some 65,.binOp .lss T1 (.tmp 64) (.const (.int .i32 0)) T1,none⟩]) (.cond (.tmp 65) (.reg [⟨some 12,.assign (.const (.int .i32 0)),none⟩]) (.skip))).wp P Q1 a1 w2:=by
    intro a1 Q1 z1 z2 z3
    refine SC.wp_seq (SC.wp_reg ?_)
    repeat (apply ops_1;(focus (simp (disch:=(try simp only [sPu]);omega) [z2];try rfl)))
    refine oNi (SC.wp_cond (t:=decide (n < 0)) (by simp (disch:=(try simp only [sPu]);omega)) ?_)
    by_cases hn:n < 0
    · rw [if_pos (by simpa using hn)]
      refine SC.wp_reg ?_
      repeat (apply ops_1;(focus (simp (disch:=(try simp only [sPu]);omega) ;try rfl)))
      refine oNi (z3 _ (by simp [sPu,z1]) (by simp [dPu]) (fun s hs=>by simp (disch:=(try simp only [sPu]);omega)) ?_)
      have:q=0:=by omega
      subst this
      simp (disch:=(try simp only [sPu]);omega)
    · rw [if_neg (by simpa using hn)]
      refine SC.wp_skip (z3 _ (by simp [sPu,z1]) (by simp [dPu]) (fun s hs=>by simp (disch:=(try simp only [sPu]);omega)) ?_)
      have:n=(q:Int):=by omega
      simp (disch:=(try simp only [sPu]);omega) [z2,this]
  refine SC.wp_seq (stepD _ _ (by simp [sPu,hs]) (by simp (disch:=(try simp only [sPu]);omega)) fun a2 y1 y2 y3 y12=>?_)
  clear stepD
  simp only [Exit.then]
  have x0:getT a2 0=.pointer (some ⟨b,0,none⟩):=by rw [y3 0 (by omega)];simp (disch:=(try simp only [sPu]);omega) [g0]
  have x7:getT a2 7=.pointer (some ⟨rb,0,none⟩):=by rw [y3 7 (by omega)];simp (disch:=(try simp only [sPu]);omega) [g7]
  have x10:getT a2 10=.int .i32 (i:Int):=by rw [y3 10 (by omega)];simp (disch:=(try simp only [sPu]);omega) [g10]
  have x11:getT a2 11=.string ⟨t.toArray⟩:=by rw [y3 11 (by omega)];simp (disch:=(try simp only [sPu]);omega)
  have xk:∀ s,s < 11→getT a2 s=getT a s:=fun s z=>by rw [y3 s (by omega)];simp (disch:=(try simp only [sPu]);omega)
  have xd:a2.defers=[]:=by rw [y2];simp [dPu,hd]
  clear y2 y3
  have hb2:w2.heap[b]?=some (.cells #[.slice (some ⟨cb,0,none⟩) m mc,gen0] T2 (0,0)):=by rw [hon12.block b hbl hbr];exact hb
  have hc2:w2.heap[cb]?=some (.cells cs T5 (0,0)):=by rw [hon12.block cb hcl hcr];exact hrow
  have e20:w2.cell? ⟨b,0,none⟩=some (.slice (some ⟨cb,0,none⟩) m mc):=by rw [cell_of_row _ _ _ _ _ _ hb2];rfl
  have hi':(i:Int) < (m:Int):=by omega
  refine SC.wp_seq (SC.wp_reg ?_)
  repeat (apply ops_1;(focus (simp (disch:=(try simp only [sPu]);omega) [x0,x10,hf20,ho3,e20,hs3,hi,hi'];try rfl)))
  refine oNi ?_
  simp only [Exit.then]
  refine SC.wp_seq (SC.wp_reg ?_)
  iterate 4 (apply ops_1;(focus (simp (disch:=(try simp only [sPu]);omega) [x11,hf0];try rfl)))
  refine oNo rfl (opw_store_one (ad:=⟨cb,i * 2,none⟩) (v:=.string ⟨t.toArray⟩) (v0:=.string ⟨#[]⟩) ho6 (by simp (disch:=(try simp only [sPu]);omega)) (by simp (disch:=(try simp only [sPu]);omega)) rfl (by rw [cell_of_row _ _ _ _ _ _ hc2];exact hz.1) (by simp [World.frozen?,hc2]) (oNi ?_))
  rw [pNo,setCell_eq_setRow _ _ _ _ _ _ _ hc2]
  simp only [Exit.then]
  obtain ⟨cs1,hcs1⟩:∃ cs1,cs1=cs.setIfInBounds (i * 2) (.string ⟨t.toArray⟩):=⟨_,rfl⟩
  rw [← hcs1]
  have hc3:=setRow_heap w2 cb _ cs1 _ _ hc2
  have hk3:Keep (fun k=>k=rb∨k=cb) w (w2.setRow cb cs1):=(Keep.of_only hon12 (.inl rfl)).setRow (.inl (.inr rfl)) _
  have hat3:RdAt TR (w2.setRow cb cs1) S rb (after (after st pStr) (pLen false)):=RdAt.frame hat2 (setRow_other _ _ _ _ (Ne.symm hcr)) (fun sb h=>setRow_other _ _ _ _ (hS sb h).2.2)
  have hsz3:(w2.setRow cb cs1).heap.size=w2.heap.size:=by simp
  generalize w2.setRow cb cs1=w3 at *
  have hcsz:cs1.size=cs.size:=by rw [hcs1];simp
  have hc10:cs1[i * 2]?=some (.string ⟨t.toArray⟩):=by rw [hcs1];exact Array.getElem?_setIfInBounds_self_of_lt (by omega)
  have hc11:cs1[i * 2+1]?=some (.slice none 0 0):=by rw [hcs1,Array.getElem?_setIfInBounds_ne (by omega)];exact hz.2
  have e31:w3.cell? ⟨cb,i * 2+1,none⟩=some (.slice none 0 0):=by rw [cell_of_row _ _ _ _ _ _ hc3];exact hc11
  have w00:IntKind.i32.wrap 0=0:=w32 (by decide) (by decide)
  have wq:IntKind.i32.wrap (q:Int)=(q:Int):=w32 (by omega) (by omega)
  have hsm7:(sliceN P T7).isSome=true:=by rw [hs7];rfl
  refine SC.wp_seq (SC.wp_reg ?_)
  iterate 5 (apply ops_1;(focus (simp (disch:=(try simp only [sPu]);omega) [y12,hf1,ho7,e31];try rfl)))
  refine oNo rfl (opw_cap (base:=none) (len:=0) (cap:=0) hsm7 (by simp (disch:=(try simp only [sPu]);omega)) rfl ?_)
  repeat (apply ops_1;(focus (simp (disch:=(try simp only [sPu]);omega) [hi1,hi4,w00,wq];try rfl)))
  refine oNi ?_
  simp only [Exit.then]
  have stepE:∀ (a1:Act) (Q1:Exit→Act→World→Prop),a1.tmps.size=138→getT a1 12=.int .i32 (q:Int)→getT a1 13=.pointer (some ⟨cb,i * 2,none⟩)→getT a1 14=.int .i32 (q:Int) →
      (∀ a4 w4 (pb:Option Addr) (pc:Nat),a4.tmps.size=138→a4.defers=a1.defers→(∀ s,s < 84→getT a4 s=getT a1 s)→w4.heap[cb]?=some (.cells (cs1.setIfInBounds (i * 2+1) (.slice pb q pc)) T5 (0,0))→Keep (fun k=>k=cb) w3 w4→((q=0∧pb=none)∨∃ (p0:Nat) (ps:Array Value),pb=some ⟨p0,0,none⟩∧w3.heap.size≤p0∧w4.heap[p0]?=some (.cells ps T1 (0,0))∧q≤ps.size)→Q1 .normal a4 w4) →
      (SC.seq (.reg [mv 84 14,⟨some 85,.binOp .gtr T1 (.tmp 84) (.const (.int .i32 0)) T1,none⟩]) (.cond (.tmp 85) (.dreg [mv 86 13,mv 87 13,nilc 88 87,fa 89 T5 88 1,ld 90 T7 89,mv 91 13,nilc 92 91,fa 93 T5 92 1,ld 94 T7 93,⟨some 95,.call ⟨.builtin .cap,#[(.tmp 94)],#[T7]⟩,none⟩,⟨some 96,.slice T7 (.tmp 90) none (some (.tmp 95)) none,none⟩,mv 97 14,⟨some 98,.call ⟨.builtin .append,#[(.tmp 96),(.tmp 97)],#[T7,T1]⟩,none⟩,nilc 99 86,fa 100 T5 99 1,⟨none,.store T7 (.tmp 100) (.tmp 98),none⟩] [[],[],[1],[2],[3],[],[5],[6],[7],[8],[4,9],[],[10,11],[0,0,1,2,3,4,5,6,7,8,9,10,11,12],[13,0,1,2,3,4,5,6,7,8,9,10,11,12],[14,12,12,0,1,2,3,4,5,6,7,8,9,10,11,12]]) (.reg [mv 101 13,mv 102 13,nilc 103 102,fa 104 T5 103 1,ld 105 T7 104,mv 106 12,⟨some 107,.slice T7 (.tmp 105) none (some (.tmp 106)) none,none⟩,nilc 108 101,fa 109 T5 108 1,⟨none,.store T7 (.tmp 109) (.tmp 107),none⟩]))).wp P Q1 a1 w3:=by
    intro a1 Q1 z1 z12 z13 z14 z3
    refine SC.wp_seq (SC.wp_reg ?_)
    repeat (apply ops_1;(focus (simp (disch:=(try simp only [sPu]);omega) [z14];try rfl)))
    refine oNi (SC.wp_cond (t:=decide ((0:Int) < (q:Int))) (by simp (disch:=(try simp only [sPu]);omega)) ?_)
    by_cases hq0:0 < q
    · rw [if_pos (decide_eq_true (by omega))]
      obtain ⟨SS,hSS⟩:∃ SS:World→Prop,SS=fun w'=>w'.heap[cb]?=some (.cells cs1 T5 (0,0)):=⟨_,rfl⟩
      have hS0:SS w3.drew:=by rw [hSS];exact hc3
      have hSc:∀ w',SS w'→∀ b' o',(fun b'=>decide (b'=cb)) b'=true→w'.cell? ⟨b',o',none⟩=w3.cell? ⟨b',o',none⟩:=fun w' h b' o' hb'=>by
        rw [hSS] at h
        have:b'=cb:=of_decide_eq_true hb'
        rw [this,cell_of_row _ _ _ _ _ _ h,cell_of_row _ _ _ _ _ _ hc3]
      refine SC.wp_dregL hm SS 15 [(0,true),(1,true),(2,true),(3,true),(4,true),(5,true),(6,true),(7,true),(8,true),(11,true),(9,false),(10,false),(12,false),(13,false),(14,false),(15,false)] (by rfl) (by rfl) (by decide) hS0 ?_
      refine dl_S (v:=.pointer (some ⟨cb,i * 2,none⟩)) hSc rfl (by simp (disch:=(try simp only [sPu]);omega) [qv,z13]) ?_
      refine dl_S (v:=.pointer (some ⟨cb,i * 2,none⟩)) hSc rfl (by simp (disch:=(try simp only [sPu]);omega) [qv,z13]) ?_
      refine dl_S (v:=.pointer (some ⟨cb,i * 2,none⟩)) hSc rfl (by simp (disch:=(try simp only [sPu]);omega) [qv]) ?_
      refine dl_S (v:=.pointer (some ⟨cb,i * 2+1,none⟩)) hSc rfl (by simp (disch:=(try simp only [sPu]);omega) [qv,hf1]) ?_
      refine dl_S (v:=.slice none 0 0) hSc rfl (by simp (disch:=(try simp only [sPu]);omega) [qv,ho7];exact e31) ?_
      refine dl_S (v:=.pointer (some ⟨cb,i * 2,none⟩)) hSc rfl (by simp (disch:=(try simp only [sPu]);omega) [qv,z13]) ?_
      refine dl_S (v:=.pointer (some ⟨cb,i * 2,none⟩)) hSc rfl (by simp (disch:=(try simp only [sPu]);omega) [qv]) ?_
      refine dl_S (v:=.pointer (some ⟨cb,i * 2+1,none⟩)) hSc rfl (by simp (disch:=(try simp only [sPu]);omega) [qv,hf1]) ?_
      refine dl_S (v:=.slice none 0 0) hSc rfl (by simp (disch:=(try simp only [sPu]);omega) [qv,ho7];exact e31) ?_
      refine dl_S (v:=.int .i32 (q:Int)) hSc rfl (by simp (disch:=(try simp only [sPu]);omega) [qv,z14]) ?_
      refine dl_n rfl rfl (opw_cap (base:=none) (len:=0) (cap:=0) hsm7 (by simp (disch:=(try simp only [sPu]);omega)) rfl ⟨fun _=>hS0,?_⟩)
      refine dl_1 (v:=.slice none 0 0) rfl (by simp (disch:=(try simp only [sPu]);omega) [qv,hs7]) hS0 ?_
      refine dl_n rfl rfl (opw_makeZ (m:=q) hsl7 hi1 hit hzt hzs hzb (by simp (disch:=(try simp only [sPu]);omega)) (by simp (disch:=(try simp only [sPu]);omega)) hq0 hq31 fun cap hcap=>?_)
      have hnew:=heap_alloc_new w3.drew.drew (.cells (Builtin.zeroCells zt.cells q ++ Builtin.zeroCells zt.cells (cap - q)) T1)
      have hcb5:(w3.drew.drew.alloc (.cells (Builtin.zeroCells zt.cells q ++ Builtin.zeroCells zt.cells (cap - q)) T1)).heap[cb]?=some (.cells cs1 T5 (0,0)):=by rw [Below.heap_alloc w3.drew.drew _ _ (show cb < w3.heap.size by omega)];exact hc3
      have hk5:Keep (fun k=>k=cb) w3 (w3.drew.drew.alloc (.cells (Builtin.zeroCells zt.cells q ++ Builtin.zeroCells zt.cells (cap - q)) T1)):=(Keep.refl _ w3).drew.drew.alloc _
      have hdd:w3.drew.drew.heap.size=w3.heap.size:=rfl
      rw [hdd] at hnew
      have hzsz:q≤(Builtin.zeroCells zt.cells q ++ Builtin.zeroCells zt.cells (cap - q)).size:=by simp [Builtin.zeroCells,hzc]
      have hdd2:w3.drew.heap.size=w3.heap.size:=rfl
      rw [hdd2]
      generalize w3.drew.drew.alloc (.cells (Builtin.zeroCells zt.cells q ++ Builtin.zeroCells zt.cells (cap - q)) T1)=w5 at *
      generalize Builtin.zeroCells zt.cells q ++ Builtin.zeroCells zt.cells (cap - q)=ps at *
      have hS5:SS w5:=by rw [hSS];exact hcb5
      refine ⟨fun _=>hS5,?_⟩
      refine dl_1 (v:=.pointer (some ⟨cb,i * 2,none⟩)) rfl (by simp (disch:=(try simp only [sPu]);omega) [qv]) hS5 ?_
      refine dl_1 (v:=.pointer (some ⟨cb,i * 2+1,none⟩)) rfl (by simp (disch:=(try simp only [sPu]);omega) [qv,hf1]) hS5 ?_
      refine dl_n rfl rfl (opw_store_one (ad:=⟨cb,i * 2+1,none⟩) (v:=.slice (some ⟨w3.heap.size,0,none⟩) q cap) (v0:=.slice none 0 0) ho7 (by simp (disch:=(try simp only [sPu]);omega)) (by simp (disch:=(try simp only [sPu]);omega)) rfl (by rw [cell_of_row _ _ _ _ _ _ hcb5];exact hc11) (by simp [World.frozen?,hcb5]) ?_)
      rw [pNo,setCell_eq_setRow _ _ _ _ _ _ _ hcb5]
      refine ⟨fun h=>absurd rfl h,dl_nil ?_⟩
      have hne:w3.heap.size ≠ cb:=by omega
      exact z3 _ _ (some ⟨w3.heap.size,0,none⟩) cap (by simp [sPu,z1]) (by simp [dPu]) (fun s hs=>by simp (disch:=(try simp only [sPu]);omega)) (setRow_heap w5 cb _ _ _ _ hcb5) (hk5.setRow (.inl rfl) _) (.inr ⟨w3.heap.size,ps,rfl,Nat.le_refl _,by rw [setRow_other _ _ _ _ hne];exact hnew,hzsz⟩)
    · have hq00:q=0:=by omega
      subst hq00
      rw [if_neg (by simp)]
      refine SC.wp_reg ?_
      iterate 9 (apply ops_1;(focus (simp (disch:=(try simp only [sPu]);omega) [z12,z13,hf1,ho7,e31,hs7];try rfl)))
      refine oNo rfl (opw_store_one (ad:=⟨cb,i * 2+1,none⟩) (v:=.slice none 0 0) (v0:=.slice none 0 0) ho7 (by simp (disch:=(try simp only [sPu]);omega)) (by simp (disch:=(try simp only [sPu]);omega)) rfl e31 (by simp [World.frozen?,hc3]) (oNi ?_))
      rw [pNo,setCell_eq_setRow _ _ _ _ _ _ _ hc3]
      exact z3 _ _ none 0 (by simp [sPu,z1]) (by simp [dPu]) (fun s hs=>by simp (disch:=(try simp only [sPu]);omega)) (setRow_heap w3 cb _ _ _ _ hc3) ((Keep.refl (fun k=>k=cb) w3).setRow (b:=cb) (.inl rfl) _) (.inl ⟨rfl,rfl⟩)
  refine SC.wp_seq (stepE _ _ (by simp [sPu,y1]) (by simp (disch:=(try simp only [sPu]);omega) [y12]) (by simp (disch:=(try simp only [sPu]);omega)) (by simp (disch:=(try simp only [sPu]);omega)) fun a4 w4 pb pc u1 u2 u3 hc4 hk4 hpb=>?_)
  clear stepE
  simp only [Exit.then]
  have hs4:=hk4.size
  have v7:getT a4 7=.pointer (some ⟨rb,0,none⟩):=by rw [u3 7 (by omega)];simp (disch:=(try simp only [sPu]);omega) [x7]
  have v13:getT a4 13=.pointer (some ⟨cb,i * 2,none⟩):=by rw [u3 13 (by omega)];simp (disch:=(try simp only [sPu]);omega)
  have vd:a4.defers=[]:=by rw [u2];simp [dPu,xd]
  have vk:∀ s,s < 11→getT a4 s=getT a s:=fun s z=>by rw [u3 s (by omega),← xk s z];simp (disch:=(try simp only [sPu]);omega)
  have hrb3:rb < w3.heap.size:=by
    rcases rdAt_row hat3 with ⟨_,h⟩ | ⟨_,_,_,_,h,_⟩ <;> exact rdAt_lt h
  have hat4:RdAt TR w4 S rb (after (after st pStr) (pLen false)):=RdAt.frame hat3 (hk4.block rb hrb3 (fun e=>hcr e.symm)) (fun sb h=>hk4.block sb (by have:=(hS sb h).2.1;omega) (hS sb h).2.2)
  have hpb':q=0∨∃ (p0:Nat) (ps:Array Value),pb=some ⟨p0,0,none⟩∧w4.heap[p0]?=some (.cells ps T1 (0,0))∧q≤ps.size∧p0 ≠ rb∧p0 ≠ cb∧S ≠ some p0:=by
    rcases hpb with ⟨h,_⟩ | ⟨p0,ps,k1,k2,k3,k4⟩
    · exact .inl h
    · exact .inr ⟨p0,ps,k1,k3,k4,by omega,by omega,fun e=>by have:=(hS p0 e).2.1;omega⟩
  refine partsRd_ok (rb:=rb) (cb:=cb) (e:=i * 2) (q:=q) (pc:=pc) (pb:=pb) (S:=S) hm hR ho7 hs7 ho1 cI u1 vd v7 v13 hc4 (Array.getElem?_setIfInBounds_self_of_lt (by omega)) hcr (by omega) hq31 hpb' hat4 (fun sb h=>⟨(hS sb h).1,by have:=(hS sb h).2.1;omega⟩) fun a5 w5 vs f1 f2 f3 f4 f5 f6 f7 f8=>?_
  have hs5:=f5.size
  have hk45:Keep (fun k=>k=rb∨k=cb) w w5:=(hk3.trans' hk4 (fun k _ h=>.inr h)).trans' f5 (fun k hk h=>by
    rcases h with h | ⟨p0,h1,h2⟩
    · exact .inl h
    · rcases hpb with ⟨_,h0⟩ | ⟨p1,ps,k1,k2,_⟩
      · rw [h0] at h1
        cases h1
      · rw [h1] at k1
        cases k1
        omega)
  have hc5:w5.heap[cb]?=some (.cells (cs1.setIfInBounds (i * 2+1) (.slice pb q pc)) T5 (0,0)):=by
    rw [f5.block cb (by omega) (by
      rintro (h | ⟨p0,h1,h2⟩)
      · exact hcr h
      · rcases hpb with ⟨_,h0⟩ | ⟨p1,ps,k1,k2,_⟩
        · rw [h0] at h1;cases h1
        · rw [h1] at k1;cases k1;omega)]
    exact hc4
  refine h a5 w5 (t,vs) (cs1.setIfInBounds (i * 2+1) (.slice pb q pc)) f1 f2 (fun s z=>by rw [f3 s (by omega) (by omega)];exact vk s z) (by rw [hst3];exact f4) hk45 hc5 (by simp [hcsz]) (fun k k1 k2=>by rw [Array.getElem?_setIfInBounds_ne (Ne.symm k2),hcs1,Array.getElem?_setIfInBounds_ne (Ne.symm k1)]) ⟨_,_,by rw [Array.getElem?_setIfInBounds_ne (by omega)];exact hc10,Array.getElem?_setIfInBounds_self_of_lt (by omega),rfl,pb,pc,by rw [f6],?_⟩ ?_
  · rcases hpb with ⟨h0,_⟩ | ⟨p0,ps,k1,k2,k3,_⟩
    · exact .inl (List.eq_nil_of_length_eq_zero (by rw [f6,h0]))
    · have hp4:=(Array.getElem?_eq_some_iff.1 k3).1
      exact .inr ⟨p0,0,k1,⟨by omega,by omega⟩,fun j x hx=>by rw [Nat.zero_add];exact f7 p0 k1 j x hx⟩
  · intro bb y r hbb hp
    unfold pOwnd at hp
    obtain ⟨x,r1,p1,p2⟩:=rThen_some hp
    obtain ⟨n0,r2,p3,p4⟩:=rThen_some p2
    obtain ⟨xs,r3,p5,p6⟩:=rThen_some p4
    obtain ⟨rfl,rfl⟩:=rOk_some p6
    have e1:after st pStr=some r1:=by rw [hbb,after_ok p1]
    have e2:q=n0.toNat:=by rw [hq,hn2 r1 n0 r2 e1 p3]
    have e3:after (after st pStr) (pLen false)=some r2:=by rw [e1,after_ok p3]
    rw [ht1 bb x r1 hbb p1,f8 r2 xs _ e3 (by rw [e2];exact p5)]
end
end Go.Proofs.YtoiipagmhmohdaaDoor.K
namespace Go.Proofs.YtoiipagmhmohdaaDoor.K
open Go Go.RowKit Go.Proofs.YtoiipagmhmohdaaDoor.T
attribute [local simp] eTm eCo pNo gTp gTn qv qcall vop iop
set_option linter.unusedSimpArgs false
set_option linter.unusedVariables false
set_option maxHeartbeats 4000000
def sc_listRoom (T1 T2 T3:Nat):SC:=.seq (.reg [mv 29 9,⟨some 30,.binOp .gtr T1 (.tmp 29) (.const (.int .i32 0)) T1,none⟩]) (.cond (.tmp 30) (.dreg [mv 31 0,mv 32 0,nilc 33 32,fa 34 T2 33 0,ld 35 T3 34,mv 36 0,nilc 37 36,fa 38 T2 37 0,ld 39 T3 38,⟨some 40,.call ⟨.builtin .cap,#[(.tmp 39)],#[T3]⟩,none⟩,⟨some 41,.slice T3 (.tmp 35) none (some (.tmp 40)) none,none⟩,mv 42 9,⟨some 43,.call ⟨.builtin .append,#[(.tmp 41),(.tmp 42)],#[T3,T1]⟩,none⟩,nilc 44 31,fa 45 T2 44 0,⟨none,.store T3 (.tmp 45) (.tmp 43),none⟩] [[],[],[1],[2],[3],[],[5],[6],[7],[8],[4,9],[],[10,11],[0,0,1,2,3,4,5,6,7,8,9,10,11,12],[13,0,1,2,3,4,5,6,7,8,9,10,11,12],[14,12,12,0,1,2,3,4,5,6,7,8,9,10,11,12]]) (.reg [mv 46 0,mv 47 0,nilc 48 47,fa 49 T2 48 0,ld 50 T3 49,mv 51 8,⟨some 52,.slice T3 (.tmp 50) none (some (.tmp 51)) none,none⟩,nilc 53 46,fa 54 T2 53 0,⟨none,.store T3 (.tmp 54) (.tmp 52),none⟩]))
def sc_stLoop (T1 T2 T3 T4 T5 T6 T7 F0 F1 F2 F3:Nat):SC:=.seq (.reg [⟨some 10,.assign (.const (.int .i32 0)),none⟩]) (.block 0 (.loop (.seq (.seq (.reg [mv 55 10,mv 56 8,⟨some 57,.binOp .lss T1 (.tmp 55) (.tmp 56) T1,none⟩]) (.cond (.tmp 57) (.skip) (.exit 0))) (.seq (.block 1 (sc_elem T1 T2 T3 T4 T5 T6 T7 F0 F1 F2 F3)) (.reg [mv 58 10,⟨some 59,.binOp .add T1 (.tmp 58) (.const (.int .i32 1)) T1,none⟩,asg 10 59])))))
def sc_StRead (T0 T1 T2 T3 T4 T5 T6 T7 T8 F0 F1 F2 F3 F4:Nat):SC:=.seq (.reg [⟨some 6,.assign (.const .nilIface),none⟩]) (.seq (.reg [mv 16 1,⟨some 17,.build T0 #[(0,(.tmp 16))],none⟩,⟨some 7,.alloc T0,none⟩,⟨none,.store T0 (.tmp 7) (.tmp 17),none⟩]) (.seq (.reg [cal 18 F0 [7],asg 8 18]) (.seq (.seq (.reg [mv 19 8,⟨some 20,.binOp .lss T1 (.tmp 19) (.const (.int .i32 0)) T1,none⟩]) (.cond (.tmp 20) (.reg [⟨some 8,.assign (.const (.int .i32 0)),none⟩]) (.skip))) (.seq (.reg [mv 21 8,mv 22 0,nilc 23 22,fa 24 T2 23 0,ld 25 T3 24,⟨some 26,.call ⟨.builtin .cap,#[(.tmp 25)],#[T3]⟩,none⟩,⟨some 27,.convert T4 T1 (.tmp 26),none⟩,⟨some 28,.binOp .sub T1 (.tmp 21) (.tmp 27) T1,none⟩,asg 9 28]) (.seq (sc_listRoom T1 T2 T3) (.seq (sc_stLoop T1 T2 T3 T4 T5 T6 T7 F0 F1 F2 F3) (.seq (.seq (.reg [fa 126 T0 7 0,ld 127 T8 126,lenOp 128 T8 127,⟨some 129,.binOp .gtr T4 (.tmp 128) (.const (.int .i64 0)) T4,none⟩]) (.cond (.tmp 129) (.reg [mv 130 0,cal 131 F3 [7],nilc 132 130,fa 133 T2 132 1,⟨none,.store T1 (.tmp 133) (.tmp 131),none⟩]) (.reg [mv 134 0,nilc 135 134,fa 136 T2 135 1,⟨none,.store T1 (.tmp 136) (.const (.int .i32 (-1))),none⟩]))) (.seq (.reg [cal 137 F4 [7],asg 6 137]) (.ret)))))))))
section
variable {P:Program} {f:FuncId} {fn:Func}
def Elts (w:World) (B:Nat) (cs:Array Value) (vs:List Ownd) (i m:Nat):Prop :=
  (∀ (j:Nat) (x:Ownd),vs[j]?=some x→∃ v1 v2,cs[j * 2]?=some v1∧cs[j * 2+1]?=some v2∧OwndV w (fun k=>B≤k∧k < w.heap.size) x v1 v2)∧∀ j,i≤j→j < m→cs[j * 2]?=some (.string ⟨#[]⟩)∧cs[j * 2+1]?=some (.slice none 0 0)
theorem listRoom_ok {TR T1 T2 T3 T4 T5 T6 T7 b m:Nat} {gen0:Value} {a:Act} {w:World} {Q:Exit→Act→World→Prop} (hm:P.follows .mixedOrders=true) (hT:StTy P TR T1 T2 T3 T4 T5 T6 T7) (hs:a.tmps.size=138) (g0:getT a 0=.pointer (some ⟨b,0,none⟩)) (g8:getT a 8=.int .i32 (m:Int)) (g9:getT a 9=.int .i32 (m:Int)) (hm31:m < 2147483648) (hb:w.heap[b]?=some (.cells #[.slice none 0 0,gen0] T2 (0,0)))
    (h:∀ a' w' (lb:Option Addr) (lc:Nat),a'.tmps.size=138→a'.defers=a.defers→(∀ s,s < 29→getT a' s=getT a s)→w'.heap[b]?=some (.cells #[.slice lb m lc,gen0] T2 (0,0))→Keep (fun k=>k=b) w w'→((m=0∧lb=none)∨∃ (cs:Array Value),lb=some ⟨w.heap.size,0,none⟩∧w'.heap[w.heap.size]?=some (.cells cs T5 (0,0))∧m * 2≤cs.size∧∀ j,j < m→cs[j * 2]?=some (.string ⟨#[]⟩)∧cs[j * 2+1]?=some (.slice none 0 0))→Q .normal a' w'):(sc_listRoom T1 T2 T3).wp P Q a w:=by
  obtain ⟨hR,hi1,hi4,ho1,hf20,hf21,ho3,ho6,ho7,hsl7,hsl3,⟨it,zt,hit,hzt,hzs,hzb,hzc⟩,_⟩:=hT
  have hs3:=sliceN_of hsl3
  have hsm3:(sliceN P T3).isSome=true:=by rw [hs3];rfl
  have hbl:b < w.heap.size:=(Array.getElem?_eq_some_iff.1 hb).1
  have e0:w.cell? ⟨b,0,none⟩=some (.slice none 0 0):=by rw [cell_of_row _ _ _ _ _ _ hb];rfl
  unfold sc_listRoom
  refine SC.wp_seq (SC.wp_reg ?_)
  repeat (apply ops_1;(focus (simp (disch:=(try simp only [sPu]);omega) [g9];try rfl)))
  refine oNi (SC.wp_cond (t:=decide ((0:Int) < (m:Int))) (by simp (disch:=(try simp only [sPu]);omega)) ?_)
  by_cases hq0:0 < m
  · rw [if_pos (decide_eq_true (by omega))]
    obtain ⟨SS,hSS⟩:∃ SS:World→Prop,SS=fun w'=>w'.heap[b]?=some (.cells #[.slice none 0 0,gen0] T2 (0,0)):=⟨_,rfl⟩
    have hS0:SS w.drew:=by rw [hSS];exact hb
    have hSc:∀ w',SS w'→∀ b' o',(fun b'=>decide (b'=b)) b'=true→w'.cell? ⟨b',o',none⟩=w.cell? ⟨b',o',none⟩:=fun w' h b' o' hb'=>by
      rw [hSS] at h
      have:b'=b:=of_decide_eq_true hb'
      rw [this,cell_of_row _ _ _ _ _ _ h,cell_of_row _ _ _ _ _ _ hb]
    refine SC.wp_dregL hm SS 15 [(0,true),(1,true),(2,true),(3,true),(4,true),(5,true),(6,true),(7,true),(8,true),(11,true),(9,false),(10,false),(12,false),(13,false),(14,false),(15,false)] (by rfl) (by rfl) (by decide) hS0 ?_
    refine dl_S (v:=.pointer (some ⟨b,0,none⟩)) hSc rfl (by simp (disch:=(try simp only [sPu]);omega) [qv,g0]) ?_
    refine dl_S (v:=.pointer (some ⟨b,0,none⟩)) hSc rfl (by simp (disch:=(try simp only [sPu]);omega) [qv,g0]) ?_
    refine dl_S (v:=.pointer (some ⟨b,0,none⟩)) hSc rfl (by simp (disch:=(try simp only [sPu]);omega) [qv]) ?_
    refine dl_S (v:=.pointer (some ⟨b,0,none⟩)) hSc rfl (by simp (disch:=(try simp only [sPu]);omega) [qv,hf20]) ?_
    refine dl_S (v:=.slice none 0 0) hSc rfl (by simp (disch:=(try simp only [sPu]);omega) [qv,ho3];exact e0) ?_
    refine dl_S (v:=.pointer (some ⟨b,0,none⟩)) hSc rfl (by simp (disch:=(try simp only [sPu]);omega) [qv,g0]) ?_
    refine dl_S (v:=.pointer (some ⟨b,0,none⟩)) hSc rfl (by simp (disch:=(try simp only [sPu]);omega) [qv]) ?_
    refine dl_S (v:=.pointer (some ⟨b,0,none⟩)) hSc rfl (by simp (disch:=(try simp only [sPu]);omega) [qv,hf20]) ?_
    refine dl_S (v:=.slice none 0 0) hSc rfl (by simp (disch:=(try simp only [sPu]);omega) [qv,ho3];exact e0) ?_
    refine dl_S (v:=.int .i32 (m:Int)) hSc rfl (by simp (disch:=(try simp only [sPu]);omega) [qv,g9]) ?_
    refine dl_n rfl rfl (opw_cap (base:=none) (len:=0) (cap:=0) hsm3 (by simp (disch:=(try simp only [sPu]);omega)) rfl ⟨fun _=>hS0,?_⟩)
    refine dl_1 (v:=.slice none 0 0) rfl (by simp (disch:=(try simp only [sPu]);omega) [qv,hs3]) hS0 ?_
    refine dl_n rfl rfl (opw_makeZ (m:=m) hsl3 hi1 hit hzt hzs hzb (by simp (disch:=(try simp only [sPu]);omega)) (by simp (disch:=(try simp only [sPu]);omega)) hq0 hm31 fun cap hcap=>?_)
    have hnew:=heap_alloc_new w.drew.drew (.cells (Builtin.zeroCells zt.cells m ++ Builtin.zeroCells zt.cells (cap - m)) T5)
    have hcb5:(w.drew.drew.alloc (.cells (Builtin.zeroCells zt.cells m ++ Builtin.zeroCells zt.cells (cap - m)) T5)).heap[b]?=some (.cells #[.slice none 0 0,gen0] T2 (0,0)):=by rw [Below.heap_alloc w.drew.drew _ _ (show b < w.heap.size by omega)];exact hb
    have hk5:Keep (fun k=>k=b) w (w.drew.drew.alloc (.cells (Builtin.zeroCells zt.cells m ++ Builtin.zeroCells zt.cells (cap - m)) T5)):=(Keep.refl _ w).drew.drew.alloc _
    have hdd:w.drew.drew.heap.size=w.heap.size:=rfl
    have hdd2:w.drew.heap.size=w.heap.size:=rfl
    rw [hdd] at hnew
    have hz2:zt.cells.size=2:=by rw [hzc];rfl
    have hzsz:m * 2≤(Builtin.zeroCells zt.cells m ++ Builtin.zeroCells zt.cells (cap - m)).size:=by simp [Builtin.zeroCells,hz2]
    have hzz:∀ j,j < m→(Builtin.zeroCells zt.cells m ++ Builtin.zeroCells zt.cells (cap - m))[j * 2]?=some (.string ⟨#[]⟩)∧(Builtin.zeroCells zt.cells m ++ Builtin.zeroCells zt.cells (cap - m))[j * 2+1]?=some (.slice none 0 0):=by
      intro j hj
      have k0:=zeroCells_get (z:=zt.cells) (r:=0) hj (by omega) (Builtin.zeroCells zt.cells (cap - m))
      have k1:=zeroCells_get (z:=zt.cells) (r:=1) hj (by omega) (Builtin.zeroCells zt.cells (cap - m))
      rw [hz2] at k0 k1
      rw [hzc] at k0 k1 ⊢
      exact ⟨k0,k1⟩
    rw [hdd2]
    generalize w.drew.drew.alloc (.cells (Builtin.zeroCells zt.cells m ++ Builtin.zeroCells zt.cells (cap - m)) T5)=w5 at *
    generalize Builtin.zeroCells zt.cells m ++ Builtin.zeroCells zt.cells (cap - m)=ps at *
    have hS5:SS w5:=by rw [hSS];exact hcb5
    refine ⟨fun _=>hS5,?_⟩
    refine dl_1 (v:=.pointer (some ⟨b,0,none⟩)) rfl (by simp (disch:=(try simp only [sPu]);omega) [qv]) hS5 ?_
    refine dl_1 (v:=.pointer (some ⟨b,0,none⟩)) rfl (by simp (disch:=(try simp only [sPu]);omega) [qv,hf20]) hS5 ?_
    refine dl_n rfl rfl (opw_store_one (ad:=⟨b,0,none⟩) (v:=.slice (some ⟨w.heap.size,0,none⟩) m cap) (v0:=.slice none 0 0) ho3 (by simp (disch:=(try simp only [sPu]);omega)) (by simp (disch:=(try simp only [sPu]);omega)) rfl (by rw [cell_of_row _ _ _ _ _ _ hcb5];rfl) (by simp [World.frozen?,hcb5]) ?_)
    rw [pNo,setCell_eq_setRow _ _ _ _ _ _ _ hcb5]
    refine ⟨fun h=>absurd rfl h,dl_nil ?_⟩
    have hne:w.heap.size ≠ b:=by omega
    exact h _ _ (some ⟨w.heap.size,0,none⟩) cap (by simp [sPu,hs]) (by simp [dPu]) (fun s hs=>by simp (disch:=(try simp only [sPu]);omega)) (setRow_heap w5 b _ _ _ _ hcb5) (hk5.setRow (.inl rfl) _) (.inr ⟨ps,rfl,by rw [setRow_other _ _ _ _ hne];exact hnew,hzsz,hzz⟩)
  · have hq00:m=0:=by omega
    subst hq00
    rw [if_neg (by simp)]
    refine SC.wp_reg ?_
    iterate 9 (apply ops_1;(focus (simp (disch:=(try simp only [sPu]);omega) [g0,g8,hf20,ho3,e0,hs3];try rfl)))
    refine oNo rfl (opw_store_one (ad:=⟨b,0,none⟩) (v:=.slice none 0 0) (v0:=.slice none 0 0) ho3 (by simp (disch:=(try simp only [sPu]);omega)) (by simp (disch:=(try simp only [sPu]);omega)) rfl e0 (by simp [World.frozen?,hb]) (oNi ?_))
    rw [pNo,setCell_eq_setRow _ _ _ _ _ _ _ hb]
    exact h _ _ none 0 (by simp [sPu,hs]) (by simp [dPu]) (fun s hs=>by simp (disch:=(try simp only [sPu]);omega)) (setRow_heap w b _ _ _ _ hb) ((Keep.refl (fun k=>k=b) w).setRow (b:=b) (.inl rfl) _) (.inl ⟨rfl,rfl⟩)
theorem stLoop_ok {TR T1 T2 T3 T4 T5 T6 T7 F0 F1 F2 F3 gb rb b m lc Bd:Nat} {lb:Option Addr} {gen0:Value} {S:Option Nat} {st:Option Bytes} {a:Act} {w:World} {Q:Exit→Act→World→Prop} (hm:P.follows .mixedOrders=true) (hT:StTy P TR T1 T2 T3 T4 T5 T6 T7) (cA:RCZ P TR gb .i32 F0 (pLen false)) (cS:RStrC P TR gb F2) (cI:RCZ P TR gb .i32 F3 (pInt 4))
    (hs:a.tmps.size=138) (hd:a.defers=[]) (g0:getT a 0=.pointer (some ⟨b,0,none⟩)) (g2:getT a 2=.bool false) (g7:getT a 7=.pointer (some ⟨rb,0,none⟩)) (g8:getT a 8=.int .i32 (m:Int)) (hm31:m < 2147483648)
    (hb:w.heap[b]?=some (.cells #[.slice lb m lc,gen0] T2 (0,0))) (hbr:b ≠ rb) (hgb:gb < w.heap.size) (hrbB:rb < Bd) (hBd:Bd≤w.heap.size)
    (hlb:(m=0∧lb=none)∨∃ (cb:Nat) (cs:Array Value),lb=some ⟨cb,0,none⟩∧w.heap[cb]?=some (.cells cs T5 (0,0))∧m * 2≤cs.size∧(∀ j,j < m→cs[j * 2]?=some (.string ⟨#[]⟩)∧cs[j * 2+1]?=some (.slice none 0 0))∧cb ≠ rb∧cb ≠ b∧cb < Bd∧S ≠ some cb)
    (hst:RdAt TR w S rb st) (hS:∀ sb,S=some sb→sb ≠ rb∧sb < w.heap.size)
    (h:∀ a' w' (vs:List Ownd),a'.tmps.size=138→a'.defers=[]→(∀ s,s < 10→getT a' s=getT a s)→RdAt TR w' S rb (after st (pMany pOwnd m))→Keep (fun k=>k=rb∨∃ cb,lb=some ⟨cb,0,none⟩∧k=cb) w w'→vs.length=m→(∀ cb,lb=some ⟨cb,0,none⟩→∃ cs,w'.heap[cb]?=some (.cells cs T5 (0,0))∧Elts w' Bd cs vs m m)→(∀ bb xs r,st=some bb→pMany pOwnd m bb=some (xs,r)→vs=xs)→Q .normal a' w') :
    (sc_stLoop T1 T2 T3 T4 T5 T6 T7 F0 F1 F2 F3).wp P Q a w:=by
  have hbl:b < w.heap.size:=(Array.getElem?_eq_some_iff.1 hb).1
  obtain ⟨E,hE⟩:∃ E:Nat→Prop,E=fun k=>k=rb∨∃ cb,lb=some ⟨cb,0,none⟩∧k=cb:=⟨_,rfl⟩
  unfold sc_stLoop
  refine SC.wp_seq (SC.wp_reg ?_)
  repeat (apply ops_1;(focus (simp (disch:=(try simp only [sPu]);omega) ;try rfl)))
  refine oNi ?_
  simp only [Exit.then]
  refine SC.wp_block (SC.wp_loop (fun a4 w5=>∃ (i:Nat) (vs:List Ownd),a4.tmps.size=138∧a4.defers=[]∧(∀ s,s < 10→getT a4 s=getT a s)∧getT a4 10=.int .i32 (i:Int)∧i≤m∧RdAt TR w5 S rb (after st (pMany pOwnd i))∧Keep E w w5∧vs.length=i∧(∀ cb,lb=some ⟨cb,0,none⟩→∃ cs,w5.heap[cb]?=some (.cells cs T5 (0,0))∧Elts w5 Bd cs vs i m)∧(∀ bb xs r,st=some bb→pMany pOwnd i bb=some (xs,r)→vs=xs))
    (fun a4 _=>match getT a4 10 with | .int _ k=>(m - k).toNat | _=>0) ⟨0,[],by simp [sPu,hs],by simp [dPu,hd],fun s z=>by simp (disch:=(try simp only [sPu]);omega),by simp (disch:=(try simp only [sPu]);omega),by omega,by rw [show pMany pOwnd 0=rOk [] from rfl,after_rOk];exact hst,Keep.refl _ _,rfl,fun cb hcb=>?_,fun bb xs r _ hp=>?_⟩ ?_)
  · rcases hlb with ⟨_,h0⟩ | ⟨cb',cs,rfl,k1,k2,k3,_⟩
    · rw [h0] at hcb;cases hcb
    · cases hcb
      exact ⟨cs,k1,fun j x hx=>by simp at hx,fun j _ hj=>k3 j hj⟩
  · cases hp
    rfl
  rintro a4 w5 ⟨i,vs,q1,qd,qk,q10,hi,hat,hkp,hvl,hel,hvs⟩
  have hs5:=hkp.size
  have y0:getT a4 0=.pointer (some ⟨b,0,none⟩):=by rw [qk 0 (by omega)];exact g0
  have y2:getT a4 2=.bool false:=by rw [qk 2 (by omega)];exact g2
  have y7:getT a4 7=.pointer (some ⟨rb,0,none⟩):=by rw [qk 7 (by omega)];exact g7
  have y8:getT a4 8=.int .i32 (m:Int):=by rw [qk 8 (by omega)];exact g8
  refine SC.wp_seq (SC.wp_seq (SC.wp_reg ?_))
  repeat (apply ops_1;(focus (simp (disch:=(try simp only [sPu]);omega) [y8,q10];try rfl)))
  refine oNi (SC.wp_cond (t:=decide ((i:Int) < (m:Int))) (by simp (disch:=(try simp only [sPu]);omega)) ?_)
  refine Decidable.byCases (p:=i < m) (fun hjl=>?_) (fun hjl=>?_)
  · rw [if_pos (decide_eq_true (by omega))]
    refine SC.wp_skip ?_
    simp only [Exit.then]
    rcases hlb with ⟨h0,_⟩ | ⟨cb,cs0,rfl,k1,k2,k3,k4,k5,k6,k7⟩
    · omega
    have hcl:cb < w.heap.size:=(Array.getElem?_eq_some_iff.1 k1).1
    obtain ⟨cs,n1,n2,n3⟩:=hel cb rfl
    have hb5:w5.heap[b]?=some (.cells #[.slice (some ⟨cb,0,none⟩) m lc,gen0] T2 (0,0)):=by
      rw [hkp.block b hbl (by rw [hE];rintro (h | ⟨c1,h1,h2⟩);exact hbr h;cases h1;exact k5 h2.symm)]
      exact hb
    refine SC.wp_seq (SC.wp_block ?_)
    refine elem_ok (rb:=rb) (b:=b) (cb:=cb) (i:=i) (m:=m) (mc:=lc) (gen0:=gen0) (S:=S) (cs:=cs) hm hT cA cS cI (by simp [sPu,q1]) (by simp [dPu,qd]) (by simp (disch:=(try simp only [sPu]);omega) [y0]) (by simp (disch:=(try simp only [sPu]);omega) [y2]) (by simp (disch:=(try simp only [sPu]);omega) [y7]) (by simp (disch:=(try simp only [sPu]);omega) [q10]) hjl hb5 n1 (n3 i (Nat.le_refl _) hjl) hbr k4 (Ne.symm k5) (by omega) hat (fun sb h=>⟨(hS sb h).1,by have:=(hS sb h).2;omega,fun e=>k7 (by rw [← e];exact h)⟩) fun a6 w6 x cs' f1 f2 f3 f4 f5 f6 f7 f8 f9 f10=>?_
    have hs6:=f5.size
    have y10:getT a6 10=.int .i32 (i:Int):=by rw [f3 10 (by omega)];simp (disch:=(try simp only [sPu]);omega) [q10]
    have ew:IntKind.i32.wrap ((i:Int)+1)=((i:Int)+1):=w32 (by omega) (by omega)
    simp only [Exit.inBlock,Exit.then]
    refine SC.wp_reg ?_
    repeat (apply ops_1;(focus (simp (disch:=(try simp only [sPu]);omega) [y10,ew];try rfl)))
    refine oNi ?_
    have hkE:Keep E w w6:=hkp.trans' f5 (fun k hk h=>by
      rw [hE]
      rcases h with h | h
      · exact .inl h
      · exact .inr ⟨cb,rfl,h⟩)
    refine ⟨⟨i+1,vs ++ [x],by simp [sPu,f1],by simp [dPu,f2],fun s z=>?_,by simp (disch:=(try simp only [sPu]);omega),by omega,by rw [after_many_succ];exact f4,hkE,by simp [hvl],fun c1 hc1=>?_,fun bb xs r hbb hp=>?_⟩,?_⟩
    · rw [← qk s z]
      simp (disch:=(try simp only [sPu]);omega)
      rw [f3 s (by omega)]
      simp (disch:=(try simp only [sPu]);omega)
    · cases hc1
      refine ⟨cs',f6,fun j y hy=>?_,fun j h1 h2=>?_⟩
      · rcases Nat.lt_or_ge j i with hj | hj
        · rw [List.getElem?_append_left (by omega)] at hy
          obtain ⟨v1,v2,m1,m2,m3⟩:=n2 j y hy
          refine ⟨v1,v2,by rw [f8 _ (by omega) (by omega)];exact m1,by rw [f8 _ (by omega) (by omega)];exact m2,m3.mono (fun k hk=>⟨hk.1,by have:=hk.2;omega⟩) (fun k hk=>f5.block k hk.2 (by have:=hk.1;omega))⟩
        · rw [List.getElem?_append_right (by omega)] at hy
          have hj0:j=i:=by
            rcases Nat.lt_or_ge (j - vs.length) 1 with h | h
            · omega
            · rw [List.getElem?_eq_none (by simpa using h)] at hy
              cases hy
          subst hj0
          rw [hvl,Nat.sub_self] at hy
          simp only [List.getElem?_cons_zero,Option.some.injEq] at hy
          subst hy
          obtain ⟨v1,v2,m1,m2,m3⟩:=f9
          exact ⟨v1,v2,m1,m2,m3.mono (fun k hk=>⟨by have:=hk.1;omega,hk.2⟩) (fun _ _=>rfl)⟩
      · rw [f8 _ (by omega) (by omega),f8 _ (by omega) (by omega)]
        exact n3 j (by omega) h2
    · rw [pMany_succ] at hp
      obtain ⟨z,hz,hp⟩:=Option.bind_eq_some_iff.1 hp
      obtain ⟨y,hy,hp⟩:=Option.map_eq_some_iff.1 hp
      cases hp
      rw [hvs bb z.1 z.2 hbb hz]
      rw [f10 z.2 y.1 y.2 (by rw [hbb,after_ok hz]) hy]
    · rw [q10]
      simp (disch:=(try simp only [sPu]);omega)
      omega
  · rw [if_neg (by rw [decide_eq_false (by omega)];simp)]
    refine SC.wp_exit ?_
    simp only [Exit.then,Exit.inBlock,if_true]
    have:i=m:=by omega
    subst this
    exact h _ _ vs (by simp [sPu,q1]) (by simp [dPu,qd]) (fun s z=>by rw [← qk s z];simp (disch:=(try simp only [sPu]);omega)) hat (by rw [← hE];exact hkp) hvl hel hvs
end
end Go.Proofs.YtoiipagmhmohdaaDoor.K
namespace Go.Proofs.YtoiipagmhmohdaaDoor.K
open Go Go.RowKit Go.Proofs.YtoiipagmhmohdaaDoor.T
attribute [local simp] eTm eCo pNo gTp gTn qv qcall vop iop
set_option linter.unusedSimpArgs false
set_option linter.unusedVariables false
set_option maxHeartbeats 4000000
section
variable {P:Program} {f:FuncId} {fn:Func}
def StRC (P:Program) (T2 gb:Nat) (err:Value) (Gl:World→Prop) (F:FuncId):Prop:=∀ (B:Nat) (w:World) (S:Option Nat) (b:Nat) (gen0:Value) (base:Option Addr) (src:Bytes) (cap:Nat),gb < B→B≤b→B≤w.heap.size→(∀ w',Below B w w'→Gl w') →
  w.heap[b]?=some (.cells #[.slice none 0 0,gen0] T2 (0,0))→src.length≤cap→SrcAt w S base src→(∀ sb,S=some sb→sb ≠ b∧sb < w.heap.size) →
  Calls P F #[.pointer (some ⟨b,0,none⟩),.slice base src.length cap,.bool false] w fun e w'=>Below B w w'∧w.heap.size≤w'.heap.size∧(∀ k,k < w.heap.size→k ≠ b→w'.heap[k]?=w.heap[k]?)∧e=.returned (if (after (some src) pSt).isSome then .nilIface else err) ∧
    ∀ l g r,pSt src=some ((l,g),r)→∃ lb lc,w'.heap[b]?=some (.cells #[.slice lb l.length lc,.int .i32 g] T2 (0,0))∧ListAt w' (fun k=>w.heap.size≤k∧k < w'.heap.size) lb l
theorem after_pSt (st:Option Bytes):after st pSt=after (after st pStL) pGen:=by
  unfold pSt
  cases st with
  | none=>rfl
  | some b =>
    cases h:pStL b with
    | none=>rw [after_then_none (after_no h),after_no h];rfl
    | some z =>
      obtain ⟨l,r⟩:=z
      rw [after_then _ _ _ rfl h,after_ok h,after_map]
theorem after_pStL {src:Bytes} {m:Nat} (hm:∀ n r,pLen false src=some (n,r)→m=n.toNat):after (some src) pStL=after (after (some src) (pLen false)) (pMany pOwnd m):=by
  unfold pStL
  cases h:pLen false src with
  | none=>rw [after_then_none (after_no h),after_no h];rfl
  | some z =>
    obtain ⟨n,r⟩:=z
    rw [after_then _ _ _ rfl h,after_ok h,hm n r h]
theorem stRead_ok {T0 T1 T2 T3 T4 T5 T6 T7 T8 F0 F1 F2 F3 F4 gb:Nat} {err:Value} {Gl:World→Prop} (hm:P.follows .mixedOrders=true) (hrd:rdNew P T0=true) (hr0:fieldOff P T0 0=some 0) (h8:oneB P T8=true) (hs8:sliceN P T8=some 1) (hT:StTy P T0 T1 T2 T3 T4 T5 T6 T7)
    (cA:RCZ P T0 gb .i32 F0 (pLen false)) (cS:RStrC P T0 gb F2) (cI:RCZ P T0 gb .i32 F3 (pInt 4))
    (oC:FnOK P F4) (cC:∀ (w:World) (S:Option Nat) (rb:Nat) (st:Option Bytes),Gl w→RdAt T0 w S rb st→Calls P F4 #[.pointer (some ⟨rb,0,none⟩)] w fun e w'=>e=.returned (if st.isSome then .nilIface else err)∧w'=w)
    (hf:P.funcs[f]?=some fn) (hb:fn.body.map strip=some (sc_StRead T0 T1 T2 T3 T4 T5 T6 T7 T8 F0 F1 F2 F3 F4)) (hn:fn.ntmps=138) (hr:fn.results=#[.tmp 6]):StRC P T2 gb err Gl f:=by
  intro B w S b gen0 base src cap hgB hBb hBw hgl hrow hcap hsr hS
  have hT':=hT
  obtain ⟨hR,hi1,hi4,ho1,hf20,hf21,ho3,ho6,ho7,hsl7,hsl3,_,_⟩:=hT
  have hsm3:(sliceN P T3).isSome=true:=by rw [sliceN_of hsl3];rfl
  obtain ⟨r1,⟨rit,rz,rzi,rzz,rzc⟩,r3⟩:=rdNew_of hrd
  have hbl:b < w.heap.size:=(Array.getElem?_eq_some_iff.1 hrow).1
  refine fCa hf hb hn (by simp) fun a0 hs hd ha=>?_
  have h0:=ha 0 _ rfl
  have h1:=ha 1 _ rfl
  have hh2:=ha 2 _ rfl
  simp only [List.getElem_toArray,List.getElem_cons_zero,List.getElem_cons_succ] at h0 h1 hh2
  refine SC.wp_seq (SC.wp_reg ?_)
  repeat (apply ops_1;(focus (simp (disch:=(try simp only [sPu]);omega) ;try rfl)))
  refine oNi (SC.wp_seq (SC.wp_reg ?_))
  iterate 1 (apply ops_1;(focus (simp (disch:=(try simp only [sPu]);omega) [h1];try rfl)))
  refine oNo rfl (opw_build (cs:=#[.slice base src.length cap,.bool false]) ?_ (oNo rfl (opw_alloc rzi rzz ?_)))
  · have e:(#[(0,Operand.tmp 16)].map fun x:Nat × Operand=>(x.1,Act.eval ((a0.put (some 6) .nilIface).put (some 16) (.slice base src.length cap)) x.2)).toList=[(0,.slice base src.length cap)]:=by
      simp only [List.map_toArray,List.map_cons,List.map_nil]
      rw [eTm,gTp (by simp only [sPu];omega)]
    rw [e]
    exact r3 _ rfl
  have hnew:=heap_alloc_new w (.cells rz.cells T0)
  refine oNo rfl (opw_store_agg (cs:=[.slice base src.length cap,.bool false]) (cur:=rz.cells) (b:=w.heap.size) (E:=T0) r1 (by simp (disch:=(try simp only [sPu]);omega)) (by simp (disch:=(try simp only [sPu]);omega)) hnew (by rw [rzc];rfl) (by intro v hv;simp at hv;rcases hv with rfl | rfl <;> rfl) (oNi ?_))
  rw [pNo]
  simp only [Exit.then]
  obtain ⟨rb,hrb⟩:∃ rb,rb=w.heap.size:=⟨_,rfl⟩
  rw [← hrb] at hnew ⊢
  obtain ⟨w2,hw2⟩:∃ w2,w2=(w.alloc (.cells rz.cells T0)).setRow rb [Value.slice base src.length cap,.bool false].toArray:=⟨_,rfl⟩
  rw [← hw2]
  have hrow2:w2.heap[rb]?=some (.cells #[.slice base src.length cap,.bool false] T0 (0,0)):=by rw [hw2];exact setRow_heap _ _ _ _ _ _ hnew
  have hsz2:w2.heap.size=w.heap.size+1:=by rw [hw2];simp
  obtain ⟨E,hE⟩:∃ E:Nat→Prop,E=fun k=>k=b:=⟨_,rfl⟩
  have hk2:Keep E w w2:=by
    rw [hw2]
    exact ((Keep.refl _ w).alloc _).setRow (.inr (by omega)) _
  have hoth2:∀ k,k < w.heap.size→w2.heap[k]?=w.heap[k]?:=fun k hk=>by
    rw [hw2,setRow_other _ _ _ _ (by omega)]
    exact Below.heap_alloc _ _ _ hk
  have hat2:RdAt T0 w2 S rb (some src):=by
    refine ⟨base,cap,hrow2,hcap,?_⟩
    have:SrcAt w2 S base src:=hsr.frame fun sb hsb=>hoth2 sb (hS sb hsb).2
    cases S <;> exact this
  refine SC.wp_seq (SC.wp_reg ?_)
  refine ops_call cA.1 (cA.2 w2 S rb (some src) (by omega) hat2 (fun sb h=>⟨by have:=(hS sb h).2;omega,by have:=(hS sb h).2;omega⟩)) (by simp (disch:=(try simp only [sPu]);omega)) ?_
  rintro e w3 ⟨n,rfl,hat3,hon3,hn0,hn3⟩
  refine ⟨_,rfl,?_⟩
  repeat (apply ops_1;(focus (simp (disch:=(try simp only [sPu]);omega) ;try rfl)))
  refine oNi ?_
  simp only [Exit.then]
  have hs3:=hon3.size
  have hrng:-2147483648≤n∧n < 2147483648:=by
    cases e3:pLen false src with
    | none=>rw [hn0 (after_no e3)];omega
    | some z =>
      obtain ⟨l,r2⟩:=z
      rw [hn3 src l r2 rfl e3]
      have h1:=pLen_lt e3
      rw [pLen_eq] at e3
      obtain ⟨l2,r3,k1,k2⟩:=rThen_some e3
      have h2:=pInt_rng (k:=4) (by omega) (show pInt 4 src=some (l2,r3) from k1)
      split at k2
      · cases k2
      · cases k2
        omega
  obtain ⟨m,hmn⟩:∃ m:Nat,m=n.toNat:=⟨_,rfl⟩
  have hm31:m < 2147483648:=by omega
  have hstL:after (some src) pStL=after (after (some src) (pLen false)) (pMany pOwnd m):=after_pStL fun n0 r h=>by rw [hmn,hn3 src n0 r rfl h]
  have stepD:∀ (a1:Act) (Q1:Exit→Act→World→Prop),a1.tmps.size=138→getT a1 8=.int .i32 n→(∀ a2,a2.tmps.size=138→a2.defers=a1.defers→(∀ s,s < 8→getT a2 s=getT a1 s)→getT a2 8=.int .i32 (m:Int)→Q1 .normal a2 w3) →
      (SC.seq (.reg [mv 19 8,⟨some 20,.binOp .lss T1 (.tmp 19) (.const (.int .i32 0)) T1,none⟩]) (.cond (.tmp 20) (.reg [⟨some 8,.assign (.const (.int .i32 0)),none⟩]) (.skip))).wp P Q1 a1 w3:=by
    intro a1 Q1 z1 z2 z3
    refine SC.wp_seq (SC.wp_reg ?_)
    repeat (apply ops_1;(focus (simp (disch:=(try simp only [sPu]);omega) [z2];try rfl)))
    refine oNi (SC.wp_cond (t:=decide (n < 0)) (by simp (disch:=(try simp only [sPu]);omega)) ?_)
    by_cases hn:n < 0
    · rw [if_pos (by simpa using hn)]
      refine SC.wp_reg ?_
      repeat (apply ops_1;(focus (simp (disch:=(try simp only [sPu]);omega) ;try rfl)))
      refine oNi (z3 _ (by simp [sPu,z1]) (by simp [dPu]) (fun s hs=>by simp (disch:=(try simp only [sPu]);omega)) ?_)
      have:m=0:=by omega
      subst this
      simp (disch:=(try simp only [sPu]);omega)
    · rw [if_neg (by simpa using hn)]
      refine SC.wp_skip (z3 _ (by simp [sPu,z1]) (by simp [dPu]) (fun s hs=>by simp (disch:=(try simp only [sPu]);omega)) ?_)
      have:n=(m:Int):=by omega
      simp (disch:=(try simp only [sPu]);omega) [z2,this]
  refine SC.wp_seq (stepD _ _ (by simp [sPu,hs]) (by simp (disch:=(try simp only [sPu]);omega)) fun a2 y1 y2 y3 y8=>?_)
  clear stepD
  simp only [Exit.then]
  have x0:getT a2 0=.pointer (some ⟨b,0,none⟩):=by rw [y3 0 (by omega)];simp (disch:=(try simp only [sPu]);omega) [h0]
  have x2:getT a2 2=.bool false:=by rw [y3 2 (by omega)];simp (disch:=(try simp only [sPu]);omega) [hh2]
  have x7:getT a2 7=.pointer (some ⟨rb,0,none⟩):=by rw [y3 7 (by omega)];simp (disch:=(try simp only [sPu]);omega)
  have xd:a2.defers=[]:=by rw [y2];simp [dPu,hd]
  clear y2 y3
  have hb3:w3.heap[b]?=some (.cells #[.slice none 0 0,gen0] T2 (0,0)):=by rw [hon3.block b (by omega) (by omega),hoth2 b hbl];exact hrow
  have e30:w3.cell? ⟨b,0,none⟩=some (.slice none 0 0):=by rw [cell_of_row _ _ _ _ _ _ hb3];rfl
  have w00:IntKind.i32.wrap 0=0:=w32 (by decide) (by decide)
  have wm:IntKind.i32.wrap (m:Int)=(m:Int):=w32 (by omega) (by omega)
  refine SC.wp_seq (SC.wp_reg ?_)
  iterate 5 (apply ops_1;(focus (simp (disch:=(try simp only [sPu]);omega) [x0,y8,hf20,ho3,e30];try rfl)))
  refine oNo rfl (opw_cap (base:=none) (len:=0) (cap:=0) hsm3 (by simp (disch:=(try simp only [sPu]);omega)) rfl ?_)
  repeat (apply ops_1;(focus (simp (disch:=(try simp only [sPu]);omega) [hi1,hi4,w00,wm];try rfl)))
  refine oNi ?_
  simp only [Exit.then]
  refine SC.wp_seq (listRoom_ok (m:=m) (gen0:=gen0) hm hT' (by simp [sPu,y1]) (by simp (disch:=(try simp only [sPu]);omega) [x0]) (by simp (disch:=(try simp only [sPu]);omega) [y8]) (by simp (disch:=(try simp only [sPu]);omega)) hm31 hb3 fun a4 w4 lb lc u1 u2 u3 hb4 hk4 hlb=>?_)
  simp only [Exit.then]
  have hs4:=hk4.size
  have v0:getT a4 0=.pointer (some ⟨b,0,none⟩):=by rw [u3 0 (by omega)];simp (disch:=(try simp only [sPu]);omega) [x0]
  have v2:getT a4 2=.bool false:=by rw [u3 2 (by omega)];simp (disch:=(try simp only [sPu]);omega) [x2]
  have v7:getT a4 7=.pointer (some ⟨rb,0,none⟩):=by rw [u3 7 (by omega)];simp (disch:=(try simp only [sPu]);omega) [x7]
  have v8:getT a4 8=.int .i32 (m:Int):=by rw [u3 8 (by omega)];simp (disch:=(try simp only [sPu]);omega) [y8]
  have vd:a4.defers=[]:=by rw [u2];simp [dPu,xd]
  have hat4:RdAt T0 w4 S rb (after (some src) (pLen false)):=RdAt.frame hat3 (hk4.block rb (by omega) (by omega)) (fun sb h=>hk4.block sb (by have:=(hS sb h).2;omega) (hS sb h).1)
  have hlb':(m=0∧lb=none)∨∃ (cb:Nat) (cs:Array Value),lb=some ⟨cb,0,none⟩∧w4.heap[cb]?=some (.cells cs T5 (0,0))∧m * 2≤cs.size∧(∀ j,j < m→cs[j * 2]?=some (.string ⟨#[]⟩)∧cs[j * 2+1]?=some (.slice none 0 0))∧cb ≠ rb∧cb ≠ b∧cb < w4.heap.size∧S ≠ some cb:=by
    rcases hlb with h | ⟨cs,k1,k2,k3,k4⟩
    · exact .inl h
    · exact .inr ⟨w3.heap.size,cs,k1,k2,k3,k4,by omega,by omega,(Array.getElem?_eq_some_iff.1 k2).1,fun e=>by have:=(hS _ e).2;omega⟩
  refine SC.wp_seq (stLoop_ok (rb:=rb) (b:=b) (m:=m) (lc:=lc) (Bd:=w4.heap.size) (gen0:=gen0) (S:=S) hm hT' cA cS cI u1 vd v0 v2 v7 v8 hm31 hb4 (by omega) (by omega) (by omega) (Nat.le_refl _) hlb' hat4 (fun sb h=>⟨by have:=(hS sb h).2;omega,by have:=(hS sb h).2;omega⟩) fun a5 w5 vs f1 f2 f3 f4 f5 f6 f7 f8=>?_)
  simp only [Exit.then]
  have hs5:=f5.size
  rw [← hstL] at f4
  have hcbE:∀ {cb:Nat},lb=some ⟨cb,0,none⟩→w.heap.size≤cb∧cb ≠ b∧cb ≠ rb∧cb < w4.heap.size:=fun {cb} h=>by
    rcases hlb' with ⟨_,h0⟩ | ⟨c1,cs,k1,_,_,_,k5,k6,k7,_⟩
    · rw [h0] at h;cases h
    · rw [h] at k1
      cases k1
      rcases hlb with ⟨_,h0⟩ | ⟨cs',k1',_⟩
      · rw [h0] at h;cases h
      · rw [h] at k1'
        cases k1'
        exact ⟨by omega,k6,k5,k7⟩
  have hk5:Keep E w w5:=((hk2.trans' (Keep.of_only (E:=fun k=>k=rb) hon3 rfl) (fun k hk h=>by omega)).trans' hk4 (fun k _ h=>by rw [hE];exact h)).trans' f5 (fun k hk h=>by
    rcases h with h | ⟨cb,h1,h2⟩
    · omega
    · have:=(hcbE h1).1;omega)
  have z0:getT a5 0=.pointer (some ⟨b,0,none⟩):=by rw [f3 0 (by omega)];exact v0
  have z7:getT a5 7=.pointer (some ⟨rb,0,none⟩):=by rw [f3 7 (by omega)];exact v7
  have hb5:w5.heap[b]?=some (.cells #[.slice lb m lc,gen0] T2 (0,0)):=by
    rw [f5.block b (by omega) (by rintro (h | ⟨cb,h1,h2⟩);omega;exact (hcbE h1).2.1 h2.symm)]
    exact hb4
  have genStep:∀ (Q1:Exit→Act→World→Prop),(∀ a6 w6 (g':Int),a6.tmps.size=138→a6.defers=[]→getT a6 7=.pointer (some ⟨rb,0,none⟩)→RdAt T0 w6 S rb (after (after (some src) pStL) pGen)→w6.heap[b]?=some (.cells #[.slice lb m lc,.int .i32 g'] T2 (0,0))→Keep (fun k=>k=rb∨k=b) w5 w6→(∀ rest g r,after (some src) pStL=some rest→pGen rest=some (g,r)→g'=g)→Q1 .normal a6 w6) →
      (SC.seq (.reg [fa 126 T0 7 0,ld 127 T8 126,lenOp 128 T8 127,⟨some 129,.binOp .gtr T4 (.tmp 128) (.const (.int .i64 0)) T4,none⟩]) (.cond (.tmp 129) (.reg [mv 130 0,cal 131 F3 [7],nilc 132 130,fa 133 T2 132 1,⟨none,.store T1 (.tmp 133) (.tmp 131),none⟩]) (.reg [mv 134 0,nilc 135 134,fa 136 T2 135 1,⟨none,.store T1 (.tmp 136) (.const (.int .i32 (-1))),none⟩]))).wp P Q1 a5 w5:=by
    intro Q1 hQ1
    have minus:∀ (a1:Act),a1.tmps.size=138→a1.defers=[]→getT a1 0=.pointer (some ⟨b,0,none⟩)→getT a1 7=.pointer (some ⟨rb,0,none⟩)→RdAt T0 w5 S rb (after (after (some src) pStL) pGen)→(∀ rest g r,after (some src) pStL=some rest→pGen rest=some (g,r)→-1=g)→(SC.reg [mv 134 0,nilc 135 134,fa 136 T2 135 1,⟨none,.store T1 (.tmp 136) (.const (.int .i32 (-1))),none⟩]).wp P Q1 a1 w5:=by
      intro a1 k1 k2 k3 k7 k4 k5
      refine SC.wp_reg ?_
      iterate 3 (apply ops_1;(focus (simp (disch:=(try simp only [sPu]);omega) [k3,hf21];try rfl)))
      refine oNo rfl (opw_store_one (ad:=⟨b,1,none⟩) (v:=.int .i32 (-1)) (v0:=gen0) ho1 (by simp (disch:=(try simp only [sPu]);omega)) (by simp (disch:=(try simp only [sPu]);omega)) rfl (by rw [cell_of_row _ _ _ _ _ _ hb5];rfl) (by simp [World.frozen?,hb5]) (oNi ?_))
      rw [pNo,setCell_eq_setRow _ _ _ _ _ _ _ hb5]
      exact hQ1 _ _ (-1) (by simp [sPu,k1]) (by simp [dPu,k2]) (by simp (disch:=(try simp only [sPu]);omega) [k7]) (RdAt.frame k4 (setRow_other _ _ _ _ (by omega)) (fun sb h=>setRow_other _ _ _ _ (hS sb h).1)) (setRow_heap w5 b _ (#[.slice lb m lc,gen0].setIfInBounds 1 (.int .i32 (-1))) _ _ hb5) ((Keep.refl (fun k=>k=rb∨k=b) w5).setRow (b:=b) (.inl (.inr rfl)) _) k5
    refine SC.wp_seq (SC.wp_reg ?_)
    rcases rdAt_row f4 with ⟨e5,hrw⟩ | ⟨rest,rbase,rcap,e5,hrw,hrc,hrs⟩
    · have hc:=rdRow_cells hrw
      have hc0:=hc.1
      repeat (apply ops_1;(focus (simp (disch:=(try simp only [sPu]);omega) [z7,hr0,h8,hs8,hc0];try rfl)))
      refine oNi (SC.wp_cond (t:=false) (by simp (disch:=(try simp only [sPu]);omega)) ?_)
      rw [if_neg (by simp)]
      refine minus _ (by simp [sPu,f1]) (by simp [dPu,f2]) (by simp (disch:=(try simp only [sPu]);omega) [z0]) (by simp (disch:=(try simp only [sPu]);omega) [z7]) (by rw [e5];rw [e5] at f4;exact f4) (fun rest g r h=>by rw [e5] at h;cases h)
    · have hc:=rdRow_cells hrw
      have hc0:=hc.1
      repeat (apply ops_1;(focus (simp (disch:=(try simp only [sPu]);omega) [z7,hr0,h8,hs8,hc0];try rfl)))
      refine oNi (SC.wp_cond (t:=decide ((0:Int) < (rest.length:Int))) (by simp (disch:=(try simp only [sPu]);omega)) ?_)
      by_cases hrest:rest=[]
      · subst hrest
        rw [if_neg (by simp)]
        refine minus _ (by simp [sPu,f1]) (by simp [dPu,f2]) (by simp (disch:=(try simp only [sPu]);omega) [z0]) (by simp (disch:=(try simp only [sPu]);omega) [z7]) (by rw [e5,show after (some ([]:Bytes)) pGen=some [] from rfl];rw [e5] at f4;exact f4) (fun rest g r h hg=>by rw [e5] at h;cases h;cases hg;rfl)
      · have hpos:0 < rest.length:=List.length_pos_iff.2 hrest
        rw [if_pos (decide_eq_true (by omega))]
        have hgen:pGen rest=pInt 4 rest:=by unfold pGen;rw [if_neg hrest]
        have hag:after (some rest) pGen=after (some rest) (pInt 4):=by simp only [after,Option.bind_some,hgen]
        rw [e5] at f4
        refine SC.wp_reg ?_
        iterate 1 (apply ops_1;(focus (simp (disch:=(try simp only [sPu]);omega) [z0];try rfl)))
        refine ops_call cI.1 (cI.2 w5 S rb (some rest) (by omega) f4 (fun sb h=>⟨by have:=(hS sb h).2;omega,by have:=(hS sb h).2;omega⟩)) (by simp (disch:=(try simp only [sPu]);omega) [z7]) ?_
        rintro e w6 ⟨g',rfl,hat6,hon6,_,hg6⟩
        refine ⟨_,rfl,?_⟩
        have hb6:w6.heap[b]?=some (.cells #[.slice lb m lc,gen0] T2 (0,0)):=by rw [hon6.block b (by omega) (by omega)];exact hb5
        iterate 2 (apply ops_1;(focus (simp (disch:=(try simp only [sPu]);omega) [hf21];try rfl)))
        refine oNo rfl (opw_store_one (ad:=⟨b,1,none⟩) (v:=.int .i32 g') (v0:=gen0) ho1 (by simp (disch:=(try simp only [sPu]);omega)) (by simp (disch:=(try simp only [sPu]);omega)) rfl (by rw [cell_of_row _ _ _ _ _ _ hb6];rfl) (by simp [World.frozen?,hb6]) (oNi ?_))
        rw [pNo,setCell_eq_setRow _ _ _ _ _ _ _ hb6]
        exact hQ1 _ _ g' (by simp [sPu,f1]) (by simp [dPu,f2]) (by simp (disch:=(try simp only [sPu]);omega) [z7]) (by rw [e5,hag];exact RdAt.frame hat6 (setRow_other _ _ _ _ (by omega)) (fun sb h=>setRow_other _ _ _ _ (hS sb h).1)) (setRow_heap w6 b _ (#[.slice lb m lc,gen0].setIfInBounds 1 (.int .i32 g')) _ _ hb6) ((Keep.of_only (E:=fun k=>k=rb∨k=b) hon6 (.inl rfl)).setRow (b:=b) (.inl (.inr rfl)) _) (fun rest' g r h hg=>by rw [e5] at h;cases h;rw [hgen] at hg;exact hg6 rest g r rfl hg)
  refine SC.wp_seq (genStep _ fun a6 w6 g' k1 k2 k7 hat6 hb6 hk6 hg6=>?_)
  clear genStep
  simp only [Exit.then]
  have hs6:=hk6.size
  have hkw:Keep E w w6:=hk5.trans' hk6 (fun k hk h=>by rw [hE];rcases h with h | h;omega;exact h)
  have hbel:Below B w w6:=hkw.below (fun k h=>by rw [hE] at h;omega) hBw
  rw [← after_pSt] at hat6
  refine SC.wp_seq (SC.wp_reg ?_)
  refine ops_call oC (cC w6 S rb _ (hgl w6 hbel) hat6) (by simp (disch:=(try simp only [sPu]);omega) [k7]) ?_
  rintro e w7 ⟨rfl,rfl⟩
  refine ⟨_,rfl,?_⟩
  repeat (apply ops_1;(focus (simp (disch:=(try simp only [sPu]);omega) ;try rfl)))
  refine oNi (SC.wp_ret ?_)
  try simp only [Exit.then]
  refine ret_tmp hr (by simp [dPu,k2]) ⟨hbel,by omega,fun k hk hkb=>hkw.block k (by omega) (by rw [hE];exact hkb),by simp (disch:=(try simp only [sPu]);omega),fun l g r hp=>?_⟩
  unfold pSt at hp
  obtain ⟨l1,r1,p1,p2⟩:=rThen_some hp
  obtain ⟨g1,r2,p3,p4⟩:=rThen_some p2
  obtain ⟨e1,e2⟩:=rOk_some p4
  cases e1
  have hgg:g'=g:=hg6 r1 g r2 (after_ok p1) p3
  subst hgg
  unfold pStL at p1
  obtain ⟨n0,r0,p5,p6⟩:=rThen_some p1
  have hmm:m=n0.toNat:=by rw [hmn,hn3 src n0 r0 rfl p5]
  have hvl:=f8 r0 l r1 (after_ok p5) (by rw [hmm];exact p6)
  subst hvl
  refine ⟨lb,lc,by rw [f6];exact hb6,?_⟩
  rcases hlb' with ⟨h0,_⟩ | ⟨cb,cs0,e3,_⟩
  · exact .inl (List.eq_nil_of_length_eq_zero (by rw [f6,h0]))
  · obtain ⟨q1,q2,q3,q4⟩:=hcbE e3
    obtain ⟨cs,n1,n2,n3⟩:=f7 cb e3
    have n1':w7.heap[cb]?=some (.cells cs T5 (0,0)):=by rw [hk6.block cb (by omega) (by rintro (h | h);exact q3 h;exact q2 h)];exact n1
    refine .inr ⟨cb,0,e3,⟨by omega,by omega⟩,fun j x hx=>?_⟩
    obtain ⟨v1,v2,m1,m2,m3⟩:=n2 j x hx
    refine ⟨v1,v2,by rw [cell_of_row _ _ _ _ _ _ n1',Nat.zero_add];exact m1,by rw [cell_of_row _ _ _ _ _ _ n1',Nat.zero_add];exact m2,m3.mono (fun k hk=>⟨by have:=hk.1;omega,by have:=hk.2;omega⟩) (fun k hk=>hk6.block k hk.2 (by have:=hk.1;omega))⟩
end
end Go.Proofs.YtoiipagmhmohdaaDoor.K
namespace Go.Proofs.YtoiipagmhmohdaaDoor.K
open Go Go.RowKit Go.Proofs.YtoiipagmhmohdaaDoor.T
set_option linter.unusedSimpArgs false
set_option linter.unusedVariables false
set_option maxHeartbeats 4000000
structure ElT (P:Program) (T E size:Nat):Prop where
  hu:P.underlying T=some (.slice E)
  info:∃ i z,P.info? E=some i∧i.zero=some z∧i.size=size∧z.cells.size=size∧i.bytes≤1000
  pos:0 < size
section
variable {P:Program} {a:Act} {w:World} {K:Act→World→Prop} {d:Option Tmp} {g:Option (Nat × Bool)}
theorem opw_appendG {T Tx E B size n m:Nat} {x y:Operand} {dv xv:Value} {cells news:List Value} {ts:Array TypeId} (hE:ElT P T E size) (hts:ts=#[T,Tx]) (hx:a.eval x=dv) (hy:a.eval y=xv) (ho:w.ownsRow B E size dv n cells) (hB:B≤w.heap.size) (hs:Src P size Tx xv m news w) (hlen:n+m≤100000000000)
    (h:∀ dv' w',w'.ownsRow B E size dv' (n+m) (cells ++ news)→w.grownBy w' dv.ownBlock→(dv'.ownBlock=dv.ownBlock∨∃ b,dv'.ownBlock=some b∧w.heap.size≤b)→K (a.put d dv') w'):opw P ⟨d,.call ⟨.builtin .append,#[x,y],ts⟩,g⟩ a w K:=by
  subst hts
  obtain ⟨i,z,hi,hz,hsz,hzc,hby⟩:=hE.info
  have hb:(n+m) * i.bytes≤140737488355328:=Nat.le_trans (Nat.mul_le_mul hlen hby) (by decide)
  refine opw_of fun o next Q hd hop hn=>?_
  obtain ⟨v',w',hr,h2,h3,h4⟩:=run_append_src2 (P:=P) w B T Tx o.type E i z size i.bytes hE.hu hi hz hsz rfl hzc hE.pos dv n cells ho xv m news hs (by simp only [maxLen];omega) hb hB
  have hop':o.op=.call ⟨.builtin .append,#[x,y],#[T,Tx]⟩:=stripOp_eq (by simp) hop
  have hr':(execOp a.eval o).run P w=.ok (.value v') w':=by
    simp [execOp,hop',resolve,invoke,builtin,hx,hy,hr]
  rw [hr',Oper.upon_value,hd]
  exact hn _ _ (h v' w' h2 h3 h4)
theorem opw_row1 {T Ts:Nat} (hE:ElT P Ts T 2) {x:Operand} {v0 v1:Value} (hx:a.eval x=.agg #[v0,v1])
    (h:K (a.put d (.slice (some ⟨w.heap.size,0,none⟩) 1 1)) (w.alloc (.cells #[v0,v1] T))):opw P ⟨d,.buildSlice Ts 1 #[(0,x)],g⟩ a w K:=by
  obtain ⟨i,z,hi,hz,hsz,hzc,_⟩:=hE.info
  refine oVa (v:=.slice (some ⟨w.heap.size,0,none⟩) 1 1) (w':=w.alloc (.cells #[v0,v1] T)) (by simp) (fun p hp=>?_) h
  have hr:=run_buildSlice (P:=P) w Ts T 1 #[(0,.agg #[v0,v1])] #[v0,v1] i z hE.hu hi hz (by rw [hsz];decide) (by rw [hsz];decide) (by
    rw [hsz]
    have hz5:∀ (zf:Nat→Value),(Array.range (1 * 2)).map zf=#[zf 0,zf 1]:=fun zf=>Array.ext' (by simp [Array.toList_map,Array.toList_range,List.range,List.range.loop])
    rw [hz5]
    simp [Instr.fill,Value.cells])
  simp only [execOp,hp]
  simp [hx,hr]
theorem opw_elem1 {T Ts:Nat} (hE:ElT P Ts T 1) {x:Operand} {v0:Value} (hx:a.eval x=v0) (h1:v0.oneCell'=true)
    (h:K (a.put d (.slice (some ⟨w.heap.size,0,none⟩) 1 1)) (w.alloc (.cells #[v0] T))):opw P ⟨d,.buildSlice Ts 1 #[(0,x)],g⟩ a w K:=by
  obtain ⟨i,z,hi,hz,hsz,hzc,_⟩:=hE.info
  refine oVa (v:=.slice (some ⟨w.heap.size,0,none⟩) 1 1) (w':=w.alloc (.cells #[v0] T)) (by simp) (fun p hp=>?_) h
  have hr:=run_buildSlice (P:=P) w Ts T 1 #[(0,v0)] #[v0] i z hE.hu hi hz (by rw [hsz];decide) (by rw [hsz];decide) (by
    rw [hsz]
    have hz5:∀ (zf:Nat→Value),(Array.range (1 * 1)).map zf=#[zf 0]:=fun zf=>Array.ext' (by simp [Array.toList_map,Array.toList_range,List.range,List.range.loop])
    rw [hz5]
    simp [Instr.fill,cells_oneCell h1])
  simp only [execOp,hp]
  simp [hx,hr]
end
theorem rowsGet (rows:List (List Value)) (k:Nat) (hk:∀ r ∈ rows,r.length=k) (i:Nat) (r:List Value) (hi:rows[i]?=some r) (j:Nat) (v:Value) (hj:r[j]?=some v):rows.flatten[i * k+j]?=some v:=by
  induction rows generalizing i with
  | nil=>simp at hi
  | cons x rows ih =>
    have hx:x.length=k:=hk x List.mem_cons_self
    cases i with
    | zero =>
      simp at hi
      subst hi
      rw [List.flatten_cons,Nat.zero_mul,Nat.zero_add,List.getElem?_append_left (by rw [List.getElem?_eq_some_iff] at hj;obtain ⟨h,_⟩:=hj;exact h)]
      exact hj
    | succ i =>
      simp at hi
      rw [List.flatten_cons,List.getElem?_append_right (by rw [hx,Nat.succ_mul];omega),hx,show (i+1) * k+j - k=i * k+j by rw [Nat.succ_mul];omega]
      exact ih (fun r hr=>hk r (List.mem_cons_of_mem _ hr)) i hi
def OutL (w:World) (B E:Nat) (lv:Value) (j:Nat) (l:List Ownd):Prop :=
  ∃ rows:List (List Value),w.ownsRow B E 2 lv j rows.flatten∧rows.length=j∧(∀ r ∈ rows,r.length=2)∧∀ (i:Nat) (r:List Value) (x:Ownd),rows[i]?=some r→l[i]?=some x→∃ v1 v2,r=[v1,v2]∧OwndV w (fun k=>B≤k∧k < w.heap.size∧lv.ownBlock ≠ some k) x v1 v2
theorem OutL.nil (w:World) (B E:Nat) (l:List Ownd):OutL w B E (.slice none 0 0) 0 l:=⟨[],World.ownsRow_nil _ _ _ _,rfl,by simp,by simp⟩
theorem OutL.one {w:World} {B E j:Nat} {lv:Value} {l:List Ownd} (h:OutL w B E lv j l):lv.oneCell'=true:=by
  obtain ⟨rows,h1,_⟩:=h
  rcases h1.2 with ⟨rfl,_⟩ | ⟨g,cap,cur,rfl,_⟩ <;> rfl
theorem ownsRow_keep {w w':World} {B E size:Nat} {v:Value} {n:Nat} {xs:List Value} (h:w.ownsRow B E size v n xs) (hk:∀ k,v.ownBlock=some k→w'.heap[k]?=w.heap[k]?):w'.ownsRow B E size v n xs:=by
  refine ⟨h.1,h.2.imp id ?_⟩
  rintro ⟨g,cap,cur,rfl,h2,h3,h4⟩
  exact ⟨g,cap,cur,rfl,h2,by rw [hk g rfl];exact h3,h4⟩
theorem OutL.keep {w w':World} {B E j:Nat} {lv:Value} {l:List Ownd} (h:OutL w B E lv j l) (hk:∀ k,B≤k→k < w.heap.size→w'.heap[k]?=w.heap[k]?) (hs:w.heap.size≤w'.heap.size):OutL w' B E lv j l:=by
  obtain ⟨rows,h1,h2,h3,h4⟩:=h
  refine ⟨rows,ownsRow_keep h1 fun k hk'=>hk k (h1.lt k hk').1 (h1.lt k hk').2,h2,h3,fun i r x hr hx=>?_⟩
  obtain ⟨v1,v2,e,hv⟩:=h4 i r x hr hx
  exact ⟨v1,v2,e,hv.mono (fun k hk=>⟨hk.1,by omega,hk.2.2⟩) (fun k h=>hk k h.1 h.2.1)⟩
theorem OutL.list {w:World} {B E:Nat} {lv:Value} {l:List Ownd} (h:OutL w B E lv l.length l):∃ base cap,lv=.slice base l.length cap∧ListAt w (fun k=>B≤k∧k < w.heap.size) base l:=by
  obtain ⟨rows,h1,h2,h3,h4⟩:=h
  have hlt:=h1.lt
  have hce:=fun g (e:lv.ownBlock=some g)=>h1.cells e
  rcases h1.2 with ⟨rfl,h0⟩ | ⟨g,cap,cur,rfl,k2,_⟩
  · exact ⟨none,0,by rw [h0],.inl (List.eq_nil_of_length_eq_zero h0)⟩
  · refine ⟨some ⟨g,0,none⟩,cap,rfl,.inr ⟨g,0,rfl,hlt g rfl,fun j x hx=>?_⟩⟩
    have hj:=(List.getElem?_eq_some_iff.1 hx).1
    obtain ⟨v1,v2,e,hv⟩:=h4 j _ x (List.getElem?_eq_getElem (by omega)) hx
    have hr:rows[j]?=some [v1,v2]:=by rw [← e];exact List.getElem?_eq_getElem (by omega)
    have c0:=hce g rfl (j * 2+0) v1 (rowsGet rows 2 h3 j _ hr 0 v1 rfl)
    have c1:=hce g rfl (j * 2+1) v2 (rowsGet rows 2 h3 j _ hr 1 v2 rfl)
    rw [add_none] at c0 c1
    exact ⟨v1,v2,by simpa using c0,by simpa using c1,hv.mono (fun k hk=>⟨hk.1,hk.2.1⟩) (fun _ _=>rfl)⟩
theorem OutL.snoc {w w':World} {B E j:Nat} {lv lv':Value} {l:List Ownd} {x:Ownd} {v1 v2:Value} {rows:List (List Value)} (hB:B≤w.heap.size) (h1:w.ownsRow B E 2 lv j rows.flatten) (h234:rows.length=j∧(∀ r ∈ rows,r.length=2)∧∀ (i:Nat) (r:List Value) (x:Ownd),rows[i]?=some r→l[i]?=some x→∃ v1 v2,r=[v1,v2]∧OwndV w (fun k=>B≤k∧k < w.heap.size∧lv.ownBlock ≠ some k) x v1 v2) (hx:l[j]?=some x) (hv:OwndV w (fun k=>B≤k∧k < w.heap.size∧lv.ownBlock ≠ some k) x v1 v2) (hg:w.grownBy w' lv.ownBlock)
    (ho:w'.ownsRow B E 2 lv' (j+1) (rows.flatten ++ [v1,v2])) (hb:lv'.ownBlock=lv.ownBlock∨∃ b,lv'.ownBlock=some b∧w.heap.size≤b):OutL w' B E lv' (j+1) l:=by
  obtain ⟨h2,h3,h4⟩:=h234
  have hmono:∀ {y:Ownd} {u1 u2:Value},OwndV w (fun k=>B≤k∧k < w.heap.size∧lv.ownBlock ≠ some k) y u1 u2→OwndV w' (fun k=>B≤k∧k < w'.heap.size∧lv'.ownBlock ≠ some k) y u1 u2:=fun h =>
    h.mono (fun k hk=>⟨hk.1,by have:=hk.2.1;have:=hg.size;omega,by
      rcases hb with e | ⟨b,e,hbs⟩
      · rw [e];exact hk.2.2
      · rw [e];intro e2;cases e2;have:=hk.2.1;omega⟩) (fun k hk=>hg.block k hk.2.1 (fun e=>hk.2.2 e.symm))
  refine ⟨rows ++ [[v1,v2]],by rw [List.flatten_append];exact ho,by simp [h2],fun r hr=>?_,fun i r y hr hy=>?_⟩
  · rcases List.mem_append.1 hr with hr | hr
    · exact h3 r hr
    · rw [List.mem_singleton.1 hr];rfl
  · rcases Nat.lt_or_ge i j with hi | hi
    · rw [List.getElem?_append_left (by omega)] at hr
      obtain ⟨u1,u2,e,hu⟩:=h4 i r y hr hy
      exact ⟨u1,u2,e,hmono hu⟩
    · rw [List.getElem?_append_right (by omega)] at hr
      have hi0:i=j:=by
        rcases Nat.lt_or_ge (i - rows.length) 1 with h | h
        · omega
        · rw [List.getElem?_eq_none (by simpa using h)] at hr
          cases hr
      subst hi0
      rw [h2,Nat.sub_self] at hr
      simp only [List.getElem?_cons_zero,Option.some.injEq] at hr
      subst hr
      rw [hx] at hy
      cases hy
      exact ⟨v1,v2,rfl,hmono hv⟩
def i32s (xs:List Int):List Value:=xs.map fun x=>.int .i32 x
theorem src_parts {P:Program} {T E:Nat} {w:World} {F:Nat→Prop} {base:Option Addr} {xs:List Int} (hu:P.underlying T=some (.slice E)) (h:PartsAt w F base xs) (cap:Nat):Src P 1 T (.slice base xs.length cap) xs.length (i32s xs) w:=by
  cases base with
  | none =>
    have hn:xs=[]:=by
      rcases h with h | ⟨b,o,e,_⟩
      · exact h
      · cases e
    subst hn
    exact Src.ofNil w hu cap
  | some ad =>
    rcases h with rfl | ⟨b,o,e,_,hc⟩
    · exact Src.ofSlice w hu ad 0 cap [] rfl (fun j u hj=>by simp at hj) (fun u hu=>by cases hu)
    · cases e
      refine Src.ofSlice w hu ⟨b,o,none⟩ xs.length cap (i32s xs) (by simp [i32s]) (fun j u hj=>?_) (fun u hu=>?_)
      · rw [add_none]
        simp only [i32s,List.getElem?_map,Option.map_eq_some_iff] at hj
        obtain ⟨x,hx,rfl⟩:=hj
        exact hc j x hx
      · simp only [i32s,List.mem_map] at hu
        obtain ⟨x,_,rfl⟩:=hu
        rfl
theorem parts_own {w:World} {B E:Nat} {v:Value} {xs:List Int} (h:w.ownsRow B E 1 v xs.length (i32s xs)):∃ base cap,v=.slice base xs.length cap∧PartsAt w (fun k=>v.ownBlock=some k) base xs:=by
  have hce:=fun g (e:v.ownBlock=some g)=>h.cells e
  rcases h.2 with ⟨rfl,h0⟩ | ⟨g,cap,cur,rfl,_⟩
  · exact ⟨none,0,by rw [h0],.inl (List.eq_nil_of_length_eq_zero h0)⟩
  · refine ⟨some ⟨g,0,none⟩,cap,rfl,.inr ⟨g,0,rfl,rfl,fun j x hx=>?_⟩⟩
    have:=hce g rfl j (.int .i32 x) (by simp [i32s,hx])
    rw [add_none] at this
    exact this
end Go.Proofs.YtoiipagmhmohdaaDoor.K
namespace Go.Proofs.YtoiipagmhmohdaaDoor.K
open Go Go.RowKit Go.Proofs.YtoiipagmhmohdaaDoor.T
attribute [local simp] eTm eCo pNo gTp gTn qv qcall vop iop
set_option linter.unusedSimpArgs false
set_option linter.unusedVariables false
set_option maxHeartbeats 4000000
def sc_tellElem (T0 T4 T6 T7 T8 T9 T10:Nat):SC:=.seq (.reg [⟨some 21,.indexAddr T4 (.tmp 17) (.tmp 19),none⟩,ld 22 T6 21,⟨some 7,.alloc T6,none⟩,⟨none,.store T6 (.tmp 7) (.tmp 22),none⟩]) (.dreg [fa 23 T0 5 0,ld 24 T7 23,fa 25 T6 7 0,ld 26 T8 25,fa 27 T6 7 1,ld 28 T9 27,⟨some 29,.call ⟨.builtin .append,#[(.const (.slice none 0 0)),(.tmp 28)],#[T9,T9]⟩,none⟩,⟨some 30,.build T10 #[(0,(.tmp 26)),(1,(.tmp 29))],none⟩,⟨some 31,.buildSlice T7 1 #[(0,(.tmp 30))],none⟩,⟨some 32,.call ⟨.builtin .append,#[(.tmp 24),(.tmp 31)],#[T7,T7]⟩,none⟩,fa 33 T0 5 0,⟨none,.store T7 (.tmp 33) (.tmp 32),none⟩] [[],[0],[],[2],[],[4],[5],[3,6],[7],[1,8,6],[0,1,2,3,4,5,6,7,8,9],[10,9,9,0,1,2,3,4,5,6,7,8,9]])
section
variable {P:Program} {f:FuncId} {fn:Func}
theorem tellElem_ok {T0 T4 T6 T7 T8 T9 T10 T3 r5 j len lc Bo:Nat} {lb:Option Addr} {lv gv:Value} {l:List Ownd} {x:Ownd} {Fr:Nat→Prop} {a:Act} {w:World} {Q:Exit→Act→World→Prop} (hm:P.follows .mixedOrders=true) (hR:RowT P T4 T6) (hf0:fieldOff P T0 0=some 0) (h7:oneB P T7=true) (h8:oneB P T8=true) (h9:oneB P T9=true) (e9:ElT P T9 T3 1) (e7:ElT P T7 T10 2)
    (hB1:∀ (s:ByteArray) (b:Option Addr) (l c:Nat),P.built T10 [(0,.string s),(1,.slice b l c)]=some #[.string s,.slice b l c])
    (hs:a.tmps.size=36) (hd:a.defers=[]) (g5:getT a 5=.pointer (some ⟨r5,0,none⟩)) (g17:getT a 17=.slice lb len lc) (g19:getT a 19=.int .i64 (j:Int)) (hj:j < len) (hl:ListAt w Fr lb l) (hx:l[j]?=some x) (hFr:∀ k,Fr k→k < Bo) (hrow:w.heap[r5]?=some (.cells #[lv,gv] T0 (0,0))) (hr5:r5 < Bo) (hBo:Bo≤w.heap.size) (ho:OutL w Bo T10 lv j l) (hxl:x.2.length≤70000000) (hjl:j≤70000000)
    (h:∀ a' w' lv',a'.tmps.size=36→a'.defers=[]→(∀ s,s < 21→s ≠ 7→getT a' s=getT a s)→w'.heap[r5]?=some (.cells #[lv',gv] T0 (0,0))→OutL w' Bo T10 lv' (j+1) l→Keep (fun k=>k=r5∨Bo≤k) w w'→Q .normal a' w'):(sc_tellElem T0 T4 T6 T7 T8 T9 T10).wp P Q a w:=by
  have g0:=hR.f0
  have g1:=hR.f1
  unfold sc_tellElem
  rcases hl with rfl | ⟨b,o,rfl,hbF,hc⟩
  · simp at hx
  obtain ⟨v1,v2,c1,c2,rfl,pb,pc,rfl,hpa⟩:=hc j x hx
  refine SC.wp_seq (SC.wp_reg ?_)
  refine ops_row (k:=j) hR g17 g19 hj c1 c2 rfl rfl (by (try simp only [sPu]);omega) (by (try simp only [sPu]);omega) (by omega) fun w6 hb6 hs6 hrow6=>oNi ?_
  simp only [Exit.then]
  obtain ⟨r7,hr7⟩:∃ r7,r7=w.heap.size:=⟨_,rfl⟩
  rw [← hr7] at hrow6
  have hrow5:w6.heap[r5]?=some (.cells #[lv,gv] T0 (0,0)):=by rw [hb6.block r5 (by omega)];exact hrow
  have ho6:OutL w6 Bo T10 lv j l:=ho.keep (fun k _ hk=>hb6.block k hk) (by omega)
  have hpa6:PartsAt w6 Fr pb x.2:=hpa.mono (fun k hk=>hk) (fun k hk=>hb6.block k (by have:=hFr k hk;omega))
  obtain ⟨SS,hSS⟩:∃ SS:World→Prop,SS=fun w'=>w'.heap[r5]?=some (.cells #[lv,gv] T0 (0,0))∧w'.heap[r7]?=some (.cells #[.string ⟨x.1.toArray⟩,.slice pb x.2.length pc] T6 (0,0)):=⟨_,rfl⟩
  have hS0:SS w6.drew:=by rw [hSS];exact ⟨hrow5,hrow6⟩
  have hSc:∀ w',SS w'→∀ b' o',(fun b'=>decide (b'=r5) || decide (b'=r7)) b'=true→w'.cell? ⟨b',o',none⟩=w6.cell? ⟨b',o',none⟩:=fun w' h b' o' hb'=>by
    rw [hSS] at h
    simp only [Bool.or_eq_true,decide_eq_true_eq] at hb'
    rcases hb' with rfl | rfl
    · rw [cell_of_row _ _ _ _ _ _ h.1,cell_of_row _ _ _ _ _ _ hrow5]
    · rw [cell_of_row _ _ _ _ _ _ h.2,cell_of_row _ _ _ _ _ _ hrow6]
  have k50:w6.cell? ⟨r5,0,none⟩=some lv:=by rw [cell_of_row _ _ _ _ _ _ hrow5];rfl
  have k70:w6.cell? ⟨r7,0,none⟩=some (.string ⟨x.1.toArray⟩):=by rw [cell_of_row _ _ _ _ _ _ hrow6];rfl
  have k71:w6.cell? ⟨r7,1,none⟩=some (.slice pb x.2.length pc):=by rw [cell_of_row _ _ _ _ _ _ hrow6];rfl
  refine SC.wp_dregL hm SS 11 [(0,true),(1,true),(2,true),(3,true),(4,true),(5,true),(6,false),(7,false),(8,false),(9,false),(10,false),(11,false)] (by rfl) (by rfl) (by decide) hS0 ?_
  refine dl_S (v:=.pointer (some ⟨r5,0,none⟩)) hSc rfl (by simp (disch:=(try simp only [sPu]);omega) [qv,g5,hf0]) ?_
  refine dl_S (v:=lv) hSc rfl (by simp (disch:=(try simp only [sPu]);omega) [qv,h7];exact k50) ?_
  refine dl_S (v:=.pointer (some ⟨r7,0,none⟩)) hSc rfl (by simp (disch:=(try simp only [sPu]);omega) [qv,g0,hr7]) ?_
  refine dl_S (v:=.string ⟨x.1.toArray⟩) hSc rfl (by simp (disch:=(try simp only [sPu]);omega) [qv,h8];exact k70) ?_
  refine dl_S (v:=.pointer (some ⟨r7,1,none⟩)) hSc rfl (by simp (disch:=(try simp only [sPu]);omega) [qv,g1,hr7]) ?_
  refine dl_S (v:=.slice pb x.2.length pc) hSc rfl (by simp (disch:=(try simp only [sPu]);omega) [qv,h9];exact k71) ?_
  have hdr:w6.drew.heap.size=w6.heap.size:=rfl
  have hpad:PartsAt w6.drew Fr pb x.2:=hpa6
  have hod:OutL w6.drew Bo T10 lv j l:=ho6.keep (fun k _ _=>rfl) (Nat.le_refl _)
  refine dl_n rfl rfl (opw_appendG (B:=w6.heap.size) (n:=0) (m:=x.2.length) (cells:=[]) (news:=i32s x.2) (dv:=.slice none 0 0) (xv:=.slice pb x.2.length pc) e9 rfl (by simp (disch:=(try simp only [sPu]);omega)) (by simp (disch:=(try simp only [sPu]);omega)) (World.ownsRow_nil _ _ _ _) (Nat.le_refl _) (src_parts e9.hu hpad pc) (by omega) fun pv w7 hpo hg7 hpb=>?_)
  rw [List.nil_append,Nat.zero_add] at hpo
  have hs7:=hg7.size
  rw [hdr] at hs7
  have hk7:∀ k,k < w6.heap.size→w7.heap[k]?=w6.heap[k]?:=fun k hk=>hg7.block k hk (by simp [Value.ownBlock])
  obtain ⟨pb7,pc7,rfl,hpa7⟩:=parts_own hpo
  have hS7:SS w7:=by rw [hSS];exact ⟨by rw [hk7 r5 (by omega)];exact hrow5,by rw [hk7 r7 (by omega)];exact hrow6⟩
  have ho7:OutL w7 Bo T10 lv j l:=hod.keep (fun k _ hk=>hk7 k hk) hs7
  refine ⟨fun _=>hS7,?_⟩
  refine dl_n rfl rfl (opw_build (cs:=#[.string ⟨x.1.toArray⟩,.slice pb7 x.2.length pc7]) ?_ ⟨fun _=>hS7,?_⟩)
  · simp only [List.map_toArray,List.map_cons,List.map_nil]
    rw [eTm,eTm,gTp (by simp only [sPu];omega)]
    simp (disch:=(try simp only [sPu]);omega) [gTp,gTn]
    exact hB1 _ _ _ _
  refine dl_n rfl rfl (opw_row1 (v0:=.string ⟨x.1.toArray⟩) (v1:=.slice pb7 x.2.length pc7) e7 (by simp (disch:=(try simp only [sPu]);omega)) ?_)
  have hnew8:=heap_alloc_new w7 (.cells #[.string ⟨x.1.toArray⟩,.slice pb7 x.2.length pc7] T10)
  have hk8:∀ k,k < w7.heap.size→(w7.alloc (.cells #[.string ⟨x.1.toArray⟩,.slice pb7 x.2.length pc7] T10)).heap[k]?=w7.heap[k]?:=fun k hk=>Below.heap_alloc _ _ _ hk
  have hs8:(w7.alloc (.cells #[.string ⟨x.1.toArray⟩,.slice pb7 x.2.length pc7] T10)).heap.size=w7.heap.size+1:=by simp
  have hb8:Below w7.heap.size w7 (w7.alloc (.cells #[.string ⟨x.1.toArray⟩,.slice pb7 x.2.length pc7] T10)):=(Below.refl _ _).alloc (Nat.le_refl _) _
  generalize w7.alloc (.cells #[.string ⟨x.1.toArray⟩,.slice pb7 x.2.length pc7] T10)=w8 at *
  have hS8:SS w8:=by
    rw [hSS] at hS7 ⊢
    exact ⟨by rw [hk8 r5 (by omega)];exact hS7.1,by rw [hk8 r7 (by omega)];exact hS7.2⟩
  have ho8:OutL w8 Bo T10 lv j l:=ho7.keep (fun k _ hk=>hk8 k hk) (by omega)
  refine ⟨fun _=>hS8,?_⟩
  have hlv1:=ho8.one
  have hown0:∀ k,lv.ownBlock=some k→Bo≤k∧k < w.heap.size:=by
    obtain ⟨rows,q1,_⟩:=ho
    exact fun k hk=>q1.lt k hk
  have hown8:∀ k,lv.ownBlock=some k→Bo≤k∧k < w6.heap.size:=by
    obtain ⟨rows,q1,_⟩:=hod
    exact fun k hk=>q1.lt k hk
  obtain ⟨rows8,ow8,orest⟩:=ho8
  refine dl_n rfl rfl (opw_appendG (B:=Bo) (n:=j) (m:=1) (cells:=rows8.flatten) (news:=[.string ⟨x.1.toArray⟩,.slice pb7 x.2.length pc7]) (dv:=lv) (xv:=.slice (some ⟨w7.heap.size,0,none⟩) 1 1) e7 rfl (by simp (disch:=(try simp only [sPu]);omega)) (by simp (disch:=(try simp only [sPu]);omega)) ow8 (by omega) (Src.ofSlice w8 e7.hu ⟨w7.heap.size,0,none⟩ 1 1 _ (by simp) (fun i u hu=>by rw [add_none,cell_of_row _ _ _ _ _ _ hnew8];simpa using hu) (by intro u hu;simp at hu;rcases hu with rfl | rfl <;> rfl)) (by omega) fun lv9 w9 ow9 hg9 hlb9=>?_)
  have hs9:=hg9.size
  have hS9:SS w9:=by
    rw [hSS] at hS8 ⊢
    exact ⟨by rw [hg9.block r5 (by omega) (fun e=>by have:=(hown8 r5 e.symm).1;omega)];exact hS8.1,by rw [hg9.block r7 (by omega) (fun e=>by have:=(hown0 r7 e.symm).2;omega)];exact hS8.2⟩
  refine ⟨fun _=>hS9,?_⟩
  have hpa8:OwndV w8 (fun k=>Bo≤k∧k < w8.heap.size∧lv.ownBlock ≠ some k) x (.string ⟨x.1.toArray⟩) (.slice pb7 x.2.length pc7):=by
    refine ⟨rfl,pb7,pc7,rfl,hpa7.mono (fun k hk=>?_) (fun k hk=>hk8 k (hpo.lt k hk).2)⟩
    have h1:=hpo.lt k hk
    exact ⟨by omega,by omega,fun e=>by have:=(hown8 k e).2;omega⟩
  have ho9:OutL w9 Bo T10 lv9 (j+1) l:=OutL.snoc (w:=w8) (by omega) ow8 orest hx hpa8 hg9 ow9 hlb9
  refine dl_1 (v:=.pointer (some ⟨r5,0,none⟩)) rfl (by simp (disch:=(try simp only [sPu]);omega) [qv,g5,hf0]) hS9 ?_
  rw [hSS] at hS9
  have hlv9:=ho9.one
  refine dl_n rfl rfl (opw_store_one (ad:=⟨r5,0,none⟩) (v:=lv9) (v0:=lv) h7 (by simp (disch:=(try simp only [sPu]);omega)) (by simp (disch:=(try simp only [sPu]);omega)) hlv9 (by rw [cell_of_row _ _ _ _ _ _ hS9.1];rfl) (by simp [World.frozen?,hS9.1]) ?_)
  rw [pNo,setCell_eq_setRow _ _ _ _ _ _ _ hS9.1]
  refine ⟨fun h=>absurd rfl h,dl_nil ?_⟩
  have hk9:Keep (fun k=>k=r5∨Bo≤k) w w9:=by
    refine ⟨?_,?_,?_,by omega,fun k hk hn=>?_⟩
    · rw [hg9.os,hb8.os,hg7.os];exact hb6.os
    · rw [hg9.tape,hb8.tape,hg7.tape];exact hb6.tape
    · rw [hg9.output,hb8.output,hg7.output];exact hb6.output
    · rw [hg9.block k (by omega) (fun e=>hn (.inr (hown8 k e.symm).1)),hk8 k (by omega),hk7 k (by omega),hb6.block k (by omega)]
  refine h _ _ lv9 (by simp [sPu,hs]) (by simp [dPu,hd]) (fun s z1 z2=>by simp (disch:=(try simp only [sPu]);omega)) (setRow_heap w9 r5 _ (#[lv,gv].setIfInBounds 0 lv9) _ _ hS9.1) (ho9.keep (fun k hk _=>setRow_other _ _ _ _ (by omega)) (by simp)) (hk9.setRow (.inl (.inl rfl)) _)
end
end Go.Proofs.YtoiipagmhmohdaaDoor.K
