/- Generic texts: Y2 Y3 Y4 Y5 Y6 Y7 Y8 U2 U3. No condition. -/
import Derived.Test.YtcchakpiemhpeaaDoorN12
namespace Go.Proofs.YtcchakpiemhpeaaDoor.K
open Go Go.RowKit Go.Proofs.YtcchakpiemhpeaaDoor.T
attribute [local simp] eTm eCo pNo gTp gTn qv qcall vop iop
set_option linter.unusedSimpArgs false
set_option linter.unusedVariables false
set_option maxHeartbeats 4000000
section
variable {P:Program} {f:FuncId} {fn:Func}
end
end Go.Proofs.YtcchakpiemhpeaaDoor.K
namespace Go.Proofs.YtcchakpiemhpeaaDoor.K
open Go Go.RowKit Go.Proofs.YtcchakpiemhpeaaDoor.T
attribute [local simp] eTm eCo pNo gTp gTn qv qcall vop iop
set_option linter.unusedSimpArgs false
set_option linter.unusedVariables false
set_option maxHeartbeats 4000000
section
variable {P:Program} {f:FuncId} {fn:Func}
end
end Go.Proofs.YtcchakpiemhpeaaDoor.K
namespace Go.Proofs.YtcchakpiemhpeaaDoor.K
open Go Go.RowKit Go.Proofs.YtcchakpiemhpeaaDoor.T
attribute [local simp] eTm eCo pNo gTp gTn qv qcall vop iop
set_option linter.unusedSimpArgs false
set_option linter.unusedVariables false
set_option maxHeartbeats 4000000
section
variable {P:Program} {f:FuncId} {fn:Func}
end
end Go.Proofs.YtcchakpiemhpeaaDoor.K
namespace Go.Proofs.YtcchakpiemhpeaaDoor.K
open Go Go.RowKit Go.Proofs.YtcchakpiemhpeaaDoor.T
attribute [local simp] eTm eCo pNo gTp gTn qv qcall vop iop
set_option linter.unusedSimpArgs false
set_option linter.unusedVariables false
set_option maxHeartbeats 4000000
section
variable {P:Program} {f:FuncId} {fn:Func}
end
end Go.Proofs.YtcchakpiemhpeaaDoor.K
namespace Go.Proofs.YtcchakpiemhpeaaDoor.K
open Go Go.RowKit Go.Proofs.YtcchakpiemhpeaaDoor.T
set_option linter.unusedSimpArgs false
set_option linter.unusedVariables false
end Go.Proofs.YtcchakpiemhpeaaDoor.K
namespace Go.Proofs.YtcchakpiemhpeaaDoor.K
open Go Go.RowKit Go.Proofs.YtcchakpiemhpeaaDoor.T
attribute [local simp] eTm eCo pNo gTp gTn qv qcall vop iop
set_option linter.unusedSimpArgs false
set_option linter.unusedVariables false
set_option maxHeartbeats 2000000
def RCZ (P:Program) (TR gb:Nat) (ks:IntKind) (f:FuncId) (p:Rd Int):Prop :=
  FnOK P f∧∀ (w:World) (S:Option Nat) (rb:Nat) (st:Option Bytes),gb < w.heap.size→RdAt TR w S rb st→(∀ sb,S=some sb→sb ≠ rb∧sb < w.heap.size) →
    Calls P f #[.pointer (some ⟨rb,0,none⟩)] w fun e w'=>∃ n:Int,e=.returned (.int ks n)∧RdAt TR w' S rb (after st p)∧Only rb w w'∧(after st p=none→n=0)∧∀ b x r,st=some b→p b=some (x,r)→n=x
section
variable {P:Program} {R:RTy} {f:FuncId} {fn:Func}
theorem rNumZ_ok {TR gb BE F T T' nb : Nat} {ks ku : IntKind} (hTR : R.TR = TR) (hm : P.follows .mixedOrders = true) (hR : rdOK P R = true) (hBE : aggN P BE = some 0) (hBE1 : oneB P BE = false) (hF : BeC P F nb ku) (hnb : 0 < nb) (hT : intK P T = some ku) (hT' : intK P T' = some ks) (hw : ∀ n : Nat, n < 256 ^ nb → ks.wrap (n : Int) = sgn nb n) (hf : P.funcs[f]? = some fn) (hb : fn.body.map strip = some (sc_RNumS R BE F gb T T' (nb : Int) ks)) (hnm : (fn.name == "runtime.NumGoroutine") = false) (hn : fn.ntmps = 32) (hr : fn.results = #[.tmp 2]) :
    RCZ P TR gb ks f (pInt nb):=by
  subst hTR
  have hst:=rd_facts hR
  refine ⟨fnOK_of hf hb hnm,fun w S rb st hgb hrd hsrc=>?_⟩
  refine fCa hf hb hn (by simp) fun a0 hs hd ha=>?_
  have h0:=ha 0 _ rfl
  simp only [List.getElem_toArray,List.getElem_cons_zero,List.getElem_cons_succ] at h0
  refine SC.wp_seq (SC.wp_reg ?_)
  repeat (apply ops_1;(focus (simp (disch:=(try simp only [sPu]);omega) ;try rfl)))
  refine oNi (SC.wp_seq (SC.wp_seq (SC.wp_reg ?_)))
  rcases rdAt_row hrd with ⟨rfl,hrow⟩ | ⟨rest,base,cap,rfl,hrow,hcap,hsr⟩
  · have hc:=rdRow_cells hrow
    have hnbi:decide ((0:Int) < (nb:Int))=true:=by simpa using hnb
    repeat (apply ops_1;(focus (simp (disch:=(try simp only [sPu]);omega) [hst,h0,hc];try rfl)))
    refine oNi (SC.wp_cond (t:=true) (by simp (disch:=(try simp only [sPu]);omega) [hnb]) ?_)
    rw [if_pos rfl]
    refine rFail_ok (S:=S) hR hrow (by simp (disch:=(try simp only [sPu]);omega) [h0]) (by omega) (by simp [sPu,hs]) (by simp [sPu,hs]) fun a' w' q1 q2 q3 q4=>?_
    simp only [Exit.then]
    exact ret_tmp hr (by rw [q1];simp [dPu,hd]) ⟨0,by rw [q2],q3,q4,fun _=>rfl,fun b x r h=>by cases h⟩
  · have hc:=rdRow_cells hrow
    repeat (apply ops_1;(focus (simp (disch:=(try simp only [sPu]);omega) [hst,h0,hc];try rfl)))
    refine oNi (SC.wp_cond (t:=decide ((rest.length:Int) < (nb:Int))) (by simp (disch:=(try simp only [sPu]);omega)) ?_)
    by_cases hl:rest.length < nb
    · have hno:pInt nb rest=none:=pInt_no hl
      rw [if_pos (decide_eq_true (by omega))]
      refine rFail_ok (S:=S) hR hrow (by simp (disch:=(try simp only [sPu]);omega) [h0]) (by omega) (by simp [sPu,hs]) (by simp [sPu,hs]) fun a' w' q1 q2 q3 q4=>?_
      simp only [Exit.then]
      refine ret_tmp hr (by rw [q1];simp [dPu,hd]) ⟨0,by rw [q2],by rw [after_no hno];exact q3,q4,fun _=>rfl,fun b x r h hp=>?_⟩
      cases h
      rw [hno] at hp
      cases hp
    · rw [if_neg (by rw [decide_eq_false (by omega)];simp)]
      refine SC.wp_skip ?_
      simp only [Exit.then]
      obtain ⟨sb,q,rfl,rfl,hbytes⟩:=src_head hsr (k:=nb) (by omega) hnb
      have hsbl:=(hsrc sb rfl).2
      have hrbl:=rdAt_lt hrow
      have hcd:w.drew.cell? ⟨rb,0,none⟩=some (.slice (some ⟨sb,q,none⟩) rest.length cap):=hc.1
      have hrg:rangeV w.drew gb 0 0=some []:=rfl
      refine SC.wp_seq (SC.wp_dreg hm (Below w.heap.size w.drew) [(0,true),(1,true),(2,true),(3,true),(4,true),(5,false),(6,true),(7,true)] (by rfl) (by rfl) (by decide) (Below.refl _ _) ?_)
      iterate 5 (apply dr_1;(focus rfl);(focus (simp (disch:=(try simp only [sPu]);omega) [hst,h0,hcd,hrbl,hgb,hBE,hBE1,hrg,eval_global];try rfl)))
      refine dreg_call (argsV:=#[.agg #[],.slice (some ⟨sb,q,none⟩) rest.length cap]) rfl hF.1 (hF.2 w.drew sb q rest.length cap (rest.take nb) (by simp;omega) (by omega) hsbl hbytes) (by simp (disch:=(try simp only [sPu]);omega)) ?_
      rintro e w1 ⟨rfl,hb1⟩
      refine ⟨_,rfl,hb1,?_⟩
      have hwv:=hw (unfix (rest.take nb)) (by have:=unfix_lt (rest.take nb);rwa [show (rest.take nb).length=nb by simp;omega] at this)
      repeat (apply dr_1;(focus rfl);(focus (simp (disch:=(try simp only [sPu]);omega) [hT,hT',hwv];try rfl)))
      refine dreg_nil ?_
      simp only [Exit.then]
      have hrow1:rdRow R.TR w1 rb (.slice (some ⟨sb,q,none⟩) rest.length cap) false:=(hb1.block rb hrbl).trans hrow
      have hsr1:SrcAt w1 (some sb) (some ⟨sb,q,none⟩) rest:=hsr.frame fun s h=>hb1.block s (hsrc s h).2
      refine SC.wp_seq (rDropC_ok (n:=nb) (S:=some sb) hR hrow1 hcap hsr1 (fun s h=>(hsrc s h).1) (by omega) (by simp (disch:=(try simp only [sPu]);omega) [h0]) (by omega) (by simp [sPu,hs]) fun a1 w2 q1 q2 q3 q4 q5=>?_)
      have hs1:a1.tmps.size=32:=by rw [q1];simp [sPu,hs]
      have hd1:a1.defers=[]:=by rw [q2];simp [dPu,hd]
      have h3:getT a1 3=.int ks (sgn nb (unfix (rest.take nb))):=by rw [q3 3 (by omega)];simp (disch:=(try simp only [sPu]);omega)
      simp only [Exit.then]
      refine SC.wp_seq (SC.wp_reg ?_)
      repeat (apply ops_1;(focus (simp (disch:=(try simp only [sPu]);omega) [h3];try rfl)))
      refine oNi (SC.wp_ret ?_)
      have hpf:pInt nb rest=some (sgn nb (unfix (rest.take nb)),rest.drop nb):=pInt_of (by omega)
      have ho1:Only rb w w1:=⟨hb1.os,hb1.tape,hb1.output,hb1.size,fun k hk _=>hb1.block k hk⟩
      refine ret_tmp hr (by simp [dPu,hd1]) ⟨sgn nb (unfix (rest.take nb)),by simp (disch:=(try simp only [sPu]);omega) [h3],by rw [after_ok hpf];exact q4,ho1.trans q5,(fun h=>by rw [after_ok hpf] at h;cases h),fun b x r h hp=>?_⟩
      cases h
      rw [hpf] at hp
      cases hp
      rfl
end
end Go.Proofs.YtcchakpiemhpeaaDoor.K
namespace Go.Proofs.YtcchakpiemhpeaaDoor.K
open Go Go.RowKit Go.Proofs.YtcchakpiemhpeaaDoor.T
attribute [local simp] eTm eCo pNo gTp gTn qv qcall vop iop
set_option linter.unusedSimpArgs false
set_option linter.unusedVariables false
set_option maxHeartbeats 4000000
structure Keep (E:Nat→Prop) (w w':World):Prop where
  os:w'.os=w.os
  tape:w'.tape=w.tape
  output:w'.output=w.output
  size:w.heap.size≤w'.heap.size
  block:∀ k,k < w.heap.size→¬ E k→w'.heap[k]?=w.heap[k]?
theorem Keep.refl (E:Nat→Prop) (w:World):Keep E w w:=⟨rfl,rfl,rfl,Nat.le_refl _,fun _ _ _=>rfl⟩
theorem Keep.drew {E:Nat→Prop} {w w':World} (h:Keep E w w'):Keep E w w'.drew:=⟨h.os,h.tape,h.output,h.size,h.block⟩
theorem Keep.trans {E:Nat→Prop} {a b c:World} (h:Keep E a b) (k:Keep E b c):Keep E a c :=
  ⟨k.os.trans h.os,k.tape.trans h.tape,k.output.trans h.output,Nat.le_trans h.size k.size,fun i hi hn=>(k.block i (Nat.lt_of_lt_of_le hi h.size) hn).trans (h.block i hi hn)⟩
theorem Keep.mono {E E':Nat→Prop} {a b:World} (h:Keep E a b) (hE:∀ k,k < a.heap.size→E k→E' k):Keep E' a b :=
  ⟨h.os,h.tape,h.output,h.size,fun i hi hn=>h.block i hi fun e=>hn (hE i hi e)⟩
theorem Keep.of_only {E:Nat→Prop} {rb:Nat} {a b:World} (h:Only rb a b) (hE:E rb):Keep E a b :=
  ⟨h.os,h.tape,h.output,h.size,fun i hi hn=>h.block i hi fun e=>hn (e ▸ hE)⟩
theorem Keep.setRow {E:Nat→Prop} {a w:World} (h:Keep E a w) {b:Nat} (hb:E b∨a.heap.size≤b) (cs:Array Value):Keep E a (w.setRow b cs) :=
  ⟨h.os,h.tape,h.output,by simpa using h.size,fun k hk hn=>(setRow_other _ _ _ _ (by rintro rfl;rcases hb with hb | hb;exact hn hb;omega)).trans (h.block k hk hn)⟩
theorem Keep.alloc {E:Nat→Prop} {a w:World} (h:Keep E a w) (o:Obj):Keep E a (w.alloc o) :=
  ⟨h.os,h.tape,h.output,by have:=h.size;simp;omega,fun k hk hn=>(Below.heap_alloc _ _ _ (Nat.lt_of_lt_of_le hk h.size)).trans (h.block k hk hn)⟩
theorem Keep.below {E:Nat→Prop} {B:Nat} {a w:World} (h:Keep E a w) (hE:∀ k,E k→B≤k) (hB:B≤a.heap.size):Below B a w :=
  ⟨h.os,h.tape,h.output,h.size,fun k hk=>h.block k (by omega) fun e=>by have:=hE k e;omega⟩
theorem Keep.trans' {E E':Nat→Prop} {a b c:World} (h:Keep E a b) (k:Keep E' b c) (hE:∀ i,i < a.heap.size→E' i→E i):Keep E a c :=
  ⟨k.os.trans h.os,k.tape.trans h.tape,k.output.trans h.output,Nat.le_trans h.size k.size,fun i hi hn=>(k.block i (Nat.lt_of_lt_of_le hi h.size) fun e=>hn (hE i hi e)).trans (h.block i hi hn)⟩
section
variable {P:Program} {a:Act} {w:World} {K:Act→World→Prop} {d:Option Tmp} {g:Option (Nat × Bool)}
end
section
variable {P:Program} {f:FuncId} {fn:Func}
end
end Go.Proofs.YtcchakpiemhpeaaDoor.K
namespace Go.Proofs.YtcchakpiemhpeaaDoor.K
open Go Go.RowKit Go.Proofs.YtcchakpiemhpeaaDoor.T
attribute [local simp] eTm eCo pNo gTp gTn qv qcall vop iop
set_option linter.unusedSimpArgs false
set_option linter.unusedVariables false
set_option maxHeartbeats 4000000
def sc_prStr (v t j T1 T3 F2 F3 F4 F5:Nat):SC:=.seq (.reg [⟨some v,.assign (.const (.string ⟨#[]⟩)),none⟩]) (.seq (.seq (.reg [mv t 2]) (.cond (.tmp t) (.seq (.reg [mv (t+1) 9]) (.cond (.tmp (t+1)) (.reg [cal (t+2) F2 [7],asg v (t+2)]) (.reg [cal (t+3) F3 [7],asg v (t+3)]))) (.seq (.reg [mv (t+4) 9]) (.cond (.tmp (t+4)) (.reg [cal (t+5) F4 [7],asg v (t+5)]) (.reg [cal (t+6) F5 [7],asg v (t+6)]))))) (.reg [mv (t+7) 10,mv (t+8) v,nilc (t+9) (t+7),fa (t+10) T1 (t+9) j,⟨none,.store T3 (.tmp (t+10)) (.tmp (t+8)),none⟩]))
section
variable {P:Program} {f:FuncId} {fn:Func}
theorem prStr_ok {v t j T0 T1 T3 F2 F3 F4 F5 gb rb b:Nat} {fl:Bool} {S:Option Nat} {st:Option Bytes} {cs:Array Value} {a:Act} {w:World} {Q:Exit→Act→World→Prop} (hvt:(v=11∧t=31∧j=1)∨(v=12∧t=42∧j=2)) (o3:oneB P T3=true) (hj:fieldOff P T1 j=some j)
    (cC:RC P T0 gb F4 (pPrim true false .str) (tyP false .str) (okP false .str)) (cS:RC P T0 gb F5 (pPrim false false .str) (tyP false .str) (okP false .str))
    (hs:a.tmps.size=64) (hd:a.defers=[]) (g2:getT a 2=.bool false) (g7:getT a 7=.pointer (some ⟨rb,0,none⟩)) (g9:getT a 9=.bool fl) (g10:getT a 10=.pointer (some ⟨b,0,none⟩))
    (hat:RdAt T0 w S rb st) (hS:∀ sb,S=some sb→sb ≠ rb∧sb < w.heap.size∧sb ≠ b) (hbr:b ≠ rb) (hgb:gb < w.heap.size) (hrow:w.heap[b]?=some (.cells cs T1 (0,0))) (hcs:cs.size=5)
    (h:∀ (a':Act) (w':World) (s:ByteArray),a'.tmps.size=64→a'.defers=[]→(∀ s,s < 11→getT a' s=getT a s)→RdAt T0 w' S rb (after st (pPrim fl false .str))→w'.heap[b]?=some (.cells (cs.setIfInBounds j (.string s)) T1 (0,0))→Keep (fun k=>k=rb∨k=b) w w' →
      (∀ b0 x r,st=some b0→pPrim fl false .str b0=some (x,r)→x.s.length≤most→s.data.toList=x.s)→Q .normal a' w'):(sc_prStr v t j T1 T3 F2 F3 F4 F5).wp P Q a w:=by
  have hbl:b < w.heap.size:=(Array.getElem?_eq_some_iff.1 hrow).1
  have hj5:j < cs.size:=by omega
  have tail:∀ (a1:Act) (w1:World) (s:ByteArray),a1.tmps.size=64→a1.defers=[]→(∀ s,s < 11→getT a1 s=getT a s)→getT a1 v=.string s→RdAt T0 w1 S rb (after st (pPrim fl false .str))→Only rb w w1 →
      (∀ b0 x r,st=some b0→pPrim fl false .str b0=some (x,r)→x.s.length≤most→s.data.toList=x.s) →
      (SC.reg [mv (t+7) 10,mv (t+8) v,nilc (t+9) (t+7),fa (t+10) T1 (t+9) j,⟨none,.store T3 (.tmp (t+10)) (.tmp (t+8)),none⟩]).wp P Q a1 w1:=by
    intro a1 w1 s z1 z2 z3 zv zat zon zok
    have k10:getT a1 10=.pointer (some ⟨b,0,none⟩):=(z3 10 (by omega)).trans g10
    have hrow1:w1.heap[b]?=some (.cells cs T1 (0,0)):=by rw [zon.block b hbl hbr];exact hrow
    have hv0:cs[j]?=some cs[j]:=Array.getElem?_eq_getElem hj5
    have fin:∀ a':Act,a'.tmps.size=64→a'.defers=[]→(∀ s,s < 11→getT a' s=getT a1 s)→Q .normal a' (w1.setRow b (cs.setIfInBounds j (.string s))):=fun a' y1 y2 y3=>by
      refine h a' _ s y1 y2 (fun s hs=>(y3 s hs).trans (z3 s hs)) (zat.frame (setRow_other _ _ _ _ (Ne.symm hbr)) fun sb hsb=>setRow_other _ _ _ _ (hS sb hsb).2.2) (setRow_heap w1 b _ _ _ _ hrow1) ((Keep.of_only zon (.inl rfl)).setRow (.inl (.inr rfl)) _) zok
    rcases hvt with ⟨rfl,rfl,rfl⟩ | ⟨rfl,rfl,rfl⟩
    · refine SC.wp_reg ?_
      iterate 4 (apply ops_1;(focus (simp (disch:=(try simp only [sPu]);omega) [k10,hj,zv];try rfl)))
      refine oNo rfl (opw_store_one (ad:=⟨b,1,none⟩) (v:=.string s) (v0:=cs[1]) o3 (by simp (disch:=(try simp only [sPu]);omega)) (by simp (disch:=(try simp only [sPu]);omega) [zv]) rfl (by rw [cell_of_row _ _ _ _ _ _ hrow1];exact hv0) (by simp [World.frozen?,hrow1]) (oNi ?_))
      rw [pNo,setCell_eq_setRow _ _ _ _ _ _ _ hrow1]
      exact fin _ (by simp [sPu,z1]) (by simp [dPu,z2]) fun s hs=>by simp (disch:=omega) [gTn]
    · refine SC.wp_reg ?_
      iterate 4 (apply ops_1;(focus (simp (disch:=(try simp only [sPu]);omega) [k10,hj,zv];try rfl)))
      refine oNo rfl (opw_store_one (ad:=⟨b,2,none⟩) (v:=.string s) (v0:=cs[2]) o3 (by simp (disch:=(try simp only [sPu]);omega)) (by simp (disch:=(try simp only [sPu]);omega) [zv]) rfl (by rw [cell_of_row _ _ _ _ _ _ hrow1];exact hv0) (by simp [World.frozen?,hrow1]) (oNi ?_))
      rw [pNo,setCell_eq_setRow _ _ _ _ _ _ _ hrow1]
      exact fin _ (by simp [sPu,z1]) (by simp [dPu,z2]) fun s hs=>by simp (disch:=omega) [gTn]
  have hS':∀ sb,S=some sb→sb ≠ rb∧sb < w.heap.size:=fun sb h=>⟨(hS sb h).1,(hS sb h).2.1⟩
  have okS:∀ (w':World) (F:Nat→Prop) (x:Tree) (s:ByteArray),okP false .str w' F x (.string s)→x.s.length≤most→s.data.toList=x.s:=fun w' F x s hk hl=>by
    have h1:=hk hl
    rw [if_neg (by decide)] at h1
    simp only [PVal,Bool.false_eq_true,if_false] at h1
    obtain ⟨s',e,h2,_⟩:=h1
    cases e
    exact h2
  have tyS:∀ vv,tyP false .str vv→∃ s,vv=.string s:=fun vv hv=>by simpa [tyP] using hv
  unfold sc_prStr
  have hvt2:v < 64∧t+10 < 64∧v ≠ t∧10 < v∧v < t:=by omega
  refine SC.wp_seq (SC.wp_reg ?_)
  repeat (apply ops_1;(focus (simp (disch:=(try simp only [sPu]);omega) ;try rfl)))
  refine oNi ?_
  simp only [Exit.then]
  refine SC.wp_seq (SC.wp_seq (SC.wp_reg ?_))
  repeat (apply ops_1;(focus (simp (disch:=(try simp only [sPu]);omega) [g2];try rfl)))
  refine oNi (SC.wp_cond (t:=false) (by simp (disch:=(try simp only [sPu]);omega)) ?_)
  rw [if_neg (by simp)]
  refine SC.wp_seq (SC.wp_reg ?_)
  repeat (apply ops_1;(focus (simp (disch:=(try simp only [sPu]);omega) [g9];try rfl)))
  refine oNi (SC.wp_cond (t:=fl) (by simp (disch:=(try simp only [sPu]);omega)) ?_)
  cases fl with
  | true =>
    rw [if_pos rfl]
    refine SC.wp_reg ?_
    refine ops_call cC.1 (cC.2 w S rb st hgb hat hS') (by simp (disch:=(try simp only [sPu]);omega) [g7]) ?_
    rintro e w1 ⟨vv,rfl,hat1,hon1,hty,hok⟩
    refine ⟨_,rfl,?_⟩
    obtain ⟨s,rfl⟩:=tyS vv hty
    repeat (apply ops_1;(focus (simp (disch:=(try simp only [sPu]);omega) ;try rfl)))
    refine oNi (tail _ w1 s (by simp [sPu,hs]) (by simp [dPu,hd]) (fun s hs=>by simp (disch:=(try simp only [sPu]);omega)) (by simp (disch:=(try simp only [sPu]);omega)) hat1 hon1 fun b0 x r e1 e2=>okS _ _ x s (hok b0 x r e1 e2))
  | false =>
    rw [if_neg (by simp)]
    refine SC.wp_reg ?_
    refine ops_call cS.1 (cS.2 w S rb st hgb hat hS') (by simp (disch:=(try simp only [sPu]);omega) [g7]) ?_
    rintro e w1 ⟨vv,rfl,hat1,hon1,hty,hok⟩
    refine ⟨_,rfl,?_⟩
    obtain ⟨s,rfl⟩:=tyS vv hty
    repeat (apply ops_1;(focus (simp (disch:=(try simp only [sPu]);omega) ;try rfl)))
    refine oNi (tail _ w1 s (by simp [sPu,hs]) (by simp [dPu,hd]) (fun s hs=>by simp (disch:=(try simp only [sPu]);omega)) (by simp (disch:=(try simp only [sPu]);omega)) hat1 hon1 fun b0 x r e1 e2=>okS _ _ x s (hok b0 x r e1 e2))
end
end Go.Proofs.YtcchakpiemhpeaaDoor.K
namespace Go.Proofs.YtcchakpiemhpeaaDoor.K
open Go Go.RowKit Go.Proofs.YtcchakpiemhpeaaDoor.T
attribute [local simp] eTm eCo pNo gTp gTn qv qcall vop iop
set_option linter.unusedSimpArgs false
set_option linter.unusedVariables false
set_option maxHeartbeats 4000000
def hdP (i T:Nat):Hd:=⟨0,-1,-1,0,i,i,T,false⟩
def fsPr (T3 T4:Nat):Fs:=.cons (hdP 1 T3) (.prim .str) (.cons (hdP 2 T3) (.prim .str) (.cons (hdP 3 T4) (.prim .bool) .nil))
def pPri (T3 T4:Nat):Rd (Int × (List Tree × List (Nat × Bytes))):=rThen (pInt 2) fun v=>rThen (pMsg 0 (decide (0≤v)) (fsPr T3 T4)) fun x=>rOk (v,x)
theorem pMsg_pr {fl:Bool} {T3 T4:Nat} {b r1 r2 r3 r4:Bytes} {x y z:Tree} {u:List (Nat × Bytes)} (h1:pPrim fl false .str b=some (x,r1)) (h2:pPrim fl false .str r1=some (y,r2)) (h3:pPrim false false .bool r2=some (z,r3)) (h4:pTags fl r3=some (u,r4)):pMsg 0 fl (fsPr T3 T4) b=some (([x,y,z],u),r4):=by
  have h3':pPrim fl false .bool r2=some (z,r3):=h3
  simp [pMsg,fsPr,pFs,Hd.has,hdP,pTy,nulAt,rThen,rOk,h1,h2,h3',h4]
theorem pMsg_pr0 {fl:Bool} {T3 T4:Nat} {b r:Bytes} {xs:List Tree} {u:List (Nat × Bytes)} (h:pMsg 0 fl (fsPr T3 T4) b=some ((xs,u),r)):∃ x y z r1 r2 r3,xs=[x,y,z]∧pPrim fl false .str b=some (x,r1)∧pPrim fl false .str r1=some (y,r2)∧pPrim false false .bool r2=some (z,r3)∧pTags fl r3=some (u,r):=by
  unfold pMsg at h
  obtain ⟨l,r3,hl,hu⟩:=rThen_some h
  obtain ⟨u',r4,hu1,hu2⟩:=rThen_some hu
  obtain ⟨e,rfl⟩:=rOk_some hu2
  cases e
  simp only [fsPr,pFs,Hd.has,hdP,pTy,nulAt,Int.le_refl,decide_true,Bool.true_and,if_true,show decide ((-1:Int) < 0)=true by decide,Bool.true_or,show decide ((0:Int)≤-1)=false by decide,Bool.false_and] at hl
  obtain ⟨x,r1,h1,hl⟩:=rThen_some hl
  obtain ⟨l1,r5,hl1,hl2⟩:=rThen_some hl
  obtain ⟨y,r2,h2,hl3⟩:=rThen_some hl1
  obtain ⟨l2,r6,hl4,hl5⟩:=rThen_some hl3
  obtain ⟨z,r7,h3,hl6⟩:=rThen_some hl4
  obtain ⟨l3,r8,hl7,hl8⟩:=rThen_some hl6
  obtain ⟨rfl,rfl⟩:=rOk_some hl7
  obtain ⟨rfl,rfl⟩:=rOk_some hl8
  obtain ⟨rfl,rfl⟩:=rOk_some hl5
  obtain ⟨rfl,rfl⟩:=rOk_some hl2
  exact ⟨x,y,z,r1,r2,_,rfl,h1,h2,h3,hu1⟩
theorem after_some {α:Type} {st:Option Bytes} {p:Rd α} {r:Bytes} (h:after st p=some r):∃ b x,st=some b∧p b=some (x,r):=by
  cases st with
  | none=>simp [after] at h
  | some b =>
    cases e:p b with
    | none=>rw [after_no e] at h;cases h
    | some z =>
      obtain ⟨x,r'⟩:=z
      rw [after_ok e] at h
      cases h
      exact ⟨b,x,rfl,e⟩
theorem after_pr {fl:Bool} {T3 T4:Nat} (st:Option Bytes):after (after (after (after st (pPrim fl false .str)) (pPrim fl false .str)) (pPrim false false .bool)) (pTags fl)=after st (pMsg 0 fl (fsPr T3 T4)):=by
  cases st with
  | none=>rfl
  | some b =>
    cases e:pMsg 0 fl (fsPr T3 T4) b with
    | some z =>
      obtain ⟨⟨xs,u⟩,r⟩:=z
      obtain ⟨x,y,z,r1,r2,r3,rfl,h1,h2,h3,h4⟩:=pMsg_pr0 e
      rw [after_ok h1,after_ok h2,after_ok h3,after_ok h4,after_ok e]
    | none =>
      rw [after_no e]
      cases e2:after (after (after (after (some b) (pPrim fl false .str)) (pPrim fl false .str)) (pPrim false false .bool)) (pTags fl) with
      | none=>rfl
      | some r =>
        obtain ⟨b3,u,k3,h4⟩:=after_some e2
        obtain ⟨b2,z,k2,h3⟩:=after_some k3
        obtain ⟨b1,y,k1,h2⟩:=after_some k2
        obtain ⟨b0,x,k0,h1⟩:=after_some k1
        cases k0
        rw [pMsg_pr h1 h2 h3 h4] at e
        cases e
def sc_PrRead (T0 T1 T2 T3 T4 T5 F0 F1 F2 F3 F4 F5 F6 F7 F8:Nat):SC:=.seq (.reg [⟨some 6,.assign (.const .nilIface),none⟩]) (.seq (.reg [mv 14 0,cal 15 F0 [14]]) (.seq (.reg [mv 16 1,⟨some 17,.build T0 #[(0,(.tmp 16))],none⟩,⟨some 7,.alloc T0,none⟩,⟨none,.store T0 (.tmp 7) (.tmp 17),none⟩]) (.seq (.reg [mv 18 0,cal 19 F1 [7],nilc 20 18,fa 21 T1 20 0,⟨none,.store T2 (.tmp 21) (.tmp 19),none⟩]) (.seq (.reg [mv 22 0,nilc 23 22,fa 24 T1 23 0,ld 25 T2 24,asg 8 25]) (.seq (.reg [mv 26 8]) (.seq (.reg [mv 27 8,⟨some 28,.binOp .geq T2 (.tmp 27) (.const (.int .i16 0)) T2,none⟩,asg 9 28]) (.seq (.reg [mv 29 9]) (.seq (.reg [mv 30 0,asg 10 30]) (.seq (sc_prStr 11 31 1 T1 T3 F2 F3 F4 F5) (.seq (sc_prStr 12 42 2 T1 T3 F2 F3 F4 F5) (.seq (.seq (.reg [cal 53 F6 [7],asg 13 53]) (.reg [mv 54 10,mv 55 13,nilc 56 54,fa 57 T1 56 3,⟨none,.store T4 (.tmp 57) (.tmp 55),none⟩])) (.seq (.seq (.reg [mv 58 9]) (.cond (.tmp 58) (.reg [mv 59 10,cal 60 F7 [7],nilc 61 59,fa 62 T1 61 4,⟨none,.store T5 (.tmp 62) (.tmp 60),none⟩]) (.skip))) (.seq (.reg [cal 63 F8 [7],asg 6 63]) (.ret))))))))))))))
section
variable {P:Program} {f:FuncId} {fn:Func}
theorem opw_store_in {a:Act} {w:World} {T b o:Nat} {E:TypeId} {x y:Operand} {cur:Array Value} {cs:List Value} {d:Option Tmp} {g:Option (Nat × Bool)} {K:Act→World→Prop} (hT:aggB P T cs.length=true) (hx:a.eval x=.pointer (some ⟨b,o,none⟩)) (hy:a.eval y=.agg cs.toArray)
    (hb:w.heap[b]?=some (.cells cur E (0,0))) (hc:o+cs.length≤cur.size) (h1:∀ v ∈ cs,v.oneCell'=true) (h:K (a.put d undef) (w.setRow b (cur.toList.take o ++ cs ++ cur.toList.drop (o+cs.length)).toArray)) :
    opw P ⟨d,.store T x y,g⟩ a w K:=by
  obtain ⟨i,hi,hs,_⟩:=agg_of (w:=w) hT
  refine opw_skip (w':=w.setRow b (cur.toList.take o ++ cs ++ cur.toList.drop (o+cs.length)).toArray) (by simp) (fun p hp=>?_) h
  have hst:=run_storeCells_at P b o E cs 0 cur w hb (by omega) h1
  simp only [Nat.add_zero] at hst
  simp only [execOp,hp,hx,hy,Instr.storeAt,Instr.sureAddr,storeVar,sizeOf,typeInfo,hi,hs,Value.cells]
  simp [hst,hi,hs]
def PrAt (w:World) (b T1:Nat) (v:Int) (x y z:Tree) (u:List (Nat × Bytes)):Prop :=
  ∃ (s1 s2:ByteArray) (zb:Bool) (m:Value),w.heap[b]?=some (.cells #[.int .i16 v,.string s1,.string s2,.bool zb,m] T1 (0,0))∧s1.data.toList=x.s∧s2.data.toList=y.s∧(z.n % 2=if zb then 1 else 0) ∧
    (if 0≤v then TagsV w (fun k=>k < w.heap.size∧k ≠ b) u m else u=[])
def PrRC (P:Program) (T1 T3 T4 gb:Nat) (err:Value) (Gl:World→Prop) (F:FuncId):Prop:=∀ (B:Nat) (w:World) (S:Option Nat) (b:Nat) (base:Option Addr) (src:Bytes) (cap:Nat),gb < B→B≤b→B≤w.heap.size→(∀ w',Below B w w'→Gl w') →
  w.heap[b]?=some (.cells #[.int .i16 0,.string ⟨#[]⟩,.string ⟨#[]⟩,.bool false,.map none] T1 (0,0))→src.length≤cap→SrcAt w S base src→(∀ sb,S=some sb→sb ≠ b∧sb < w.heap.size) →
  Calls P F #[.pointer (some ⟨b,0,none⟩),.slice base src.length cap,.bool false] w fun e w'=>Below B w w'∧w.heap.size≤w'.heap.size∧e=.returned (if (after (some src) (pPri T3 T4)).isSome then .nilIface else err) ∧
    ∀ v xs u r,pPri T3 T4 src=some ((v,(xs,u)),r)→∃ x y z,xs=[x,y,z]∧(x.s.length≤most→y.s.length≤most→z.s.length≤most→PrAt w' b T1 v x y z u)
theorem prRead_ok {T0 T1 T2 T3 T4 T5 F0 F1 F2 F3 F4 F5 F6 F7 F8 gb:Nat} {err:Value} {Gl:World→Prop} (hrd:rdNew P T0=true) (hf0:fieldOff P T1 0=some 0) (hf1:fieldOff P T1 1=some 1) (hf2:fieldOff P T1 2=some 2) (hf3:fieldOff P T1 3=some 3) (hf4:fieldOff P T1 4=some 4) (o2:oneB P T2=true) (k2:intK P T2=some .i16) (o3:oneB P T3=true) (o4:oneB P T4=true) (hag:aggB P T5 1=true)
    (oD:FnOK P F0) (cD:∀ (w:World) (v:Value),Calls P F0 #[v] w fun e w'=>e=.returned (.tuple #[])∧w'=w)
    (cI:RCZ P T0 gb .i16 F1 (pInt 2)) (cC:RC P T0 gb F4 (pPrim true false .str) (tyP false .str) (okP false .str)) (cS:RC P T0 gb F5 (pPrim false false .str) (tyP false .str) (okP false .str)) (cB:RC P T0 gb F6 (pPrim false false .bool) (tyP false .bool) (okP false .bool))
    (cT:RC P T0 gb F7 (pTags true) (fun v=>∃ m,v=.agg #[m]∧m.oneCell'=true) (fun w F u v=>∃ m,v=.agg #[m]∧TagsV w F u m))
    (oC:FnOK P F8) (cK:∀ (w:World) (S:Option Nat) (rb:Nat) (st:Option Bytes),Gl w→RdAt T0 w S rb st→Calls P F8 #[.pointer (some ⟨rb,0,none⟩)] w fun e w'=>e=.returned (if st.isSome then .nilIface else err)∧w'=w)
    (hf:P.funcs[f]?=some fn) (hb:fn.body.map strip=some (sc_PrRead T0 T1 T2 T3 T4 T5 F0 F1 F2 F3 F4 F5 F6 F7 F8)) (hn:fn.ntmps=64) (hr:fn.results=#[.tmp 6]):PrRC P T1 T3 T4 gb err Gl f:=by
  intro B w S b base src cap hgB hBb hBw hgl hrow hcap hsr hS
  obtain ⟨r1,⟨rit,rz,rzi,rzz,rzc⟩,r3⟩:=rdNew_of hrd
  have hbl:b < w.heap.size:=(Array.getElem?_eq_some_iff.1 hrow).1
  refine fCa hf hb hn (by simp) fun a0 hs hd ha=>?_
  have h0:=ha 0 _ rfl
  have h1:=ha 1 _ rfl
  have hh2:=ha 2 _ rfl
  simp only [List.getElem_toArray,List.getElem_cons_zero,List.getElem_cons_succ] at h0 h1 hh2
  refine SC.wp_seq (SC.wp_reg ?_)
  repeat (apply ops_1;(focus (simp (disch:=(try simp only [sPu]);omega) ;try rfl)))
  refine oNi (SC.wp_seq (SC.wp_reg ?_))
  iterate 1 (apply ops_1;(focus (simp (disch:=(try simp only [sPu]);omega) [h0];try rfl)))
  refine ops_call oD (cD w (.pointer (some ⟨b,0,none⟩))) (by simp (disch:=(try simp only [sPu]);omega) [h0]) ?_
  rintro e w1 ⟨rfl,rfl⟩
  refine ⟨_,rfl,oNi ?_⟩
  simp only [Exit.then]
  refine SC.wp_seq (SC.wp_reg ?_)
  iterate 1 (apply ops_1;(focus (simp (disch:=(try simp only [sPu]);omega) [h1];try rfl)))
  refine oNo rfl (opw_build (cs:=#[.slice base src.length cap,.bool false]) ?_ (oNo rfl (opw_alloc rzi rzz ?_)))
  · have e:(#[(0,Operand.tmp 16)].map fun x:Nat × Operand=>(x.1,Act.eval ((((a0.put (some 6) .nilIface).put (some 14) (.pointer (some ⟨b,0,none⟩))).put (some 15) (.tuple #[])).put (some 16) (.slice base src.length cap)) x.2)).toList=[(0,.slice base src.length cap)]:=by
      simp only [List.map_toArray,List.map_cons,List.map_nil]
      rw [eTm,gTp (by simp only [sPu];omega)]
    rw [e]
    exact r3 _ rfl
  have hnew:=heap_alloc_new w1 (.cells rz.cells T0)
  refine oNo rfl (opw_store_agg (cs:=[.slice base src.length cap,.bool false]) (cur:=rz.cells) (b:=w1.heap.size) (E:=T0) r1 (by simp (disch:=(try simp only [sPu]);omega)) (by simp (disch:=(try simp only [sPu]);omega)) hnew (by rw [rzc];rfl) (by intro v hv;simp at hv;rcases hv with rfl | rfl <;> rfl) (oNi ?_))
  rw [pNo]
  simp only [Exit.then]
  obtain ⟨rb,hrb⟩:∃ rb,rb=w1.heap.size:=⟨_,rfl⟩
  rw [← hrb] at hnew ⊢
  obtain ⟨w2,hw2⟩:∃ w2,w2=(w1.alloc (.cells rz.cells T0)).setRow rb [Value.slice base src.length cap,.bool false].toArray:=⟨_,rfl⟩
  rw [← hw2]
  have hrow2:w2.heap[rb]?=some (.cells #[.slice base src.length cap,.bool false] T0 (0,0)):=by rw [hw2];exact setRow_heap _ _ _ _ _ _ hnew
  have hoth2:∀ k,k < w1.heap.size→w2.heap[k]?=w1.heap[k]?:=fun k hk=>by
    rw [hw2,setRow_other _ _ _ _ (by omega)]
    exact Below.heap_alloc _ _ _ hk
  have hsz2:w2.heap.size=w1.heap.size+1:=by rw [hw2];simp
  obtain ⟨E,hE⟩:∃ E:Nat→Prop,E=fun k=>k=rb∨k=b:=⟨_,rfl⟩
  have hk2:Keep E w1 w2:=by
    rw [hw2]
    exact ((Keep.refl _ w1).alloc _).setRow (.inr (by omega)) _
  have hat2:RdAt T0 w2 S rb (some src):=by
    refine ⟨base,cap,hrow2,hcap,?_⟩
    have:SrcAt w2 S base src:=hsr.frame fun sb hsb=>hoth2 sb (hS sb hsb).2
    cases S <;> exact this
  have hbr:b ≠ rb:=by omega
  have hS2:∀ sb,S=some sb→sb ≠ rb∧sb < w2.heap.size∧sb ≠ b:=fun sb h=>⟨by have:=(hS sb h).2;omega,by have:=(hS sb h).2;omega,(hS sb h).1⟩
  have hb2:w2.heap[b]?=some (.cells #[.int .i16 0,.string ⟨#[]⟩,.string ⟨#[]⟩,.bool false,.map none] T1 (0,0)):=by rw [hoth2 b hbl];exact hrow
  refine SC.wp_seq (SC.wp_reg ?_)
  iterate 1 (apply ops_1;(focus (simp (disch:=(try simp only [sPu]);omega) [h0];try rfl)))
  refine ops_call cI.1 (cI.2 w2 S rb (some src) (by omega) hat2 (fun sb h=>⟨(hS2 sb h).1,(hS2 sb h).2.1⟩)) (by simp (disch:=(try simp only [sPu]);omega)) ?_
  rintro e w3 ⟨n,rfl,hat3,hon3,hn0,hn3⟩
  refine ⟨_,rfl,?_⟩
  have hs3:=hon3.size
  have hb3:w3.heap[b]?=some (.cells #[.int .i16 0,.string ⟨#[]⟩,.string ⟨#[]⟩,.bool false,.map none] T1 (0,0)):=by rw [hon3.block b (by omega) hbr];exact hb2
  iterate 2 (apply ops_1;(focus (simp (disch:=(try simp only [sPu]);omega) [h0,hf0];try rfl)))
  refine oNo rfl (opw_store_one (ad:=⟨b,0,none⟩) (v:=.int .i16 n) (v0:=.int .i16 0) o2 (by simp (disch:=(try simp only [sPu]);omega)) (by simp (disch:=(try simp only [sPu]);omega)) rfl (by rw [cell_of_row _ _ _ _ _ _ hb3];rfl) (by simp [World.frozen?,hb3]) (oNi ?_))
  rw [pNo,setCell_eq_setRow _ _ _ _ _ _ _ hb3]
  simp only [Exit.then]
  have hb4:(w3.setRow b (#[Value.int .i16 0,.string ⟨#[]⟩,.string ⟨#[]⟩,.bool false,.map none].setIfInBounds 0 (.int .i16 n))).heap[b]?=some (.cells #[.int .i16 n,.string ⟨#[]⟩,.string ⟨#[]⟩,.bool false,.map none] T1 (0,0)):=setRow_heap w3 b _ (#[Value.int .i16 0,.string ⟨#[]⟩,.string ⟨#[]⟩,.bool false,.map none].setIfInBounds 0 (.int .i16 n)) _ _ hb3
  have hk4:Keep E w1 (w3.setRow b (#[Value.int .i16 0,.string ⟨#[]⟩,.string ⟨#[]⟩,.bool false,.map none].setIfInBounds 0 (.int .i16 n))):=by
    refine (hk2.trans (Keep.of_only hon3 ?_)).setRow (.inl ?_) _ <;> rw [hE] <;> simp
  have hat4:RdAt T0 (w3.setRow b (#[Value.int .i16 0,.string ⟨#[]⟩,.string ⟨#[]⟩,.bool false,.map none].setIfInBounds 0 (.int .i16 n))) S rb (after (some src) (pInt 2)):=hat3.frame (setRow_other _ _ _ _ (Ne.symm hbr)) fun sb hsb=>setRow_other _ _ _ _ (hS sb hsb).1
  have hs4:(w3.setRow b (#[Value.int .i16 0,.string ⟨#[]⟩,.string ⟨#[]⟩,.bool false,.map none].setIfInBounds 0 (.int .i16 n))).heap.size=w3.heap.size:=by simp
  generalize w3.setRow b (#[Value.int .i16 0,.string ⟨#[]⟩,.string ⟨#[]⟩,.bool false,.map none].setIfInBounds 0 (.int .i16 n))=w4 at *
  have c4:w4.cell? ⟨b,0,none⟩=some (.int .i16 n):=by rw [cell_of_row _ _ _ _ _ _ hb4];rfl
  refine SC.wp_seq (SC.wp_reg ?_)
  repeat (apply ops_1;(focus (simp (disch:=(try simp only [sPu]);omega) [h0,hf0,o2,c4];try rfl)))
  refine oNi (SC.wp_seq (SC.wp_reg ?_))
  repeat (apply ops_1;(focus (simp (disch:=(try simp only [sPu]);omega) ;try rfl)))
  refine oNi (SC.wp_seq (SC.wp_reg ?_))
  repeat (apply ops_1;(focus (simp (disch:=(try simp only [sPu]);omega) [k2];try rfl)))
  refine oNi (SC.wp_seq (SC.wp_reg ?_))
  repeat (apply ops_1;(focus (simp (disch:=(try simp only [sPu]);omega) ;try rfl)))
  refine oNi (SC.wp_seq (SC.wp_reg ?_))
  repeat (apply ops_1;(focus (simp (disch:=(try simp only [sPu]);omega) [h0];try rfl)))
  refine oNi ?_
  simp only [Exit.then]
  obtain ⟨fl,hfl⟩:∃ fl:Bool,fl=decide (0≤n):=⟨_,rfl⟩
  refine gen_act (fun a=>a.tmps.size=64∧a.defers=[]∧getT a 2=.bool false∧getT a 7=.pointer (some ⟨rb,0,none⟩)∧getT a 9=.bool fl∧getT a 10=.pointer (some ⟨b,0,none⟩)) ⟨by simp [sPu,hs],by simp [dPu,hd],by simp (disch:=(try simp only [sPu]);omega) [hh2],by simp (disch:=(try simp only [sPu]);omega),by simp (disch:=(try simp only [sPu]);omega) [hfl],by simp (disch:=(try simp only [sPu]);omega)⟩ ?_
  rintro a5 ⟨z,zd,z2,z7,z9,z10⟩
  refine SC.wp_seq (prStr_ok (gb:=gb) (.inl ⟨rfl,rfl,rfl⟩) o3 hf1 cC cS z zd z2 z7 z9 z10 hat4 (fun sb h=>⟨(hS2 sb h).1,by have:=(hS2 sb h).2.1;omega,(hS2 sb h).2.2⟩) hbr (by omega) hb4 rfl fun a6 w6 s1 p pd ps hat6 hb6 hk6 hx1=>?_)
  simp only [Exit.then]
  have hs6:=hk6.size
  refine SC.wp_seq (prStr_ok (gb:=gb) (.inr ⟨rfl,rfl,rfl⟩) o3 hf2 cC cS p pd ((ps 2 (by omega)).trans z2) ((ps 7 (by omega)).trans z7) ((ps 9 (by omega)).trans z9) ((ps 10 (by omega)).trans z10) hat6 (fun sb h=>⟨(hS2 sb h).1,by have:=(hS2 sb h).2.1;omega,(hS2 sb h).2.2⟩) hbr (by omega) hb6 rfl fun a7 w7 s2 q qd qs hat7 hb7 hk7 hx2=>?_)
  simp only [Exit.then]
  have hs7:=hk7.size
  have hb7:w7.heap[b]?=some (.cells #[.int .i16 n,.string s1,.string s2,.bool false,.map none] T1 (0,0)):=hb7
  have q7:getT a7 7=.pointer (some ⟨rb,0,none⟩):=(qs 7 (by omega)).trans ((ps 7 (by omega)).trans z7)
  have q9:getT a7 9=.bool fl:=(qs 9 (by omega)).trans ((ps 9 (by omega)).trans z9)
  have q10:getT a7 10=.pointer (some ⟨b,0,none⟩):=(qs 10 (by omega)).trans ((ps 10 (by omega)).trans z10)
  clear qs ps z2 z7 z9 z10 z zd p pd
  refine SC.wp_seq (SC.wp_seq (SC.wp_reg ?_))
  refine ops_call cB.1 (cB.2 w7 S rb _ (by omega) hat7 (fun sb h=>⟨(hS2 sb h).1,by have:=(hS2 sb h).2.1;omega⟩)) (by simp (disch:=(try simp only [sPu]);omega) [q7]) ?_
  rintro e w8 ⟨vv,rfl,hat8,hon8,hty8,hok8⟩
  refine ⟨_,rfl,?_⟩
  obtain ⟨zb,rfl⟩:∃ x,vv=.bool x:=hty8
  have hs8:=hon8.size
  have hbl7:b < w7.heap.size:=(Array.getElem?_eq_some_iff.1 hb7).1
  have hb8:w8.heap[b]?=some (.cells #[.int .i16 n,.string s1,.string s2,.bool false,.map none] T1 (0,0)):=by rw [hon8.block b hbl7 hbr];exact hb7
  repeat (apply ops_1;(focus (simp (disch:=(try simp only [sPu]);omega) ;try rfl)))
  refine oNi ?_
  simp only [Exit.then]
  refine SC.wp_reg ?_
  iterate 4 (apply ops_1;(focus (simp (disch:=(try simp only [sPu]);omega) [q10,hf3];try rfl)))
  refine oNo rfl (opw_store_one (ad:=⟨b,3,none⟩) (v:=.bool zb) (v0:=.bool false) o4 (by simp (disch:=(try simp only [sPu]);omega)) (by simp (disch:=(try simp only [sPu]);omega)) rfl (by rw [cell_of_row _ _ _ _ _ _ hb8];rfl) (by simp [World.frozen?,hb8]) (oNi ?_))
  rw [pNo,setCell_eq_setRow _ _ _ _ _ _ _ hb8]
  simp only [Exit.then]
  have hb9:(w8.setRow b (#[Value.int .i16 n,.string s1,.string s2,.bool false,.map none].setIfInBounds 3 (.bool zb))).heap[b]?=some (.cells #[.int .i16 n,.string s1,.string s2,.bool zb,.map none] T1 (0,0)):=setRow_heap w8 b _ (#[Value.int .i16 n,.string s1,.string s2,.bool false,.map none].setIfInBounds 3 (.bool zb)) _ _ hb8
  have hE7:Keep E w1 w7:=(hk4.trans' hk6 fun i _ h=>by rw [hE];exact h).trans' hk7 fun i _ h=>by rw [hE];exact h
  have hk9:Keep E w1 (w8.setRow b (#[Value.int .i16 n,.string s1,.string s2,.bool false,.map none].setIfInBounds 3 (.bool zb))):=by
    refine (hE7.trans (Keep.of_only hon8 ?_)).setRow (.inl ?_) _ <;> rw [hE] <;> simp
  have hat9:=hat8.frame (w':=w8.setRow b (#[Value.int .i16 n,.string s1,.string s2,.bool false,.map none].setIfInBounds 3 (.bool zb))) (setRow_other _ _ _ _ (Ne.symm hbr)) fun sb hsb=>setRow_other _ _ _ _ (hS sb hsb).1
  have hs9:(w8.setRow b (#[Value.int .i16 n,.string s1,.string s2,.bool false,.map none].setIfInBounds 3 (.bool zb))).heap.size=w8.heap.size:=by simp
  generalize w8.setRow b (#[Value.int .i16 n,.string s1,.string s2,.bool false,.map none].setIfInBounds 3 (.bool zb))=w9 at *
  have hEB:∀ k,E k→B≤k:=fun k hk=>by rw [hE] at hk;rcases hk with rfl | rfl <;> omega
  have ends:∀ (a':Act) (w':World) (m:Value),a'.tmps.size=64→a'.defers=[]→getT a' 7=.pointer (some ⟨rb,0,none⟩)→RdAt T0 w' S rb (after (after (after (after (after (some src) (pInt 2)) (pPrim fl false .str)) (pPrim fl false .str)) (pPrim false false .bool)) (pTags fl))→Keep E w1 w'→w'.heap[b]?=some (.cells #[.int .i16 n,.string s1,.string s2,.bool zb,m] T1 (0,0)) →
      (∀ b0 u r,after (after (after (after (some src) (pInt 2)) (pPrim fl false .str)) (pPrim fl false .str)) (pPrim false false .bool)=some b0→pTags fl b0=some (u,r)→if fl=true then TagsV w' (fun k=>k < w'.heap.size∧k ≠ b) u m else u=[]) →
      (SC.seq (.reg [cal 63 F8 [7],asg 6 63]) .ret).wp P (bodyPost P fn (fun e w'=>Below B w1 w'∧rb≤w'.heap.size∧e=.returned (if (after (some src) (pPri T3 T4)).isSome then .nilIface else err) ∧
        ∀ v xs u r,pPri T3 T4 src=some ((v,(xs,u)),r)→∃ x y z,xs=[x,y,z]∧(x.s.length≤most→y.s.length≤most→z.s.length≤most→PrAt w' b T1 v x y z u))) a' w':=by
    intro a' w' m y1 y2 y7 yat yk yb yt
    have hbel:Below B w1 w':=yk.below hEB hBw
    refine SC.wp_seq (SC.wp_reg ?_)
    refine ops_call oC (cK w' S rb _ (hgl w' hbel) yat) (by simp (disch:=(try simp only [sPu]);omega) [y7]) ?_
    rintro e w'' ⟨rfl,rfl⟩
    refine ⟨_,rfl,?_⟩
    repeat (apply ops_1;(focus (simp (disch:=(try simp only [sPu]);omega) ;try rfl)))
    refine oNi (SC.wp_ret ?_)
    have hiff:(after (after (after (after (after (some src) (pInt 2)) (pPrim fl false .str)) (pPrim fl false .str)) (pPrim false false .bool)) (pTags fl)).isSome=(after (some src) (pPri T3 T4)).isSome:=by
      rw [after_pr (T3:=T3) (T4:=T4)]
      unfold pPri
      cases e1:pInt 2 src with
      | none=>rw [after_no e1,after_then_none (after_no e1)];rfl
      | some zz =>
        obtain ⟨v,r⟩:=zz
        have hv:n=v:=hn3 src v r rfl e1
        subst hv
        rw [after_ok e1,after_then _ _ _ rfl e1,← hfl]
        cases e2:pMsg 0 fl (fsPr T3 T4) r with
        | none=>rw [after_no e2,after_then_none (after_no e2)]
        | some yy =>
          obtain ⟨y,r'⟩:=yy
          rw [after_ok e2,after_then _ _ _ rfl e2]
          rfl
    refine ret_tmp hr (by simp [dPu,y2]) ⟨hbel,by have:=yk.size;omega,by rw [← hiff];simp (disch:=(try simp only [sPu]);omega),?_⟩
    intro v xs u r hp
    obtain ⟨v',r0,e1,hp1⟩:=rThen_some hp
    obtain ⟨xx,r',e2,hp2⟩:=rThen_some hp1
    obtain ⟨e3,rfl⟩:=rOk_some hp2
    cases e3
    have hv:n=v:=hn3 src v r0 rfl e1
    subst hv
    rw [← hfl] at e2
    obtain ⟨x,y,z,r1,r2,r4,rfl,g1,g2,g3,g4⟩:=pMsg_pr0 e2
    refine ⟨x,y,z,rfl,fun l1 l2 l3=>⟨s1,s2,zb,m,yb,?_,?_,?_,?_⟩⟩
    · exact hx1 r0 x r1 (after_ok e1) g1 l1
    · exact hx2 r1 y r2 (by rw [after_ok e1,after_ok g1]) g2 l2
    · have h3:=hok8 r2 z r4 (by rw [after_ok e1,after_ok g1,after_ok g2]) g3 l3
      rw [if_neg (by decide)] at h3
      obtain ⟨x',hx',hx''⟩:=h3
      cases hx'
      exact hx''
    · have h4:=yt r4 u _ (by rw [after_ok e1,after_ok g1,after_ok g2,after_ok g3]) g4
      rw [hfl] at h4
      simpa using h4
  refine SC.wp_seq (SC.wp_seq (SC.wp_reg ?_))
  repeat (apply ops_1;(focus (simp (disch:=(try simp only [sPu]);omega) [q9];try rfl)))
  refine oNi (SC.wp_cond (t:=fl) (by simp (disch:=(try simp only [sPu]);omega)) ?_)
  cases hfe:fl with
  | false =>
    rw [if_neg (by simp)]
    refine SC.wp_skip ?_
    simp only [Exit.then]
    rw [hfe] at ends hat9
    refine ends _ w9 (.map none) (by simp [sPu,q]) (by simp [dPu,qd]) (by simp (disch:=(try simp only [sPu]);omega) [q7]) ?_ hk9 hb9 ?_
    · have e:pTags false=rOk []:=rfl
      rw [e,after_rOk]
      exact hat9
    · intro b0 u r _ h
      obtain ⟨rfl,_⟩:=rOk_some (show rOk [] b0=some (u,r) from h)
      simp
  | true =>
    rw [if_pos rfl]
    rw [hfe] at ends hat9
    refine SC.wp_reg ?_
    iterate 1 (apply ops_1;(focus (simp (disch:=(try simp only [sPu]);omega) [q10];try rfl)))
    refine ops_call cT.1 (cT.2 w9 S rb _ (by omega) hat9 (fun sb h=>⟨(hS2 sb h).1,by have:=(hS2 sb h).2.1;omega⟩)) (by simp (disch:=(try simp only [sPu]);omega) [q7]) ?_
    rintro e w10 ⟨vv,rfl,hat10,hon10,⟨m,rfl,hm1⟩,hok10⟩
    refine ⟨_,rfl,?_⟩
    have hs10:=hon10.size
    have hbl9:b < w9.heap.size:=(Array.getElem?_eq_some_iff.1 hb9).1
    have hb10:w10.heap[b]?=some (.cells #[.int .i16 n,.string s1,.string s2,.bool zb,.map none] T1 (0,0)):=by rw [hon10.block b hbl9 hbr];exact hb9
    iterate 2 (apply ops_1;(focus (simp (disch:=(try simp only [sPu]);omega) [hf4];try rfl)))
    refine oNo rfl (opw_store_in (b:=b) (o:=4) (E:=T1) (cur:=#[.int .i16 n,.string s1,.string s2,.bool zb,.map none]) (cs:=[m]) hag (by simp (disch:=(try simp only [sPu]);omega)) (by simp (disch:=(try simp only [sPu]);omega)) hb10 (by simp) (by intro v hv;simp at hv;subst hv;exact hm1) (oNi ?_))
    rw [pNo]
    simp only [Exit.then]
    have hb11:(w10.setRow b (#[Value.int .i16 n,.string s1,.string s2,.bool zb,.map none].toList.take 4 ++ [m] ++ #[Value.int .i16 n,.string s1,.string s2,.bool zb,.map none].toList.drop (4+[m].length)).toArray).heap[b]?=some (.cells #[.int .i16 n,.string s1,.string s2,.bool zb,m] T1 (0,0)):=setRow_heap w10 b _ _ _ _ hb10
    have hk11:Keep E w1 (w10.setRow b (#[Value.int .i16 n,.string s1,.string s2,.bool zb,.map none].toList.take 4 ++ [m] ++ #[Value.int .i16 n,.string s1,.string s2,.bool zb,.map none].toList.drop (4+[m].length)).toArray):=by
      refine (hk9.trans (Keep.of_only hon10 ?_)).setRow (.inl ?_) _ <;> rw [hE] <;> simp
    refine ends _ _ m (by simp [sPu,q]) (by simp [dPu,qd]) (by simp (disch:=(try simp only [sPu]);omega) [q7]) (hat10.frame (setRow_other _ _ _ _ (Ne.symm hbr)) fun sb hsb=>setRow_other _ _ _ _ (hS sb hsb).1) hk11 hb11 ?_
    intro b0 u r h1 h2
    rw [if_pos rfl]
    obtain ⟨m',e',htv⟩:=hok10 b0 u r h1 h2
    simp only [Value.agg.injEq,Array.mk.injEq,List.cons.injEq,and_true] at e'
    subst e'
    refine tagsV_frame (fun k hk=>?_) htv
    have hkb:k ≠ b∧k < w10.heap.size:=by
      rcases hk with hk | hk
      · have:=hS k hk
        exact ⟨this.1,by omega⟩
      · exact ⟨by omega,hk.2⟩
    exact ⟨⟨by simpa using hkb.2,hkb.1⟩,setRow_other _ _ _ _ hkb.1⟩
end
end Go.Proofs.YtcchakpiemhpeaaDoor.K
