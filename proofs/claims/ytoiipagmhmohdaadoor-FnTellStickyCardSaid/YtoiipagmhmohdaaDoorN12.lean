/- Generic texts: H10 H11 Y1 Y2 Y3 Y4 Y5 Y6 Y7. No condition. -/
import Derived.Test.YtoiipagmhmohdaaDoorN11
namespace Go.Proofs.YtoiipagmhmohdaaDoor.K
open Go Go.RowKit Go.Proofs.YtoiipagmhmohdaaDoor.T
attribute [local simp] eTm eCo pNo gTp gTn qv qcall vop iop
set_option linter.unusedSimpArgs false
set_option linter.unusedVariables false
set_option maxHeartbeats 4000000
section
variable {P:Program} {f:FuncId} {fn:Func}
end
end Go.Proofs.YtoiipagmhmohdaaDoor.K
namespace Go.Proofs.YtoiipagmhmohdaaDoor.K
open Go Go.RowKit Go.Proofs.YtoiipagmhmohdaaDoor.T
open Go.ChangeShapes Go.WideShapes Go.Deep
set_option linter.unusedSimpArgs false
set_option linter.unusedVariables false
def twoF (P:Program) (T u0 u1:Nat):Bool:=match P.underlying T with
  | some (.struct fs)=>match fs.toList with
    | [f0,f1]=>f0.offset == 0 && f1.offset == 1 && f0.type == u0 && f1.type == u1
    | _=>false
  | _=>false
theorem twoF_of {P:Program} {T u0 u1:Nat} (h:twoF P T u0 u1=true):∃ (fs:Array Field) (f0 f1:Field),P.underlying T=some (.struct fs)∧fs.size=2∧fs[0]?=some f0∧fs[1]?=some f1∧f0.offset=0∧f1.offset=1∧f0.type=u0∧f1.type=u1:=by
  unfold twoF at h
  split at h
  · rename_i fs hfs
    split at h
    · rename_i f0 f1 hl
      simp only [Bool.and_eq_true,beq_iff_eq] at h
      obtain ⟨⟨⟨h1,h2⟩,h3⟩,h4⟩:=h
      exact ⟨fs,f0,f1,hfs,by rw [← Array.length_toList,hl];rfl,by rw [← Array.getElem?_toList,hl];rfl,by rw [← Array.getElem?_toList,hl];rfl,h1,h2,h3,h4⟩
    · cases h
  · cases h
theorem open_two {H:Type} {enc:TypeId × Value→H} {P:Program} {w:World} {T u0 u1 k0 k1 fuel:Nat} {cs:List Value} {x:DataW H × List MemPlace} (ht:twoF P T u0 u1=true) (hc:P.cellsOf T=k0+k1) (c0:P.cellsOf u0=k0) (c1:P.cellsOf u1=k1) (h1k:k0=1)
    (h:DataW.trod enc P w 0 (fun _=>true) true fuel T cs=some x):∃ n x0 x1,cs.length=k0+k1∧DataW.trod enc P w 0 (fun _=>true) true n u0 (cs.take k0)=some x0∧DataW.trod enc P w 0 (fun _=>true) true n u1 ((cs.drop k0).take k1)=some x1:=by
  subst h1k
  obtain ⟨fs,f0,f1,hfs,hsz,e0,e1,o0,o1,t0,t1⟩:=twoF_of ht
  obtain ⟨xs,n,rfl,rfl,hl,hxl,hxs⟩:=DataW.trod_struct hfs h
  have s0:=hxs 0 f0 e0
  have s1:=hxs 1 f1 e1
  rw [o0,t0,c0] at s0
  rw [o1,t1,c1] at s1
  match xs,hxl.trans hsz with
  | [x0,x1],_ =>
    simp only [List.drop_zero,List.getElem?_cons_zero,List.getElem?_cons_succ] at s0 s1
    exact ⟨n,x0,x1,by rw [hl,hc],s0,s1⟩
theorem zero_sz {P:Program} {T n:Nat} (h:zeroB P T (fun l=>l.length == n)=true):∃ i z,P.info? T=some i∧i.zero=some z∧z.cells.size=n:=by
  obtain ⟨i,z,h1,h2,h3⟩:=zeroB_of h
  exact ⟨i,z,h1,h2,by simpa using h3⟩
def isHd:List Value→Bool
  | [.string s,.slice none 0 0]=>s.data.toList.isEmpty
  | _=>false
end Go.Proofs.YtoiipagmhmohdaaDoor.K
namespace Go.Proofs.YtoiipagmhmohdaaDoor.K
open Go Go.RowKit Go.Proofs.YtoiipagmhmohdaaDoor.T
attribute [local simp] eTm eCo pNo gTp gTn qv qcall vop iop
set_option linter.unusedSimpArgs false
set_option linter.unusedVariables false
set_option maxHeartbeats 4000000
abbrev Ownd:=Bytes × List Int
def PartsAt (w:World) (F:Nat→Prop) (base:Option Addr) (xs:List Int):Prop:=xs=[]∨∃ b o,base=some ⟨b,o,none⟩∧F b∧∀ (j:Nat) (x:Int),xs[j]?=some x→w.cell? ⟨b,o+j,none⟩=some (.int .i32 x)
def OwndV (w:World) (F:Nat→Prop) (x:Ownd) (v1 v2:Value):Prop:=v1=.string ⟨x.1.toArray⟩∧∃ base cap,v2=.slice base x.2.length cap∧PartsAt w F base x.2
def ListAt (w:World) (F:Nat→Prop) (base:Option Addr) (l:List Ownd):Prop:=l=[]∨∃ b o,base=some ⟨b,o,none⟩∧F b∧∀ (j:Nat) (x:Ownd),l[j]?=some x→∃ v1 v2,w.cell? ⟨b,o+j * 2,none⟩=some v1∧w.cell? ⟨b,o+j * 2+1,none⟩=some v2∧OwndV w F x v1 v2
def StV (w:World) (F:Nat→Prop) (l:List Ownd) (g:Int) (v:Value):Prop:=∃ base cap,v=.agg #[.slice base l.length cap,.int .i32 g]∧ListAt w F base l
theorem PartsAt.mono {w w':World} {F F':Nat→Prop} {base:Option Addr} {xs:List Int} (h:PartsAt w F base xs) (hF:∀ k,F k→F' k) (hw:∀ k,F k→w'.heap[k]?=w.heap[k]?):PartsAt w' F' base xs:=by
  rcases h with h | ⟨b,o,rfl,hb,hc⟩
  · exact .inl h
  · exact .inr ⟨b,o,rfl,hF b hb,fun j x hx=>by rw [World.cell?_of_block (hw b hb)];exact hc j x hx⟩
theorem OwndV.mono {w w':World} {F F':Nat→Prop} {x:Ownd} {v1 v2:Value} (h:OwndV w F x v1 v2) (hF:∀ k,F k→F' k) (hw:∀ k,F k→w'.heap[k]?=w.heap[k]?):OwndV w' F' x v1 v2:=by
  obtain ⟨h1,base,cap,h2,h3⟩:=h
  exact ⟨h1,base,cap,h2,h3.mono hF hw⟩
theorem ListAt.mono {w w':World} {F F':Nat→Prop} {base:Option Addr} {l:List Ownd} (h:ListAt w F base l) (hF:∀ k,F k→F' k) (hw:∀ k,F k→w'.heap[k]?=w.heap[k]?):ListAt w' F' base l:=by
  rcases h with h | ⟨b,o,rfl,hb,hc⟩
  · exact .inl h
  · refine .inr ⟨b,o,rfl,hF b hb,fun j x hx=>?_⟩
    obtain ⟨v1,v2,c1,c2,hv⟩:=hc j x hx
    exact ⟨v1,v2,by rw [World.cell?_of_block (hw b hb)];exact c1,by rw [World.cell?_of_block (hw b hb)];exact c2,hv.mono hF hw⟩
theorem StV.mono {w w':World} {F F':Nat→Prop} {l:List Ownd} {g:Int} {v:Value} (h:StV w F l g v) (hF:∀ k,F k→F' k) (hw:∀ k,F k→w'.heap[k]?=w.heap[k]?):StV w' F' l g v:=by
  obtain ⟨base,cap,h1,h2⟩:=h
  exact ⟨base,cap,h1,h2.mono hF hw⟩
theorem StV.down {w w':World} {l:List Ownd} {g:Int} {v:Value} (h:StV w (· < w.heap.size) l g v) (hb:Below w.heap.size w w'):StV w' (· < w'.heap.size) l g v :=
  h.mono (fun k hk=>Nat.lt_of_lt_of_le hk hb.size) (fun k hk=>hb.block k hk)
structure RowT (P:Program) (Ts T:Nat):Prop where
  sl:sliceN P Ts=some 2
  one:oneB P T=false
  agg:aggN P T=some 2
  aggb:aggB P T 2=true
  zero:∃ i z,P.info? T=some i∧i.zero=some z∧z.cells.size=2
  f0:fieldOff P T 0=some 0
  f1:fieldOff P T 1=some 1
def sc_Fits16 (T0 T1 T2 T3:Nat):SC:=.seq (.reg [⟨some 1,.box T0 (.tmp 0),none⟩,⟨some 2,.assign (.const (.bool false)),none⟩]) (.seq (.seq (.reg [fa 3 T0 1 0,ld 4 T1 3,lenOp 5 T1 4,⟨some 6,.binOp .gtr T2 (.tmp 5) (.const (.int .i64 2147483647)) T2,none⟩]) (.cond (.tmp 6) (.seq (.reg [⟨some 2,.assign (.const (.bool false)),none⟩]) (.ret)) (.skip))) (.seq (.seq (.reg [fa 7 T0 1 1,ld 8 T3 7,lenOp 9 T3 8,⟨some 10,.binOp .gtr T2 (.tmp 9) (.const (.int .i64 2147483647)) T2,none⟩]) (.cond (.tmp 10) (.seq (.reg [⟨some 2,.assign (.const (.bool false)),none⟩]) (.ret)) (.skip))) (.seq (.reg [⟨some 2,.assign (.const (.bool true)),none⟩]) (.ret))))
def sc_Fits15 (T0 T1 T2 T3 F0:Nat):SC:=.seq (.reg [⟨some 2,.assign (.const (.bool false)),none⟩]) (.seq (.seq (.reg [mv 5 0,lenOp 6 T0 5,⟨some 7,.binOp .gtr T1 (.tmp 6) (.const (.int .i64 2147483647)) T1,none⟩]) (.cond (.tmp 7) (.seq (.reg [⟨some 2,.assign (.const (.bool false)),none⟩]) (.ret)) (.skip))) (.seq (.seq (.reg [mv 8 0,lenOp 9 T0 8,⟨some 10,.move (.const (.int .i64 0)),none⟩]) (.block 0 (.loop (.seq (.reg [⟨some 11,.binOp .lss T1 (.tmp 10) (.tmp 9) T1,none⟩]) (.seq (.cond (.tmp 11) (.skip) (.exit 0)) (.seq (.block 1 (.seq (.reg [⟨some 12,.indexAddr T0 (.tmp 8) (.tmp 10),none⟩,ld 13 T2 12,⟨some 4,.alloc T2,none⟩,⟨none,.store T2 (.tmp 4) (.tmp 13),none⟩]) (.seq (.reg [ld 14 T2 4,cal 15 F0 [14],⟨some 16,.unOp .not T3 (.tmp 15),none⟩]) (.cond (.tmp 16) (.seq (.reg [⟨some 2,.assign (.const (.bool false)),none⟩]) (.ret)) (.skip))))) (.reg [⟨some 17,.binOp .add T1 (.tmp 10) (.const (.int .i64 1)) T1,none⟩,mv 10 17]))))))) (.seq (.reg [⟨some 2,.assign (.const (.bool true)),none⟩]) (.ret))))
def sc_Fits14 (T0 T1 T2 F0:Nat):SC:=.seq (.reg [⟨some 1,.box T0 (.tmp 0),none⟩,⟨some 2,.assign (.const (.bool false)),none⟩]) (.seq (.seq (.reg [fa 3 T0 1 0,ld 4 T1 3,cal 5 F0 [4],⟨some 6,.unOp .not T2 (.tmp 5),none⟩]) (.cond (.tmp 6) (.seq (.reg [⟨some 2,.assign (.const (.bool false)),none⟩]) (.ret)) (.skip))) (.seq (.reg [⟨some 2,.assign (.const (.bool true)),none⟩]) (.ret)))
def sc_small (T0 T1 T2 T3 T4 T5:Nat):SC:=.seq (.reg [⟨some 1,.box T0 (.tmp 0),none⟩,⟨some 2,.assign (.const (.bool false)),none⟩]) (.seq (.reg [fa 6 T0 1 0,ld 7 T1 6,lenOp 8 T1 7,asg 3 8]) (.seq (.seq (.reg [fa 9 T0 1 0,ld 10 T1 9,lenOp 11 T1 10,⟨some 12,.move (.const (.int .i64 0)),none⟩]) (.block 0 (.loop (.seq (.reg [⟨some 13,.binOp .lss T2 (.tmp 12) (.tmp 11) T2,none⟩]) (.seq (.cond (.tmp 13) (.skip) (.exit 0)) (.seq (.block 1 (.seq (.reg [⟨some 14,.indexAddr T1 (.tmp 10) (.tmp 12),none⟩,ld 15 T3 14,⟨some 5,.alloc T3,none⟩,⟨none,.store T3 (.tmp 5) (.tmp 15),none⟩]) (.seq (.seq (.reg [fa 16 T3 5 0,ld 17 T4 16,lenOp 18 T4 17,⟨some 19,.binOp .gtr T2 (.tmp 18) (.const (.int .i64 32767)) T2,none⟩]) (.cond (.tmp 19) (.seq (.reg [⟨some 2,.assign (.const (.bool false)),none⟩]) (.ret)) (.skip))) (.reg [mv 20 3,fa 21 T3 5 1,ld 22 T5 21,lenOp 23 T5 22,⟨some 24,.binOp .add T2 (.tmp 20) (.tmp 23) T2,none⟩,asg 3 24])))) (.reg [⟨some 25,.binOp .add T2 (.tmp 12) (.const (.int .i64 1)) T2,none⟩,mv 12 25]))))))) (.seq (.reg [mv 26 3,⟨some 27,.binOp .leq T2 (.tmp 26) (.const (.int .i64 2000)) T2,none⟩,asg 2 27]) (.ret))))
section
variable {P:Program} {f:FuncId} {fn:Func}
theorem ops_row {all r:List SOp} {a:Act} {w:World} {K:Act→World→Prop} {Ts T i s j d b o len cap k:Nat} {v1 v2:Value} (hR:RowT P Ts T) (hs:getT a s=.slice (some ⟨b,o,none⟩) len cap) (hj:getT a j=.int .i64 (k:Int)) (hk:k < len)
    (h1:w.cell? ⟨b,o+k * 2,none⟩=some v1) (h2:w.cell? ⟨b,o+k * 2+1,none⟩=some v2) (o1:v1.oneCell'=true) (o2:v2.oneCell'=true) (hi:i+1 < a.tmps.size) (hd:d < a.tmps.size) (hdi:d < i)
    (h:∀ w',Below w.heap.size w w'→w'.heap.size=w.heap.size+1→w'.heap[w.heap.size]?=some (.cells #[v1,v2] T (0,0))→opsw P all r K (((a.put (some i) (.pointer (some ⟨b,o+k * 2,none⟩))).put (some (i+1)) (.agg #[v1,v2])).put (some d) (.pointer (some ⟨w.heap.size,0,none⟩))) w') :
    opsw P all (⟨some i,.indexAddr Ts (.tmp s) (.tmp j),none⟩ :: ld (i+1) T i :: ⟨some d,.alloc T,none⟩ :: ⟨none,.store T (.tmp d) (.tmp (i+1)),none⟩ :: r) K a w:=by
  obtain ⟨it,z,hi0,hz0,hzs⟩:=hR.zero
  have hrg:rangeV w b (o+k * 2) 2=some [v1,v2]:=by simp [rangeV,h1,h2]
  refine ops_1 (v:=.pointer (some ⟨b,o+k * 2,none⟩)) (by simp [qv,eTm,hs,hj,hR.sl];omega) ?_
  refine ops_1 (v:=.agg #[v1,v2]) (by simp [qv,eTm,gTp (show i < a.tmps.size by omega),hR.one,hR.agg,hrg]) ?_
  refine oNo rfl (opw_alloc hi0 hz0 ?_)
  have hb1:Below w.heap.size w (w.alloc (.cells z.cells T)):=(Below.refl _ _).alloc (Nat.le_refl _) _
  have hrow:=heap_alloc_new w (.cells z.cells T)
  have hsz:(w.alloc (.cells z.cells T)).heap.size=w.heap.size+1:=by simp
  generalize w.alloc (.cells z.cells T)=w1 at *
  refine oNo rfl (opw_store_agg (b:=w.heap.size) (cs:=[v1,v2]) (cur:=z.cells) hR.aggb (by rw [eTm,gTp (by simp only [sPu];omega)]) (by rw [eTm,gTn (by omega),gTp (by rw [sPu];omega)]) hrow hzs (by intro v hv;simp at hv;rcases hv with rfl | rfl <;> assumption) ?_)
  rw [pNo]
  exact h _ (below_setRow hb1 (Nat.le_refl _) _) (by rw [← hsz];simp [World.setRow]) (setRow_heap w1 w.heap.size _ [v1,v2].toArray _ _ hrow)
theorem fits16_ok {T0 T1 T2 T3 Ts:Nat} (hR:RowT P Ts T0) (h1:oneB P T1=true) (hst:strB P T1=true) (h3:oneB P T3=true) (hs3:sliceN P T3=some 1) (hf:P.funcs[f]?=some fn) (hb:fn.body.map strip=some (sc_Fits16 T0 T1 T2 T3)) (hn:fn.ntmps=11) (hr:fn.results=#[.tmp 2])
    (w:World) (s:ByteArray) (b:Option Addr) (l c:Nat):Calls P f #[.agg #[.string s,.slice b l c]] w (AsksF (s.data.toList.length≤2147483647∧l≤2147483647) w):=by
  refine fCa hf hb hn (by simp) fun a0 hs hd ha=>?_
  have h0:=ha 0 _ rfl
  simp only [List.getElem_toArray,List.getElem_cons_zero,List.getElem_cons_succ] at h0
  refine SC.wp_seq (SC.wp_reg (ops_box (B:=w.heap.size) (w0:=w) (cs:=#[.string s,.slice b l c]) (by rw [eTm,h0]) (Nat.le_refl _) (Below.refl _ _) fun w1 q1 q2 q3 hc q5=>?_))
  repeat (apply ops_1;(focus (simp (disch:=(try simp only [sPu]);omega) ;try rfl)))
  refine oNi (SC.wp_seq (SC.wp_seq (SC.wp_reg ?_)))
  have hc0:=hc 0
  have hc1:=hc 1
  simp only [List.getElem?_toArray,List.getElem?_cons_zero,List.getElem?_cons_succ] at hc0 hc1
  have hf0:=hR.f0
  have hf1:=hR.f1
  generalize hsl:s.data.toList.length=sl at *
  iterate 3 (apply ops_1;(focus (simp (disch:=(try simp only [sPu]);omega) [hf0,h1,hst,hc0,hsl];try rfl)))
  refine ops_1 (v:=.bool (decide ((2147483647:Int) < (sl:Int)))) (by simp (disch:=(try simp only [sPu]);omega) [qv,vop,iop]) (oNi ?_)
  refine SC.wp_cond (t:=decide ((2147483647:Int) < (sl:Int))) (by simp (disch:=(try simp only [sPu]);omega)) ?_
  refine Decidable.byCases (p:=(2147483647:Int) < (sl:Int)) (fun hlt=>?_) (fun hlt=>?_)
  · rw [if_pos (decide_eq_true hlt)]
    refine SC.wp_seq (SC.wp_reg ?_)
    repeat (apply ops_1;(focus (simp (disch:=(try simp only [sPu]);omega) ;try rfl)))
    refine oNi (SC.wp_ret ?_)
    try simp only [Exit.then]
    exact ret_tmp hr (by simp [dPu,hd]) ⟨⟨false,by simp (disch:=(try simp only [sPu]);omega),fun h=>by cases h⟩,q2⟩
  · rw [if_neg (by simpa using hlt)]
    refine SC.wp_skip ?_
    simp only [Exit.then]
    refine SC.wp_seq (SC.wp_seq (SC.wp_reg ?_))
    repeat (apply ops_1;(focus (simp (disch:=(try simp only [sPu]);omega) [hf1,h3,hs3,hc1];try rfl)))
    refine oNi (SC.wp_cond (t:=decide ((2147483647:Int) < (l:Int))) (by simp (disch:=(try simp only [sPu]);omega)) ?_)
    refine Decidable.byCases (p:=(2147483647:Int) < (l:Int)) (fun hlt2=>?_) (fun hlt2=>?_)
    · rw [if_pos (decide_eq_true hlt2)]
      refine SC.wp_seq (SC.wp_reg ?_)
      repeat (apply ops_1;(focus (simp (disch:=(try simp only [sPu]);omega) ;try rfl)))
      refine oNi (SC.wp_ret ?_)
      try simp only [Exit.then]
      exact ret_tmp hr (by simp [dPu,hd]) ⟨⟨false,by simp (disch:=(try simp only [sPu]);omega),fun h=>by cases h⟩,q2⟩
    · rw [if_neg (by simpa using hlt2)]
      refine SC.wp_skip ?_
      simp only [Exit.then]
      refine SC.wp_seq (SC.wp_reg ?_)
      repeat (apply ops_1;(focus (simp (disch:=(try simp only [sPu]);omega) ;try rfl)))
      refine oNi (SC.wp_ret ?_)
      try simp only [Exit.then]
      exact ret_tmp hr (by simp [dPu,hd]) ⟨⟨true,by simp (disch:=(try simp only [sPu]);omega),fun _=>⟨by omega,by omega⟩⟩,q2⟩
def Fits16C (P:Program) (F:FuncId):Prop:=FnOK P F∧∀ (w:World) (s:ByteArray) (b:Option Addr) (l c:Nat),Calls P F #[.agg #[.string s,.slice b l c]] w (AsksF (s.data.toList.length≤2147483647∧l≤2147483647) w)
def FitsL (l:List Ownd):Prop:=l.length≤2147483647∧∀ x ∈ l,x.1.length≤2147483647∧x.2.length≤2147483647
def Fits15C (P:Program) (F:FuncId):Prop:=FnOK P F∧∀ (w:World) (l:List Ownd) (base:Option Addr) (cap:Nat),ListAt w (· < w.heap.size) base l→Calls P F #[.slice base l.length cap] w (AsksF (FitsL l) w)
theorem fits15_ok {T0 T1 T2 T3 F0 : Nat} (hR : RowT P T0 T2) (c16 : Fits16C P F0) (hf : P.funcs[f]? = some fn) (hb : fn.body.map strip = some (sc_Fits15 T0 T1 T2 T3 F0)) (hnm : (fn.name == "runtime.NumGoroutine") = false) (hn : fn.ntmps = 18) (hr : fn.results = #[.tmp 2]) : Fits15C P f := by
  refine ⟨fnOK_of hf hb hnm,fun w l base cap hl=>?_⟩
  refine fCa hf hb hn (by simp) fun a0 hs hd ha=>?_
  have h0:=ha 0 _ rfl
  simp only [List.getElem_toArray,List.getElem_cons_zero,List.getElem_cons_succ] at h0
  have hsl:=hR.sl
  refine SC.wp_seq (SC.wp_reg ?_)
  repeat (apply ops_1;(focus (simp (disch:=(try simp only [sPu]);omega) ;try rfl)))
  refine oNi (SC.wp_seq (SC.wp_seq (SC.wp_reg ?_)))
  repeat (apply ops_1;(focus (simp (disch:=(try simp only [sPu]);omega) [h0,hsl];try rfl)))
  refine oNi (SC.wp_cond (t:=decide ((2147483647:Int) < (l.length:Int))) (by simp (disch:=(try simp only [sPu]);omega)) ?_)
  refine Decidable.byCases (p:=(2147483647:Int) < (l.length:Int)) (fun hlt=>?_) (fun hlt=>?_)
  · rw [if_pos (decide_eq_true hlt)]
    refine SC.wp_seq (SC.wp_reg ?_)
    repeat (apply ops_1;(focus (simp (disch:=(try simp only [sPu]);omega) ;try rfl)))
    refine oNi (SC.wp_ret ?_)
    try simp only [Exit.then]
    exact ret_tmp hr (by simp [dPu,hd]) ⟨⟨false,by simp (disch:=(try simp only [sPu]);omega),fun h=>by cases h⟩,Below.refl _ _⟩
  rw [if_neg (by simpa using hlt)]
  refine SC.wp_skip ?_
  simp only [Exit.then]
  refine SC.wp_seq (SC.wp_seq (SC.wp_reg ?_))
  repeat (apply ops_1;(focus (simp (disch:=(try simp only [sPu]);omega) [h0,hsl];try rfl)))
  refine oNi ?_
  simp only [Exit.then]
  refine SC.wp_block (SC.wp_loop (fun a4 w5=>∃ j:Nat,a4.tmps.size=18∧a4.defers=[]∧getT a4 8=.slice base l.length cap∧getT a4 9=.int .i64 (l.length:Int)∧getT a4 10=.int .i64 (j:Int)∧j≤l.length∧(∀ x ∈ l.take j,x.1.length≤2147483647∧x.2.length≤2147483647)∧Below w.heap.size w w5)
    (fun a4 _=>match getT a4 10 with | .int _ m=>(l.length - m).toNat | _=>0) ⟨0,by simp [sPu,hs],by simp [dPu,hd],by simp (disch:=(try simp only [sPu]);omega) [h0],by simp (disch:=(try simp only [sPu]);omega),by simp (disch:=(try simp only [sPu]);omega),by omega,by simp,Below.refl _ _⟩ ?_)
  rintro a4 w5 ⟨j,q,qd,q8,q9,q10,hj,hfit,hb5⟩
  have hs5:=hb5.size
  refine SC.wp_seq (SC.wp_reg ?_)
  repeat (apply ops_1;(focus (simp (disch:=(try simp only [sPu]);omega) [q9,q10];try rfl)))
  refine oNi ?_
  simp only [Exit.then]
  refine SC.wp_seq (SC.wp_cond (t:=decide ((j:Int) < (l.length:Int))) (by simp (disch:=(try simp only [sPu]);omega)) ?_)
  refine Decidable.byCases (p:=j < l.length) (fun hjl=>?_) (fun hjl=>?_)
  · rw [if_pos (decide_eq_true (by omega))]
    refine SC.wp_skip ?_
    simp only [Exit.then]
    rcases hl.mono (w':=w5) (F':=(· < w.heap.size)) (fun k hk=>hk) (fun k hk=>hb5.block k hk) with rfl | ⟨b,o,rfl,hbl,hc⟩
    · simp at hjl
    obtain ⟨v1,v2,c1,c2,rfl,pb,pc,rfl,hpa⟩:=hc j _ (List.getElem?_eq_getElem hjl)
    refine SC.wp_seq (SC.wp_block (SC.wp_seq (SC.wp_reg ?_)))
    refine ops_row (k:=j) hR (by simp (disch:=(try simp only [sPu]);omega);exact q8) (by simp (disch:=(try simp only [sPu]);omega);exact q10) hjl c1 c2 rfl rfl (by (try simp only [sPu]);omega) (by (try simp only [sPu]);omega) (by omega) fun w6 hb6 hs6 hrow6=>oNi ?_
    simp only [Exit.then]
    have hc6:rangeV w6 w5.heap.size 0 2=some [.string ⟨(l[j]).1.toArray⟩,.slice pb (l[j]).2.length pc]:=by simp [rangeV,cell_of_row _ _ _ _ _ _ hrow6]
    have h2o:=hR.one
    have h2a:=hR.agg
    refine SC.wp_seq (SC.wp_reg ?_)
    iterate 1 (apply ops_1;(focus (simp (disch:=(try simp only [sPu]);omega) [h2o,h2a,hc6];try rfl)))
    refine ops_call c16.1 (c16.2 w6 ⟨(l[j]).1.toArray⟩ pb (l[j]).2.length pc) (by simp (disch:=(try simp only [sPu]);omega)) ?_
    rintro e w7 ⟨⟨bo,rfl,hbp⟩,hb7⟩
    refine ⟨_,rfl,?_⟩
    have hb7':Below w.heap.size w w7:=(hb5.trans (hb6.mono hs5)).trans (hb7.mono (by omega))
    repeat (apply ops_1;(focus (simp (disch:=(try simp only [sPu]);omega) ;try rfl)))
    refine oNi (SC.wp_cond (t:=!bo) (by simp (disch:=(try simp only [sPu]);omega)) ?_)
    cases bo with
    | false =>
      rw [if_pos (by rfl)]
      refine SC.wp_seq (SC.wp_reg ?_)
      repeat (apply ops_1;(focus (simp (disch:=(try simp only [sPu]);omega) ;try rfl)))
      refine oNi (SC.wp_ret ?_)
      simp only [Exit.then,Exit.inBlock]
      exact ret_tmp hr (by simp [dPu,qd]) ⟨⟨false,by simp (disch:=(try simp only [sPu]);omega),fun h=>by cases h⟩,hb7'⟩
    | true =>
      rw [if_neg (by simp)]
      refine SC.wp_skip ?_
      simp only [Exit.inBlock,Exit.then]
      have ew:IntKind.i64.wrap ((j:Int)+1)=((j:Int)+1):=by rw [wrap_i64'];split <;> omega
      refine SC.wp_reg ?_
      repeat (apply ops_1;(focus (simp (disch:=(try simp only [sPu]);omega) [q10,ew];try rfl)))
      refine oNi ?_
      refine ⟨⟨j+1,by simp [sPu,q],by simp [dPu,qd],by simp (disch:=(try simp only [sPu]);omega) [q8],by simp (disch:=(try simp only [sPu]);omega) [q9],by simp (disch:=(try simp only [sPu]);omega),by omega,?_,hb7'⟩,?_⟩
      · intro x hx
        rw [List.take_add_one,List.getElem?_eq_getElem hjl,List.mem_append] at hx
        rcases hx with hx | hx
        · exact hfit x hx
        · rw [Option.toList_some,List.mem_singleton] at hx
          subst hx
          have:=hbp rfl
          simpa using this
      · rw [q10]
        simp (disch:=(try simp only [sPu]);omega)
        omega
  · rw [if_neg (by rw [decide_eq_false (by omega)];simp)]
    refine SC.wp_exit ?_
    simp only [Exit.then,Exit.inBlock,if_true]
    have:j=l.length:=by omega
    subst this
    rw [List.take_length] at hfit
    refine SC.wp_seq (SC.wp_reg ?_)
    repeat (apply ops_1;(focus (simp (disch:=(try simp only [sPu]);omega) ;try rfl)))
    refine oNi (SC.wp_ret ?_)
    try simp only [Exit.then]
    exact ret_tmp hr (by simp [dPu,qd]) ⟨⟨true,by simp (disch:=(try simp only [sPu]);omega),fun _=>⟨by omega,hfit⟩⟩,hb5⟩
def Fits14C (P:Program) (F:FuncId):Prop:=FnOK P F∧∀ (w:World) (l:List Ownd) (g:Int) (v:Value),StV w (· < w.heap.size) l g v→Calls P F #[v] w (AsksF (FitsL l) w)
theorem fits14_ok {T0 T1 T2 F0 : Nat} (hf0 : fieldOff P T0 0 = some 0) (h1 : oneB P T1 = true) (c15 : Fits15C P F0) (hf : P.funcs[f]? = some fn) (hb : fn.body.map strip = some (sc_Fits14 T0 T1 T2 F0)) (hnm : (fn.name == "runtime.NumGoroutine") = false) (hn : fn.ntmps = 7) (hr : fn.results = #[.tmp 2]) : Fits14C P f := by
  refine ⟨fnOK_of hf hb hnm,fun w l g v hv=>?_⟩
  obtain ⟨base,cap,rfl,hl⟩:=hv
  refine fCa hf hb hn (by simp) fun a0 hs hd ha=>?_
  have h0:=ha 0 _ rfl
  simp only [List.getElem_toArray,List.getElem_cons_zero,List.getElem_cons_succ] at h0
  refine SC.wp_seq (SC.wp_reg (ops_box (B:=w.heap.size) (w0:=w) (cs:=#[.slice base l.length cap,.int .i32 g]) (by rw [eTm,h0]) (Nat.le_refl _) (Below.refl _ _) fun w1 q1 q2 q3 hc q5=>?_))
  repeat (apply ops_1;(focus (simp (disch:=(try simp only [sPu]);omega) ;try rfl)))
  refine oNi (SC.wp_seq (SC.wp_seq (SC.wp_reg ?_)))
  have hc0:=hc 0
  simp only [List.getElem?_toArray,List.getElem?_cons_zero,List.getElem?_cons_succ] at hc0
  iterate 2 (apply ops_1;(focus (simp (disch:=(try simp only [sPu]);omega) [hf0,h1,hc0];try rfl)))
  refine ops_call c15.1 (c15.2 w1 l base cap (hl.mono (fun k hk=>by omega) (fun k hk=>q1.block k hk))) (by simp (disch:=(try simp only [sPu]);omega)) ?_
  rintro e w2 ⟨⟨bo,rfl,hbp⟩,hb2⟩
  refine ⟨_,rfl,?_⟩
  have hb2':Below w.heap.size w w2:=q2.trans (hb2.mono (by omega))
  repeat (apply ops_1;(focus (simp (disch:=(try simp only [sPu]);omega) ;try rfl)))
  refine oNi (SC.wp_cond (t:=!bo) (by simp (disch:=(try simp only [sPu]);omega)) ?_)
  cases bo with
  | false =>
    rw [if_pos (by rfl)]
    refine SC.wp_seq (SC.wp_reg ?_)
    repeat (apply ops_1;(focus (simp (disch:=(try simp only [sPu]);omega) ;try rfl)))
    refine oNi (SC.wp_ret ?_)
    try simp only [Exit.then]
    exact ret_tmp hr (by simp [dPu,hd]) ⟨⟨false,by simp (disch:=(try simp only [sPu]);omega),fun h=>by cases h⟩,hb2'⟩
  | true =>
    rw [if_neg (by simp)]
    refine SC.wp_skip ?_
    simp only [Exit.then]
    refine SC.wp_seq (SC.wp_reg ?_)
    repeat (apply ops_1;(focus (simp (disch:=(try simp only [sPu]);omega) ;try rfl)))
    refine oNi (SC.wp_ret ?_)
    try simp only [Exit.then]
    exact ret_tmp hr (by simp [dPu,hd]) ⟨⟨true,by simp (disch:=(try simp only [sPu]);omega),hbp⟩,hb2'⟩
end
end Go.Proofs.YtoiipagmhmohdaaDoor.K
namespace Go.Proofs.YtoiipagmhmohdaaDoor.K
open Go Go.RowKit Go.Proofs.YtoiipagmhmohdaaDoor.T
attribute [local simp] eTm eCo pNo gTp gTn qv qcall vop iop
set_option linter.unusedSimpArgs false
set_option linter.unusedVariables false
set_option maxHeartbeats 4000000
def partsN (l:List Ownd):Nat:=(l.map fun x=>x.2.length).sum
def SmallL (l:List Ownd):Prop:=l.length+partsN l≤2000∧∀ x ∈ l,x.1.length≤32767
theorem partsN_step {l:List Ownd} {j:Nat} (hj:j < l.length):partsN (l.take (j+1))=partsN (l.take j)+(l[j]).2.length:=by
  unfold partsN
  rw [List.take_add_one,List.getElem?_eq_getElem hj,List.map_append,List.sum_append]
  simp
theorem partsN_le:∀ {l:List Ownd},(∀ x ∈ l,x.2.length≤2147483647)→partsN l≤l.length * 2147483647
  | [],_=>by simp [partsN]
  | x :: r,h=>by
    have h1:=partsN_le (l:=r) fun y hy=>h y (.tail _ hy)
    have h2:=h x (.head _)
    have e:partsN (x :: r)=x.2.length+partsN r:=by simp [partsN]
    rw [e,List.length_cons,Nat.succ_mul]
    omega
section
variable {P:Program} {f:FuncId} {fn:Func}
def SmallLC (P:Program) (F:FuncId):Prop:=FnOK P F∧∀ (w:World) (l:List Ownd) (g:Int) (v:Value),FitsL l→StV w (· < w.heap.size) l g v→Calls P F #[v] w (AsksF (SmallL l) w)
theorem small_ok {T0 T1 T2 T3 T4 T5 : Nat} (hR : RowT P T1 T3) (hf0 : fieldOff P T0 0 = some 0) (h1 : oneB P T1 = true) (h4 : oneB P T4 = true) (hst : strB P T4 = true) (h5 : oneB P T5 = true) (hs5 : sliceN P T5 = some 1) (hf : P.funcs[f]? = some fn) (hb : fn.body.map strip = some (sc_small T0 T1 T2 T3 T4 T5)) (hnm : (fn.name == "runtime.NumGoroutine") = false) (hn : fn.ntmps = 28) (hr : fn.results = #[.tmp 2]) : SmallLC P f := by
  refine ⟨fnOK_of hf hb hnm,fun w l g v hfit hv=>?_⟩
  obtain ⟨base,cap,rfl,hl⟩:=hv
  have hsl:=hR.sl
  have g0:=hR.f0
  have g1:=hR.f1
  refine fCa hf hb hn (by simp) fun a0 hs hd ha=>?_
  have h0:=ha 0 _ rfl
  simp only [List.getElem_toArray,List.getElem_cons_zero,List.getElem_cons_succ] at h0
  refine SC.wp_seq (SC.wp_reg (ops_box (B:=w.heap.size) (w0:=w) (cs:=#[.slice base l.length cap,.int .i32 g]) (by rw [eTm,h0]) (Nat.le_refl _) (Below.refl _ _) fun w1 q1 q2 q3 hc q5=>?_))
  repeat (apply ops_1;(focus (simp (disch:=(try simp only [sPu]);omega) ;try rfl)))
  refine oNi (SC.wp_seq (SC.wp_reg ?_))
  have hc0:=hc 0
  simp only [List.getElem?_toArray,List.getElem?_cons_zero,List.getElem?_cons_succ] at hc0
  repeat (apply ops_1;(focus (simp (disch:=(try simp only [sPu]);omega) [hf0,h1,hc0,hsl];try rfl)))
  refine oNi (SC.wp_seq (SC.wp_seq (SC.wp_reg ?_)))
  repeat (apply ops_1;(focus (simp (disch:=(try simp only [sPu]);omega) [hf0,h1,hc0,hsl];try rfl)))
  refine oNi ?_
  simp only [Exit.then]
  have hl1:ListAt w1 (· < w.heap.size) base l:=hl.mono (fun k hk=>hk) (fun k hk=>q1.block k hk)
  refine SC.wp_block (SC.wp_loop (fun a4 w5=>∃ j:Nat,a4.tmps.size=28∧a4.defers=[]∧getT a4 3=.int .i64 ((l.length+partsN (l.take j):Nat):Int)∧getT a4 10=.slice base l.length cap∧getT a4 11=.int .i64 (l.length:Int)∧getT a4 12=.int .i64 (j:Int)∧j≤l.length∧(∀ x ∈ l.take j,x.1.length≤32767)∧Below w.heap.size w w5)
    (fun a4 _=>match getT a4 12 with | .int _ m=>(l.length - m).toNat | _=>0) ⟨0,by simp [sPu,hs],by simp [dPu,hd],by simp (disch:=(try simp only [sPu]);omega) [partsN],by simp (disch:=(try simp only [sPu]);omega),by simp (disch:=(try simp only [sPu]);omega),by simp (disch:=(try simp only [sPu]);omega),by omega,by simp,q2⟩ ?_)
  rintro a4 w5 ⟨j,q,qd,p3,q10,q11,q12,hj,hfs,hb5⟩
  have hs5':=hb5.size
  refine SC.wp_seq (SC.wp_reg ?_)
  repeat (apply ops_1;(focus (simp (disch:=(try simp only [sPu]);omega) [q11,q12];try rfl)))
  refine oNi ?_
  simp only [Exit.then]
  refine SC.wp_seq (SC.wp_cond (t:=decide ((j:Int) < (l.length:Int))) (by simp (disch:=(try simp only [sPu]);omega)) ?_)
  refine Decidable.byCases (p:=j < l.length) (fun hjl=>?_) (fun hjl=>?_)
  · rw [if_pos (decide_eq_true (by omega))]
    refine SC.wp_skip ?_
    simp only [Exit.then]
    rcases hl.mono (w':=w5) (F':=(· < w.heap.size)) (fun k hk=>hk) (fun k hk=>hb5.block k hk) with rfl | ⟨b,o,rfl,hbl,hcc⟩
    · simp at hjl
    obtain ⟨v1,v2,c1,c2,rfl,pb,pc,rfl,hpa⟩:=hcc j _ (List.getElem?_eq_getElem hjl)
    obtain ⟨x,hx⟩:∃ x,x=l[j]:=⟨_,rfl⟩
    have hst1:=partsN_step hjl
    rw [← hx] at c1 c2 hpa hst1
    have hxf:x.1.length≤2147483647∧x.2.length≤2147483647:=hfit.2 x (by rw [hx];exact List.getElem_mem hjl)
    have hple:partsN (l.take j)≤2147483647 * 2147483647:=by
      have h1:=partsN_le (l:=l.take j) fun y hy=>(hfit.2 y (List.mem_of_mem_take hy)).2
      have h2:(l.take j).length≤2147483647:=by rw [List.length_take];have:=hfit.1;omega
      exact Nat.le_trans h1 (Nat.mul_le_mul h2 (Nat.le_refl _))
    have hll:=hfit.1
    refine SC.wp_seq (SC.wp_block (SC.wp_seq (SC.wp_reg ?_)))
    refine ops_row (k:=j) hR (by simp (disch:=(try simp only [sPu]);omega);exact q10) (by simp (disch:=(try simp only [sPu]);omega);exact q12) hjl c1 c2 rfl rfl (by (try simp only [sPu]);omega) (by (try simp only [sPu]);omega) (by omega) fun w6 hb6 hs6 hrow6=>oNi ?_
    simp only [Exit.then]
    have e0:w6.cell? ⟨w5.heap.size,0,none⟩=some (.string ⟨x.1.toArray⟩):=by rw [cell_of_row _ _ _ _ _ _ hrow6];rfl
    have e1:w6.cell? ⟨w5.heap.size,1,none⟩=some (.slice pb x.2.length pc):=by rw [cell_of_row _ _ _ _ _ _ hrow6];rfl
    have hb6':Below w.heap.size w w6:=hb5.trans (hb6.mono hs5')
    refine SC.wp_seq (SC.wp_seq (SC.wp_reg ?_))
    repeat (apply ops_1;(focus (simp (disch:=(try simp only [sPu]);omega) [g0,h4,hst,e0];try rfl)))
    refine oNi (SC.wp_cond (t:=decide ((32767:Int) < (x.1.length:Int))) (by simp (disch:=(try simp only [sPu]);omega)) ?_)
    refine Decidable.byCases (p:=(32767:Int) < (x.1.length:Int)) (fun hlt=>?_) (fun hlt=>?_)
    · rw [if_pos (decide_eq_true hlt)]
      refine SC.wp_seq (SC.wp_reg ?_)
      repeat (apply ops_1;(focus (simp (disch:=(try simp only [sPu]);omega) ;try rfl)))
      refine oNi (SC.wp_ret ?_)
      simp only [Exit.then,Exit.inBlock]
      exact ret_tmp hr (by simp [dPu,qd]) ⟨⟨false,by simp (disch:=(try simp only [sPu]);omega),fun h=>by cases h⟩,hb6'⟩
    · rw [if_neg (by simpa using hlt)]
      refine SC.wp_skip ?_
      simp only [Exit.then]
      have ew2:IntKind.i64.wrap (((l.length+partsN (l.take j):Nat):Int)+(x.2.length:Int))=((l.length+partsN (l.take (j+1)):Nat):Int):=by
        rw [hst1,wrap_i64']
        split <;> omega
      refine SC.wp_reg ?_
      generalize ((l.length+partsN (l.take j):Nat):Int)=A at *
      obtain ⟨A',hA'⟩:∃ A':Int,A'=((l.length+partsN (l.take (j+1)):Nat):Int):=⟨_,rfl⟩
      rw [← hA'] at ew2
      repeat (apply ops_1;(focus (simp (disch:=(try simp only [sPu]);omega) [g1,h5,hs5,e1,p3,ew2];try rfl)))
      refine oNi ?_
      simp only [Exit.inBlock,Exit.then]
      have ew:IntKind.i64.wrap ((j:Int)+1)=((j:Int)+1):=by rw [wrap_i64'];split <;> omega
      refine SC.wp_reg ?_
      repeat (apply ops_1;(focus (simp (disch:=(try simp only [sPu]);omega) [q12,ew];try rfl)))
      refine oNi ?_
      refine ⟨⟨j+1,by simp [sPu,q],by simp [dPu,qd],by rw [← hA'];simp (disch:=(try simp only [sPu]);omega),by simp (disch:=(try simp only [sPu]);omega) [q10],by simp (disch:=(try simp only [sPu]);omega) [q11],by simp (disch:=(try simp only [sPu]);omega),by omega,?_,hb6'⟩,?_⟩
      · intro y hy
        rw [List.take_add_one,List.getElem?_eq_getElem hjl,List.mem_append] at hy
        rcases hy with hy | hy
        · exact hfs y hy
        · rw [Option.toList_some,List.mem_singleton,← hx] at hy
          subst hy
          omega
      · rw [q12]
        simp (disch:=(try simp only [sPu]);omega)
        omega
  · rw [if_neg (by rw [decide_eq_false (by omega)];simp)]
    refine SC.wp_exit ?_
    simp only [Exit.then,Exit.inBlock,if_true]
    have:j=l.length:=by omega
    subst this
    rw [List.take_length] at hfs p3
    refine SC.wp_seq (SC.wp_reg ?_)
    repeat (apply ops_1;(focus (simp (disch:=(try simp only [sPu]);omega) [p3];try rfl)))
    refine oNi (SC.wp_ret ?_)
    try simp only [Exit.then]
    refine ret_tmp hr (by simp [dPu,qd]) ⟨⟨decide (((l.length+partsN l:Nat):Int)≤2000),by simp (disch:=(try simp only [sPu]);omega),fun h=>⟨?_,hfs⟩⟩,hb5⟩
    have:=of_decide_eq_true h
    omega
end
end Go.Proofs.YtoiipagmhmohdaaDoor.K
namespace Go.Proofs.YtoiipagmhmohdaaDoor.K
open Go Go.RowKit Go.Proofs.YtoiipagmhmohdaaDoor.T
attribute [local simp] eTm eCo pNo gTp gTn qv qcall vop iop
set_option linter.unusedSimpArgs false
set_option linter.unusedVariables false
set_option maxHeartbeats 4000000
def wOwnd (x:Ownd):Bytes:=fixed x.1.length 2 ++ x.1 ++ (fixed x.2.length 4 ++ x.2.flatMap fun p=>fixed p 4)
def wStL (l:List Ownd):Bytes:=fixed l.length 4 ++ l.flatMap wOwnd
def wSt (l:List Ownd) (g:Int):Bytes:=wStL l ++ (if g=-1 then [] else fixed g 4)
def RngL (l:List Ownd) (g:Int):Prop:=(∀ x ∈ l,∀ p ∈ x.2,-2147483648≤p∧p < 2147483648)∧-2147483648≤g∧g < 2147483648
theorem fix4_len (xs:List Int):(xs.flatMap fun p=>fixed p 4).length=4 * xs.length:=by
  induction xs with
  | nil=>rfl
  | cons x r ih=>rw [List.flatMap_cons,List.length_append,ih,fixed_length,List.length_cons];omega
theorem wOwnd_len (x:Ownd):(wOwnd x).length=6+x.1.length+4 * x.2.length:=by
  unfold wOwnd
  simp only [List.length_append,fixed_length,fix4_len]
  omega
theorem wOwnds_len:∀ {l:List Ownd},(∀ x ∈ l,x.1.length≤32767)→(l.flatMap wOwnd).length≤l.length * 32773+4 * partsN l
  | [],_=>by simp [partsN]
  | x :: r,h=>by
    have h1:=wOwnds_len (l:=r) fun y hy=>h y (.tail _ hy)
    have h2:=h x (.head _)
    have e:partsN (x :: r)=x.2.length+partsN r:=by simp [partsN]
    rw [List.flatMap_cons,List.length_append,wOwnd_len,e,List.length_cons,Nat.succ_mul]
    omega
theorem wSt_len {l:List Ownd} (g:Int) (h:SmallL l):(wSt l g).length≤70000000:=by
  have h1:=wOwnds_len h.2
  have h2:=h.1
  unfold wSt wStL
  rw [List.length_append,List.length_append,fixed_length]
  have:(if g=-1 then [] else fixed g 4).length≤4:=by split <;> simp [fixed_length]
  omega
theorem wOwnds_split (l:List Ownd) (j:Nat):((l.take j).flatMap wOwnd).length≤(l.flatMap wOwnd).length:=by
  have:l.flatMap wOwnd=(l.take j).flatMap wOwnd ++ (l.drop j).flatMap wOwnd:=by rw [← List.flatMap_append,List.take_append_drop]
  rw [this,List.length_append]
  omega
def sc_parts (T2 T3 T5 T6 T7 T8 F0:Nat):SC:=.seq (.reg [fa 34 T3 5 1,ld 35 T6 34,lenOp 36 T6 35,⟨some 37,.move (.const (.int .i64 0)),none⟩]) (.block 2 (.loop (.seq (.reg [⟨some 38,.binOp .lss T2 (.tmp 37) (.tmp 36) T2,none⟩]) (.seq (.cond (.tmp 38) (.skip) (.exit 2)) (.seq (.block 3 (.seq (.reg [⟨some 39,.indexAddr T6 (.tmp 35) (.tmp 37),none⟩,ld 40 T7 39,asg 7 40]) (.reg [mv 41 3,mv 42 7,⟨some 43,.convert T7 T8 (.tmp 42),none⟩,⟨some 44,.call ⟨.value (.func F0),#[(.tmp 43),(.const (.int .i64 4))],#[]⟩,none⟩,⟨some 45,.call ⟨.builtin .append,#[(.tmp 41),(.tmp 44)],#[T5,T5]⟩,none⟩,asg 3 45]))) (.reg [⟨some 46,.binOp .add T2 (.tmp 37) (.const (.int .i64 1)) T2,none⟩,mv 37 46]))))))
def sc_StBytes (T0 T1 T2 T3 T4 T5 T6 T7 T8 F0:Nat):SC:=.seq (.reg [⟨some 1,.box T0 (.tmp 0),none⟩,⟨some 2,.assign (.const (.slice none 0 0)),none⟩]) (.seq (.reg [fa 8 T0 1 0,ld 9 T1 8,lenOp 10 T1 9,⟨some 11,.call ⟨.value (.func F0),#[(.tmp 10),(.const (.int .i64 4))],#[]⟩,none⟩,asg 3 11]) (.seq (.seq (.reg [fa 12 T0 1 0,ld 13 T1 12,lenOp 14 T1 13,⟨some 15,.move (.const (.int .i64 0)),none⟩]) (.block 0 (.loop (.seq (.reg [⟨some 16,.binOp .lss T2 (.tmp 15) (.tmp 14) T2,none⟩]) (.seq (.cond (.tmp 16) (.skip) (.exit 0)) (.seq (.block 1 (.seq (.reg [⟨some 17,.indexAddr T1 (.tmp 13) (.tmp 15),none⟩,ld 18 T3 17,⟨some 5,.alloc T3,none⟩,⟨none,.store T3 (.tmp 5) (.tmp 18),none⟩]) (.seq (.dreg [mv 19 3,fa 20 T3 5 0,ld 21 T4 20,lenOp 22 T4 21,⟨some 23,.call ⟨.value (.func F0),#[(.tmp 22),(.const (.int .i64 2))],#[]⟩,none⟩,⟨some 24,.call ⟨.builtin .append,#[(.tmp 19),(.tmp 23)],#[T5,T5]⟩,none⟩,fa 25 T3 5 0,ld 26 T4 25,⟨some 27,.call ⟨.builtin .append,#[(.tmp 24),(.tmp 26)],#[T5,T4]⟩,none⟩,asg 3 27] [[],[],[1],[2],[3],[0,4,4],[],[6],[5,7,5],[8,8,0,1,2,3,4,5,6,7,8]]) (.seq (.reg [mv 28 3,fa 29 T3 5 1,ld 30 T6 29,lenOp 31 T6 30,⟨some 32,.call ⟨.value (.func F0),#[(.tmp 31),(.const (.int .i64 4))],#[]⟩,none⟩,⟨some 33,.call ⟨.builtin .append,#[(.tmp 28),(.tmp 32)],#[T5,T5]⟩,none⟩,asg 3 33]) (sc_parts T2 T3 T5 T6 T7 T8 F0))))) (.reg [⟨some 47,.binOp .add T2 (.tmp 15) (.const (.int .i64 1)) T2,none⟩,mv 15 47]))))))) (.seq (.seq (.reg [fa 48 T0 1 1,ld 49 T7 48,⟨some 50,.binOp .neq T7 (.tmp 49) (.const (.int .i32 (-1))) T7,none⟩]) (.cond (.tmp 50) (.reg [mv 51 3,fa 52 T0 1 1,ld 53 T7 52,⟨some 54,.convert T7 T8 (.tmp 53),none⟩,⟨some 55,.call ⟨.value (.func F0),#[(.tmp 54),(.const (.int .i64 4))],#[]⟩,none⟩,⟨some 56,.call ⟨.builtin .append,#[(.tmp 51),(.tmp 55)],#[T5,T5]⟩,none⟩,asg 3 56]) (.skip))) (.seq (.reg [mv 57 3,asg 2 57]) (.ret)))))
section
variable {P:Program} {f:FuncId} {fn:Func}
def FixC (P:Program) (tU8:Nat) (F:FuncId):Prop:=FnOK P F∧∀ (w:World) (n:Int) (size:Nat),size≤8→Calls P F #[.int .i64 n,.int .i64 (size:Int)] w (RetOwn tU8 w (fixed n size))
theorem own_ne {tU8:Nat} {w:World} {B k T:Nat} {dv:Value} {xs:Bytes} {cs:Array Value} (ho:Own tU8 w B dv xs) (h:w.heap[k]?=some (.cells cs T (0,0))) (hT:T ≠ tU8):dv.ownBlock ≠ some k:=by
  rintro e
  rcases ho.2 with ⟨rfl,_⟩ | ⟨g,cap,cur,rfl,h2,h3,_⟩
  · cases e
  · cases e
    rw [h3] at h
    cases h
    exact hT rfl
theorem ops_fixapp {all r:List SOp} {a:Act} {w:World} {K:Act→World→Prop} {T5 tU8 F0 B c d s size:Nat} {x:Operand} {n:Int} {dv:Value} {xs:Bytes} (h5:u8sB P T5 tU8=true) (cF:FixC P tU8 F0) (hx:a.eval x=.int .i64 n) (hs:getT a s=dv) (hsz:size≤8) (ho:Own tU8 w B dv xs) (hB:B≤w.heap.size) (hlen:xs.length+size≤lim) (hc:c < a.tmps.size) (hsc:s ≠ c)
    (h:∀ vc dv' w',Own tU8 w' B dv' (xs ++ fixed n size)→Below B w w'→(∀ k,k < w.heap.size→dv.ownBlock ≠ some k→w'.heap[k]?=w.heap[k]?)→w.heap.size≤w'.heap.size→opsw P all r K ((a.put (some c) vc).put (some d) dv') w') :
    opsw P all (⟨some c,.call ⟨.value (.func F0),#[x,(.const (.int .i64 (size:Int)))],#[]⟩,none⟩ :: ⟨some d,.call ⟨.builtin .append,#[(.tmp s),(.tmp c)],#[T5,T5]⟩,none⟩ :: r) K a w:=by
  refine ops_call (argsV:=#[.int .i64 n,.int .i64 (size:Int)]) cF.1 (cF.2 w n size hsz) (by simp [hx,eCo]) ?_
  rintro e w1 ⟨vc,rfl,ho1,hb1⟩
  refine ⟨vc,rfl,?_⟩
  have hs1:=hb1.size
  obtain ⟨S1,b1,c1,rfl,hsr1,_⟩:=own_src ho1
  have hok:Own tU8 w1 B dv xs:=own_keep ho hb1
  refine oNo rfl (opw_appendU8 (B:=B) (xs:=xs) (bs:=fixed n size) (dv:=dv) h5 (by rw [eTm,gTn hsc];exact hs) (by rw [eTm,gTp hc]) rfl hok (by omega) (src_of h5 hsr1) (by rw [fixed_length];exact hlen) fun dv2 w2 ho2 hb2 hs2 hg2=>?_)
  refine h _ dv2 w2 ho2 ((hb1.mono hB).trans hb2) (fun k hk hne=>?_) (Nat.le_trans hs1 hg2.size)
  rw [hg2.block k (by omega) (fun e=>hne e.symm),hb1.block k hk]
theorem parts_ok {T2 T3 T5 T6 T7 T8 F0 tU8 Ts B r5:Nat} {x:Ownd} {pb:Option Addr} {pc:Nat} {v1:Value} {a:Act} {w:World} {Q:Exit→Act→World→Prop} {xs:Bytes} {Fr:Nat→Prop} (hR:RowT P Ts T3) (h5:u8sB P T5 tU8=true) (hT35:T3 ≠ tU8) (h6:oneB P T6=true) (hs6:sliceN P T6=some 1) (h7:oneB P T7=true) (i7:intK P T7=some .i32) (i8:intK P T8=some .i64) (cF:FixC P tU8 F0)
    (hs:a.tmps.size=58) (hd:a.defers=[]) (g5:getT a 5=.pointer (some ⟨r5,0,none⟩)) (hrow:w.heap[r5]?=some (.cells #[v1,.slice pb x.2.length pc] T3 (0,0))) (hpa:PartsAt w Fr pb x.2) (hFr:∀ k,Fr k→k < B) (hrB:B≤r5) (ho:Own tU8 w B (getT a 3) xs) (hlen:xs.length+4 * x.2.length≤lim) (hpl:x.2.length≤2147483647) (hrg:∀ p ∈ x.2,-2147483648≤p∧p < 2147483648) (hB:B≤w.heap.size)
    (h:∀ a' w',a'.tmps.size=58→a'.defers=[]→(∀ s,s < 34→s ≠ 3→s ≠ 7→getT a' s=getT a s)→Own tU8 w' B (getT a' 3) (xs ++ x.2.flatMap fun p=>fixed p 4)→Below B w w'→w.heap.size≤w'.heap.size→(∀ (k:Nat) (cs:Array Value) (T:TypeId),w.heap[k]?=some (.cells cs T (0,0))→T ≠ tU8→w'.heap[k]?=w.heap[k]?)→Q .normal a' w'):(sc_parts T2 T3 T5 T6 T7 T8 F0).wp P Q a w:=by
  have hf1:=hR.f1
  have hr5:r5 < w.heap.size:=(Array.getElem?_eq_some_iff.1 hrow).1
  have e1:w.cell? ⟨r5,1,none⟩=some (.slice pb x.2.length pc):=by rw [cell_of_row _ _ _ _ _ _ hrow];rfl
  unfold sc_parts
  refine SC.wp_seq (SC.wp_reg ?_)
  repeat (apply ops_1;(focus (simp (disch:=(try simp only [sPu]);omega) [hf1,h6,hs6,g5,e1];try rfl)))
  refine oNi ?_
  simp only [Exit.then]
  refine SC.wp_block (SC.wp_loop (fun a4 w5=>∃ j:Nat,a4.tmps.size=58∧a4.defers=[]∧(∀ s,s < 34→s ≠ 3→s ≠ 7→getT a4 s=getT a s)∧getT a4 35=.slice pb x.2.length pc∧getT a4 36=.int .i64 (x.2.length:Int)∧getT a4 37=.int .i64 (j:Int)∧j≤x.2.length∧Own tU8 w5 B (getT a4 3) (xs ++ (x.2.take j).flatMap fun p=>fixed p 4)∧Below B w w5∧w.heap.size≤w5.heap.size∧(∀ (k:Nat) (cs:Array Value) (T:TypeId),w.heap[k]?=some (.cells cs T (0,0))→T ≠ tU8→w5.heap[k]?=w.heap[k]?))
    (fun a4 _=>match getT a4 37 with | .int _ m=>(x.2.length - m).toNat | _=>0) ⟨0,by simp [sPu,hs],by simp [dPu,hd],fun s hs1 hs2 hs3=>by simp (disch:=(try simp only [sPu]);omega),by simp (disch:=(try simp only [sPu]);omega),by simp (disch:=(try simp only [sPu]);omega),by simp (disch:=(try simp only [sPu]);omega),by omega,by simp only [List.take_zero,List.flatMap_nil,List.append_nil];simp (disch:=(try simp only [sPu]);omega);exact ho,Below.refl _ _,Nat.le_refl _,fun _ _ _ _ _=>rfl⟩ ?_)
  rintro a4 w5 ⟨j,q,qd,qk,q35,q36,q37,hj,ho5,hb5,hs5,hkp⟩
  refine SC.wp_seq (SC.wp_reg ?_)
  repeat (apply ops_1;(focus (simp (disch:=(try simp only [sPu]);omega) [q36,q37];try rfl)))
  refine oNi ?_
  simp only [Exit.then]
  refine SC.wp_seq (SC.wp_cond (t:=decide ((j:Int) < (x.2.length:Int))) (by simp (disch:=(try simp only [sPu]);omega)) ?_)
  refine Decidable.byCases (p:=j < x.2.length) (fun hjl=>?_) (fun hjl=>?_)
  · rw [if_pos (decide_eq_true (by omega))]
    refine SC.wp_skip ?_
    simp only [Exit.then]
    rcases hpa with hnil | ⟨b,o,rfl,hbF,hc⟩
    · rw [hnil] at hjl;simp at hjl
    obtain ⟨p,hp⟩:∃ p,p=x.2[j]:=⟨_,rfl⟩
    have hpr:=hrg p (by rw [hp];exact List.getElem_mem hjl)
    have hce:w5.cell? ⟨b,o+j,none⟩=some (.int .i32 p):=by rw [hb5.cell (p:=⟨b,o+j,none⟩) (hFr b hbF)];exact hc j p (by rw [hp];exact List.getElem?_eq_getElem hjl)
    have hjl':(j:Int) < (x.2.length:Int):=by omega
    refine SC.wp_seq (SC.wp_block (SC.wp_seq (SC.wp_reg ?_)))
    repeat (apply ops_1;(focus (simp (disch:=(try simp only [sPu]);omega) [q35,q37,hs6,hjl,hjl',h7,hce];try rfl)))
    refine oNi ?_
    simp only [Exit.then]
    have ew:IntKind.i64.wrap p=p:=wrap64 (by omega) (by omega)
    have htk:(x.2.take j).length≤x.2.length:=by rw [List.length_take];omega
    refine SC.wp_reg ?_
    iterate 3 (apply ops_1;(focus (simp (disch:=(try simp only [sPu]);omega) [i7,i8,ew];try rfl)))
    refine ops_fixapp (size:=4) (n:=p) (xs:=xs ++ (x.2.take j).flatMap fun p=>fixed p 4) (dv:=getT a4 3) (B:=B) h5 cF (by simp (disch:=(try simp only [sPu]);omega)) (by simp (disch:=(try simp only [sPu]);omega)) (by decide) ho5 (by omega) (by rw [List.length_append,fix4_len];rw [List.length_take];omega) (by (try simp only [sPu]);omega) (by decide) fun vc dv' w6 ho6 hb6 hk6 hs6=>?_
    repeat (apply ops_1;(focus (simp (disch:=(try simp only [sPu]);omega) ;try rfl)))
    refine oNi ?_
    simp only [Exit.inBlock,Exit.then]
    have ew2:IntKind.i64.wrap ((j:Int)+1)=((j:Int)+1):=by rw [wrap_i64'];split <;> omega
    refine SC.wp_reg ?_
    repeat (apply ops_1;(focus (simp (disch:=(try simp only [sPu]);omega) [q37,ew2];try rfl)))
    refine oNi ?_
    refine ⟨⟨j+1,by simp [sPu,q],by simp [dPu,qd],fun s z1 z2 z3=>?_,by simp (disch:=(try simp only [sPu]);omega) [q35],by simp (disch:=(try simp only [sPu]);omega) [q36],by simp (disch:=(try simp only [sPu]);omega),by omega,?_,hb5.trans hb6,by omega,fun k cs T hc hT=>?_⟩,?_⟩
    · rw [← qk s z1 z2 z3]
      simp (disch:=(try simp only [sPu]);omega)
    · rw [List.take_add_one,List.getElem?_eq_getElem hjl,← hp,Option.toList_some,List.flatMap_append,List.flatMap_cons,List.flatMap_nil,List.append_nil]
      simp (disch:=(try simp only [sPu]);omega)
      rw [← List.append_assoc]
      exact ho6
    · have h5':=hkp k cs T hc hT
      have hk5:w5.heap[k]?=some (.cells cs T (0,0)):=h5'.trans hc
      rw [hk6 k (Array.getElem?_eq_some_iff.1 hk5).1 (own_ne ho5 hk5 hT),h5']
    · rw [q37]
      simp (disch:=(try simp only [sPu]);omega)
      omega
  · rw [if_neg (by rw [decide_eq_false (by omega)];simp)]
    refine SC.wp_exit ?_
    simp only [Exit.then,Exit.inBlock,if_true]
    have:j=x.2.length:=by omega
    subst this
    rw [List.take_length] at ho5
    refine h _ _ (by simp [sPu,q]) (by simp [dPu,qd]) (fun s z1 z2 z3=>by rw [← qk s z1 z2 z3];simp (disch:=(try simp only [sPu]);omega)) ?_ hb5 hs5 hkp
    simp (disch:=(try simp only [sPu]);omega)
    exact ho5
end
end Go.Proofs.YtoiipagmhmohdaaDoor.K
namespace Go.Proofs.YtoiipagmhmohdaaDoor.K
open Go Go.RowKit Go.Proofs.YtoiipagmhmohdaaDoor.T
attribute [local simp] eTm eCo pNo gTp gTn qv qcall vop iop
set_option linter.unusedSimpArgs false
set_option linter.unusedVariables false
set_option maxHeartbeats 4000000
section
variable {P:Program} {f:FuncId} {fn:Func}
def StBC (P:Program) (tU8:Nat) (F:FuncId):Prop:=FnOK P F∧∀ (w:World) (l:List Ownd) (g:Int) (v:Value),SmallL l→RngL l g→StV w (· < w.heap.size) l g v→Calls P F #[v] w (RetOwn tU8 w (wSt l g))
theorem stBytes_ok {T0 T1 T2 T3 T4 T5 T6 T7 T8 F0 tU8:Nat} (hm:P.follows .mixedOrders=true) (hR:RowT P T1 T3) (hf0:fieldOff P T0 0=some 0) (hf1:fieldOff P T0 1=some 1) (h1:oneB P T1=true) (h4:oneB P T4=true) (hst:strB P T4=true) (h5:u8sB P T5 tU8=true) (hT35:T3 ≠ tU8) (hT05:T0 ≠ tU8) (h6:oneB P T6=true) (hs6:sliceN P T6=some 1) (h7:oneB P T7=true) (i7:intK P T7=some .i32) (i8:intK P T8=some .i64) (cF:FixC P tU8 F0)
    (hf : P.funcs[f]? = some fn) (hb : fn.body.map strip = some (sc_StBytes T0 T1 T2 T3 T4 T5 T6 T7 T8 F0)) (hnm : (fn.name == "runtime.NumGoroutine") = false) (hn : fn.ntmps = 58) (hr : fn.results = #[.tmp 2]) : StBC P tU8 f := by
  refine ⟨fnOK_of hf hb hnm,fun w l g v hsm hrg hv=>?_⟩
  obtain ⟨base,cap,rfl,hl⟩:=hv
  have hlim:lim=70368744177664:=rfl
  have hwl:=wSt_len g hsm
  have hll:=hsm.1
  have hsl:=hR.sl
  have g0:=hR.f0
  have g1:=hR.f1
  have htot:(wStL l).length≤70000000:=by unfold wSt at hwl;rw [List.length_append] at hwl;omega
  refine fCa hf hb hn (by simp) fun a0 hs hd ha=>?_
  have h0:=ha 0 _ rfl
  simp only [List.getElem_toArray,List.getElem_cons_zero,List.getElem_cons_succ] at h0
  refine SC.wp_seq (SC.wp_reg (ops_box (B:=w.heap.size) (w0:=w) (cs:=#[.slice base l.length cap,.int .i32 g]) (by rw [eTm,h0]) (Nat.le_refl _) (Below.refl _ _) fun w1 q1 q2 q3 hc q5=>?_))
  repeat (apply ops_1;(focus (simp (disch:=(try simp only [sPu]);omega) ;try rfl)))
  refine oNi (SC.wp_seq (SC.wp_reg ?_))
  have hc0:=hc 0
  simp only [List.getElem?_toArray,List.getElem?_cons_zero,List.getElem?_cons_succ] at hc0
  iterate 3 (apply ops_1;(focus (simp (disch:=(try simp only [sPu]);omega) [hf0,h1,hc0,hsl];try rfl)))
  refine ops_call (argsV:=#[.int .i64 (l.length:Int),.int .i64 ((4:Nat):Int)]) cF.1 (cF.2 w1 (l.length:Int) 4 (by decide)) (by simp (disch:=(try simp only [sPu]);omega)) ?_
  rintro e w2 ⟨dv,rfl,ho2,hb2⟩
  refine ⟨_,rfl,?_⟩
  repeat (apply ops_1;(focus (simp (disch:=(try simp only [sPu]);omega) ;try rfl)))
  refine oNi ?_
  simp only [Exit.then]
  have hs2:=hb2.size
  have hb2':Below w.heap.size w w2:=q2.trans (hb2.mono (by omega))
  have hbox:w2.heap[w.heap.size]?=some (.cells #[.slice base l.length cap,.int .i32 g] T0 (0,0)):=by rw [hb2.block _ (by omega)];exact q5
  have hk0:w2.cell? ⟨w.heap.size,0,none⟩=some (.slice base l.length cap):=by rw [cell_of_row _ _ _ _ _ _ hbox];rfl
  refine SC.wp_seq (SC.wp_seq (SC.wp_reg ?_))
  repeat (apply ops_1;(focus (simp (disch:=(try simp only [sPu]);omega) [hf0,h1,hk0,hsl];try rfl)))
  refine oNi ?_
  simp only [Exit.then]
  have hos:Own tU8 w2 w.heap.size dv (fixed (l.length:Int) 4):=own_base ho2 (by omega)
  refine SC.wp_block (SC.wp_loop (fun a4 w5=>∃ j:Nat,a4.tmps.size=58∧a4.defers=[]∧getT a4 1=.pointer (some ⟨w.heap.size,0,none⟩)∧getT a4 13=.slice base l.length cap∧getT a4 14=.int .i64 (l.length:Int)∧getT a4 15=.int .i64 (j:Int)∧j≤l.length∧Own tU8 w5 w.heap.size (getT a4 3) (fixed (l.length:Int) 4 ++ (l.take j).flatMap wOwnd)∧w5.heap[w.heap.size]?=some (.cells #[.slice base l.length cap,.int .i32 g] T0 (0,0))∧Below w.heap.size w w5)
    (fun a4 _=>match getT a4 15 with | .int _ m=>(l.length - m).toNat | _=>0) ⟨0,by simp [sPu,hs],by simp [dPu,hd],by simp (disch:=(try simp only [sPu]);omega),by simp (disch:=(try simp only [sPu]);omega),by simp (disch:=(try simp only [sPu]);omega),by simp (disch:=(try simp only [sPu]);omega),by omega,by simp only [List.take_zero,List.flatMap_nil,List.append_nil];simp (disch:=(try simp only [sPu]);omega);exact hos,hbox,hb2'⟩ ?_)
  rintro a4 w5 ⟨j,q,qd,p1,p13,p14,p15,hj,ho5,hbx5,hb5⟩
  have hs5:=hb5.size
  have hwb5:w.heap.size < w5.heap.size:=(Array.getElem?_eq_some_iff.1 hbx5).1
  refine SC.wp_seq (SC.wp_reg ?_)
  repeat (apply ops_1;(focus (simp (disch:=(try simp only [sPu]);omega) [p14,p15];try rfl)))
  refine oNi ?_
  simp only [Exit.then]
  refine SC.wp_seq (SC.wp_cond (t:=decide ((j:Int) < (l.length:Int))) (by simp (disch:=(try simp only [sPu]);omega)) ?_)
  refine Decidable.byCases (p:=j < l.length) (fun hjl=>?_) (fun hjl=>?_)
  · rw [if_pos (decide_eq_true (by omega))]
    refine SC.wp_skip ?_
    simp only [Exit.then]
    rcases hl.mono (w':=w5) (F':=(· < w.heap.size)) (fun k hk=>hk) (fun k hk=>hb5.block k hk) with rfl | ⟨b,o,rfl,hbl,hcc⟩
    · simp at hjl
    obtain ⟨v1,v2,c1,c2,rfl,pb,pc,rfl,hpa⟩:=hcc j _ (List.getElem?_eq_getElem hjl)
    obtain ⟨x,hx⟩:∃ x,x=l[j]:=⟨_,rfl⟩
    rw [← hx] at c1 c2 hpa
    have hxm:x ∈ l:=by rw [hx];exact List.getElem_mem hjl
    have hx1:=hsm.2 x hxm
    have htj:(l.take (j+1)).flatMap wOwnd=(l.take j).flatMap wOwnd ++ wOwnd x:=by
      rw [List.take_add_one,List.getElem?_eq_getElem hjl,← hx,Option.toList_some,List.flatMap_append,List.flatMap_cons,List.flatMap_nil,List.append_nil]
    have hlen1:=wOwnds_split l (j+1)
    rw [htj,List.length_append,wOwnd_len] at hlen1
    have hlt:(fixed (l.length:Int) 4).length+(l.flatMap wOwnd).length≤70000000:=by unfold wStL at htot;rwa [List.length_append] at htot
    rw [fixed_length] at hlt
    obtain ⟨xs,hxs⟩:∃ xs,xs=fixed (l.length:Int) 4 ++ (l.take j).flatMap wOwnd:=⟨_,rfl⟩
    have hxl:xs.length=4+((l.take j).flatMap wOwnd).length:=by rw [hxs,List.length_append,fixed_length]
    rw [← hxs] at ho5
    refine SC.wp_seq (SC.wp_block (SC.wp_seq (SC.wp_reg ?_)))
    refine ops_row (k:=j) hR (by simp (disch:=(try simp only [sPu]);omega);exact p13) (by simp (disch:=(try simp only [sPu]);omega);exact p15) hjl c1 c2 rfl rfl (by (try simp only [sPu]);omega) (by (try simp only [sPu]);omega) (by omega) fun w6 hb6 hs6' hrow6=>oNi ?_
    simp only [Exit.then]
    obtain ⟨r5,hr5⟩:∃ r5,r5=w5.heap.size:=⟨_,rfl⟩
    rw [← hr5] at hrow6
    have hb6':Below w.heap.size w w6:=hb5.trans (hb6.mono hs5)
    have ho6:Own tU8 w6 w.heap.size (getT a4 3) xs:=own_keep ho5 hb6
    have hbx6:w6.heap[w.heap.size]?=some (.cells #[.slice (some ⟨b,o,none⟩) l.length cap,.int .i32 g] T0 (0,0)):=by rw [hb6.block _ hwb5];exact hbx5
    have hdr:w6.drew.heap.size=w6.heap.size:=rfl
    obtain ⟨SS,hSS⟩:∃ SS:World→Prop,SS=fun w'=>Below w.heap.size w w'∧w'.heap[r5]?=some (.cells #[.string ⟨x.1.toArray⟩,.slice pb x.2.length pc] T3 (0,0))∧w'.heap[w.heap.size]?=some (.cells #[.slice (some ⟨b,o,none⟩) l.length cap,.int .i32 g] T0 (0,0))∧w6.heap.size≤w'.heap.size:=⟨_,rfl⟩
    have hS0:SS w6.drew:=by rw [hSS];exact ⟨hb6'.drew,hrow6,hbx6,Nat.le_refl _⟩
    have hSc:∀ w',SS w'→∀ b' o',(fun b'=>decide (b'=r5)) b'=true→w'.cell? ⟨b',o',none⟩=w6.cell? ⟨b',o',none⟩:=fun w' h b' o' hb'=>by
      rw [hSS] at h
      have:b'=r5:=of_decide_eq_true hb'
      rw [this,cell_of_row _ _ _ _ _ _ h.2.1,cell_of_row _ _ _ _ _ _ hrow6]
    have e0:w6.cell? ⟨r5,0,none⟩=some (.string ⟨x.1.toArray⟩):=by rw [cell_of_row _ _ _ _ _ _ hrow6];rfl
    refine SC.wp_seq (SC.wp_dreg hm SS [(0,true),(1,true),(2,true),(3,true),(6,true),(7,true),(4,false),(5,false),(8,false),(9,true)] (by rfl) (by rfl) (by decide) hS0 ?_)
    refine dr_S (v:=getT a4 3) hSc rfl (by simp (disch:=(try simp only [sPu]);omega) [qv]) ?_
    refine dr_S (v:=.pointer (some ⟨r5,0,none⟩)) hSc rfl (by simp (disch:=(try simp only [sPu]);omega) [qv,g0,hr5]) ?_
    refine dr_S (v:=.string ⟨x.1.toArray⟩) hSc rfl (by simp (disch:=(try simp only [sPu]);omega) [qv,h4];exact e0) ?_
    refine dr_S (v:=.int .i64 (x.1.length:Int)) hSc rfl (by simp (disch:=(try simp only [sPu]);omega) [qv,qcall,hst]) ?_
    refine dr_S (v:=.pointer (some ⟨r5,0,none⟩)) hSc rfl (by simp (disch:=(try simp only [sPu]);omega) [qv,g0,hr5]) ?_
    refine dr_S (v:=.string ⟨x.1.toArray⟩) hSc rfl (by simp (disch:=(try simp only [sPu]);omega) [qv,h4];exact e0) ?_
    refine dreg_call (argsV:=#[.int .i64 (x.1.length:Int),.int .i64 ((2:Nat):Int)]) rfl cF.1 (cF.2 w6.drew (x.1.length:Int) 2 (by decide)) (by simp (disch:=(try simp only [sPu]);omega)) ?_
    rintro e w7 ⟨dv7,rfl,ho7,hb7⟩
    have hs7:=hb7.size
    rw [hdr] at hs7
    have hS7:SS w7:=by
      rw [hSS]
      exact ⟨hb6'.drew.trans (hb7.mono (by rw [hdr];omega)),by rw [hb7.block r5 (by rw [hdr];omega)];exact hrow6,by rw [hb7.block _ (by rw [hdr];omega)];exact hbx6,hs7⟩
    refine ⟨_,rfl,hS7,?_⟩
    obtain ⟨S7,b7,c7,rfl,hsr7,_⟩:=own_src ho7
    have hok7:Own tU8 w7 w.heap.size (getT a4 3) xs:=own_keep (w:=w6.drew) ho6 hb7
    have keepS:∀ {wa wb:World} {dv:Value} {ys:Bytes},SS wa→Own tU8 wa w.heap.size dv ys→Below w.heap.size wa wb→wa.grownBy wb dv.ownBlock→SS wb:=by
      intro wa wb dv ys hSa hoa hba hga
      rw [hSS] at hSa ⊢
      obtain ⟨k1,k2,k3,k4⟩:=hSa
      refine ⟨k1.trans hba,?_,?_,Nat.le_trans k4 hga.size⟩
      · rw [hga.block r5 (by omega) (fun e=>own_ne hoa k2 hT35 e.symm)];exact k2
      · rw [hga.block w.heap.size (by omega) (fun e=>own_ne hoa k3 hT05 e.symm)];exact k3
    refine dreg_n rfl rfl (opw_appendU8 (B:=w.heap.size) (xs:=xs) (bs:=fixed (x.1.length:Int) 2) (dv:=getT a4 3) (xv:=.slice b7 (fixed (x.1.length:Int) 2).length c7) h5 (by simp (disch:=(try simp only [sPu]);omega)) (by simp (disch:=(try simp only [sPu]);omega)) rfl hok7 (by omega) (src_of h5 hsr7) (by rw [fixed_length];omega) fun dv8 w8 ho8 hb8 hs8 hg8=>⟨keepS hS7 hok7 hb8 hg8,?_⟩)
    have hS8:=keepS hS7 hok7 hb8 hg8
    refine dreg_n rfl rfl (opw_appendU8 (B:=w.heap.size) (xs:=xs ++ fixed (x.1.length:Int) 2) (bs:=x.1) (dv:=dv8) (xv:=.string ⟨x.1.toArray⟩) h5 (by simp (disch:=(try simp only [sPu]);omega)) (by simp (disch:=(try simp only [sPu]);omega)) rfl ho8 hs8 (by simpa using src_str hst ⟨x.1.toArray⟩ w8) (by rw [List.length_append,fixed_length];omega) fun dv9 w9 ho9 hb9 hs9 hg9=>⟨keepS hS8 ho8 hb9 hg9,?_⟩)
    have hS9:=keepS hS8 ho8 hb9 hg9
    refine dr_S (v:=dv9) hSc rfl (by simp (disch:=(try simp only [sPu]);omega) [qv]) ?_
    refine dreg_nil ?_
    simp only [Exit.then]
    rw [hSS] at hS9
    obtain ⟨k1,k2,k3,k4⟩:=hS9
    have e9:w9.cell? ⟨r5,1,none⟩=some (.slice pb x.2.length pc):=by rw [cell_of_row _ _ _ _ _ _ k2];rfl
    refine SC.wp_seq (SC.wp_reg ?_)
    iterate 4 (apply ops_1;(focus (simp (disch:=(try simp only [sPu]);omega) [g1,h6,hs6,e9,hr5.symm];try rfl)))
    refine ops_fixapp (size:=4) (n:=(x.2.length:Int)) (xs:=xs ++ fixed (x.1.length:Int) 2 ++ x.1) (dv:=dv9) (B:=w.heap.size) h5 cF (by simp (disch:=(try simp only [sPu]);omega)) (by simp (disch:=(try simp only [sPu]);omega)) (by decide) ho9 hs9 (by rw [List.length_append,List.length_append,fixed_length];omega) (by (try simp only [sPu]);omega) (by decide) fun vc dvA wA hoA hbA hkA hsA=>?_
    repeat (apply ops_1;(focus (simp (disch:=(try simp only [sPu]);omega) ;try rfl)))
    refine oNi ?_
    simp only [Exit.then]
    have hrA:wA.heap[r5]?=some (.cells #[.string ⟨x.1.toArray⟩,.slice pb x.2.length pc] T3 (0,0)):=by rw [hkA r5 (by omega) (own_ne ho9 k2 hT35)];exact k2
    have hxA:wA.heap[w.heap.size]?=some (.cells #[.slice (some ⟨b,o,none⟩) l.length cap,.int .i32 g] T0 (0,0)):=by rw [hkA _ (by omega) (own_ne ho9 k3 hT05)];exact k3
    have hbA':Below w.heap.size w wA:=k1.trans hbA
    have hpl:x.2.length≤2000:=by
      have h1:=hsm.1
      have h2:=partsN_step hjl
      rw [← hx] at h2
      have h3:partsN (l.take (j+1))≤partsN l:=by
        have e:partsN l=partsN (l.take (j+1))+partsN (l.drop (j+1)):=by
          unfold partsN
          rw [← List.sum_append,← List.map_append,List.take_append_drop]
        omega
      omega
    refine parts_ok (x:=x) (r5:=r5) (Ts:=T1) (B:=w.heap.size) (Fr:=(· < w.heap.size)) (xs:=xs ++ fixed (x.1.length:Int) 2 ++ x.1 ++ fixed (x.2.length:Int) 4) hR h5 hT35 h6 hs6 h7 i7 i8 cF (by simp [sPu,q]) (by simp [dPu,qd]) (by simp (disch:=(try simp only [sPu]);omega) [hr5]) hrA (hpa.mono (fun k hk=>hk) (fun k hk=>by rw [hbA'.block k hk,hb5.block k hk])) (fun k hk=>hk) (by omega) (by simp (disch:=(try simp only [sPu]);omega);simpa only [List.append_assoc] using hoA) (by simp only [List.length_append,fixed_length];omega) (by omega) (fun p hp=>hrg.1 x hxm p hp) (by omega) fun aB wB z1 z2 z3 z4 z5 z6 z7=>?_
    simp only [Exit.inBlock,Exit.then]
    have ew:IntKind.i64.wrap ((j:Int)+1)=((j:Int)+1):=by rw [wrap_i64'];split <;> omega
    have y15:getT aB 15=.int .i64 (j:Int):=by rw [z3 15 (by omega) (by omega) (by omega)];simp (disch:=(try simp only [sPu]);omega) [p15]
    have y1:getT aB 1=.pointer (some ⟨w.heap.size,0,none⟩):=by rw [z3 1 (by omega) (by omega) (by omega)];simp (disch:=(try simp only [sPu]);omega) [p1]
    have y13:getT aB 13=.slice (some ⟨b,o,none⟩) l.length cap:=by rw [z3 13 (by omega) (by omega) (by omega)];simp (disch:=(try simp only [sPu]);omega) [p13]
    have y14:getT aB 14=.int .i64 (l.length:Int):=by rw [z3 14 (by omega) (by omega) (by omega)];simp (disch:=(try simp only [sPu]);omega) [p14]
    refine SC.wp_reg ?_
    repeat (apply ops_1;(focus (simp (disch:=(try simp only [sPu]);omega) [y15,ew];try rfl)))
    refine oNi ?_
    refine ⟨⟨j+1,by simp [sPu,z1],by simp [dPu,z2],by simp (disch:=(try simp only [sPu]);omega) [y1],by simp (disch:=(try simp only [sPu]);omega) [y13],by simp (disch:=(try simp only [sPu]);omega) [y14],by simp (disch:=(try simp only [sPu]);omega),by omega,?_,?_,hbA'.trans z5⟩,?_⟩
    · rw [htj,← List.append_assoc,← hxs]
      unfold wOwnd
      simp (disch:=(try simp only [sPu]);omega)
      simpa only [List.append_assoc] using z4
    · rw [z7 _ _ _ hxA hT05];exact hxA
    · rw [p15]
      simp (disch:=(try simp only [sPu]);omega)
      omega
  · rw [if_neg (by rw [decide_eq_false (by omega)];simp)]
    refine SC.wp_exit ?_
    simp only [Exit.then,Exit.inBlock,if_true]
    have:j=l.length:=by omega
    subst this
    rw [List.take_length] at ho5
    have hk0:w5.cell? ⟨w.heap.size,1,none⟩=some (.int .i32 g):=by rw [cell_of_row _ _ _ _ _ _ hbx5];rfl
    refine SC.wp_seq (SC.wp_seq (SC.wp_reg ?_))
    repeat (apply ops_1;(focus (simp (disch:=(try simp only [sPu]);omega) [hf1,h7,hk0,p1];try rfl)))
    refine oNi ?_
    simp only [Exit.then]
    refine SC.wp_cond (t:=(g != -1)) (by simp (disch:=(try simp only [sPu]);omega)) ?_
    by_cases hg:g=-1
    · have e1:(g != -1)=false:=by simp [hg]
      rw [e1,if_neg (by simp)]
      refine SC.wp_skip ?_
      simp only [Exit.then]
      refine SC.wp_seq (SC.wp_reg ?_)
      repeat (apply ops_1;(focus (simp (disch:=(try simp only [sPu]);omega) ;try rfl)))
      refine oNi (SC.wp_ret ?_)
      try simp only [Exit.then]
      refine ret_tmp hr (by simp [dPu,qd]) ⟨getT a4 3,by simp (disch:=(try simp only [sPu]);omega),?_,hb5⟩
      unfold wSt wStL
      rw [if_pos hg,List.append_nil]
      exact ho5
    · have e1:(g != -1)=true:=by simp [hg]
      rw [e1,if_pos rfl]
      have ew:IntKind.i64.wrap g=g:=wrap64 (by have:=hrg.2;omega) (by have:=hrg.2;omega)
      refine SC.wp_reg ?_
      iterate 4 (apply ops_1;(focus (simp (disch:=(try simp only [sPu]);omega) [hf1,h7,hk0,p1,i7,i8,ew];try rfl)))
      refine ops_fixapp (size:=4) (n:=g) (xs:=fixed (l.length:Int) 4 ++ l.flatMap wOwnd) (dv:=getT a4 3) (B:=w.heap.size) h5 cF (by simp (disch:=(try simp only [sPu]);omega)) (by simp (disch:=(try simp only [sPu]);omega)) (by decide) ho5 hs5 (by unfold wStL at htot;omega) (by (try simp only [sPu]);omega) (by decide) fun vc dvA wA hoA hbA hkA hsA=>?_
      repeat (apply ops_1;(focus (simp (disch:=(try simp only [sPu]);omega) ;try rfl)))
      refine oNi ?_
      simp only [Exit.then]
      refine SC.wp_seq (SC.wp_reg ?_)
      repeat (apply ops_1;(focus (simp (disch:=(try simp only [sPu]);omega) ;try rfl)))
      refine oNi (SC.wp_ret ?_)
      try simp only [Exit.then]
      refine ret_tmp hr (by simp [dPu,qd]) ⟨dvA,by simp (disch:=(try simp only [sPu]);omega),?_,hb5.trans hbA⟩
      unfold wSt wStL
      rw [if_neg hg]
      exact hoA
end
end Go.Proofs.YtoiipagmhmohdaaDoor.K
namespace Go.Proofs.YtoiipagmhmohdaaDoor.K
open Go Go.RowKit Go.Proofs.YtoiipagmhmohdaaDoor.T
attribute [local simp] eTm eCo pNo gTp gTn qv qcall vop iop
set_option linter.unusedSimpArgs false
set_option linter.unusedVariables false
set_option maxHeartbeats 4000000
def sc_SameSt (T0 T1 F0 F1:Nat):SC:=.seq (.reg [⟨some 2,.box T0 (.tmp 0),none⟩,⟨some 3,.box T0 (.tmp 1),none⟩,⟨some 4,.assign (.const (.bool false)),none⟩]) (.seq (.dreg [fa 5 T0 2 1,ld 6 T1 5,fa 7 T0 3 1,ld 8 T1 7,⟨some 9,.binOp .eql T1 (.tmp 6) (.tmp 8) T1,none⟩,mv 10 9,⟨some 11,.load T0 (.tmp 2),some (5,true)⟩,⟨some 12,.call ⟨.value (.func F0),#[(.tmp 11)],#[]⟩,some (5,true)⟩,⟨some 13,.load T0 (.tmp 3),some (5,true)⟩,⟨some 14,.call ⟨.value (.func F0),#[(.tmp 13)],#[]⟩,some (5,true)⟩,⟨some 15,.call ⟨.value (.func F1),#[(.tmp 12),(.tmp 14)],#[]⟩,some (5,true)⟩,⟨some 16,.pick (.tmp 10) (.tmp 15) (.const (.bool false)),none⟩,asg 4 16] [[],[0],[],[2],[1,3],[4],[5],[6,5,5],[5],[8,7,5],[7,9,9,5],[5,10],[11,10,0,1,2,3,4,5,6,7,8,9,10,11]]) (.ret))
section
variable {P:Program} {f:FuncId} {fn:Func}
def SameC (P:Program) (F:FuncId):Prop:=FnOK P F∧∀ (w:World) (xs:Bytes) (b1 b2:Option Addr) (c1 c2:Nat),BytesAt w (fun k=>k < w.heap.size) b1 xs→BytesAt w (fun k=>k < w.heap.size) b2 xs→xs.length≤lim→Calls P F #[.slice b1 xs.length c1,.slice b2 xs.length c2] w fun e w'=>e=.returned (.bool true)∧Below w.heap.size w w'
def SameStC (P:Program) (F:FuncId):Prop:=FnOK P F∧∀ (w:World) (l:List Ownd) (g:Int) (v1 v2:Value),SmallL l→RngL l g→StV w (· < w.heap.size) l g v1→StV w (· < w.heap.size) l g v2→Calls P F #[v1,v2] w fun e w'=>e=.returned (.bool true)∧Below w.heap.size w w'
theorem own_bytes {tU8:Nat} {w:World} {B:Nat} {dv:Value} {xs:Bytes} (h:Own tU8 w B dv xs):∃ base cap,dv=.slice base xs.length cap∧BytesAt w (fun k=>k < w.heap.size) base xs:=by
  obtain ⟨S,base,cap,rfl,hs,hS⟩:=own_src h
  exact ⟨base,cap,rfl,bytesAt_src hs fun sb h=>(hS sb h).2⟩
theorem sameSt_ok {T0 T1 F0 F1 tU8:Nat} (hm:P.follows .mixedOrders=true) (hf1:fieldOff P T0 1=some 1) (h0o:oneB P T0=false) (h0a:aggN P T0=some 2) (h1:oneB P T1=true) (cB:StBC P tU8 F0) (cS:SameC P F1)
    (hf : P.funcs[f]? = some fn) (hb : fn.body.map strip = some (sc_SameSt T0 T1 F0 F1)) (hnm : (fn.name == "runtime.NumGoroutine") = false) (hn : fn.ntmps = 17) (hr : fn.results = #[.tmp 4]) : SameStC P f := by
  refine ⟨fnOK_of hf hb hnm,fun w l g v1 v2 hsm hrg hv1 hv2=>?_⟩
  have hlim:lim=70368744177664:=rfl
  have hwl:=wSt_len g hsm
  have hv1':=hv1
  have hv2':=hv2
  obtain ⟨base1,cap1,rfl,hl1⟩:=hv1
  obtain ⟨base2,cap2,rfl,hl2⟩:=hv2
  refine fCa hf hb hn (by simp) fun a0 hs hd ha=>?_
  have h0:=ha 0 _ rfl
  have h1':=ha 1 _ rfl
  simp only [List.getElem_toArray,List.getElem_cons_zero,List.getElem_cons_succ] at h0 h1'
  refine SC.wp_seq (SC.wp_reg (ops_box (B:=w.heap.size) (w0:=w) (cs:=#[.slice base1 l.length cap1,.int .i32 g]) (by rw [eTm,h0]) (Nat.le_refl _) (Below.refl _ _) fun w1 q1 q2 q3 hc q5=>?_))
  refine ops_box (B:=w.heap.size) (w0:=w) (cs:=#[.slice base2 l.length cap2,.int .i32 g]) (by rw [eTm,gTn (by omega),h1']) (by omega) q2 fun w2 p1 p2 p3 hc2 p5=>?_
  repeat (first | (apply ops_1;(focus (simp (disch:=(try simp only [sPu]);omega) ;try rfl))) | (apply ops_y;(focus rfl);(focus ((try simp only [sPu]);omega));(focus (simp (disch:=(try simp only [sPu]);omega);done));(focus (simp (disch:=(try simp only [sPu]);omega) ;try rfl))) | (apply ops_n;(focus rfl);(focus ((try simp only [sPu]);omega));(focus (first | (left;simp (disch:=(try simp only [sPu]);omega);done) | (right;simp (disch:=(try simp only [sPu]);omega);done)))))
  refine oNi ?_
  simp only [Exit.then]
  have hdr:w2.drew.heap.size=w2.heap.size:=rfl
  have k1:∀ o,w2.drew.cell? ⟨w.heap.size,o,none⟩=#[.slice base1 l.length cap1,.int .i32 g][o]?:=fun o=>(World.cell?_of_block (w:=w1) (w':=w2.drew) (p1.block w.heap.size (by omega))).trans (hc o)
  have k2:∀ o,w2.drew.cell? ⟨w1.heap.size,o,none⟩=#[.slice base2 l.length cap2,.int .i32 g][o]?:=fun o=>hc2 o
  have x1:w2.drew.cell? ⟨w.heap.size,1,none⟩=some (.int .i32 g):=k1 1
  have y1:w2.drew.cell? ⟨w1.heap.size,1,none⟩=some (.int .i32 g):=k2 1
  have xr:rangeV w2.drew w.heap.size 0 2=some [.slice base1 l.length cap1,.int .i32 g]:=by simp [rangeV,k1 0,k1 1]
  have yr:rangeV w2.drew w1.heap.size 0 2=some [.slice base2 l.length cap2,.int .i32 g]:=by simp [rangeV,k2 0,k2 1]
  have l1:w.heap.size < w2.heap.size:=by omega
  have l2:w1.heap.size < w2.heap.size:=by omega
  have eg:(g == g)=true:=by simp
  obtain ⟨fB,b1',b2',b3'⟩:=cB.1
  obtain ⟨fS,s1',s2',s3'⟩:=cS.1
  refine SC.wp_seq (SC.wp_dreg hm (Below w2.heap.size w2.drew) [(0,true),(1,true),(2,true),(3,true),(4,true),(5,true),(6,true),(8,true),(7,false),(9,false),(10,false),(11,true),(12,true)] (by rfl) (by rfl) (by decide) (Below.refl _ _) ?_)
  iterate 8 (first | (apply dr_1;(focus rfl);(focus (simp (disch:=(try simp only [sPu]);omega) [hf1,h1,h0o,h0a,x1,y1,xr,yr,l1,l2,eg];try rfl))) | (apply dr_y;(focus rfl);(focus rfl);(focus ((try simp only [sPu]);omega));(focus (simp (disch:=(try simp only [sPu]);omega) [hf1,h1,h0o,h0a,x1,y1,xr,yr,l1,l2,eg];done));(focus (simp (disch:=(try simp only [sPu]);omega) [hf1,h1,h0o,h0a,x1,y1,xr,yr,l1,l2,eg];try rfl))) | (apply dr_n;(focus rfl);(focus rfl);(focus ((try simp only [sPu]);omega));(focus (first | (left;simp (disch:=(try simp only [sPu]);omega) [hf1,h1,h0o,h0a,x1,y1,xr,yr,l1,l2,eg];done) | (right;simp (disch:=(try simp only [sPu]);omega);done)))))
  have hw0:Below w.heap.size w w2.drew:=p2.drew
  have hv1d:StV w2.drew (· < w2.drew.heap.size) l g (.agg #[.slice base1 l.length cap1,.int .i32 g]):=hv1'.down hw0
  refine dreg_yes rfl rfl rfl (by simp only [sPu];omega) (by simp (disch:=(try simp only [sPu]);omega)) (opw_call (R:=RetOwn tU8 w2.drew (wSt l g)) b1' b2' b3' ?_ ?_)
  · have e:∀ aa:Act,aa.eval (.tmp 11)=.agg #[.slice base1 l.length cap1,.int .i32 g]→(#[Operand.tmp 11].map aa.eval)=#[.agg #[.slice base1 l.length cap1,.int .i32 g]]:=fun aa h=>by simp [h]
    rw [e _ (by simp (disch:=(try simp only [sPu]);omega))]
    exact cB.2 w2.drew l g _ hsm hrg hv1d
  rintro e w3 ⟨dv3,rfl,ho3,hb3⟩
  have hb3':Below w2.heap.size w2.drew w3:=hb3
  have hs3:=hb3.size
  refine ⟨_,rfl,hb3',?_⟩
  have hv2d:StV w3 (· < w3.heap.size) l g (.agg #[.slice base2 l.length cap2,.int .i32 g]):=hv2'.down (hw0.trans (hb3'.mono (by omega)))
  refine dreg_yes rfl rfl rfl (by simp only [sPu];omega) (by simp (disch:=(try simp only [sPu]);omega)) (opw_call (R:=RetOwn tU8 w3 (wSt l g)) b1' b2' b3' ?_ ?_)
  · have e:∀ aa:Act,aa.eval (.tmp 13)=.agg #[.slice base2 l.length cap2,.int .i32 g]→(#[Operand.tmp 13].map aa.eval)=#[.agg #[.slice base2 l.length cap2,.int .i32 g]]:=fun aa h=>by simp [h]
    rw [e _ (by simp (disch:=(try simp only [sPu]);omega))]
    exact cB.2 w3 l g _ hsm hrg hv2d
  rintro e w4 ⟨dv4,rfl,ho4,hb4⟩
  rw [hdr] at hs3
  have hb4':Below w2.heap.size w2.drew w4:=hb3'.trans (hb4.mono hs3)
  have hs4:=hb4.size
  refine ⟨_,rfl,hb4',?_⟩
  obtain ⟨ba,ca,rfl,hba⟩:=own_bytes (own_keep ho3 hb4)
  obtain ⟨bb,cb,rfl,hbb⟩:=own_bytes ho4
  refine dreg_yes rfl rfl rfl (by simp only [sPu];omega) (by simp (disch:=(try simp only [sPu]);omega)) (opw_call (R:=fun e w'=>e=.returned (.bool true)∧Below w4.heap.size w4 w') s1' s2' s3' ?_ ?_)
  · have e:∀ aa:Act,aa.eval (.tmp 12)=.slice ba (wSt l g).length ca→aa.eval (.tmp 14)=.slice bb (wSt l g).length cb→(#[Operand.tmp 12,Operand.tmp 14].map aa.eval)=#[.slice ba (wSt l g).length ca,.slice bb (wSt l g).length cb]:=fun aa h h2=>by simp [h,h2]
    rw [e _ (by simp (disch:=(try simp only [sPu]);omega)) (by simp (disch:=(try simp only [sPu]);omega))]
    exact cS.2 w4 (wSt l g) ba bb ca cb hba hbb (by omega)
  rintro e w5 ⟨rfl,hb5⟩
  have hb5':Below w2.heap.size w2.drew w5:=hb4'.trans (hb5.mono (by omega))
  refine ⟨_,rfl,hb5',?_⟩
  repeat (first | (apply dr_1;(focus rfl);(focus (simp (disch:=(try simp only [sPu]);omega) ;try rfl))) | (apply dr_y;(focus rfl);(focus rfl);(focus ((try simp only [sPu]);omega));(focus (simp (disch:=(try simp only [sPu]);omega);done));(focus (simp (disch:=(try simp only [sPu]);omega) ;try rfl))) | (apply dr_n;(focus rfl);(focus rfl);(focus ((try simp only [sPu]);omega));(focus (first | (left;simp (disch:=(try simp only [sPu]);omega);done) | (right;simp (disch:=(try simp only [sPu]);omega);done)))))
  refine dreg_nil ?_
  simp only [Exit.then]
  refine SC.wp_ret ?_
  try simp only [Exit.then]
  exact ret_tmp hr (by simp [dPu,hd]) ⟨by simp (disch:=(try simp only [sPu]);omega),hw0.trans (hb5'.mono (by omega))⟩
end
end Go.Proofs.YtoiipagmhmohdaaDoor.K
namespace Go.Proofs.YtoiipagmhmohdaaDoor.K
open Go Go.RowKit Go.Proofs.YtoiipagmhmohdaaDoor.T
set_option linter.unusedSimpArgs false
set_option linter.unusedVariables false
def pStr:Rd Bytes:=rThen (pPrim false false .str) fun t=>rOk t.s
def pOwnd:Rd Ownd:=rThen pStr fun t=>rThen (pLen false) fun n=>rThen (pMany (pInt 4) n.toNat) fun ps=>rOk (t,ps)
def pStL:Rd (List Ownd):=rThen (pLen false) fun n=>pMany pOwnd n.toNat
def pGen:Rd Int:=fun b=>if b=[] then some (-1,[]) else pInt 4 b
def pSt:Rd (List Ownd × Int):=rThen pStL fun l=>rThen pGen fun g=>rOk (l,g)
theorem sgn4 {n:Int} (h1:-2147483648≤n) (h2:n < 2147483648):sgn 4 (n % 256 ^ 4).toNat=n:=by
  unfold sgn
  have e:(256:Int) ^ 4=4294967296:=by decide
  have e2:(256:Nat) ^ 4=4294967296:=by decide
  rw [e,e2]
  split <;> omega
theorem pI32_of {n:Int} (h1:-2147483648≤n) (h2:n < 2147483648) (r:Bytes):pInt 4 (fixed n 4 ++ r)=some (n,r):=by
  have:=pInt_fixed n 4 r
  rw [sgn4 h1 h2] at this
  exact this
theorem pLen4_of {n:Nat} (h:n≤2147483647) (r:Bytes) (hr:n≤r.length):pLen false (fixed (n:Int) 4 ++ r)=some ((n:Int),r):=by
  rw [pLen_eq]
  show rThen (pInt 4) _ _=_
  rw [rThen_of (pI32_of (by omega) (by omega) r),if_neg (by omega)]
theorem pStr_of {t:Bytes} (h:t.length≤32767) (r:Bytes):pStr (fixed (t.length:Int) 2 ++ (t ++ r))=some (t,r):=by
  unfold pStr
  have h2:pInt 2 (fixed (t.length:Int) 2 ++ (t ++ r))=some ((t.length:Int),t ++ r):=pInt_small 2 (by show t.length < 32768;omega) _
  have e:pPrim false false .str (fixed (t.length:Int) 2 ++ (t ++ r))=some (tS t,r):=by
    simp only [pPrim,pCount,Bool.false_eq_true,if_false,Bool.false_and]
    rw [rThen_of h2,rThen_of (pSpan_append t r)]
    rfl
  rw [rThen_of e]
  rfl
theorem pManyI_of:∀ (xs:List Int) (r:Bytes),(∀ p ∈ xs,-2147483648≤p∧p < 2147483648)→pMany (pInt 4) xs.length ((xs.flatMap fun p=>fixed p 4) ++ r)=some (xs,r)
  | [],r,_=>rfl
  | x :: xs,r,h=>by
    have h1:=h x (.head _)
    rw [List.flatMap_cons,List.append_assoc,List.length_cons]
    show rThen (pInt 4) _ _=_
    rw [rThen_of (pI32_of h1.1 h1.2 _),rThen_of (pManyI_of xs r fun p hp=>h p (.tail _ hp))]
    rfl
theorem pOwnd_of {x:Ownd} (h1:x.1.length≤32767) (h2:x.2.length≤2147483647) (h3:∀ p ∈ x.2,-2147483648≤p∧p < 2147483648) (r:Bytes):pOwnd (wOwnd x ++ r)=some (x,r):=by
  unfold pOwnd wOwnd
  rw [List.append_assoc,List.append_assoc,List.append_assoc,rThen_of (pStr_of h1 _),rThen_of (pLen4_of h2 _ (by rw [List.length_append,fix4_len];omega))]
  rw [Int.toNat_natCast,rThen_of (pManyI_of x.2 r h3)]
  rfl
theorem pOwnds_of:∀ (l:List Ownd) (r:Bytes),(∀ x ∈ l,x.1.length≤32767∧x.2.length≤2147483647∧∀ p ∈ x.2,-2147483648≤p∧p < 2147483648)→pMany pOwnd l.length (l.flatMap wOwnd ++ r)=some (l,r)
  | [],r,_=>rfl
  | x :: l,r,h=>by
    obtain ⟨h1,h2,h3⟩:=h x (.head _)
    rw [List.flatMap_cons,List.append_assoc,List.length_cons]
    show rThen pOwnd _ _=_
    rw [rThen_of (pOwnd_of h1 h2 h3 _),rThen_of (pOwnds_of l r fun y hy=>h y (.tail _ hy))]
    rfl
theorem owndsLen (l:List Ownd):l.length≤(l.flatMap wOwnd).length:=by
  induction l with
  | nil=>simp
  | cons x l ih=>rw [List.flatMap_cons,List.length_append,wOwnd_len,List.length_cons];omega
theorem parts_mem:∀ {l:List Ownd} {x:Ownd},x ∈ l→x.2.length≤partsN l
  | y :: l,x,h=>by
    have e:partsN (y :: l)=y.2.length+partsN l:=by simp [partsN]
    rw [e]
    rcases List.mem_cons.1 h with rfl | h
    · omega
    · have:=parts_mem h
      omega
theorem small_all {l:List Ownd} {g:Int} (hs:SmallL l) (hr:RngL l g):∀ x ∈ l,x.1.length≤32767∧x.2.length≤2147483647∧∀ p ∈ x.2,-2147483648≤p∧p < 2147483648:=by
  intro x hx
  refine ⟨hs.2 x hx,?_,hr.1 x hx⟩
  have h1:=hs.1
  have h2:x.2.length≤partsN l:=by
    exact parts_mem hx
  omega
theorem pStL_of {l:List Ownd} {g:Int} (hs:SmallL l) (hr:RngL l g) (r:Bytes):pStL (wStL l ++ r)=some (l,r):=by
  have h1:=hs.1
  have h2:=owndsLen l
  unfold pStL wStL
  rw [List.append_assoc,rThen_of (pLen4_of (by omega) _ (by rw [List.length_append];omega)),Int.toNat_natCast,pOwnds_of l r (small_all hs hr)]
theorem pGen_of {g:Int} (h1:-2147483648≤g) (h2:g < 2147483648):pGen (if g=-1 then [] else fixed g 4)=some (g,[]):=by
  unfold pGen
  by_cases h:g=-1
  · rw [if_pos h,if_pos rfl,h]
  · rw [if_neg h]
    have hne:fixed g 4 ≠ []:=by
      intro e
      have:=congrArg List.length e
      rw [fixed_length] at this
      cases this
    rw [if_neg hne]
    have:=pI32_of h1 h2 []
    rwa [List.append_nil] at this
theorem pSt_of {l:List Ownd} {g:Int} (hs:SmallL l) (hr:RngL l g):pSt (wSt l g)=some ((l,g),[]):=by
  unfold pSt wSt
  rw [rThen_of (pStL_of hs hr _),rThen_of (pGen_of hr.2.1 hr.2.2)]
  rfl
theorem ext_str:Ext pStr:=(ext_prim _ _ _).then fun _=>Ext.ok _
theorem ext_ownd:Ext pOwnd:=ext_str.then fun _=>(ext_len _).then fun _=>(ext_many (ext_int 4) _).then fun _=>Ext.ok _
theorem ext_stL:Ext pStL:=(ext_len _).then fun _=>ext_many ext_ownd _
theorem pSt_cut {l:List Ownd} {g:Int} (hs:SmallL l) (hr:RngL l g) {n:Nat} (hn:n < (wStL l).length):pSt ((wSt l g).take n)=none:=by
  have h0:pStL ((wSt l g).take n)=none:=by
    cases h:pStL ((wSt l g).take n) with
    | none=>rfl
    | some z =>
      obtain ⟨x,r⟩:=z
      have h1:=ext_stL _ _ _ ((wSt l g).drop n) h
      rw [List.take_append_drop] at h1
      have h2:=pStL_of hs hr (if g=-1 then [] else fixed g 4)
      unfold wSt at h1
      rw [h2] at h1
      simp only [Option.some.injEq,Prod.mk.injEq] at h1
      have h3:=congrArg List.length h1.2
      rw [List.length_append,List.length_drop,List.length_append] at h3
      have:n≤(wStL l).length:=by omega
      omega
  unfold pSt rThen
  rw [h0]
  rfl
end Go.Proofs.YtoiipagmhmohdaaDoor.K
namespace Go.Proofs.YtoiipagmhmohdaaDoor.K
open Go Go.RowKit Go.Proofs.YtoiipagmhmohdaaDoor.T
attribute [local simp] eTm eCo pNo gTp gTn qv qcall vop iop
set_option linter.unusedSimpArgs false
set_option linter.unusedVariables false
set_option maxHeartbeats 2000000
def RCZ (P:Program) (TR gb:Nat) (ks:IntKind) (f:FuncId) (p:Rd Int):Prop :=
  FnOK P f∧∀ (w:World) (S:Option Nat) (rb:Nat) (st:Option Bytes),gb < w.heap.size→RdAt TR w S rb st→(∀ sb,S=some sb→sb ≠ rb∧sb < w.heap.size) →
    Calls P f #[.pointer (some ⟨rb,0,none⟩)] w fun e w'=>∃ n:Int,e=.returned (.int ks n)∧RdAt TR w' S rb (after st p)∧Only rb w w'∧(after st p=none→n=0)∧∀ b x r,st=some b→p b=some (x,r)→n=x
section
variable {P:Program} {R:RTy} {f:FuncId} {fn:Func}
theorem rNumZ_ok {TR gb BE F T T' nb : Nat} {ks ku : IntKind} (hTR : R.TR = TR) (hm : P.follows .mixedOrders = true) (hR : rdOK P R = true) (hBE : aggN P BE = some 0) (hBE1 : oneB P BE = false) (hF : BeC P F nb ku) (hnb : 0 < nb) (hT : intK P T = some ku) (hT' : intK P T' = some ks) (hw : ∀ n : Nat, n < 256 ^ nb → ks.wrap (n : Int) = sgn nb n) (hf : P.funcs[f]? = some fn) (hb : fn.body.map strip = some (sc_RNumS R BE F gb T T' (nb : Int) ks)) (hnm : (fn.name == "runtime.NumGoroutine") = false) (hn : fn.ntmps = 32) (hr : fn.results = #[.tmp 2]) :
    RCZ P TR gb ks f (pInt nb):=by
  subst hTR
  have hst:=rd_facts hR
  refine ⟨fnOK_of hf hb hnm,fun w S rb st hgb hrd hsrc=>?_⟩
  refine fCa hf hb hn (by simp) fun a0 hs hd ha=>?_
  have h0:=ha 0 _ rfl
  simp only [List.getElem_toArray,List.getElem_cons_zero,List.getElem_cons_succ] at h0
  refine SC.wp_seq (SC.wp_reg ?_)
  repeat (apply ops_1;(focus (simp (disch:=(try simp only [sPu]);omega) ;try rfl)))
  refine oNi (SC.wp_seq (SC.wp_seq (SC.wp_reg ?_)))
  rcases rdAt_row hrd with ⟨rfl,hrow⟩ | ⟨rest,base,cap,rfl,hrow,hcap,hsr⟩
  · have hc:=rdRow_cells hrow
    have hnbi:decide ((0:Int) < (nb:Int))=true:=by simpa using hnb
    repeat (apply ops_1;(focus (simp (disch:=(try simp only [sPu]);omega) [hst,h0,hc];try rfl)))
    refine oNi (SC.wp_cond (t:=true) (by simp (disch:=(try simp only [sPu]);omega) [hnb]) ?_)
    rw [if_pos rfl]
    refine rFail_ok (S:=S) hR hrow (by simp (disch:=(try simp only [sPu]);omega) [h0]) (by omega) (by simp [sPu,hs]) (by simp [sPu,hs]) fun a' w' q1 q2 q3 q4=>?_
    simp only [Exit.then]
    exact ret_tmp hr (by rw [q1];simp [dPu,hd]) ⟨0,by rw [q2],q3,q4,fun _=>rfl,fun b x r h=>by cases h⟩
  · have hc:=rdRow_cells hrow
    repeat (apply ops_1;(focus (simp (disch:=(try simp only [sPu]);omega) [hst,h0,hc];try rfl)))
    refine oNi (SC.wp_cond (t:=decide ((rest.length:Int) < (nb:Int))) (by simp (disch:=(try simp only [sPu]);omega)) ?_)
    by_cases hl:rest.length < nb
    · have hno:pInt nb rest=none:=pInt_no hl
      rw [if_pos (decide_eq_true (by omega))]
      refine rFail_ok (S:=S) hR hrow (by simp (disch:=(try simp only [sPu]);omega) [h0]) (by omega) (by simp [sPu,hs]) (by simp [sPu,hs]) fun a' w' q1 q2 q3 q4=>?_
      simp only [Exit.then]
      refine ret_tmp hr (by rw [q1];simp [dPu,hd]) ⟨0,by rw [q2],by rw [after_no hno];exact q3,q4,fun _=>rfl,fun b x r h hp=>?_⟩
      cases h
      rw [hno] at hp
      cases hp
    · rw [if_neg (by rw [decide_eq_false (by omega)];simp)]
      refine SC.wp_skip ?_
      simp only [Exit.then]
      obtain ⟨sb,q,rfl,rfl,hbytes⟩:=src_head hsr (k:=nb) (by omega) hnb
      have hsbl:=(hsrc sb rfl).2
      have hrbl:=rdAt_lt hrow
      have hcd:w.drew.cell? ⟨rb,0,none⟩=some (.slice (some ⟨sb,q,none⟩) rest.length cap):=hc.1
      have hrg:rangeV w.drew gb 0 0=some []:=rfl
      refine SC.wp_seq (SC.wp_dreg hm (Below w.heap.size w.drew) [(0,true),(1,true),(2,true),(3,true),(4,true),(5,false),(6,true),(7,true)] (by rfl) (by rfl) (by decide) (Below.refl _ _) ?_)
      iterate 5 (apply dr_1;(focus rfl);(focus (simp (disch:=(try simp only [sPu]);omega) [hst,h0,hcd,hrbl,hgb,hBE,hBE1,hrg,eval_global];try rfl)))
      refine dreg_call (argsV:=#[.agg #[],.slice (some ⟨sb,q,none⟩) rest.length cap]) rfl hF.1 (hF.2 w.drew sb q rest.length cap (rest.take nb) (by simp;omega) (by omega) hsbl hbytes) (by simp (disch:=(try simp only [sPu]);omega)) ?_
      rintro e w1 ⟨rfl,hb1⟩
      refine ⟨_,rfl,hb1,?_⟩
      have hwv:=hw (unfix (rest.take nb)) (by have:=unfix_lt (rest.take nb);rwa [show (rest.take nb).length=nb by simp;omega] at this)
      repeat (apply dr_1;(focus rfl);(focus (simp (disch:=(try simp only [sPu]);omega) [hT,hT',hwv];try rfl)))
      refine dreg_nil ?_
      simp only [Exit.then]
      have hrow1:rdRow R.TR w1 rb (.slice (some ⟨sb,q,none⟩) rest.length cap) false:=(hb1.block rb hrbl).trans hrow
      have hsr1:SrcAt w1 (some sb) (some ⟨sb,q,none⟩) rest:=hsr.frame fun s h=>hb1.block s (hsrc s h).2
      refine SC.wp_seq (rDropC_ok (n:=nb) (S:=some sb) hR hrow1 hcap hsr1 (fun s h=>(hsrc s h).1) (by omega) (by simp (disch:=(try simp only [sPu]);omega) [h0]) (by omega) (by simp [sPu,hs]) fun a1 w2 q1 q2 q3 q4 q5=>?_)
      have hs1:a1.tmps.size=32:=by rw [q1];simp [sPu,hs]
      have hd1:a1.defers=[]:=by rw [q2];simp [dPu,hd]
      have h3:getT a1 3=.int ks (sgn nb (unfix (rest.take nb))):=by rw [q3 3 (by omega)];simp (disch:=(try simp only [sPu]);omega)
      simp only [Exit.then]
      refine SC.wp_seq (SC.wp_reg ?_)
      repeat (apply ops_1;(focus (simp (disch:=(try simp only [sPu]);omega) [h3];try rfl)))
      refine oNi (SC.wp_ret ?_)
      have hpf:pInt nb rest=some (sgn nb (unfix (rest.take nb)),rest.drop nb):=pInt_of (by omega)
      have ho1:Only rb w w1:=⟨hb1.os,hb1.tape,hb1.output,hb1.size,fun k hk _=>hb1.block k hk⟩
      refine ret_tmp hr (by simp [dPu,hd1]) ⟨sgn nb (unfix (rest.take nb)),by simp (disch:=(try simp only [sPu]);omega) [h3],by rw [after_ok hpf];exact q4,ho1.trans q5,(fun h=>by rw [after_ok hpf] at h;cases h),fun b x r h hp=>?_⟩
      cases h
      rw [hpf] at hp
      cases hp
      rfl
theorem rArrZ_ok {TR gb F0 T2 : Nat} (hTR : R.TR = TR) (hR : rdOK P R = true) (h2k : intK P T2 = some .i32) (hF : RCZ P TR gb .i32 F0 (pInt 4)) (hf : P.funcs[f]? = some fn) (hb : fn.body.map strip = some (sc_RArr R T2 F0)) (hnm : (fn.name == "runtime.NumGoroutine") = false) (hn : fn.ntmps = 21) (hr : fn.results = #[.tmp 2]) :
    RCZ P TR gb .i32 f (pLen false):=by
  subst hTR
  have hst:=rd_facts hR
  refine ⟨fnOK_of hf hb hnm,fun w S rb st hgb hrd hsrc=>?_⟩
  refine fCa hf hb hn (by simp) fun a0 hs hd ha=>?_
  have h0:=ha 0 _ rfl
  simp only [List.getElem_toArray,List.getElem_cons_zero,List.getElem_cons_succ] at h0
  refine SC.wp_seq (SC.wp_reg ?_)
  repeat (apply ops_1;(focus (simp (disch:=(try simp only [sPu]);omega) ;try rfl)))
  refine oNi (SC.wp_seq (SC.wp_reg ?_))
  iterate 1 (apply ops_1;(focus (simp (disch:=(try simp only [sPu]);omega) [h0];try rfl)))
  refine ops_call hF.1 (hF.2 w S rb st hgb hrd hsrc) (by simp (disch:=(try simp only [sPu]);omega) [h0]) ?_
  rintro e w1 ⟨n,rfl,q1,q2,qz,q4⟩
  refine ⟨_,rfl,?_⟩
  repeat (apply ops_1;(focus (simp (disch:=(try simp only [sPu]);omega) ;try rfl)))
  refine oNi ?_
  simp only [Exit.then]
  have q1:RdAt R.TR w1 S rb (after st (pLen0 false)):=q1
  have hcnt:∀ b x r,st=some b→pLen0 false b=some (x,r)→n=x∧IntKind.i64.wrap n=n:=by
    intro b x r hb hp
    have hv:=q4 b x r hb hp
    subst hv
    have:=pInt_rng (k:=4) (by omega) hp
    exact ⟨rfl,wrap64 (by omega) (by omega)⟩
  obtain ⟨bad,len,base,cap,hrow,hlen⟩:∃ bad len base cap,rdRow R.TR w1 rb (.slice base len cap) bad∧((after st (pLen0 false)=none)∨∃ rest,after st (pLen0 false)=some rest∧len=rest.length):=by
    rcases rdAt_row q1 with ⟨e1,hrow⟩ | ⟨rest,base,cap,e1,hrow,-,-⟩
    · exact ⟨_,_,_,_,hrow,.inl e1⟩
    · exact ⟨_,_,_,_,hrow,.inr ⟨_,e1,rfl⟩⟩
  have hc:=rdRow_cells hrow
  refine SC.wp_seq (SC.wp_seq (SC.wp_reg ?_))
  repeat (apply ops_1;(focus (simp (disch:=(try simp only [sPu]);omega) [hst,h0,hc,h2k];try rfl)))
  refine oNi (SC.wp_cond (t:=decide ((len:Int) < IntKind.i64.wrap n)) (by simp (disch:=(try simp only [sPu]);omega)) ?_)
  have key:(after st (pLen false)=if (len:Int) < IntKind.i64.wrap n then none else after st (pLen0 false)):=by
    rw [pLen_eq]
    cases st with
    | none=>simp [after]
    | some b =>
      cases hp:pLen0 false b with
      | none=>rw [after_then_none (after_no hp),after_no hp];simp
      | some z =>
        obtain ⟨x,r⟩:=z
        obtain ⟨rfl,e2⟩:=hcnt b x r rfl hp
        rw [after_then _ _ _ rfl hp,after_ok hp]
        rcases hlen with e | ⟨rest,e,rfl⟩
        · rw [after_ok hp] at e
          cases e
        · rw [after_ok hp] at e
          cases e
          rw [e2]
          by_cases h:(r.length:Int) < n <;> simp [after,h]
  refine Decidable.byCases (p:=(len:Int) < IntKind.i64.wrap n) (fun hl=>?_) (fun hl=>?_)
  · have hno:after st (pLen false)=none:=by rw [key,if_pos hl]
    rw [if_pos (decide_eq_true hl)]
    refine rFail_ok (S:=S) hR hrow (by simp (disch:=(try simp only [sPu]);omega) [h0]) (by omega) (by simp [sPu,hs]) (by simp [sPu,hs]) fun a' w' z1 z2 z3 z4=>?_
    simp only [Exit.then]
    refine ret_tmp hr (by rw [z1];simp [dPu,hd]) ⟨0,by rw [z2],by rw [hno];exact z3,q2.trans z4,fun _=>rfl,fun b x r h hp=>?_⟩
    rw [h,after_ok hp] at hno
    cases hno
  · have hyes:after st (pLen false)=after st (pLen0 false):=by rw [key,if_neg hl]
    rw [if_neg (by rw [decide_eq_false hl];simp)]
    refine SC.wp_skip ?_
    simp only [Exit.then]
    refine SC.wp_seq (SC.wp_reg ?_)
    repeat (apply ops_1;(focus (simp (disch:=(try simp only [sPu]);omega) ;try rfl)))
    refine oNi (SC.wp_ret ?_)
    try simp only [Exit.then]
    refine ret_tmp hr (by simp [dPu,hd]) ⟨n,by simp (disch:=(try simp only [sPu]);omega),by rw [hyes];exact q1,q2,(fun h=>qz (by rw [hyes] at h;exact h)),fun b x r h hp=>?_⟩
    rw [pLen_eq] at hp
    obtain ⟨l,r1,k1,k2⟩:=rThen_some hp
    obtain ⟨rfl,-⟩:=hcnt b l r1 h k1
    split at k2
    · cases k2
    · cases k2
      rfl
end
end Go.Proofs.YtoiipagmhmohdaaDoor.K
