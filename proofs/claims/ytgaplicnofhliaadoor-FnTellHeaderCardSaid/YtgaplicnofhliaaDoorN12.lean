/- Generic texts: H7 H8 H9 H10 H11. No condition. -/
import Derived.Test.YtgaplicnofhliaaDoorN11
namespace Go.Proofs.YtgaplicnofhliaaDoor.K
open Go Go.RowKit Go.Proofs.YtgaplicnofhliaaDoor.T
attribute [local simp] eTm eCo pNo gTp gTn qv qcall vop iop
set_option linter.unusedSimpArgs false
set_option linter.unusedVariables false
set_option maxHeartbeats 4000000
section
variable {P:Program} {X:STy} {f:FuncId} {fn:Func}
theorem bytes_keep {w w':World} {base:Option Addr} {d:Bytes} (h:BytesAt w (fun k=>k < w.heap.size) base d) (hb:∀ k,k < w.heap.size→w'.heap[k]?=w.heap[k]?) (hs:w.heap.size≤w'.heap.size):BytesAt w' (fun k=>k < w'.heap.size) base d:=by
  rcases h with h | ⟨bb,oo,h1,h2,h3⟩
  · exact .inl h
  · exact .inr ⟨bb,oo,h1,by omega,fun j u hu=>by rw [World.cell?_of_block (hb bb h2)];exact h3 j u hu⟩
def SVarC (P:Program) (tU8:Nat) (F:FuncId):Prop:=FnOK P F∧∀ (w:World) (n:Int),-1≤n→n≤1048576→Calls P F #[.int .i64 n] w (RetOwn tU8 w (uvarint (tz n)))
def OctBC (P:Program) (tU8:Nat) (F:FuncId):Prop:=FnOK P F∧∀ (w:World) (nul:Bool) (base:Option Addr) (d:Bytes) (cap:Nat),BytesAt w (fun k=>k < w.heap.size) base d→d.length≤1048576 →
  Calls P F #[.agg #[.bool nul,.slice base d.length cap]] w (RetOwn tU8 w (octB nul d))
theorem octBytes_ok {T0 T1 T2 F0 tU8:Nat} (hm:P.follows .mixedOrders=true) (hT2:u8sB P T2 tU8=true) (hsl:sliceN P T2=some 1) (hf0:fieldOff P T0 0=some 0) (hf1:fieldOff P T0 1=some 1) (h1:oneB P T1=true) (h2:oneB P T2=true)
    (cV : SVarC P tU8 F0) (hf : P.funcs[f]? = some fn) (hb : fn.body.map strip = some (sc_OctBytes T0 T1 T2 F0)) (hnm : (fn.name == "runtime.NumGoroutine") = false) (hn : fn.ntmps = 13) (hr : fn.results = #[.tmp 2]) : OctBC P tU8 f := by
  refine ⟨fnOK_of hf hb hnm,fun w nul base d cap hsr hd1=>?_⟩
  have hlim:lim=70368744177664:=rfl
  refine fCa hf hb hn (by simp) fun a0 hs hd ha=>?_
  have h0:=ha 0 _ rfl
  simp only [List.getElem_toArray,List.getElem_cons_zero,List.getElem_cons_succ] at h0
  refine SC.wp_seq (SC.wp_reg (ops_box (B:=w.heap.size) (w0:=w) (cs:=#[.bool nul,.slice base d.length cap]) (by rw [eTm,h0]) (Nat.le_refl _) (Below.refl _ _) fun w1 q1 q2 q3 hc q5=>?_))
  repeat (apply ops_1;(focus (simp (disch:=(try simp only [sPu]);omega) ;try rfl)))
  refine oNi (SC.wp_seq (SC.wp_seq (SC.wp_reg ?_)))
  have hc0:=hc 0
  have hc1:=hc 1
  simp only [List.getElem?_toArray,List.getElem?_cons_zero,List.getElem?_cons_succ] at hc0 hc1
  repeat (apply ops_1;(focus (simp (disch:=(try simp only [sPu]);omega) [hf0,h1,hc0];try rfl)))
  refine oNi (SC.wp_cond (t:=nul) (by simp (disch:=(try simp only [sPu]);omega)) ?_)
  cases nul with
  | true =>
    rw [if_pos rfl]
    refine SC.wp_seq (SC.wp_reg ?_)
    refine ops_call cV.1 (cV.2 w1 (-1) (by omega) (by omega)) (by simp (disch:=(try simp only [sPu]);omega)) ?_
    rintro e w2 ⟨dv,rfl,ho,hb2⟩
    refine ⟨_,rfl,?_⟩
    repeat (apply ops_1;(focus (simp (disch:=(try simp only [sPu]);omega) ;try rfl)))
    refine oNi (SC.wp_ret ?_)
    try simp only [Exit.then]
    exact ret_tmp hr (by simp [dPu,hd]) ⟨dv,by simp (disch:=(try simp only [sPu]);omega),own_base ho (by omega),q2.trans ⟨hb2.os,hb2.tape,hb2.output,hb2.size,fun k hk=>hb2.block k (by omega)⟩⟩
  | false =>
    rw [if_neg (by simp)]
    refine SC.wp_skip ?_
    simp only [Exit.then]
    have hdr:w1.drew.heap.size=w1.heap.size:=rfl
    have hlt:w.heap.size < w1.heap.size:=by omega
    have hc1':w1.drew.cell? ⟨w.heap.size,1,none⟩=some (.slice base d.length cap):=hc1
    refine SC.wp_seq (SC.wp_dreg hm (Below w1.heap.size w1.drew) [(0,true),(1,true),(2,true),(4,true),(5,true),(3,false),(6,false),(7,true)] (by rfl) (by rfl) (by decide) (Below.refl _ _) ?_)
    iterate 5 (apply dr_1;(focus rfl);(focus (simp (disch:=(try simp only [sPu]);omega) [hf1,h2,hsl,hc1',hlt];try rfl)))
    refine dreg_call (argsV:=#[.int .i64 (d.length:Int)]) rfl cV.1 (cV.2 w1.drew d.length (by omega) (by omega)) (by simp (disch:=(try simp only [sPu]);omega)) ?_
    rintro e w2 ⟨dv,rfl,ho,hb2⟩
    refine ⟨_,rfl,hb2,?_⟩
    have hsz2:=hb2.size
    have hsr2:BytesAt w2 (fun k=>k < w2.heap.size) base d:=bytes_keep hsr (fun k hk=>by rw [hb2.block k (by rw [hdr];omega)];exact q2.block k hk) (by rw [hdr] at hsz2;omega)
    have hul:(uvarint (tz (d.length:Int))).length≤10:=uvarint_length _ (by unfold tz;split <;> omega)
    refine dreg_n rfl rfl (opw_appendU8 (B:=w1.heap.size) (xs:=uvarint (tz (d.length:Int))) (bs:=d) (dv:=dv) (xv:=.slice base d.length cap) hT2 (by simp (disch:=(try simp only [sPu]);omega)) (by simp (disch:=(try simp only [sPu]);omega)) rfl ho (by rw [hdr] at hsz2;exact hsz2) (src_bytes hT2 hsr2 _) (by omega) fun dv3 w3 ho3 hb3 hbs3 _=>?_)
    have hb3':Below w1.heap.size w1.drew w3:=(show Below w1.heap.size w1.drew w2 from hb2).trans hb3
    refine ⟨hb3',?_⟩
    repeat (apply dr_1;(focus rfl);(focus (simp (disch:=(try simp only [sPu]);omega) ;try rfl)))
    refine dreg_nil ?_
    simp only [Exit.then]
    refine SC.wp_ret ?_
    try simp only [Exit.then]
    exact ret_tmp hr (by simp [dPu,hd]) ⟨dv3,by simp (disch:=(try simp only [sPu]);omega),own_base ho3 (by omega),q2.trans ⟨hb3'.os,hb3'.tape,hb3'.output,hb3'.size,fun k hk=>hb3'.block k (by omega)⟩⟩
def HdrBC (P:Program) (tU8:Nat) (F:FuncId):Prop:=FnOK P F∧∀ (w:World) (key:ByteArray) (nul:Bool) (base:Option Addr) (d:Bytes) (cap:Nat),BytesAt w (fun k=>k < w.heap.size) base d→key.data.toList.length+d.length≤1048576 →
  Calls P F #[.agg #[.string key,.bool nul,.slice base d.length cap]] w (RetOwn tU8 w (hdrB key.data.toList nul d))
theorem octB_len (nul:Bool) (d:Bytes) (h:d.length≤1048576):(octB nul d).length≤10+d.length:=by
  unfold octB
  split
  · have:=uvarint_length (tz (-1)) (by decide)
    omega
  · have:=uvarint_length (tz d.length) (by unfold tz;split <;> omega)
    rw [List.length_append]
    omega
theorem hdrBytes_ok {T0 T1 T2 T3 F0 F1 tU8:Nat} (hm:P.follows .mixedOrders=true) (hT2:u8sB P T2 tU8=true) (hf0:fieldOff P T0 0=some 0) (hf1:fieldOff P T0 1=some 1) (h1:oneB P T1=true) (hs1:strB P T1=true) (h3:aggN P T3=some 2) (h3o:oneB P T3=false)
    (cV : SVarC P tU8 F0) (cO : OctBC P tU8 F1) (hf : P.funcs[f]? = some fn) (hb : fn.body.map strip = some (sc_HdrBytes T0 T1 T2 T3 F0 F1)) (hnm : (fn.name == "runtime.NumGoroutine") = false) (hn : fn.ntmps = 16) (hr : fn.results = #[.tmp 2]) : HdrBC P tU8 f := by
  refine ⟨fnOK_of hf hb hnm,fun w key nul base d cap hsr hd1=>?_⟩
  have hlim:lim=70368744177664:=rfl
  refine fCa hf hb hn (by simp) fun a0 hs hd ha=>?_
  have h0:=ha 0 _ rfl
  simp only [List.getElem_toArray,List.getElem_cons_zero,List.getElem_cons_succ] at h0
  refine SC.wp_seq (SC.wp_reg (ops_box (B:=w.heap.size) (w0:=w) (cs:=#[.string key,.bool nul,.slice base d.length cap]) (by rw [eTm,h0]) (Nat.le_refl _) (Below.refl _ _) fun w1 q1 q2 q3 hc q5=>?_))
  repeat (apply ops_1;(focus (simp (disch:=(try simp only [sPu]);omega) ;try rfl)))
  refine oNi ?_
  simp only [Exit.then]
  have hc0:w1.drew.cell? ⟨w.heap.size,0,none⟩=some (.string key):=hc 0
  have hdr:w1.drew.heap.size=w1.heap.size:=rfl
  have hlt:w.heap.size < w1.heap.size:=by omega
  refine SC.wp_seq (SC.wp_dreg hm (Below w1.heap.size w1.drew) [(0,true),(1,true),(2,true),(4,true),(5,true),(3,false),(6,false),(7,true)] (by rfl) (by rfl) (by decide) (Below.refl _ _) ?_)
  iterate 5 (apply dr_1;(focus rfl);(focus (simp (disch:=(try simp only [sPu]);omega) [hf0,h1,hs1,hc0,hlt];try rfl)))
  refine dreg_call (argsV:=#[.int .i64 (key.data.toList.length:Int)]) rfl cV.1 (cV.2 w1.drew key.data.toList.length (by omega) (by omega)) (by simp (disch:=(try simp only [sPu]);omega)) ?_
  rintro e w2 ⟨dv,rfl,ho,hb2⟩
  refine ⟨_,rfl,hb2,?_⟩
  have hsz2:=hb2.size
  have hul:(uvarint (tz (key.data.toList.length:Int))).length≤10:=uvarint_length _ (by unfold tz;split <;> omega)
  refine dreg_n rfl rfl (opw_appendU8 (B:=w1.heap.size) (xs:=uvarint (tz (key.data.toList.length:Int))) (bs:=key.data.toList) (dv:=dv) (xv:=.string key) hT2 (by simp (disch:=(try simp only [sPu]);omega)) (by simp (disch:=(try simp only [sPu]);omega)) rfl ho (by rw [hdr] at hsz2;exact hsz2) (src_str hs1 key w2) (by omega) fun dv3 w3 ho3 hb3 hbs3 _=>?_)
  have hb3':Below w1.heap.size w1.drew w3:=(show Below w1.heap.size w1.drew w2 from hb2).trans hb3
  refine ⟨hb3',?_⟩
  repeat (apply dr_1;(focus rfl);(focus (simp (disch:=(try simp only [sPu]);omega) ;try rfl)))
  refine dreg_nil ?_
  simp only [Exit.then]
  have hcell:∀ o,w3.cell? ⟨w.heap.size,o,none⟩=#[.string key,.bool nul,.slice base d.length cap][o]?:=fun o=>by rw [World.cell?_of_block (hb3'.block _ hlt)];exact hc o
  have hrg:rangeV w3 w.heap.size 1 2=some [.bool nul,.slice base d.length cap]:=by simp [rangeV,hcell]
  have hs3:=hb3'.size
  have hsr3:BytesAt w3 (fun k=>k < w3.heap.size) base d:=bytes_keep hsr (fun k hk=>by rw [hb3'.block k (by omega)];exact q2.block k hk) (by omega)
  refine SC.wp_seq (SC.wp_reg ?_)
  iterate 3 (apply ops_1;(focus (simp (disch:=(try simp only [sPu]);omega) [hf1,h3,h3o,hrg];try rfl)))
  refine ops_call cO.1 (cO.2 w3 nul base d cap hsr3 (by omega)) (by simp (disch:=(try simp only [sPu]);omega)) ?_
  rintro e w4 ⟨dv4,rfl,ho4,hb4⟩
  refine ⟨_,rfl,?_⟩
  have hs4:=hb4.size
  obtain ⟨S4,b4,c4,rfl,hsr4,hS4⟩:=own_src ho4
  have ho3':Own tU8 w4 w1.heap.size dv3 (uvarint (tz (key.data.toList.length:Int)) ++ key.data.toList):=own_keep ho3 hb4
  have hol:=octB_len nul d (by omega)
  refine oNo rfl (opw_appendU8 (B:=w1.heap.size) (xs:=uvarint (tz (key.data.toList.length:Int)) ++ key.data.toList) (bs:=octB nul d) (dv:=dv3) (xv:=.slice b4 (octB nul d).length c4) hT2 (by simp (disch:=(try simp only [sPu]);omega)) (by simp (disch:=(try simp only [sPu]);omega)) rfl ho3' (by omega) (src_of hT2 hsr4) (by rw [List.length_append];omega) fun dv5 w5 ho5 hb5 hbs5 _=>?_)
  repeat (apply ops_1;(focus (simp (disch:=(try simp only [sPu]);omega) ;try rfl)))
  refine oNi (SC.wp_ret ?_)
  try simp only [Exit.then]
  have hbf:Below w.heap.size w w5:=((q2.trans ⟨hb3'.os,hb3'.tape,hb3'.output,hb3'.size,fun k hk=>hb3'.block k (by omega)⟩).trans ⟨hb4.os,hb4.tape,hb4.output,hb4.size,fun k hk=>hb4.block k (by omega)⟩).trans ⟨hb5.os,hb5.tape,hb5.output,hb5.size,fun k hk=>hb5.block k (by omega)⟩
  exact ret_tmp hr (by simp [dPu,hd]) ⟨dv5,by simp (disch:=(try simp only [sPu]);omega),own_base ho5 (by omega),hbf⟩
end
end Go.Proofs.YtgaplicnofhliaaDoor.K
namespace Go.Proofs.YtgaplicnofhliaaDoor.K
open Go Go.RowKit Go.Proofs.YtgaplicnofhliaaDoor.T
attribute [local simp] eTm eCo pNo gTp gTn qv qcall vop iop
set_option linter.unusedSimpArgs false
set_option linter.unusedVariables false
set_option maxHeartbeats 4000000
def sc_Fits7 (T0 T1 T2 T3 T4 F0:Nat):SC:=.seq (.reg [⟨some 1,.box T0 (.tmp 0),none⟩,⟨some 2,.assign (.const (.bool false)),none⟩]) (.seq (.seq (.reg [fa 3 T0 1 0,ld 4 T1 3,lenOp 5 T1 4,⟨some 6,.binOp .gtr T2 (.tmp 5) (.const (.int .i64 2147483647)) T2,none⟩]) (.cond (.tmp 6) (.seq (.reg [⟨some 2,.assign (.const (.bool false)),none⟩]) (.ret)) (.skip))) (.seq (.seq (.reg [fa 7 T0 1 1,ld 8 T3 7,cal 9 F0 [8],⟨some 10,.unOp .not T4 (.tmp 9),none⟩]) (.cond (.tmp 10) (.seq (.reg [⟨some 2,.assign (.const (.bool false)),none⟩]) (.ret)) (.skip))) (.seq (.reg [⟨some 2,.assign (.const (.bool true)),none⟩]) (.ret))))
def sc_Fits8 (T0 T1 T2:Nat):SC:=.seq (.reg [⟨some 1,.box T0 (.tmp 0),none⟩,⟨some 2,.assign (.const (.bool false)),none⟩]) (.seq (.seq (.reg [fa 3 T0 1 1,ld 4 T1 3,lenOp 5 T1 4,⟨some 6,.binOp .gtr T2 (.tmp 5) (.const (.int .i64 2147483647)) T2,none⟩]) (.cond (.tmp 6) (.seq (.reg [⟨some 2,.assign (.const (.bool false)),none⟩]) (.ret)) (.skip))) (.seq (.reg [⟨some 2,.assign (.const (.bool true)),none⟩]) (.ret)))
def sc_SameOct (T0 T1 T2 F0:Nat):SC:=.seq (.reg [⟨some 2,.box T0 (.tmp 0),none⟩,⟨some 3,.box T0 (.tmp 1),none⟩,⟨some 4,.assign (.const (.bool false)),none⟩]) (.seq (.reg [fa 5 T0 2 0,ld 6 T1 5,fa 7 T0 3 0,ld 8 T1 7,⟨some 9,.binOp .eql T1 (.tmp 6) (.tmp 8) T1,none⟩,mv 10 9,⟨some 11,.fieldAddr T0 (.tmp 2) 0,some (5,true)⟩,⟨some 12,.load T1 (.tmp 11),some (5,true)⟩,⟨some 13,.move (.tmp 12),some (5,true)⟩,⟨some 14,.fieldAddr T0 (.tmp 2) 1,some (8,false)⟩,⟨some 15,.load T2 (.tmp 14),some (8,false)⟩,⟨some 16,.fieldAddr T0 (.tmp 3) 1,some (8,false)⟩,⟨some 17,.load T2 (.tmp 16),some (8,false)⟩,⟨some 18,.call ⟨.value (.func F0),#[(.tmp 15),(.tmp 17)],#[]⟩,some (8,false)⟩,⟨some 19,.pick (.tmp 13) (.const (.bool true)) (.tmp 18),some (5,true)⟩,⟨some 20,.pick (.tmp 10) (.tmp 19) (.const (.bool false)),none⟩,asg 4 20]) (.ret))
section
variable {P:Program} {a:Act} {w:World} {K:Act→World→Prop} {d:Option Tmp} {g:Option (Nat × Bool)}
def boolB (P:Program) (T:Nat):Bool:=match P.underlying T with | some .bool=>true | _=>false
theorem opw_eqb {T T':TypeId} {x y:Operand} {m n:Bool} (hT:boolB P T=true) (hx:a.eval x=.bool m) (hy:a.eval y=.bool n) (h:K (a.put d (.bool (m == n))) w):opw P ⟨d,.binOp .eql T x y T',g⟩ a w K:=by
  unfold boolB at hT
  split at hT <;> try (simp at hT;done)
  rename_i hu
  refine oVa (by simp) (fun p hp=>?_) h
  have e:(eqGuard .eql T x y (.bool m) (.bool n)).run P w=.ok () w:=by unfold eqGuard;split <;> rfl
  have hr:(Op.equal T (.bool m) (.bool n)).run P w=.ok (m == n) w:=by
    have key:∀ dd,(Op.equalIn (dd+1) T (.bool m) (.bool n)).run P w=.ok (m == n) w:=by
      intro dd
      simp [Op.equalIn,run_underlying hu]
    exact key 9999
  simp [execOp,hp,hx,hy,e,binOp,hr]
end
section
variable {P:Program} {f:FuncId} {fn:Func}
def AsksF (p:Prop) (w:World) (e:Ending) (w':World):Prop:=(∃ b:Bool,e=.returned (.bool b)∧(b=true→p))∧Below w.heap.size w w'
theorem fits8_ok {T0 T1 T2:Nat} (hf1:fieldOff P T0 1=some 1) (h1:oneB P T1=true) (hsl:sliceN P T1=some 1) (hf:P.funcs[f]?=some fn) (hb:fn.body.map strip=some (sc_Fits8 T0 T1 T2)) (hn:fn.ntmps=7) (hr:fn.results=#[.tmp 2])
    (w:World) (nul:Bool) (b:Option Addr) (l c:Nat):Calls P f #[.agg #[.bool nul,.slice b l c]] w (AsksF (l≤2147483647) w):=by
  refine fCa hf hb hn (by simp) fun a0 hs hd ha=>?_
  have h0:=ha 0 _ rfl
  simp only [List.getElem_toArray,List.getElem_cons_zero,List.getElem_cons_succ] at h0
  refine SC.wp_seq (SC.wp_reg (ops_box (B:=w.heap.size) (w0:=w) (cs:=#[.bool nul,.slice b l c]) (by rw [eTm,h0]) (Nat.le_refl _) (Below.refl _ _) fun w1 q1 q2 q3 hc q5=>?_))
  repeat (apply ops_1;(focus (simp (disch:=(try simp only [sPu]);omega) ;try rfl)))
  refine oNi (SC.wp_seq (SC.wp_seq (SC.wp_reg ?_)))
  have hc1:=hc 1
  simp only [List.getElem?_toArray,List.getElem?_cons_zero,List.getElem?_cons_succ] at hc1
  repeat (apply ops_1;(focus (simp (disch:=(try simp only [sPu]);omega) [hf1,h1,hsl,hc1];try rfl)))
  refine oNi (SC.wp_cond (t:=decide (2147483647 < (l:Int))) (by simp (disch:=(try simp only [sPu]);omega)) ?_)
  refine Decidable.byCases (p:=2147483647 < (l:Int)) (fun hlt=>?_) (fun hlt=>?_)
  · rw [if_pos (decide_eq_true hlt)]
    refine SC.wp_seq (SC.wp_reg ?_)
    repeat (apply ops_1;(focus (simp (disch:=(try simp only [sPu]);omega) ;try rfl)))
    refine oNi (SC.wp_ret ?_)
    try simp only [Exit.then]
    exact ret_tmp hr (by simp [dPu,hd]) ⟨⟨false,by simp (disch:=(try simp only [sPu]);omega),fun h=>by cases h⟩,q2⟩
  · rw [if_neg (by simpa using hlt)]
    refine SC.wp_skip ?_
    simp only [Exit.then]
    refine SC.wp_seq (SC.wp_reg ?_)
    repeat (apply ops_1;(focus (simp (disch:=(try simp only [sPu]);omega) ;try rfl)))
    refine oNi (SC.wp_ret ?_)
    try simp only [Exit.then]
    exact ret_tmp hr (by simp [dPu,hd]) ⟨⟨true,by simp (disch:=(try simp only [sPu]);omega),fun _=>by omega⟩,q2⟩
theorem fits7_ok {T0 T1 T2 T3 T4 F0:Nat} (hf0:fieldOff P T0 0=some 0) (hf1:fieldOff P T0 1=some 1) (h1:oneB P T1=true) (hs1:strB P T1=true) (h3:aggN P T3=some 2) (h3o:oneB P T3=false)
    (o8:FnOK P F0) (c8:∀ (w:World) (nul:Bool) (b:Option Addr) (l c:Nat),Calls P F0 #[.agg #[.bool nul,.slice b l c]] w (AsksF (l≤2147483647) w)) (hf:P.funcs[f]?=some fn) (hb:fn.body.map strip=some (sc_Fits7 T0 T1 T2 T3 T4 F0)) (hn:fn.ntmps=11) (hr:fn.results=#[.tmp 2])
    (w:World) (key:ByteArray) (nul:Bool) (b:Option Addr) (l c:Nat):Calls P f #[.agg #[.string key,.bool nul,.slice b l c]] w (AsksF (key.data.toList.length≤2147483647∧l≤2147483647) w):=by
  refine fCa hf hb hn (by simp) fun a0 hs hd ha=>?_
  have h0:=ha 0 _ rfl
  simp only [List.getElem_toArray,List.getElem_cons_zero,List.getElem_cons_succ] at h0
  refine SC.wp_seq (SC.wp_reg (ops_box (B:=w.heap.size) (w0:=w) (cs:=#[.string key,.bool nul,.slice b l c]) (by rw [eTm,h0]) (Nat.le_refl _) (Below.refl _ _) fun w1 q1 q2 q3 hc q5=>?_))
  repeat (apply ops_1;(focus (simp (disch:=(try simp only [sPu]);omega) ;try rfl)))
  refine oNi (SC.wp_seq (SC.wp_seq (SC.wp_reg ?_)))
  have hc0:=hc 0
  simp only [List.getElem?_toArray,List.getElem?_cons_zero,List.getElem?_cons_succ] at hc0
  have hrg:rangeV w1 w.heap.size 1 2=some [.bool nul,.slice b l c]:=by simp [rangeV,hc]
  repeat (apply ops_1;(focus (simp (disch:=(try simp only [sPu]);omega) [hf0,h1,hs1,hc0];try rfl)))
  refine oNi (SC.wp_cond (t:=decide (2147483647 < (key.data.toList.length:Int))) (by simp (disch:=(try simp only [sPu]);omega)) ?_)
  refine Decidable.byCases (p:=2147483647 < (key.data.toList.length:Int)) (fun hlt=>?_) (fun hlt=>?_)
  · rw [if_pos (decide_eq_true hlt)]
    refine SC.wp_seq (SC.wp_reg ?_)
    repeat (apply ops_1;(focus (simp (disch:=(try simp only [sPu]);omega) ;try rfl)))
    refine oNi (SC.wp_ret ?_)
    try simp only [Exit.then]
    exact ret_tmp hr (by simp [dPu,hd]) ⟨⟨false,by simp (disch:=(try simp only [sPu]);omega),fun h=>by cases h⟩,q2⟩
  · rw [if_neg (by simpa using hlt)]
    refine SC.wp_skip ?_
    simp only [Exit.then]
    refine SC.wp_seq (SC.wp_seq (SC.wp_reg ?_))
    iterate 2 (apply ops_1;(focus (simp (disch:=(try simp only [sPu]);omega) [hf1,h3,h3o,hrg];try rfl)))
    refine ops_call o8 (c8 w1 nul b l c) (by simp (disch:=(try simp only [sPu]);omega)) ?_
    rintro e w2 ⟨⟨bo,rfl,hbp⟩,hb2⟩
    refine ⟨_,rfl,?_⟩
    repeat (apply ops_1;(focus (simp (disch:=(try simp only [sPu]);omega) ;try rfl)))
    have hbw:Below w.heap.size w w2:=q2.trans ⟨hb2.os,hb2.tape,hb2.output,hb2.size,fun k hk=>hb2.block k (by omega)⟩
    refine oNi (SC.wp_cond (t:=!bo) (by simp (disch:=(try simp only [sPu]);omega)) ?_)
    cases bo with
    | false =>
      rw [if_pos (by rfl)]
      refine SC.wp_seq (SC.wp_reg ?_)
      repeat (apply ops_1;(focus (simp (disch:=(try simp only [sPu]);omega) ;try rfl)))
      refine oNi (SC.wp_ret ?_)
      try simp only [Exit.then]
      exact ret_tmp hr (by simp [dPu,hd]) ⟨⟨false,by simp (disch:=(try simp only [sPu]);omega),fun h=>by cases h⟩,hbw⟩
    | true =>
      rw [if_neg (by simp)]
      refine SC.wp_skip ?_
      simp only [Exit.then]
      refine SC.wp_seq (SC.wp_reg ?_)
      repeat (apply ops_1;(focus (simp (disch:=(try simp only [sPu]);omega) ;try rfl)))
      refine oNi (SC.wp_ret ?_)
      try simp only [Exit.then]
      exact ret_tmp hr (by simp [dPu,hd]) ⟨⟨true,by simp (disch:=(try simp only [sPu]);omega),fun _=>⟨by omega,hbp rfl⟩⟩,hbw⟩
def SameOC (P:Program) (F:FuncId):Prop:=FnOK P F∧∀ (w:World) (nul:Bool) (b1 b2:Option Addr) (l1 l2 c1 c2:Nat),(nul=false→∃ d:Bytes,l1=d.length∧l2=d.length∧d.length≤lim∧BytesAt w (fun k=>k < w.heap.size) b1 d∧BytesAt w (fun k=>k < w.heap.size) b2 d) →
  Calls P F #[.agg #[.bool nul,.slice b1 l1 c1],.agg #[.bool nul,.slice b2 l2 c2]] w fun e w'=>e=.returned (.bool true)∧Below w.heap.size w w'
theorem sameOct_ok {T0 T1 T2 F0:Nat} (hf0:fieldOff P T0 0=some 0) (hf1:fieldOff P T0 1=some 1) (h1:oneB P T1=true) (hbT:boolB P T1=true) (h2:oneB P T2=true)
    (oS:FnOK P F0) (cS:∀ (w:World) (xs:Bytes) (b1 b2:Option Addr) (c1 c2:Nat),BytesAt w (fun k=>k < w.heap.size) b1 xs→BytesAt w (fun k=>k < w.heap.size) b2 xs→xs.length≤lim→Calls P F0 #[.slice b1 xs.length c1,.slice b2 xs.length c2] w fun e w'=>e=.returned (.bool true)∧Below w.heap.size w w')
    (hf : P.funcs[f]? = some fn) (hb : fn.body.map strip = some (sc_SameOct T0 T1 T2 F0)) (hnm : (fn.name == "runtime.NumGoroutine") = false) (hn : fn.ntmps = 21) (hr : fn.results = #[.tmp 4]) : SameOC P f := by
  refine ⟨fnOK_of hf hb hnm,fun w nul b1 b2 l1 l2 c1 c2 hby=>?_⟩
  refine fCa hf hb hn (by simp) fun a0 hs hd ha=>?_
  have k0:=ha 0 _ rfl
  have k1:=ha 1 _ rfl
  simp only [List.getElem_toArray,List.getElem_cons_zero,List.getElem_cons_succ] at k0 k1
  refine SC.wp_seq (SC.wp_reg (ops_box (B:=w.heap.size) (w0:=w) (cs:=#[.bool nul,.slice b1 l1 c1]) (by rw [eTm,k0]) (Nat.le_refl _) (Below.refl _ _) fun w1 q1 q2 q3 hc q5=>?_))
  refine ops_box (B:=w.heap.size) (w0:=w) (cs:=#[.bool nul,.slice b2 l2 c2]) (by simp (disch:=(try simp only [sPu]);omega) [k1]) (by omega) q2 fun w2 r1 r2 r3 hd2 r5=>?_
  have hcA:∀ j,w2.cell? ⟨w.heap.size,j,none⟩=#[.bool nul,.slice b1 l1 c1][j]?:=fun j=>by rw [r1.cell (by show w.heap.size < w1.heap.size;omega)];exact hc j
  have a0':w2.cell? ⟨w.heap.size,0,none⟩=some (.bool nul):=hcA 0
  have a1':w2.cell? ⟨w.heap.size,1,none⟩=some (.slice b1 l1 c1):=hcA 1
  have d0':w2.cell? ⟨w1.heap.size,0,none⟩=some (.bool nul):=hd2 0
  have d1':w2.cell? ⟨w1.heap.size,1,none⟩=some (.slice b2 l2 c2):=hd2 1
  repeat (first | (apply ops_1;(focus (simp (disch:=(try simp only [sPu]);omega) ;try rfl))) | (apply ops_y;(focus rfl);(focus ((try simp only [sPu]);omega));(focus (simp (disch:=(try simp only [sPu]);omega);done));(focus (simp (disch:=(try simp only [sPu]);omega) ;try rfl))) | (apply ops_n;(focus rfl);(focus ((try simp only [sPu]);omega));(focus (first | (left;simp (disch:=(try simp only [sPu]);omega);done) | (right;simp (disch:=(try simp only [sPu]);omega);done)))))
  refine oNi (SC.wp_seq (SC.wp_reg ?_))
  iterate 4 (first | (apply ops_1;(focus (simp (disch:=(try simp only [sPu]);omega) [hf0,h1,a0',d0'];try rfl))) | (apply ops_y;(focus rfl);(focus ((try simp only [sPu]);omega));(focus (simp (disch:=(try simp only [sPu]);omega) [hf0,h1,a0',d0'];done));(focus (simp (disch:=(try simp only [sPu]);omega) [hf0,h1,a0',d0'];try rfl))) | (apply ops_n;(focus rfl);(focus ((try simp only [sPu]);omega));(focus (first | (left;simp (disch:=(try simp only [sPu]);omega) [hf0,h1,a0',d0'];done) | (right;simp (disch:=(try simp only [sPu]);omega);done)))))
  refine oNo rfl (opw_eqb (m:=nul) (n:=nul) hbT (by simp (disch:=(try simp only [sPu]);omega)) (by simp (disch:=(try simp only [sPu]);omega)) ?_)
  rw [show (nul == nul)=true by simp]
  cases nul with
  | true =>
    repeat (first | (apply ops_1;(focus (simp (disch:=(try simp only [sPu]);omega) [hf0,hf1,h1,h2,a0'];try rfl))) | (apply ops_y;(focus rfl);(focus ((try simp only [sPu]);omega));(focus (simp (disch:=(try simp only [sPu]);omega) [hf0,hf1,h1,h2,a0'];done));(focus (simp (disch:=(try simp only [sPu]);omega) [hf0,hf1,h1,h2,a0'];try rfl))) | (apply ops_n;(focus rfl);(focus ((try simp only [sPu]);omega));(focus (first | (left;simp (disch:=(try simp only [sPu]);omega) [hf0,hf1,h1,h2,a0'];done) | (right;simp (disch:=(try simp only [sPu]);omega);done)))))
    refine oNi (SC.wp_ret ?_)
    try simp only [Exit.then]
    exact ret_tmp hr (by simp [dPu,hd]) ⟨by simp (disch:=(try simp only [sPu]);omega),r2⟩
  | false =>
    obtain ⟨dd,rfl,rfl,hl,y1,y2⟩:=hby rfl
    iterate 8 (first | (apply ops_1;(focus (simp (disch:=(try simp only [sPu]);omega) [hf0,hf1,h1,h2,a0',a1',d1'];try rfl))) | (apply ops_y;(focus rfl);(focus ((try simp only [sPu]);omega));(focus (simp (disch:=(try simp only [sPu]);omega) [hf0,hf1,h1,h2,a0',a1',d1'];done));(focus (simp (disch:=(try simp only [sPu]);omega) [hf0,hf1,h1,h2,a0',a1',d1'];try rfl))) | (apply ops_n;(focus rfl);(focus ((try simp only [sPu]);omega));(focus (first | (left;simp (disch:=(try simp only [sPu]);omega) [hf0,hf1,h1,h2,a0',a1',d1'];done) | (right;simp (disch:=(try simp only [sPu]);omega);done)))))
    have y1':BytesAt w2 (fun k=>k < w2.heap.size) b1 dd:=by
      rcases y1 with h | ⟨bb,oo,e1,e2,e3⟩
      · exact .inl h
      · exact .inr ⟨bb,oo,e1,by omega,fun j u hu=>by rw [World.cell?_of_block (r2.block bb e2)];exact e3 j u hu⟩
    have y2':BytesAt w2 (fun k=>k < w2.heap.size) b2 dd:=by
      rcases y2 with h | ⟨bb,oo,e1,e2,e3⟩
      · exact .inl h
      · exact .inr ⟨bb,oo,e1,by omega,fun j u hu=>by rw [World.cell?_of_block (r2.block bb e2)];exact e3 j u hu⟩
    refine ops_callg (argsV:=#[.slice b1 dd.length c1,.slice b2 dd.length c2]) rfl (by simp [sPu,hs]) (by simp (disch:=(try simp only [sPu]);omega)) oS (cS w2 dd b1 b2 c1 c2 y1' y2' hl) (by simp (disch:=(try simp only [sPu]);omega)) ?_
    rintro e w3 ⟨rfl,hb3⟩
    refine ⟨_,rfl,?_⟩
    repeat (first | (apply ops_1;(focus (simp (disch:=(try simp only [sPu]);omega) ;try rfl))) | (apply ops_y;(focus rfl);(focus ((try simp only [sPu]);omega));(focus (simp (disch:=(try simp only [sPu]);omega);done));(focus (simp (disch:=(try simp only [sPu]);omega) ;try rfl))) | (apply ops_n;(focus rfl);(focus ((try simp only [sPu]);omega));(focus (first | (left;simp (disch:=(try simp only [sPu]);omega);done) | (right;simp (disch:=(try simp only [sPu]);omega);done)))))
    refine oNi (SC.wp_ret ?_)
    try simp only [Exit.then]
    exact ret_tmp hr (by simp [dPu,hd]) ⟨by simp (disch:=(try simp only [sPu]);omega),r2.trans ⟨hb3.os,hb3.tape,hb3.output,hb3.size,fun k hk=>hb3.block k (by omega)⟩⟩
end
end Go.Proofs.YtgaplicnofhliaaDoor.K
namespace Go.Proofs.YtgaplicnofhliaaDoor.K
open Go Go.RowKit Go.Proofs.YtgaplicnofhliaaDoor.T
attribute [local simp] eTm eCo pNo gTp gTn qv qcall vop iop
set_option linter.unusedSimpArgs false
set_option linter.unusedVariables false
set_option maxHeartbeats 4000000
def sc_SameHdrs (T0 T1 T2 T3 T4 T5 F0:Nat):SC:=.seq (.reg [⟨some 4,.assign (.const (.bool false)),none⟩]) (.seq (.seq (.reg [mv 6 0,lenOp 7 T0 6,mv 8 1,lenOp 9 T0 8,⟨some 10,.binOp .neq T1 (.tmp 7) (.tmp 9) T1,none⟩]) (.cond (.tmp 10) (.seq (.reg [⟨some 4,.assign (.const (.bool false)),none⟩]) (.ret)) (.skip))) (.seq (.seq (.reg [mv 11 0,lenOp 12 T0 11,⟨some 13,.move (.const (.int .i64 0)),none⟩]) (.block 0 (.loop (.seq (.reg [⟨some 14,.binOp .lss T1 (.tmp 13) (.tmp 12) T1,none⟩]) (.seq (.cond (.tmp 14) (.skip) (.exit 0)) (.seq (.block 1 (.seq (.reg [mv 15 13,asg 5 15]) (.seq (.dreg [mv 16 0,mv 17 5,⟨some 18,.indexAddr T0 (.tmp 16) (.tmp 17),none⟩,fa 19 T2 18 0,ld 20 T3 19,mv 21 1,mv 22 5,⟨some 23,.indexAddr T0 (.tmp 21) (.tmp 22),none⟩,fa 24 T2 23 0,ld 25 T3 24,⟨some 26,.binOp .neq T3 (.tmp 20) (.tmp 25) T3,none⟩,mv 27 26,⟨some 28,.move (.tmp 0),some (11,false)⟩,⟨some 29,.move (.tmp 5),some (11,false)⟩,⟨some 30,.indexAddr T0 (.tmp 28) (.tmp 29),some (11,false)⟩,⟨some 31,.fieldAddr T2 (.tmp 30) 1,some (11,false)⟩,⟨some 32,.load T4 (.tmp 31),some (11,false)⟩,⟨some 33,.move (.tmp 1),some (11,false)⟩,⟨some 34,.move (.tmp 5),some (11,false)⟩,⟨some 35,.indexAddr T0 (.tmp 33) (.tmp 34),some (11,false)⟩,⟨some 36,.fieldAddr T2 (.tmp 35) 1,some (11,false)⟩,⟨some 37,.load T4 (.tmp 36),some (11,false)⟩,⟨some 38,.call ⟨.value (.func F0),#[(.tmp 32),(.tmp 37)],#[]⟩,some (11,false)⟩,⟨some 39,.unOp .not T5 (.tmp 38),some (11,false)⟩,⟨some 40,.pick (.tmp 27) (.const (.bool true)) (.tmp 39),none⟩] [[],[],[0,1],[2],[3],[],[],[5,6],[7],[8],[4,9],[10],[11],[11],[12,13,11],[14,11],[15,11],[11],[11],[17,18,11],[19,11],[20,11],[16,21,11,11],[22,11],[11,23]]) (.cond (.tmp 40) (.seq (.reg [⟨some 4,.assign (.const (.bool false)),none⟩]) (.ret)) (.skip))))) (.reg [⟨some 41,.binOp .add T1 (.tmp 13) (.const (.int .i64 1)) T1,none⟩,mv 13 41]))))))) (.seq (.reg [⟨some 4,.assign (.const (.bool true)),none⟩]) (.ret))))
section
variable {P:Program} {f:FuncId} {fn:Func}
theorem opw_neqstr {a:Act} {w:World} {K:Act→World→Prop} {d:Option Tmp} {g:Option (Nat × Bool)} {T T':TypeId} {x y:Operand} {s:ByteArray} (hx:a.eval x=.string s) (hy:a.eval y=.string s) (h:K (a.put d (.bool false)) w):opw P ⟨d,.binOp .neq T x y T',g⟩ a w K:=by
  refine oVa (by simp) (fun p hp=>?_) h
  have e:(eqGuard .neq T x y (.string s) (.string s)).run P w=.ok () w:=by unfold eqGuard;split <;> rfl
  simp [execOp,hp,hx,hy,e,binOp,Op.stringOp]
def SameHC (P:Program) (F:FuncId):Prop:=FnOK P F∧∀ (w:World) (g1 g2 c1 c2:Nat) (key:ByteArray) (nul:Bool) (b1 b2:Option Addr) (l1 l2 k1 k2:Nat),g1 < w.heap.size→g2 < w.heap.size →
  (∀ j,j < 3→w.cell? ⟨g1,j,none⟩=#[.string key,.bool nul,.slice b1 l1 k1][j]?)→(∀ j,j < 3→w.cell? ⟨g2,j,none⟩=#[.string key,.bool nul,.slice b2 l2 k2][j]?) →
  (nul=false→∃ d:Bytes,l1=d.length∧l2=d.length∧d.length≤lim∧BytesAt w (fun k=>k < w.heap.size) b1 d∧BytesAt w (fun k=>k < w.heap.size) b2 d) →
  Calls P F #[.slice (some ⟨g1,0,none⟩) 1 c1,.slice (some ⟨g2,0,none⟩) 1 c2] w fun e w'=>e=.returned (.bool true)∧Below w.heap.size w w'
theorem sameHdrs_ok {T0 T1 T2 T3 T4 T5 F0:Nat} (hm:P.follows .mixedOrders=true) (hsl:sliceN P T0=some 3) (hf0:fieldOff P T2 0=some 0) (hf1:fieldOff P T2 1=some 1) (h3:oneB P T3=true) (h4:aggN P T4=some 2) (h4o:oneB P T4=false)
    (cS : SameOC P F0) (hf : P.funcs[f]? = some fn) (hb : fn.body.map strip = some (sc_SameHdrs T0 T1 T2 T3 T4 T5 F0)) (hnm : (fn.name == "runtime.NumGoroutine") = false) (hn : fn.ntmps = 42) (hr : fn.results = #[.tmp 4]) : SameHC P f := by
  refine ⟨fnOK_of hf hb hnm,fun w g1 g2 c1 c2 key nul b1 b2 l1 l2 k1 k2 hg1 hg2 hc1 hc2 hby=>?_⟩
  refine fCa hf hb hn (by simp) fun a0 hs hd ha=>?_
  have u0:=ha 0 _ rfl
  have u1:=ha 1 _ rfl
  simp only [List.getElem_toArray,List.getElem_cons_zero,List.getElem_cons_succ] at u0 u1
  refine SC.wp_seq (SC.wp_reg ?_)
  repeat (first | (apply ops_1;(focus (simp (disch:=(try simp only [sPu]);omega) ;try rfl))) | (apply ops_y;(focus rfl);(focus ((try simp only [sPu]);omega));(focus (simp (disch:=(try simp only [sPu]);omega);done));(focus (simp (disch:=(try simp only [sPu]);omega) ;try rfl))) | (apply ops_n;(focus rfl);(focus ((try simp only [sPu]);omega));(focus (first | (left;simp (disch:=(try simp only [sPu]);omega);done) | (right;simp (disch:=(try simp only [sPu]);omega);done)))))
  refine oNi (SC.wp_seq (SC.wp_seq (SC.wp_reg ?_)))
  repeat (first | (apply ops_1;(focus (simp (disch:=(try simp only [sPu]);omega) [hsl,u0,u1];try rfl))) | (apply ops_y;(focus rfl);(focus ((try simp only [sPu]);omega));(focus (simp (disch:=(try simp only [sPu]);omega) [hsl,u0,u1];done));(focus (simp (disch:=(try simp only [sPu]);omega) [hsl,u0,u1];try rfl))) | (apply ops_n;(focus rfl);(focus ((try simp only [sPu]);omega));(focus (first | (left;simp (disch:=(try simp only [sPu]);omega) [hsl,u0,u1];done) | (right;simp (disch:=(try simp only [sPu]);omega);done)))))
  refine oNi (SC.wp_cond (t:=false) (by simp (disch:=(try simp only [sPu]);omega)) ?_)
  rw [if_neg (by simp)]
  refine SC.wp_skip ?_
  simp only [Exit.then]
  refine SC.wp_seq (SC.wp_seq (SC.wp_reg ?_))
  repeat (first | (apply ops_1;(focus (simp (disch:=(try simp only [sPu]);omega) [hsl,u0,u1];try rfl))) | (apply ops_y;(focus rfl);(focus ((try simp only [sPu]);omega));(focus (simp (disch:=(try simp only [sPu]);omega) [hsl,u0,u1];done));(focus (simp (disch:=(try simp only [sPu]);omega) [hsl,u0,u1];try rfl))) | (apply ops_n;(focus rfl);(focus ((try simp only [sPu]);omega));(focus (first | (left;simp (disch:=(try simp only [sPu]);omega) [hsl,u0,u1];done) | (right;simp (disch:=(try simp only [sPu]);omega);done)))))
  refine oNi ?_
  simp only [Exit.then]
  refine SC.wp_block (SC.wp_loop (fun a4 w5=>∃ (j:Nat),a4.tmps.size=42∧a4.defers=[]∧getT a4 0=.slice (some ⟨g1,0,none⟩) 1 c1∧getT a4 1=.slice (some ⟨g2,0,none⟩) 1 c2∧getT a4 12=.int .i64 1∧getT a4 13=.int .i64 (j:Int)∧j≤1∧Below w.heap.size w w5)
    (fun a4 _=>match getT a4 13 with | .int _ m=>(1 - m).toNat | _=>0) ⟨0,by simp [sPu,hs],by simp [dPu,hd],by simp (disch:=(try simp only [sPu]);omega) [u0],by simp (disch:=(try simp only [sPu]);omega) [u1],by simp (disch:=(try simp only [sPu]);omega),by simp (disch:=(try simp only [sPu]);omega),by omega,Below.refl _ _⟩ ?_)
  rintro a4 w5 ⟨j,q,qd,q0,q1,q12,q13,hj,hb5⟩
  refine SC.wp_seq (SC.wp_reg ?_)
  repeat (first | (apply ops_1;(focus (simp (disch:=(try simp only [sPu]);omega) [q12,q13];try rfl))) | (apply ops_y;(focus rfl);(focus ((try simp only [sPu]);omega));(focus (simp (disch:=(try simp only [sPu]);omega) [q12,q13];done));(focus (simp (disch:=(try simp only [sPu]);omega) [q12,q13];try rfl))) | (apply ops_n;(focus rfl);(focus ((try simp only [sPu]);omega));(focus (first | (left;simp (disch:=(try simp only [sPu]);omega) [q12,q13];done) | (right;simp (disch:=(try simp only [sPu]);omega);done)))))
  refine oNi ?_
  simp only [Exit.then]
  refine SC.wp_seq (SC.wp_cond (t:=decide ((j:Int) < 1)) (by simp (disch:=(try simp only [sPu]);omega)) ?_)
  cases e1:decide ((j:Int) < 1)
  · rw [if_neg (by simp)]
    refine SC.wp_exit ?_
    simp only [Exit.then,Exit.inBlock,if_true]
    refine SC.wp_seq (SC.wp_reg ?_)
    repeat (first | (apply ops_1;(focus (simp (disch:=(try simp only [sPu]);omega) ;try rfl))) | (apply ops_y;(focus rfl);(focus ((try simp only [sPu]);omega));(focus (simp (disch:=(try simp only [sPu]);omega);done));(focus (simp (disch:=(try simp only [sPu]);omega) ;try rfl))) | (apply ops_n;(focus rfl);(focus ((try simp only [sPu]);omega));(focus (first | (left;simp (disch:=(try simp only [sPu]);omega);done) | (right;simp (disch:=(try simp only [sPu]);omega);done)))))
    refine oNi (SC.wp_ret (ret_tmp hr (by simp [dPu,qd]) ⟨?_,hb5⟩))
    simp (disch:=(try simp only [sPu]);omega)
  · have hjl:j=0:=by simp at e1;omega
    subst hjl
    rw [if_pos rfl]
    refine SC.wp_skip ?_
    simp only [Exit.then]
    have hd1:∀ o,o < 3→w5.drew.cell? ⟨g1,o,none⟩=#[.string key,.bool nul,.slice b1 l1 k1][o]?:=fun o ho=>(World.cell?_of_block (w:=w) (w':=w5.drew) (a:=⟨g1,o,none⟩) (hb5.block g1 hg1)).trans (hc1 o ho)
    have hd2:∀ o,o < 3→w5.drew.cell? ⟨g2,o,none⟩=#[.string key,.bool nul,.slice b2 l2 k2][o]?:=fun o ho=>(World.cell?_of_block (w:=w) (w':=w5.drew) (a:=⟨g2,o,none⟩) (hb5.block g2 hg2)).trans (hc2 o ho)
    have x0:w5.drew.cell? ⟨g1,0,none⟩=some (.string key):=hd1 0 (by omega)
    have y0:w5.drew.cell? ⟨g2,0,none⟩=some (.string key):=hd2 0 (by omega)
    have x1:rangeV w5.drew g1 1 2=some [.bool nul,.slice b1 l1 k1]:=by simp [rangeV,hd1 1 (by omega),hd1 2 (by omega)]
    have y1:rangeV w5.drew g2 1 2=some [.bool nul,.slice b2 l2 k2]:=by simp [rangeV,hd2 1 (by omega),hd2 2 (by omega)]
    have hdr:w5.drew.heap.size=w5.heap.size:=rfl
    have hsz5:=hb5.size
    refine SC.wp_seq (SC.wp_block (SC.wp_seq (SC.wp_reg ?_)))
    repeat (first | (apply ops_1;(focus (simp (disch:=(try simp only [sPu]);omega) [q13];try rfl))) | (apply ops_y;(focus rfl);(focus ((try simp only [sPu]);omega));(focus (simp (disch:=(try simp only [sPu]);omega) [q13];done));(focus (simp (disch:=(try simp only [sPu]);omega) [q13];try rfl))) | (apply ops_n;(focus rfl);(focus ((try simp only [sPu]);omega));(focus (first | (left;simp (disch:=(try simp only [sPu]);omega) [q13];done) | (right;simp (disch:=(try simp only [sPu]);omega);done)))))
    refine oNi ?_
    simp only [Exit.then]
    refine SC.wp_seq (SC.wp_dreg hm (Below w.heap.size w5.drew) [(0,true),(1,true),(2,true),(3,true),(4,true),(5,true),(6,true),(7,true),(8,true),(9,true),(10,false),(11,true),(12,true),(13,true),(14,true),(15,true),(16,true),(17,true),(18,true),(19,true),(20,true),(21,true),(22,false),(23,true),(24,true)] (by rfl) (by rfl) (by decide) (Below.refl _ _) ?_)
    iterate 10 (first | (apply dr_1;(focus rfl);(focus (simp (disch:=(try simp only [sPu]);omega) [hsl,hf0,h3,q0,q1,q13,x0,y0,hg1,hg2];try rfl))) | (apply dr_y;(focus rfl);(focus rfl);(focus ((try simp only [sPu]);omega));(focus (simp (disch:=(try simp only [sPu]);omega) [hsl,hf0,h3,q0,q1,q13,x0,y0,hg1,hg2];done));(focus (simp (disch:=(try simp only [sPu]);omega) [hsl,hf0,h3,q0,q1,q13,x0,y0,hg1,hg2];try rfl))) | (apply dr_n;(focus rfl);(focus rfl);(focus ((try simp only [sPu]);omega));(focus (first | (left;simp (disch:=(try simp only [sPu]);omega) [hsl,hf0,h3,q0,q1,q13,x0,y0,hg1,hg2];done) | (right;simp (disch:=(try simp only [sPu]);omega);done)))))
    refine dreg_n rfl rfl (opw_neqstr (s:=key) (by simp (disch:=(try simp only [sPu]);omega)) (by simp (disch:=(try simp only [sPu]);omega)) ⟨Below.refl _ _,?_⟩)
    iterate 11 (first | (apply dr_1;(focus rfl);(focus (simp (disch:=(try simp only [sPu]);omega) [hsl,hf1,h4,h4o,q0,q1,q13,x1,y1,hg1,hg2];try rfl))) | (apply dr_y;(focus rfl);(focus rfl);(focus ((try simp only [sPu]);omega));(focus (simp (disch:=(try simp only [sPu]);omega) [hsl,hf1,h4,h4o,q0,q1,q13,x1,y1,hg1,hg2];done));(focus (simp (disch:=(try simp only [sPu]);omega) [hsl,hf1,h4,h4o,q0,q1,q13,x1,y1,hg1,hg2];try rfl))) | (apply dr_n;(focus rfl);(focus rfl);(focus ((try simp only [sPu]);omega));(focus (first | (left;simp (disch:=(try simp only [sPu]);omega) [hsl,hf1,h4,h4o,q0,q1,q13,x1,y1,hg1,hg2];done) | (right;simp (disch:=(try simp only [sPu]);omega);done)))))
    obtain ⟨fnS,e1',e2',e3'⟩:=cS.1
    have hby':nul=false→∃ d:Bytes,l1=d.length∧l2=d.length∧d.length≤lim∧BytesAt w5.drew (fun k=>k < w5.drew.heap.size) b1 d∧BytesAt w5.drew (fun k=>k < w5.drew.heap.size) b2 d:=by
      intro hn0
      obtain ⟨d,z1,z2,z3,z4,z5⟩:=hby hn0
      refine ⟨d,z1,z2,z3,?_,?_⟩
      · rcases z4 with h | ⟨bb,oo,m1,m2,m3⟩
        · exact .inl h
        · exact .inr ⟨bb,oo,m1,by omega,fun j u hu=>(World.cell?_of_block (w:=w) (w':=w5.drew) (hb5.block bb m2)).trans (m3 j u hu)⟩
      · rcases z5 with h | ⟨bb,oo,m1,m2,m3⟩
        · exact .inl h
        · exact .inr ⟨bb,oo,m1,by omega,fun j u hu=>(World.cell?_of_block (w:=w) (w':=w5.drew) (hb5.block bb m2)).trans (m3 j u hu)⟩
    refine dreg_yes rfl rfl rfl (by simp only [sPu];omega) (by simp (disch:=(try simp only [sPu]);omega)) (opw_call (R:=fun e w'=>e=.returned (.bool true)∧Below w5.drew.heap.size w5.drew w') e1' e2' e3' ?_ ?_)
    · have e:∀ (aa:Act),aa.eval (.tmp 32)=.agg #[.bool nul,.slice b1 l1 k1]→aa.eval (.tmp 37)=.agg #[.bool nul,.slice b2 l2 k2]→(#[Operand.tmp 32,Operand.tmp 37].map aa.eval)=#[.agg #[.bool nul,.slice b1 l1 k1],.agg #[.bool nul,.slice b2 l2 k2]]:=fun aa p1 p2=>by simp [p1,p2]
      rw [e _ (by simp (disch:=(try simp only [sPu]);omega)) (by simp (disch:=(try simp only [sPu]);omega))]
      exact cS.2 w5.drew nul b1 b2 l1 l2 k1 k2 hby'
    rintro e w6 ⟨rfl,hb6⟩
    have hb6':Below w.heap.size w5.drew w6:=⟨hb6.os,hb6.tape,hb6.output,hb6.size,fun k hk=>hb6.block k (by omega)⟩
    refine ⟨_,rfl,hb6',?_⟩
    repeat (first | (apply dr_1;(focus rfl);(focus (simp (disch:=(try simp only [sPu]);omega) ;try rfl))) | (apply dr_y;(focus rfl);(focus rfl);(focus ((try simp only [sPu]);omega));(focus (simp (disch:=(try simp only [sPu]);omega);done));(focus (simp (disch:=(try simp only [sPu]);omega) ;try rfl))) | (apply dr_n;(focus rfl);(focus rfl);(focus ((try simp only [sPu]);omega));(focus (first | (left;simp (disch:=(try simp only [sPu]);omega);done) | (right;simp (disch:=(try simp only [sPu]);omega);done)))))
    refine dreg_nil ?_
    simp only [Exit.then]
    refine SC.wp_cond (t:=false) (by simp (disch:=(try simp only [sPu]);omega)) ?_
    rw [if_neg (by simp)]
    refine SC.wp_skip ?_
    simp only [Exit.inBlock,Exit.then]
    have ew:IntKind.i64.wrap (((0:Nat):Int)+1)=((0+1:Nat):Int):=by rw [wrap_i64'];split <;> omega
    refine SC.wp_reg ?_
    repeat (first | (apply ops_1;(focus (simp (disch:=(try simp only [sPu]);omega) [q13];try rfl))) | (apply ops_y;(focus rfl);(focus ((try simp only [sPu]);omega));(focus (simp (disch:=(try simp only [sPu]);omega) [q13];done));(focus (simp (disch:=(try simp only [sPu]);omega) [q13];try rfl))) | (apply ops_n;(focus rfl);(focus ((try simp only [sPu]);omega));(focus (first | (left;simp (disch:=(try simp only [sPu]);omega) [q13];done) | (right;simp (disch:=(try simp only [sPu]);omega);done)))))
    refine oNi ?_
    refine ⟨⟨1,by simp [sPu,q],by simp [dPu,qd],by simp (disch:=(try simp only [sPu]);omega) [q0],by simp (disch:=(try simp only [sPu]);omega) [q1],by simp (disch:=(try simp only [sPu]);omega) [q12],by simp (disch:=(try simp only [sPu]);omega) [q13];first | done | decide,by omega,hb5.drew.trans hb6'⟩,?_⟩
    rw [q13]
    simp (disch:=(try simp only [sPu]);omega) [q13]
    try decide
end
end Go.Proofs.YtgaplicnofhliaaDoor.K
namespace Go.Proofs.YtgaplicnofhliaaDoor.K
open Go Go.RowKit Go.Proofs.YtgaplicnofhliaaDoor.T
attribute [local simp] eTm eCo pNo gTp gTn qv qcall vop iop
set_option linter.unusedSimpArgs false
set_option linter.unusedVariables false
set_option maxHeartbeats 4000000
theorem zz_tz {n:Int} (h:-1≤n):zz (tz n)=n:=by
  unfold zz tz
  split
  · have:n=-1:=by omega
    subst this
    decide
  · rename_i h2
    have e:(2 * n).toNat=2 * n.toNat:=by omega
    rw [e,if_pos (by omega)]
    omega
theorem tz_lt {n:Int} (h:n≤1048576):tz n < 4294967296:=by unfold tz;split <;> omega
theorem pVar_tz {n:Int} (h1:-1≤n) (h2:n≤1048576) (r:Bytes):pVar (uvarint (tz n) ++ r)=some (n,r):=by
  rw [pVar_of (pUv_uvarint (tz_lt h2) r),zz_tz h1]
theorem pVB_octB (nul:Bool) (d r:Bytes) (h:d.length≤1048576):pVB (octB nul d ++ r)=some (if nul then none else some d,r):=by
  unfold pVB octB
  cases nul with
  | true =>
    simp only [if_true]
    rw [rThen_of (pVar_tz (by omega) (by omega) r),if_pos (by omega)]
    rfl
  | false =>
    rw [if_neg (by simp),List.append_assoc,rThen_of (pVar_tz (by omega) (by omega) _),if_neg (by omega),rThen_of (pSpan_append _ _)]
    rfl
theorem ext_pVB:Ext pVB:=by
  refine Ext.then (ext_uv.then fun _=>Ext.ok _) fun l=>?_
  split
  · exact Ext.ok _
  · exact (ext_span _).then fun _=>Ext.ok _
theorem hdrB_eq (k:Bytes) (nul:Bool) (d:Bytes):hdrB k nul d=octB false k ++ octB nul d:=by simp [hdrB,octB]
theorem hdr_read (k:Bytes) (nul:Bool) (d:Bytes) (hk:k.length≤1048576) (hd:d.length≤1048576):pVB (hdrB k nul d)=some (some k,octB nul d)∧pVB (octB nul d)=some (if nul then none else some d,[]):=by
  refine ⟨by rw [hdrB_eq,pVB_octB false k _ hk];rfl,?_⟩
  have:=pVB_octB nul d [] hd
  rwa [List.append_nil] at this
theorem hdr_cut (k:Bytes) (nul:Bool) (d:Bytes) (hk:k.length≤1048576) (hd:d.length≤1048576) {n:Nat} (hn:n < (hdrB k nul d).length):(after (after (some ((hdrB k nul d).take n)) pVB) pVB).isSome=false:=by
  obtain ⟨h1,h2⟩:=hdr_read k nul d hk hd
  cases e1:pVB ((hdrB k nul d).take n) with
  | none=>rw [after_no e1];rfl
  | some z =>
    obtain ⟨y,r⟩:=z
    rw [after_ok e1]
    cases e2:pVB r with
    | none=>rw [after_no e2];rfl
    | some z2 =>
      obtain ⟨y2,r2⟩:=z2
      have q1:=ext_pVB _ _ _ ((hdrB k nul d).drop n) e1
      rw [List.take_append_drop,h1] at q1
      simp only [Option.some.injEq,Prod.mk.injEq] at q1
      have q2:=ext_pVB _ _ _ ((hdrB k nul d).drop n) e2
      rw [← q1.2,h2] at q2
      simp only [Option.some.injEq,Prod.mk.injEq] at q2
      have q3:=congrArg List.length q2.2
      simp at q3
      omega
def sc_LawTellHdr (T0 T1 T2 T3 T4 T5 T6 T7 F0 F1 F2 F3:Nat):SC:=.seq (.reg [⟨some 2,.box T0 (.tmp 0),none⟩,⟨some 4,.assign (.const (.bool false)),none⟩]) (.seq (.seq (.reg [ld 10 T0 2,cal 11 F0 [10],⟨some 12,.unOp .not T1 (.tmp 11),none⟩]) (.cond (.tmp 12) (.seq (.reg [⟨some 4,.assign (.const (.bool true)),none⟩]) (.ret)) (.skip))) (.seq (.seq (.reg [fa 13 T0 2 0,ld 14 T2 13,lenOp 15 T2 14,fa 16 T0 2 1,fa 17 T3 16 1,ld 18 T4 17,lenOp 19 T4 18,⟨some 20,.binOp .add T5 (.tmp 15) (.tmp 19) T5,none⟩,⟨some 21,.binOp .gtr T5 (.tmp 20) (.const (.int .i64 131072)) T5,none⟩]) (.cond (.tmp 21) (.seq (.reg [⟨some 4,.assign (.const (.bool true)),none⟩]) (.ret)) (.skip))) (.seq (.reg [ld 22 T0 2,cal 23 F1 [22],asg 5 23]) (.seq (.reg [mv 25 5,cal 26 F2 [25],mv 24 26,⟨some 27,.extract (.tmp 24) 0,none⟩,⟨some 28,.extract (.tmp 24) 1,none⟩,⟨some 6,.alloc T0,none⟩,⟨none,.store T0 (.tmp 6) (.tmp 27),none⟩,asg 7 28]) (.seq (.reg [mv 30 5,mv 31 1,⟨some 32,.convert T6 T5 (.tmp 31),none⟩,mv 33 5,lenOp 34 T4 33,⟨some 35,.binOp .rem T5 (.tmp 32) (.tmp 34) T5,none⟩,⟨some 36,.slice T4 (.tmp 30) none (some (.tmp 35)) none,none⟩,cal 37 F2 [36],mv 29 37,⟨some 38,.extract (.tmp 29) 0,none⟩,⟨some 39,.extract (.tmp 29) 1,none⟩,⟨some 8,.alloc T0,none⟩,⟨none,.store T0 (.tmp 8) (.tmp 38),none⟩,asg 9 39]) (.seq (.reg [mv 40 7,mv 41 40,⟨some 42,.move (.tmp 9),some (1,true)⟩,⟨some 43,.unOp .not T1 (.tmp 42),some (1,true)⟩,⟨some 44,.pick (.tmp 41) (.tmp 43) (.const (.bool false)),none⟩,mv 45 44,⟨some 46,.load T0 (.tmp 6),some (5,true)⟩,⟨some 47,.buildSlice T7 1 #[(0,(.tmp 46))],some (5,true)⟩,⟨some 48,.load T0 (.tmp 2),some (5,true)⟩,⟨some 49,.buildSlice T7 1 #[(0,(.tmp 48))],some (5,true)⟩,⟨some 50,.call ⟨.value (.func F3),#[(.tmp 47),(.tmp 49)],#[]⟩,some (5,true)⟩,⟨some 51,.pick (.tmp 45) (.tmp 50) (.const (.bool false)),none⟩,asg 4 51]) (.ret)))))))
section
variable {P:Program} {f:FuncId} {fn:Func}
structure HT (P:Program) (T Ts:Nat):Prop where
  agg:aggB P T 3=true
  row:P.underlying Ts=some (.slice T)
  info:∃ i z,P.info? T=some i∧i.zero=some z∧z.cells.size=3∧i.size=3
theorem opw_buildH {T Ts:Nat} (hT:HT P T Ts) {a:Act} {w:World} {K:Act→World→Prop} {d:Option Tmp} {g:Option (Nat × Bool)} {x:Operand} {v0 v1 v2:Value} (hx:a.eval x=.agg #[v0,v1,v2])
    (h:K (a.put d (.slice (some ⟨w.heap.size,0,none⟩) 1 1)) (w.alloc (.cells #[v0,v1,v2] T))):opw P ⟨d,.buildSlice Ts 1 #[(0,x)],g⟩ a w K:=by
  obtain ⟨i,z,hi,hz,hzc,hsz⟩:=hT.info
  refine oVa (v:=.slice (some ⟨w.heap.size,0,none⟩) 1 1) (w':=w.alloc (.cells #[v0,v1,v2] T)) (by simp) (fun p hp=>?_) h
  have hr:=run_buildSlice (P:=P) w Ts T 1 #[(0,.agg #[v0,v1,v2])] #[v0,v1,v2] i z hT.row hi hz (by rw [hsz];decide) (by rw [hsz];decide) (by
    rw [hsz]
    have hz5:∀ (zf:Nat→Value),(Array.range (1 * 3)).map zf=#[zf 0,zf 1,zf 2]:=fun zf=>Array.ext' (by simp [Array.toList_map,Array.toList_range,List.range,List.range.loop])
    rw [hz5]
    simp [Instr.fill,Value.cells])
  simp only [execOp,hp]
  simp [hx,hr]
theorem lawTellHdr_ok {T0 T1 T2 T3 T4 T5 T6 T7 F0 F1 F2 F3 gb tU8:Nat} {Gl:World→Prop} (hH:HT P T0 T7) (h0:aggN P T0=some 3) (h0o:oneB P T0=false) (hf0:fieldOff P T0 0=some 0) (hf1:fieldOff P T0 1=some 1) (hg1:fieldOff P T3 1=some 1)
    (h2:oneB P T2=true) (hst2:strB P T2=true) (h4:oneB P T4=true) (hsl:sliceN P T4=some 1) (h5:intK P T5=some .i64) (h6:intK P T6=some .u16)
    (o0:FnOK P F0) (c0:∀ (w:World) (key:ByteArray) (nul:Bool) (b:Option Addr) (l c:Nat),Calls P F0 #[.agg #[.string key,.bool nul,.slice b l c]] w (AsksF (key.data.toList.length≤2147483647∧l≤2147483647) w)) (c1:HdrBC P tU8 F1) (c2:TellC P gb Gl F2) (c3:SameHC P F3)
    (hf:P.funcs[f]?=some fn) (hb:fn.body.map strip=some (sc_LawTellHdr T0 T1 T2 T3 T4 T5 T6 T7 F0 F1 F2 F3)) (hn:fn.ntmps=52) (hr:fn.results=#[.tmp 4])
    (w:World) (key:ByteArray) (nul:Bool) (base:Option Addr) (d:Bytes) (cap:Nat) (at':Nat) (hgb:gb < w.heap.size) (hgl:∀ w',Below w.heap.size w w'→Gl w') (hsr:BytesAt w (fun k=>k < w.heap.size) base d) (hat:at' < 65536) :
    Calls P f #[.agg #[.string key,.bool nul,.slice base d.length cap],.int .u16 (at':Int)] w fun e w'=>e=.returned (.bool true)∧Below w.heap.size w w':=by
  have hlim:lim=70368744177664:=rfl
  obtain ⟨i0,z0,hi0,hzz0,hzs0,-⟩:=hH.info
  refine fCa hf hb hn (by simp) fun a0 hs hd ha=>?_
  have u0:=ha 0 _ rfl
  have u1:=ha 1 _ rfl
  simp only [List.getElem_toArray,List.getElem_cons_zero,List.getElem_cons_succ] at u0 u1
  refine SC.wp_seq (SC.wp_reg (ops_box (B:=w.heap.size) (w0:=w) (cs:=#[.string key,.bool nul,.slice base d.length cap]) (by rw [eTm,u0]) (Nat.le_refl _) (Below.refl _ _) fun w1 q1 q2 q3 hc q5=>?_))
  repeat (first | (apply ops_1;(focus (simp (disch:=(try simp only [sPu]);omega) ;try rfl))) | (apply ops_y;(focus rfl);(focus ((try simp only [sPu]);omega));(focus (simp (disch:=(try simp only [sPu]);omega);done));(focus (simp (disch:=(try simp only [sPu]);omega) ;try rfl))) | (apply ops_n;(focus rfl);(focus ((try simp only [sPu]);omega));(focus (first | (left;simp (disch:=(try simp only [sPu]);omega);done) | (right;simp (disch:=(try simp only [sPu]);omega);done)))))
  refine oNi (SC.wp_seq (SC.wp_seq (SC.wp_reg ?_)))
  have hcA:∀ {w':World},(∀ k,k < w1.heap.size→w'.heap[k]?=w1.heap[k]?)→∀ o,w'.cell? ⟨w.heap.size,o,none⟩=#[.string key,.bool nul,.slice base d.length cap][o]?:=fun {w'} h o=>by rw [World.cell?_of_block (h w.heap.size (by omega))];exact hc o
  have hrg:∀ {w':World},(∀ k,k < w1.heap.size→w'.heap[k]?=w1.heap[k]?)→rangeV w' w.heap.size 0 3=some [.string key,.bool nul,.slice base d.length cap]:=fun h=>by simp [rangeV,hcA h]
  have hrg1:=hrg (w':=w1) (fun _ _=>rfl)
  iterate 1 (first | (apply ops_1;(focus (simp (disch:=(try simp only [sPu]);omega) [h0,h0o,hrg1];try rfl))) | (apply ops_y;(focus rfl);(focus ((try simp only [sPu]);omega));(focus (simp (disch:=(try simp only [sPu]);omega) [h0,h0o,hrg1];done));(focus (simp (disch:=(try simp only [sPu]);omega) [h0,h0o,hrg1];try rfl))) | (apply ops_n;(focus rfl);(focus ((try simp only [sPu]);omega));(focus (first | (left;simp (disch:=(try simp only [sPu]);omega) [h0,h0o,hrg1];done) | (right;simp (disch:=(try simp only [sPu]);omega);done)))))
  refine ops_call o0 (c0 w1 key nul base d.length cap) (by simp (disch:=(try simp only [sPu]);omega)) ?_
  rintro e w2 ⟨⟨bo,rfl,hbp⟩,hb2⟩
  refine ⟨_,rfl,?_⟩
  repeat (first | (apply ops_1;(focus (simp (disch:=(try simp only [sPu]);omega) ;try rfl))) | (apply ops_y;(focus rfl);(focus ((try simp only [sPu]);omega));(focus (simp (disch:=(try simp only [sPu]);omega);done));(focus (simp (disch:=(try simp only [sPu]);omega) ;try rfl))) | (apply ops_n;(focus rfl);(focus ((try simp only [sPu]);omega));(focus (first | (left;simp (disch:=(try simp only [sPu]);omega);done) | (right;simp (disch:=(try simp only [sPu]);omega);done)))))
  have hb2':Below w.heap.size w w2:=q2.trans ⟨hb2.os,hb2.tape,hb2.output,hb2.size,fun k hk=>hb2.block k (by omega)⟩
  refine oNi (SC.wp_cond (t:=!bo) (by simp (disch:=(try simp only [sPu]);omega)) ?_)
  cases bo with
  | false =>
    rw [if_pos (by rfl)]
    refine SC.wp_seq (SC.wp_reg ?_)
    repeat (first | (apply ops_1;(focus (simp (disch:=(try simp only [sPu]);omega) ;try rfl))) | (apply ops_y;(focus rfl);(focus ((try simp only [sPu]);omega));(focus (simp (disch:=(try simp only [sPu]);omega);done));(focus (simp (disch:=(try simp only [sPu]);omega) ;try rfl))) | (apply ops_n;(focus rfl);(focus ((try simp only [sPu]);omega));(focus (first | (left;simp (disch:=(try simp only [sPu]);omega);done) | (right;simp (disch:=(try simp only [sPu]);omega);done)))))
    refine oNi (SC.wp_ret ?_)
    try simp only [Exit.then]
    exact ret_tmp hr (by simp [dPu,hd]) ⟨by simp (disch:=(try simp only [sPu]);omega),hb2'⟩
  | true =>
    rw [if_neg (by simp)]
    refine SC.wp_skip ?_
    simp only [Exit.then]
    obtain ⟨hkl,hdl0⟩:=hbp rfl
    have hdl:d.length≤lim:=by omega
    have hs2:=hb2.size
    have k0:w2.cell? ⟨w.heap.size,0,none⟩=some (.string key):=hcA (fun k hk=>hb2.block k hk) 0
    have k2:w2.cell? ⟨w.heap.size,2,none⟩=some (.slice base d.length cap):=hcA (fun k hk=>hb2.block k hk) 2
    have esz:key.data.toList.length=key.size:=by simp
    have ew:IntKind.i64.wrap ((key.size:Int)+(d.length:Int))=(key.size:Int)+(d.length:Int):=by rw [wrap_i64'];split <;> omega
    refine SC.wp_seq (SC.wp_seq (SC.wp_reg ?_))
    iterate 7 (first | (apply ops_1;(focus (simp (disch:=(try simp only [sPu]);omega) [hf0,hf1,hg1,h2,hst2,h4,hsl,k0,k2];try rfl))) | (apply ops_y;(focus rfl);(focus ((try simp only [sPu]);omega));(focus (simp (disch:=(try simp only [sPu]);omega) [hf0,hf1,hg1,h2,hst2,h4,hsl,k0,k2];done));(focus (simp (disch:=(try simp only [sPu]);omega) [hf0,hf1,hg1,h2,hst2,h4,hsl,k0,k2];try rfl))) | (apply ops_n;(focus rfl);(focus ((try simp only [sPu]);omega));(focus (first | (left;simp (disch:=(try simp only [sPu]);omega) [hf0,hf1,hg1,h2,hst2,h4,hsl,k0,k2];done) | (right;simp (disch:=(try simp only [sPu]);omega);done)))))
    repeat (first | (apply ops_1;(focus (simp (disch:=(try simp only [sPu]);omega) [ew];try rfl))) | (apply ops_y;(focus rfl);(focus ((try simp only [sPu]);omega));(focus (simp (disch:=(try simp only [sPu]);omega) [ew];done));(focus (simp (disch:=(try simp only [sPu]);omega) [ew];try rfl))) | (apply ops_n;(focus rfl);(focus ((try simp only [sPu]);omega));(focus (first | (left;simp (disch:=(try simp only [sPu]);omega) [ew];done) | (right;simp (disch:=(try simp only [sPu]);omega);done)))))
    refine oNi (SC.wp_cond (t:=decide (131072 < (key.size:Int)+(d.length:Int))) (by simp (disch:=(try simp only [sPu]);omega)) ?_)
    refine Decidable.byCases (p:=131072 < (key.size:Int)+(d.length:Int)) (fun hlt=>?_) (fun hlt=>?_)
    · rw [if_pos (decide_eq_true hlt)]
      refine SC.wp_seq (SC.wp_reg ?_)
      repeat (first | (apply ops_1;(focus (simp (disch:=(try simp only [sPu]);omega) ;try rfl))) | (apply ops_y;(focus rfl);(focus ((try simp only [sPu]);omega));(focus (simp (disch:=(try simp only [sPu]);omega);done));(focus (simp (disch:=(try simp only [sPu]);omega) ;try rfl))) | (apply ops_n;(focus rfl);(focus ((try simp only [sPu]);omega));(focus (first | (left;simp (disch:=(try simp only [sPu]);omega);done) | (right;simp (disch:=(try simp only [sPu]);omega);done)))))
      refine oNi (SC.wp_ret ?_)
      try simp only [Exit.then]
      exact ret_tmp hr (by simp [dPu,hd]) ⟨by simp (disch:=(try simp only [sPu]);omega),hb2'⟩
    rw [if_neg (by simpa using hlt)]
    refine SC.wp_skip ?_
    simp only [Exit.then]
    have hkd:key.data.toList.length+d.length≤131072:=by omega
    clear hlt ew
    have hsr2:BytesAt w2 (fun k=>k < w2.heap.size) base d:=bytes_keep hsr (fun k hk=>hb2'.block k hk) (by omega)
    have hrg2:=hrg (w':=w2) (fun k hk=>hb2.block k hk)
    refine SC.wp_seq (SC.wp_reg ?_)
    iterate 1 (first | (apply ops_1;(focus (simp (disch:=(try simp only [sPu]);omega) [h0,h0o,hrg2];try rfl))) | (apply ops_y;(focus rfl);(focus ((try simp only [sPu]);omega));(focus (simp (disch:=(try simp only [sPu]);omega) [h0,h0o,hrg2];done));(focus (simp (disch:=(try simp only [sPu]);omega) [h0,h0o,hrg2];try rfl))) | (apply ops_n;(focus rfl);(focus ((try simp only [sPu]);omega));(focus (first | (left;simp (disch:=(try simp only [sPu]);omega) [h0,h0o,hrg2];done) | (right;simp (disch:=(try simp only [sPu]);omega);done)))))
    refine ops_call c1.1 (c1.2 w2 key nul base d cap hsr2 (by omega)) (by simp (disch:=(try simp only [sPu]);omega)) ?_
    rintro e w3 ⟨dv,rfl,ho3,hb3⟩
    refine ⟨_,rfl,?_⟩
    repeat (first | (apply ops_1;(focus (simp (disch:=(try simp only [sPu]);omega) ;try rfl))) | (apply ops_y;(focus rfl);(focus ((try simp only [sPu]);omega));(focus (simp (disch:=(try simp only [sPu]);omega);done));(focus (simp (disch:=(try simp only [sPu]);omega) ;try rfl))) | (apply ops_n;(focus rfl);(focus ((try simp only [sPu]);omega));(focus (first | (left;simp (disch:=(try simp only [sPu]);omega);done) | (right;simp (disch:=(try simp only [sPu]);omega);done)))))
    refine oNi ?_
    simp only [Exit.then]
    have hs3:=hb3.size
    have hb3':Below w.heap.size w w3:=hb2'.trans ⟨hb3.os,hb3.tape,hb3.output,hb3.size,fun k hk=>hb3.block k (by omega)⟩
    obtain ⟨src,hsrc⟩:∃ src,src=hdrB key.data.toList nul d:=⟨_,rfl⟩
    obtain ⟨rd1,rd2⟩:=hdr_read key.data.toList nul d (by omega) (by omega)
    have rd3:∀ n,n < src.length→(after (after (some (src.take n)) pVB) pVB).isSome=false:=fun n hn=>by rw [hsrc] at hn ⊢;exact hdr_cut key.data.toList nul d (by omega) (by omega) hn
    rw [← hsrc] at ho3 rd1
    have hok:(after (after (some src) pVB) pVB).isSome=true:=by rw [after_ok rd1,after_ok rd2];rfl
    have hsl1:src.length≤lim:=by
      have e1:=octB_len false key.data.toList (by omega)
      have e2:=octB_len nul d (by omega)
      rw [hsrc,hdrB_eq,List.length_append]
      omega
    have hsp:0 < src.length:=by
      rw [hsrc,hdrB_eq,List.length_append]
      have h1:=uvarint_pos (tz key.data.toList.length)
      have h2:(octB false key.data.toList).length=(uvarint (tz key.data.toList.length)).length+key.data.toList.length:=by simp [octB]
      omega
    obtain ⟨S3,b3,cp3,rfl,hcap3,hsr3,hS3⟩:=own_src2 ho3
    refine SC.wp_seq (SC.wp_reg ?_)
    iterate 1 (first | (apply ops_1;(focus (simp (disch:=(try simp only [sPu]);omega) ;try rfl))) | (apply ops_y;(focus rfl);(focus ((try simp only [sPu]);omega));(focus (simp (disch:=(try simp only [sPu]);omega);done));(focus (simp (disch:=(try simp only [sPu]);omega) ;try rfl))) | (apply ops_n;(focus rfl);(focus ((try simp only [sPu]);omega));(focus (first | (left;simp (disch:=(try simp only [sPu]);omega);done) | (right;simp (disch:=(try simp only [sPu]);omega);done)))))
    refine ops_call c2.1 (c2.2 w3 S3 b3 src cp3 (by omega) (fun w' h=>hgl w' (hb3'.trans ⟨h.os,h.tape,h.output,h.size,fun k hk=>h.block k (by omega)⟩)) hsr3 (fun sb h=>(hS3 sb h).2) hsl1) (by simp (disch:=(try simp only [sPu]);omega)) ?_
    rintro e w4 ⟨hb4,k,nul',b2,l,cp2,rfl,hval⟩
    refine ⟨_,rfl,?_⟩
    rw [hok]
    obtain ⟨hk,hval⟩:=hval _ _ _ _ rd1 rd2
    simp only [Option.getD_some] at hk
    subst hk
    have hs4:=hb4.size
    have ekey:(.string ⟨key.data.toList.toArray⟩:Value)=.string key:=by simp
    rw [ekey]
    have hb4':Below w.heap.size w w4:=hb3'.trans ⟨hb4.os,hb4.tape,hb4.output,hb4.size,fun k hk=>hb4.block k (by omega)⟩
    have hby4:nul=false→nul'=false∧l=d.length∧BytesAt w4 (fun k=>k < w4.heap.size) b2 d:=by
      intro h
      subst h
      simpa using hval
    have hnn:nul'=nul:=by
      cases nul with
      | true=>simpa using hval
      | false=>exact (hby4 rfl).1
    clear hval
    subst hnn
    iterate 3 (first | (apply ops_1;(focus (simp (disch:=(try simp only [sPu]);omega) ;try rfl))) | (apply ops_y;(focus rfl);(focus ((try simp only [sPu]);omega));(focus (simp (disch:=(try simp only [sPu]);omega);done));(focus (simp (disch:=(try simp only [sPu]);omega) ;try rfl))) | (apply ops_n;(focus rfl);(focus ((try simp only [sPu]);omega));(focus (first | (left;simp (disch:=(try simp only [sPu]);omega);done) | (right;simp (disch:=(try simp only [sPu]);omega);done)))))
    refine oNo rfl (opw_alloc hi0 hzz0 ?_)
    have hn5:=heap_alloc_new w4 (.cells z0.cells T0)
    have hb5:Below w4.heap.size w4 (w4.alloc (.cells z0.cells T0)):=(Below.refl _ _).alloc (Nat.le_refl _) _
    have hs5:(w4.alloc (.cells z0.cells T0)).heap.size=w4.heap.size+1:=by simp
    generalize w4.alloc (.cells z0.cells T0)=w5 at hn5 hb5 hs5 ⊢
    refine oNo rfl (opw_store_agg (cs:=[.string key,.bool nul',.slice b2 l cp2]) (cur:=z0.cells) (b:=w4.heap.size) (E:=T0) hH.agg (by simp (disch:=(try simp only [sPu]);omega)) (by simp (disch:=(try simp only [sPu]);omega)) hn5 (by rw [hzs0];rfl) (by intro v hv;simp at hv;rcases hv with rfl | rfl | rfl <;> rfl) ?_)
    rw [pNo]
    obtain ⟨w6,hw6⟩:∃ w6,w6=w5.setRow w4.heap.size [Value.string key,.bool nul',.slice b2 l cp2].toArray:=⟨_,rfl⟩
    rw [← hw6]
    have hrow6:w6.heap[w4.heap.size]?=some (.cells #[.string key,.bool nul',.slice b2 l cp2] T0 (0,0)):=by rw [hw6];exact setRow_heap _ _ _ _ _ _ hn5
    have hs6:w6.heap.size=w4.heap.size+1:=by rw [hw6];simp;omega
    have hb6:Below w4.heap.size w4 w6:=hb5.trans (by rw [hw6];exact ⟨rfl,rfl,rfl,by simp,fun k hk=>setRow_other _ _ _ _ (by omega)⟩)
    repeat (first | (apply ops_1;(focus (simp (disch:=(try simp only [sPu]);omega) ;try rfl))) | (apply ops_y;(focus rfl);(focus ((try simp only [sPu]);omega));(focus (simp (disch:=(try simp only [sPu]);omega);done));(focus (simp (disch:=(try simp only [sPu]);omega) ;try rfl))) | (apply ops_n;(focus rfl);(focus ((try simp only [sPu]);omega));(focus (first | (left;simp (disch:=(try simp only [sPu]);omega);done) | (right;simp (disch:=(try simp only [sPu]);omega);done)))))
    refine oNi ?_
    simp only [Exit.then]
    have hby6:nul'=false→l=d.length∧BytesAt w6 (fun k=>k < w6.heap.size) b2 d:=fun h=>⟨(hby4 h).2.1,bytes_keep (hby4 h).2.2 (fun k hk=>hb6.block k hk) (by omega)⟩
    have hb6':Below w.heap.size w w6:=hb4'.trans ⟨hb6.os,hb6.tape,hb6.output,hb6.size,fun k hk=>hb6.block k (by omega)⟩
    have hsr6:SrcAt w6 S3 b3 src:=hsr3.frame fun sb h=>by rw [hb6.block sb (by have:=(hS3 sb h).2;omega),hb4.block sb (hS3 sb h).2]
    obtain ⟨q,hq⟩:∃ q,q=at' % src.length:=⟨_,rfl⟩
    have hql:q < src.length:=by rw [hq];exact Nat.mod_lt _ hsp
    have eat:IntKind.i64.wrap (at':Int)=(at':Int):=by rw [wrap_i64'];split <;> omega
    have eqc:(0:Int)≤(q:Int)∧(q:Int)≤(cp3:Int):=by omega
    refine SC.wp_seq (SC.wp_reg ?_)
    iterate 5 (first | (apply ops_1;(focus (simp (disch:=(try simp only [sPu]);omega) [h5,h6,u1,eat,hsl];try rfl))) | (apply ops_y;(focus rfl);(focus ((try simp only [sPu]);omega));(focus (simp (disch:=(try simp only [sPu]);omega) [h5,h6,u1,eat,hsl];done));(focus (simp (disch:=(try simp only [sPu]);omega) [h5,h6,u1,eat,hsl];try rfl))) | (apply ops_n;(focus rfl);(focus ((try simp only [sPu]);omega));(focus (first | (left;simp (disch:=(try simp only [sPu]);omega) [h5,h6,u1,eat,hsl];done) | (right;simp (disch:=(try simp only [sPu]);omega);done)))))
    refine oNo rfl (opw_rem (m:=at') (n:=src.length) (by simp (disch:=(try simp only [sPu]);omega)) (by simp (disch:=(try simp only [sPu]);omega)) hsp ?_)
    rw [← hq]
    iterate 1 (first | (apply ops_1;(focus (simp (disch:=(try simp only [sPu]);omega) [hsl,eqc];try rfl))) | (apply ops_y;(focus rfl);(focus ((try simp only [sPu]);omega));(focus (simp (disch:=(try simp only [sPu]);omega) [hsl,eqc];done));(focus (simp (disch:=(try simp only [sPu]);omega) [hsl,eqc];try rfl))) | (apply ops_n;(focus rfl);(focus ((try simp only [sPu]);omega));(focus (first | (left;simp (disch:=(try simp only [sPu]);omega) [hsl,eqc];done) | (right;simp (disch:=(try simp only [sPu]);omega);done)))))
    have ltk:(src.take q).length=q:=by rw [List.length_take];omega
    have htk:=c2.2 w6 S3 b3 (src.take q) cp3 (by omega) (fun w' h=>hgl w' (hb6'.trans ⟨h.os,h.tape,h.output,h.size,fun k hk=>h.block k (by omega)⟩)) (SrcAt.take hsr6) (fun sb h=>by have:=(hS3 sb h).2;omega) (by omega)
    rw [ltk] at htk
    refine ops_call c2.1 htk (by simp (disch:=(try simp only [sPu]);omega)) ?_
    rintro e w7 ⟨hb7,k7,nul7,b7,l7,cp7,rfl,-⟩
    refine ⟨_,rfl,?_⟩
    rw [rd3 q hql]
    have hs7:=hb7.size
    iterate 3 (first | (apply ops_1;(focus (simp (disch:=(try simp only [sPu]);omega) ;try rfl))) | (apply ops_y;(focus rfl);(focus ((try simp only [sPu]);omega));(focus (simp (disch:=(try simp only [sPu]);omega);done));(focus (simp (disch:=(try simp only [sPu]);omega) ;try rfl))) | (apply ops_n;(focus rfl);(focus ((try simp only [sPu]);omega));(focus (first | (left;simp (disch:=(try simp only [sPu]);omega);done) | (right;simp (disch:=(try simp only [sPu]);omega);done)))))
    refine oNo rfl (opw_alloc hi0 hzz0 ?_)
    have hn8:=heap_alloc_new w7 (.cells z0.cells T0)
    have hb8:Below w7.heap.size w7 (w7.alloc (.cells z0.cells T0)):=(Below.refl _ _).alloc (Nat.le_refl _) _
    have hs8:(w7.alloc (.cells z0.cells T0)).heap.size=w7.heap.size+1:=by simp
    generalize w7.alloc (.cells z0.cells T0)=w8 at hn8 hb8 hs8 ⊢
    refine oNo rfl (opw_store_agg (cs:=[.string ⟨k7.toArray⟩,.bool nul7,.slice b7 l7 cp7]) (cur:=z0.cells) (b:=w7.heap.size) (E:=T0) hH.agg (by simp (disch:=(try simp only [sPu]);omega)) (by simp (disch:=(try simp only [sPu]);omega)) hn8 (by rw [hzs0];rfl) (by intro v hv;simp at hv;rcases hv with rfl | rfl | rfl <;> rfl) ?_)
    rw [pNo]
    obtain ⟨w9,hw9⟩:∃ w9,w9=w8.setRow w7.heap.size [Value.string ⟨k7.toArray⟩,.bool nul7,.slice b7 l7 cp7].toArray:=⟨_,rfl⟩
    rw [← hw9]
    have hs9:w9.heap.size=w7.heap.size+1:=by rw [hw9];simp;omega
    have hb9:∀ k,k < w6.heap.size→w9.heap[k]?=w6.heap[k]?:=fun k hk=>by rw [hw9,setRow_other _ _ _ _ (by omega),hb8.block k (by omega),hb7.block k hk]
    have hb9':Below w.heap.size w w9:=((hb6'.trans ⟨hb7.os,hb7.tape,hb7.output,hb7.size,fun k hk=>hb7.block k (by omega)⟩).trans ⟨hb8.os,hb8.tape,hb8.output,hb8.size,fun k hk=>hb8.block k (by omega)⟩).trans (by rw [hw9];exact ⟨rfl,rfl,rfl,by simp,fun k hk=>setRow_other _ _ _ _ (by omega)⟩)
    clear hw9
    repeat (first | (apply ops_1;(focus (simp (disch:=(try simp only [sPu]);omega) ;try rfl))) | (apply ops_y;(focus rfl);(focus ((try simp only [sPu]);omega));(focus (simp (disch:=(try simp only [sPu]);omega);done));(focus (simp (disch:=(try simp only [sPu]);omega) ;try rfl))) | (apply ops_n;(focus rfl);(focus ((try simp only [sPu]);omega));(focus (first | (left;simp (disch:=(try simp only [sPu]);omega);done) | (right;simp (disch:=(try simp only [sPu]);omega);done)))))
    refine oNi ?_
    simp only [Exit.then]
    have hrow9:∀ o,w9.cell? ⟨w4.heap.size,o,none⟩=#[Value.string key,.bool nul',.slice b2 l cp2][o]?:=fun o=>by rw [World.cell?_of_block (hb9 w4.heap.size (by omega)),cell_of_row _ _ _ _ _ _ hrow6]
    have hrgA:rangeV w9 w4.heap.size 0 3=some [.string key,.bool nul',.slice b2 l cp2]:=by simp [rangeV,hrow9]
    refine SC.wp_seq (SC.wp_reg ?_)
    iterate 7 (first | (apply ops_1;(focus (simp (disch:=(try simp only [sPu]);omega) [h0,h0o,hrgA];try rfl))) | (apply ops_y;(focus rfl);(focus ((try simp only [sPu]);omega));(focus (simp (disch:=(try simp only [sPu]);omega) [h0,h0o,hrgA];done));(focus (simp (disch:=(try simp only [sPu]);omega) [h0,h0o,hrgA];try rfl))) | (apply ops_n;(focus rfl);(focus ((try simp only [sPu]);omega));(focus (first | (left;simp (disch:=(try simp only [sPu]);omega) [h0,h0o,hrgA];done) | (right;simp (disch:=(try simp only [sPu]);omega);done)))))
    refine opsw_yes rfl rfl (by simp only [sPu];omega) (by simp (disch:=(try simp only [sPu]);omega)) (opw_buildH hH (v0:=.string key) (v1:=.bool nul') (v2:=.slice b2 l cp2) (by simp (disch:=(try simp only [sPu]);omega)) ?_)
    have hnA:=heap_alloc_new w9 (.cells #[Value.string key,.bool nul',.slice b2 l cp2] T0)
    have hbA:Below w9.heap.size w9 (w9.alloc (.cells #[Value.string key,.bool nul',.slice b2 l cp2] T0)):=(Below.refl _ _).alloc (Nat.le_refl _) _
    have hsA:(w9.alloc (.cells #[Value.string key,.bool nul',.slice b2 l cp2] T0)).heap.size=w9.heap.size+1:=by simp
    generalize w9.alloc (.cells #[Value.string key,.bool nul',.slice b2 l cp2] T0)=wA at hnA hbA hsA ⊢
    have hb19:∀ k,k < w1.heap.size→wA.heap[k]?=w1.heap[k]?:=fun k hk=>by
      rw [hbA.block k (by omega),hb9 k (by omega),hb6.block k (by omega),hb4.block k (by omega),hb3.block k (by omega),hb2.block k (by omega)]
    have hrgB:=hrg (w':=wA) hb19
    iterate 1 (first | (apply ops_1;(focus (simp (disch:=(try simp only [sPu]);omega) [h0,h0o,hrgB];try rfl))) | (apply ops_y;(focus rfl);(focus ((try simp only [sPu]);omega));(focus (simp (disch:=(try simp only [sPu]);omega) [h0,h0o,hrgB];done));(focus (simp (disch:=(try simp only [sPu]);omega) [h0,h0o,hrgB];try rfl))) | (apply ops_n;(focus rfl);(focus ((try simp only [sPu]);omega));(focus (first | (left;simp (disch:=(try simp only [sPu]);omega) [h0,h0o,hrgB];done) | (right;simp (disch:=(try simp only [sPu]);omega);done)))))
    refine opsw_yes rfl rfl (by simp only [sPu];omega) (by simp (disch:=(try simp only [sPu]);omega)) (opw_buildH hH (v0:=.string key) (v1:=.bool nul') (v2:=.slice base d.length cap) (by simp (disch:=(try simp only [sPu]);omega)) ?_)
    have hnB:=heap_alloc_new wA (.cells #[Value.string key,.bool nul',.slice base d.length cap] T0)
    have hbB:Below wA.heap.size wA (wA.alloc (.cells #[Value.string key,.bool nul',.slice base d.length cap] T0)):=(Below.refl _ _).alloc (Nat.le_refl _) _
    have hsB:(wA.alloc (.cells #[Value.string key,.bool nul',.slice base d.length cap] T0)).heap.size=wA.heap.size+1:=by simp
    generalize wA.alloc (.cells #[Value.string key,.bool nul',.slice base d.length cap] T0)=wB at hnB hbB hsB ⊢
    have hnA':wB.heap[w9.heap.size]?=some (.cells #[Value.string key,.bool nul',.slice b2 l cp2] T0 (0,0)):=by rw [hbB.block _ (by omega)];exact hnA
    have hbw:∀ k,k < w.heap.size→wB.heap[k]?=w.heap[k]?:=fun k hk=>by rw [hbB.block k (by omega),hb19 k (by omega)];exact q2.block k hk
    refine ops_callg rfl (by simp only [sPu];omega) (by simp (disch:=(try simp only [sPu]);omega)) c3.1 (c3.2 wB w9.heap.size wA.heap.size 1 1 key nul' b2 base l d.length cp2 cap (by omega) (by omega) (fun j _=>cell_of_row _ _ _ _ _ _ hnA') (fun j _=>cell_of_row _ _ _ _ _ _ hnB) (fun hnu=>⟨d,(hby6 hnu).1,rfl,hdl,bytes_keep (hby6 hnu).2 (fun k hk=>by rw [hbB.block k (by omega),hbA.block k (by omega),hb9 k hk]) (by omega),bytes_keep hsr hbw (by omega)⟩)) (by simp (disch:=(try simp only [sPu]);omega)) ?_
    rintro e wC ⟨rfl,hbC⟩
    refine ⟨_,rfl,?_⟩
    repeat (first | (apply ops_1;(focus (simp (disch:=(try simp only [sPu]);omega) ;try rfl))) | (apply ops_y;(focus rfl);(focus ((try simp only [sPu]);omega));(focus (simp (disch:=(try simp only [sPu]);omega);done));(focus (simp (disch:=(try simp only [sPu]);omega) ;try rfl))) | (apply ops_n;(focus rfl);(focus ((try simp only [sPu]);omega));(focus (first | (left;simp (disch:=(try simp only [sPu]);omega);done) | (right;simp (disch:=(try simp only [sPu]);omega);done)))))
    refine oNi (SC.wp_ret ?_)
    try simp only [Exit.then]
    exact ret_tmp hr (by simp [dPu,hd]) ⟨by simp (disch:=(try simp only [sPu]);omega),((hb9'.trans ⟨hbA.os,hbA.tape,hbA.output,hbA.size,fun k hk=>hbA.block k (by omega)⟩).trans ⟨hbB.os,hbB.tape,hbB.output,hbB.size,fun k hk=>hbB.block k (by omega)⟩).trans ⟨hbC.os,hbC.tape,hbC.output,hbC.size,fun k hk=>hbC.block k (by omega)⟩⟩
end
end Go.Proofs.YtgaplicnofhliaaDoor.K
namespace Go.Proofs.YtgaplicnofhliaaDoor.K
open Go Go.RowKit Go.Proofs.YtgaplicnofhliaaDoor.T
open Go.ChangeShapes Go.WideShapes Go.Deep
set_option linter.unusedSimpArgs false
set_option linter.unusedVariables false
def twoF (P:Program) (T u0 u1:Nat):Bool:=match P.underlying T with
  | some (.struct fs)=>match fs.toList with
    | [f0,f1]=>f0.offset == 0 && f1.offset == 1 && f0.type == u0 && f1.type == u1
    | _=>false
  | _=>false
theorem twoF_of {P:Program} {T u0 u1:Nat} (h:twoF P T u0 u1=true):∃ (fs:Array Field) (f0 f1:Field),P.underlying T=some (.struct fs)∧fs.size=2∧fs[0]?=some f0∧fs[1]?=some f1∧f0.offset=0∧f1.offset=1∧f0.type=u0∧f1.type=u1:=by
  unfold twoF at h
  split at h
  · rename_i fs hfs
    split at h
    · rename_i f0 f1 hl
      simp only [Bool.and_eq_true,beq_iff_eq] at h
      obtain ⟨⟨⟨h1,h2⟩,h3⟩,h4⟩:=h
      exact ⟨fs,f0,f1,hfs,by rw [← Array.length_toList,hl];rfl,by rw [← Array.getElem?_toList,hl];rfl,by rw [← Array.getElem?_toList,hl];rfl,h1,h2,h3,h4⟩
    · cases h
  · cases h
theorem open_two {H:Type} {enc:TypeId × Value→H} {P:Program} {w:World} {T u0 u1 k0 k1 fuel:Nat} {cs:List Value} {x:DataW H × List MemPlace} (ht:twoF P T u0 u1=true) (hc:P.cellsOf T=k0+k1) (c0:P.cellsOf u0=k0) (c1:P.cellsOf u1=k1) (h1k:k0=1)
    (h:DataW.trod enc P w 0 (fun _=>true) true fuel T cs=some x):∃ n x0 x1,cs.length=k0+k1∧DataW.trod enc P w 0 (fun _=>true) true n u0 (cs.take k0)=some x0∧DataW.trod enc P w 0 (fun _=>true) true n u1 ((cs.drop k0).take k1)=some x1:=by
  subst h1k
  obtain ⟨fs,f0,f1,hfs,hsz,e0,e1,o0,o1,t0,t1⟩:=twoF_of ht
  obtain ⟨xs,n,rfl,rfl,hl,hxl,hxs⟩:=DataW.trod_struct hfs h
  have s0:=hxs 0 f0 e0
  have s1:=hxs 1 f1 e1
  rw [o0,t0,c0] at s0
  rw [o1,t1,c1] at s1
  match xs,hxl.trans hsz with
  | [x0,x1],_ =>
    simp only [List.drop_zero,List.getElem?_cons_zero,List.getElem?_cons_succ] at s0 s1
    exact ⟨n,x0,x1,by rw [hl,hc],s0,s1⟩
theorem open_hdr {H:Type} {enc:TypeId × Value→H} {P:Program} {w:World} {T0 T2 T3 Tb T4 fuel:Nat} {cs:List Value} {x:DataW H × List MemPlace} {B:DataW H→Nat} (hB:BulkC B) (h0:twoF P T0 T2 T3=true) (h3:twoF P T3 Tb T4=true) (k0:P.cellsOf T0=3) (k2:P.cellsOf T2=1) (k3:P.cellsOf T3=2) (kb:P.cellsOf Tb=1) (k4:P.cellsOf T4=1)
    (u2:P.underlying T2=some .string) (ub:P.underlying Tb=some .bool) (s4:sl8 P T4=true) (h:DataW.trod enc P w 0 (fun _=>true) true fuel T0 cs=some x) :
    ∃ (key:ByteArray) (nul:Bool) (base:Option Addr) (d:Bytes) (cap:Nat),cs=[.string key,.bool nul,.slice base d.length cap]∧BytesAt w (· < w.heap.size) base d:=by
  obtain ⟨n,x0,x1,hl,a0,a1⟩:=open_two (k0:=1) (k1:=2) h0 k0 k2 k3 rfl h
  match cs,hl with
  | [v0,v1,v2],_ =>
    simp only [List.take_succ_cons,List.take_zero,List.drop_succ_cons,List.drop_zero] at a0 a1
    obtain ⟨m,y0,y1,hl2,b0,b1⟩:=open_two (k0:=1) (k1:=1) h3 k3 kb k4 rfl a1
    simp only [List.take_succ_cons,List.take_zero,List.drop_succ_cons,List.drop_zero] at b0 b1
    obtain ⟨key,e0,_,_⟩:=DataW.trod_string u2 a0
    obtain ⟨nul,e1,_⟩:=DataW.trod_bool ub b0
    obtain ⟨base,cap,d,e2,_,_,hby⟩:=open_u8s s4 b1 hB
    simp only [List.cons.injEq,and_true] at e0 e1 e2
    subst e0;subst e1;subst e2
    exact ⟨key,nul,base,d,cap,rfl,hby⟩
theorem zero_sz {P:Program} {T n:Nat} (h:zeroB P T (fun l=>l.length == n)=true):∃ i z,P.info? T=some i∧i.zero=some z∧z.cells.size=n:=by
  obtain ⟨i,z,h1,h2,h3⟩:=zeroB_of h
  exact ⟨i,z,h1,h2,by simpa using h3⟩
def szB (P:Program) (T n:Nat):Bool:=match P.info? T with
  | some i=>i.size == n && (match i.zero with
    | some z=>z.cells.size == n
    | none=>false)
  | none=>false
theorem hT_info {P:Program} {T:Nat} (h:szB P T 3=true):∃ i z,P.info? T=some i∧i.zero=some z∧z.cells.size=3∧i.size=3:=by
  unfold szB at h
  split at h
  · rename_i i hi
    simp only [Bool.and_eq_true,beq_iff_eq] at h
    obtain ⟨h1,h2⟩:=h
    split at h2
    · rename_i z hz
      exact ⟨i,z,hi,hz,by simpa using h2,h1⟩
    · cases h2
  · cases h
def isHd:List Value→Bool
  | [.string s,.slice none 0 0]=>s.data.toList.isEmpty
  | _=>false
theorem zero_hd {P:Program} {T:Nat} (h:zeroB P T isHd=true):∃ i z,P.info? T=some i∧i.zero=some z∧z.cells=#[.string ⟨#[]⟩,.slice none 0 0]:=by
  obtain ⟨i,z,h1,h2,h3⟩:=zeroB_of h
  refine ⟨i,z,h1,h2,?_⟩
  unfold isHd at h3
  split at h3
  · rename_i s e
    obtain ⟨⟨l⟩⟩:=s
    simp at h3
    subst h3
    rw [← Array.toArray_toList (xs:=z.cells),e]
  · cases h3
theorem skip_ok {P:Program} {f:FuncId} {fn:Func} (hf:P.funcs[f]?=some fn) (hb:fn.body.map strip=some .skip) (hn:fn.ntmps=2) (hr:fn.results=#[]) (w:World) (v:Value):Calls P f #[v] w fun e w'=>e=.returned (.tuple #[])∧w'=w:=by
  refine fCa hf hb hn (by simp) fun a0 hs hd ha=>SC.wp_skip ?_
  exact ⟨by simp [hd],.tuple #[],by simp [results,hr],rfl,rfl⟩
end Go.Proofs.YtgaplicnofhliaaDoor.K
