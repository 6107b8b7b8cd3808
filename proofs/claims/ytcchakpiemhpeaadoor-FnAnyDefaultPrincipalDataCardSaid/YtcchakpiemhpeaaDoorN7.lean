/- Generic texts: R12 R13 R14 R15 R16. No condition. -/
import Derived.Test.YtcchakpiemhpeaaDoorN6
import Derived.ScopeJumps
namespace Go.Proofs.YtcchakpiemhpeaaDoor.K
open Go Go.RowKit Go.Proofs.YtcchakpiemhpeaaDoor.T
attribute [local simp] eTm eCo pNo gTp gTn qv qcall vop iop
set_option linter.unusedSimpArgs false
set_option linter.unusedVariables false
set_option maxHeartbeats 1000000
structure RTy where
  TR:Nat
  TB:Nat
  U8:Nat
  I:Nat
  Bo:Nat
def rdOK (P:Program) (R:RTy):Bool :=
  fieldOff P R.TR 0 == some 0 && fieldOff P R.TR 1 == some 1 && oneB P R.TB && sliceN P R.TB == some 1 && oneB P R.Bo && oneB P R.U8 && intK P R.U8 == some .u8 && intK P R.I == some .i64
theorem rd_facts {P:Program} {R:RTy} (h:rdOK P R=true) :
    fieldOff P R.TR 0=some 0∧fieldOff P R.TR 1=some 1∧oneB P R.TB=true∧sliceN P R.TB=some 1∧oneB P R.Bo=true∧oneB P R.U8=true∧intK P R.U8=some .u8∧intK P R.I=some .i64:=by
  simp only [rdOK,Bool.and_eq_true,beq_iff_eq] at h
  obtain ⟨⟨⟨⟨⟨⟨⟨h1,h2⟩,h3⟩,h4⟩,h5⟩,h6⟩,h7⟩,h8⟩:=h
  exact ⟨h1,h2,h3,h4,h5,h6,h7,h8⟩
section
variable {P:Program} {R:RTy} {a:Act} {w:World} {K:Act→World→Prop} {d:Option Tmp} {g:Option (Nat × Bool)}
theorem ops_stR {all r:List SOp} {T b i:Nat} {x y:Operand} {v:Value} {cs:Array Value} {E:TypeId} (h1:oneB P T=true) (hx:a.eval x=.pointer (some ⟨b,i,none⟩)) (hy:a.eval y=v) (hv:v.oneCell'=true) (hrow:w.heap[b]?=some (.cells cs E (0,0))) (hi:i < cs.size)
    (hk:opsw P all r K a (w.setRow b (cs.setIfInBounds i v))):opsw P all (⟨none,.store T x y,none⟩ :: r) K a w:=by
  refine oNo rfl (opw_store_one (ad:=⟨b,i,none⟩) (v:=v) (v0:=cs[i]) h1 hx hy hv (by rw [cell_of_row _ _ _ _ _ _ hrow];exact Array.getElem?_eq_getElem hi) (by simp [World.frozen?,hrow]) ?_)
  rw [pNo,setCell_eq_setRow _ _ _ _ _ _ _ hrow]
  exact hk
def sliceLo (base:Option Addr) (len cap n:Nat):Value:=.slice (if cap=n then base else base.map (·.add n)) (len - n) (cap - n)
theorem opw_sliceLo {T n len cap:Nat} {k:IntKind} {x y:Operand} {base:Option Addr} (hT:sliceN P T=some 1) (hx:a.eval x=.slice base len cap) (hy:a.eval y=.int k (n:Int)) (hn:n≤len) (h:K (a.put d (sliceLo base len cap n)) w) :
    opw P ⟨d,.slice T x (some y) none none,g⟩ a w K:=by
  unfold sliceN at hT
  split at hT <;> try (simp at hT;done)
  rename_i e hu
  obtain ⟨i,hi,hs⟩:=Option.map_eq_some_iff.1 hT
  refine oVa (v:=sliceLo base len cap n) (by simp) (fun p hp=>?_) h
  simp [execOp,hp,hx,hy,Instr.sliceAt,Instr.slice,run_underlying hu,Instr.sliceBounds,Instr.sliceBound,asIntOf,sizeOf,typeInfo,hi,hs,hn,sliceLo]
theorem opw_slice3 {T n len cap:Nat} {k k':IntKind} {x y z:Operand} {base:Option Addr} (hT:sliceN P T=some 1) (hx:a.eval x=.slice base len cap) (hy:a.eval y=.int k (n:Int)) (hz:a.eval z=.int k' (n:Int)) (hn:n≤cap) (h:K (a.put d (.slice base n n)) w) :
    opw P ⟨d,.slice T x none (some y) (some z),g⟩ a w K:=by
  unfold sliceN at hT
  split at hT <;> try (simp at hT;done)
  rename_i e hu
  obtain ⟨i,hi,hs⟩:=Option.map_eq_some_iff.1 hT
  refine oVa (v:=.slice base n n) (by simp) (fun p hp=>?_) h
  have:base.map (fun x=>x.add 0)=base:=by cases base <;> simp [Addr.add]
  simp [execOp,hp,hx,hy,hz,Instr.sliceAt,Instr.slice,run_underlying hu,Instr.sliceBounds,Instr.sliceBound,asIntOf,sizeOf,typeInfo,hi,hs,hn,this]
end
def rdRow (TR:Nat) (w:World) (rb:Nat) (v:Value) (bad:Bool):Prop:=w.heap[rb]?=some (.cells #[v,.bool bad] TR (0,0))
theorem rdRow_cells {TR rb:Nat} {w:World} {v:Value} {bad:Bool} (h:rdRow TR w rb v bad):w.cell? ⟨rb,0,none⟩=some v∧w.cell? ⟨rb,1,none⟩=some (.bool bad):=by
  constructor <;> rw [cell_of_row _ _ _ _ _ _ h] <;> rfl
def SrcAt (w:World) (S:Option Nat) (base:Option Addr) (rest:Bytes):Prop :=
  match S with
  | none=>base=none∧rest=[]
  | some sb=>∃ o,base=some ⟨sb,o,none⟩∧∀ j u,rest[j]?=some u→w.cell? ⟨sb,o+j,none⟩=some (cell u)
theorem rdAt_row {TR rb:Nat} {w:World} {S:Option Nat} {st:Option Bytes} (h:RdAt TR w S rb st) :
    (st=none∧rdRow TR w rb (.slice none 0 0) true)∨∃ rest base cap,st=some rest∧rdRow TR w rb (.slice base rest.length cap) false∧rest.length≤cap∧SrcAt w S base rest:=by
  cases st with
  | none=>exact .inl ⟨rfl,h⟩
  | some rest =>
    obtain ⟨base,cap,h1,h2,h3⟩:=h
    exact .inr ⟨rest,base,cap,rfl,h1,h2,by cases S <;> exact h3⟩
theorem SrcAt.frame {w w':World} {S:Option Nat} {base:Option Addr} {rest:Bytes} (h:SrcAt w S base rest) (hS:∀ sb,S=some sb→w'.heap[sb]?=w.heap[sb]?):SrcAt w' S base rest:=by
  cases S with
  | none=>exact h
  | some sb =>
    obtain ⟨o,h1,h2⟩:=h
    exact ⟨o,h1,fun j u hu=>by rw [World.cell?_of_block (hS sb rfl)];exact h2 j u hu⟩
theorem SrcAt.drop {w:World} {S:Option Nat} {base:Option Addr} {rest:Bytes} {cap n:Nat} (h:SrcAt w S base rest) (hn:n≤rest.length) (hc:rest.length≤cap):SrcAt w S (if cap=n then base else base.map (·.add n)) (rest.drop n):=by
  cases S with
  | none =>
    obtain ⟨rfl,rfl⟩:=h
    simp [SrcAt]
  | some sb =>
    obtain ⟨o,rfl,h2⟩:=h
    by_cases e:cap=n
    · rw [if_pos e]
      refine ⟨o,rfl,fun j u hu=>?_⟩
      rw [List.drop_of_length_le (by omega)] at hu
      simp at hu
    · rw [if_neg e]
      refine ⟨o+n,by simp [add_none],fun j u hu=>?_⟩
      rw [List.getElem?_drop] at hu
      rw [show o+n+j=o+(n+j) by omega]
      exact h2 _ u hu
theorem rdAt_drop {TR rb:Nat} {w:World} {S:Option Nat} {base:Option Addr} {rest:Bytes} {cap n:Nat} {v0:Value} (hr:rdRow TR w rb v0 false) (hc:rest.length≤cap) (hs:SrcAt w S base rest) (hS:∀ sb,S=some sb→sb ≠ rb) (hn:n≤rest.length) :
    RdAt TR (w.setRow rb (#[v0,.bool false].setIfInBounds 0 (sliceLo base rest.length cap n))) S rb (some (rest.drop n)):=by
  refine ⟨(if cap=n then base else base.map (·.add n)),cap - n,?_,by rw [List.length_drop];omega,?_⟩
  · have:=setRow_heap w rb _ (#[v0,.bool false].setIfInBounds 0 (sliceLo base rest.length cap n)) _ _ hr
    rw [this]
    simp [sliceLo,List.length_drop]
  · have:=(hs.drop hn hc).frame (w':=w.setRow rb (#[v0,.bool false].setIfInBounds 0 (sliceLo base rest.length cap n))) fun sb hsb=>setRow_other _ _ _ _ (hS sb hsb)
    cases S <;> exact this
theorem rdAt_bad {TR rb:Nat} {w:World} {S:Option Nat} {cs:Array Value} {fr:Nat × Nat} {c2:Array Value} (hr:w.heap[rb]?=some (.cells cs TR (0,0))) (h2:c2=#[.slice none 0 0,.bool true]):RdAt TR (w.setRow rb c2) S rb none:=by
  subst h2
  exact setRow_heap _ _ _ _ _ _ hr
def rFail (R:RTy) (t r:Nat) (zero:Value):SC :=
  .seq (.reg [mv t 0,nilc (t+1) t,fa (t+2) R.TR (t+1) 1,⟨none,.store R.Bo (.tmp (t+2)) (.const (.bool true)),none⟩])
    (.seq (.reg [mv (t+3) 0,nilc (t+4) (t+3),fa (t+5) R.TR (t+4) 0,⟨none,.store R.TB (.tmp (t+5)) (.const (.slice none 0 0)),none⟩]) (.seq (.reg [⟨some r,.assign (.const zero),none⟩]) .ret))
theorem rFail_ok {P:Program} {R:RTy} {t r rb:Nat} {zero v:Value} {bad:Bool} {a:Act} {w:World} {S:Option Nat} {Q:Exit→Act→World→Prop} (hR:rdOK P R=true) (hr:rdRow R.TR w rb v bad) (h0:getT a 0=.pointer (some ⟨rb,0,none⟩)) (ht:0 < t) (htN:t+6≤a.tmps.size) (hrN:r < a.tmps.size)
    (hQ:∀ a' w',a'.defers=a.defers→getT a' r=zero→RdAt R.TR w' S rb none→Only rb w w'→Q .ret a' w'):(rFail R t r zero).wp P Q a w:=by
  have hf:=rd_facts hR
  have hrow:w.heap[rb]?=some (.cells #[v,.bool bad] R.TR (0,0)):=hr
  refine SC.wp_seq (SC.wp_reg (ops_mv (ops_nilc (ad:=⟨rb,0,none⟩) ?_ (ops_fa (fieldB_of hf.2.1) (b:=rb) (o:=0) ?_ (ops_stR (b:=rb) (i:=1) (v:=.bool true) hf.2.2.2.2.1 ?_ rfl rfl hrow (by simp) (oNi ?_))))))
  · rw [gTp (by omega)];exact h0
  · rw [gTp (by rw [sPu];omega)]
  · rw [eTm,gTp (by simp only [sPu];omega)]
  have hrow2:=setRow_heap w rb _ (#[v,.bool bad].setIfInBounds 1 (.bool true)) _ _ hrow
  simp only [Exit.then]
  refine SC.wp_seq (SC.wp_reg (ops_mv (ops_nilc (ad:=⟨rb,0,none⟩) ?_ (ops_fa (fieldB_of hf.1) (b:=rb) (o:=0) ?_ (ops_stR (b:=rb) (i:=0) (v:=.slice none 0 0) hf.2.2.1 ?_ rfl rfl hrow2 (by simp) (oNi ?_))))))
  · rw [gTp (by simp only [sPu];omega),gTn (by omega),gTn (by omega),gTn (by omega)];exact h0
  · rw [gTp (by simp only [sPu];omega)]
  · rw [eTm,gTp (by simp only [sPu];omega)]
  simp only [Exit.then]
  refine SC.wp_seq (SC.wp_reg (oNo rfl (opw_assign (oNi ?_))))
  rw [eCo]
  simp only [Exit.then]
  refine SC.wp_ret (hQ _ _ (by simp [dPu]) (by rw [gTp (by simp only [sPu];omega)]) ?_ (((Only.refl rb w).setRow _).setRow _))
  refine rdAt_bad (fr:=(0,0)) hrow2 ?_
  simp
def sc_RComplete (R:RTy) (T2 G0:Nat):SC:=.seq (.reg [⟨some 2,.assign (.const .nilIface),none⟩]) (.seq (.seq (.reg [mv 3 0,nilc 4 3,fa 5 R.TR 4 1,ld 6 R.Bo 5]) (.cond (.tmp 6) (.seq (.reg [⟨some 7,.load T2 (.global G0),none⟩,asg 2 7]) (.ret)) (.skip))) (.seq (.reg [⟨some 2,.assign (.const .nilIface),none⟩]) (.ret)))
section
variable {P:Program} {R:RTy} {f:FuncId} {fn:Func}
theorem rComplete_ok {T2 G0:Nat} {err:Value} (hR:rdOK P R=true) (hT:oneB P T2=true) (hG:P.globals.size > G0∨True) (hf:P.funcs[f]?=some fn) (hb:fn.body.map strip=some (sc_RComplete R T2 G0)) (hn:fn.ntmps=8) (hr:fn.results=#[.tmp 2]) (w:World) (S:Option Nat) (rb:Nat) (st:Option Bytes)
    (hg:w.cell? ⟨G0,0,none⟩=some err) (h:RdAt R.TR w S rb st) :
    Calls P f #[.pointer (some ⟨rb,0,none⟩)] w fun e w'=>e=.returned (if st.isSome then .nilIface else err)∧w'=w:=by
  have hst:=rd_facts hR
  obtain ⟨v,hrow⟩:∃ v,rdRow R.TR w rb v (!st.isSome):=by
    rcases rdAt_row h with ⟨rfl,h1⟩ | ⟨rest,base,cap,rfl,h1,_⟩
    · exact ⟨_,h1⟩
    · exact ⟨_,h1⟩
  have hc:=rdRow_cells hrow
  refine fCa hf hb hn (by simp) fun a0 hs hd ha=>?_
  have h0:=ha 0 _ rfl
  simp only [List.getElem_toArray,List.getElem_cons_zero,List.getElem_cons_succ] at h0
  refine SC.wp_seq (SC.wp_reg ?_)
  repeat (apply ops_1;(focus (simp (disch:=(try simp only [sPu]);omega) ;try rfl)))
  refine oNi (SC.wp_seq (SC.wp_seq (SC.wp_reg ?_)))
  repeat (apply ops_1;(focus (simp (disch:=(try simp only [sPu]);omega) [hst,h0,hc];try rfl)))
  refine oNi (SC.wp_cond (t:=!st.isSome) (by simp (disch:=(try simp only [sPu]);omega)) ?_)
  cases hs1:st.isSome with
  | false =>
    simp only [Bool.not_false,if_true]
    refine SC.wp_seq (SC.wp_reg (oNo rfl (opw_load_one (ad:=⟨G0,0,none⟩) hT rfl hg ?_)))
    repeat (apply ops_1;(focus (simp (disch:=(try simp only [sPu]);omega) ;try rfl)))
    refine oNi (SC.wp_ret ?_)
    simp only [Exit.then]
    refine ret_tmp hr (by simp [dPu,hd]) ⟨?_,rfl⟩
    simp (disch:=(try simp only [sPu]);omega)
  | true =>
    simp only [Bool.not_true,Bool.false_eq_true,if_false]
    refine SC.wp_skip ?_
    simp only [Exit.then]
    refine SC.wp_seq (SC.wp_reg ?_)
    repeat (apply ops_1;(focus (simp (disch:=(try simp only [sPu]);omega) ;try rfl)))
    refine oNi (SC.wp_ret (ret_tmp hr (by simp [dPu,hd]) ⟨?_,rfl⟩))
    simp (disch:=(try simp only [sPu]);omega)
end
end Go.Proofs.YtcchakpiemhpeaaDoor.K
namespace Go.Proofs.YtcchakpiemhpeaaDoor.K
open Go Go.RowKit Go.Proofs.YtcchakpiemhpeaaDoor.T
attribute [local simp] eTm eCo pNo gTp gTn qv qcall vop iop
set_option linter.unusedSimpArgs false
set_option linter.unusedVariables false
set_option maxHeartbeats 2000000
def sc_BE16 (T0 T1 T2 T3 T4:Nat):SC:=.seq (.reg [⟨some 2,.box T0 (.tmp 0),none⟩,⟨some 4,.assign (.const (.int .u16 0)),none⟩]) (.seq (.reg [mv 5 1,⟨some 6,.indexAddr T1 (.tmp 5) (.const (.int .i64 1)),none⟩,ld 7 T2 6]) (.seq (.dreg [mv 8 1,⟨some 9,.indexAddr T1 (.tmp 8) (.const (.int .i64 1)),none⟩,ld 10 T2 9,⟨some 11,.convert T2 T3 (.tmp 10),none⟩,mv 12 1,⟨some 13,.indexAddr T1 (.tmp 12) (.const (.int .i64 0)),none⟩,ld 14 T2 13,⟨some 15,.convert T2 T3 (.tmp 14),none⟩,⟨some 16,.binOp .shl T3 (.tmp 15) (.const (.int .u64 8)) T4,none⟩,⟨some 17,.binOp .or T3 (.tmp 11) (.tmp 16) T3,none⟩,asg 4 17] [[],[0],[1],[2],[],[4],[5],[6],[7],[3,8],[9,0,1,2,3,4,5,6,7,8,9]]) (.ret)))
theorem or_add {bits a b s:Nat} (ha:a < 2 ^ s) (h:a+b * 2 ^ s < 2 ^ bits):(BitVec.ofInt bits (a:Int) ||| BitVec.ofInt bits ((b:Int) * (2 ^ s:Nat))).toNat=a+b * 2 ^ s:=by
  have e1:(BitVec.ofInt bits (a:Int)).toNat=a:=by
    rw [BitVec.ofInt_natCast,BitVec.toNat_ofNat]
    exact Nat.mod_eq_of_lt (by omega)
  have e2:(BitVec.ofInt bits ((b:Int) * (2 ^ s:Nat))).toNat=b * 2 ^ s:=by
    rw [← Int.natCast_mul,BitVec.ofInt_natCast,BitVec.toNat_ofNat]
    exact Nat.mod_eq_of_lt (by omega)
  rw [BitVec.toNat_or,e1,e2,Nat.or_comm,Nat.mul_comm b,← Nat.two_pow_add_eq_or_of_lt ha b]
  omega
theorem or_add2 {bits a b s:Nat} {A B:Int} (hA:A=(a:Int)) (hB:B=((b * 2 ^ s:Nat):Int)) (ha:a < 2 ^ s) (h:a+b * 2 ^ s < 2 ^ bits):(BitVec.ofInt bits A ||| BitVec.ofInt bits B).toNat=a+b * 2 ^ s:=by
  subst hA hB
  rw [Int.natCast_mul]
  exact or_add ha h
theorem wrap_uN {k:IntKind} (hk:k.signed=false) {n:Nat} (h:n < 2 ^ k.bits):k.wrap (n:Int)=n:=by
  cases k <;> simp [IntKind.signed] at hk <;> simp only [IntKind.wrap,IntKind.bits,IntKind.signed] at h ⊢ <;> simp <;> omega
theorem be2_ok {P:Program} {f:FuncId} {fn:Func} {R:RTy} {T0 T3 T4:Nat} (hm:P.follows .mixedOrders=true) (hR:rdOK P R=true) (hi3:intK P T3=some .u16) (hf:P.funcs[f]?=some fn) (hb:fn.body.map strip=some (sc_BE16 T0 R.TB R.U8 T3 T4)) (hn:fn.ntmps=18) (hr:fn.results=#[.tmp 4])
    (w:World) (sb q len cap:Nat) (u0 u1:UInt8) (hlen:2≤len) (hsb:sb < w.heap.size) (hc:∀ j u,[u0,u1][j]?=some u→w.cell? ⟨sb,q+j,none⟩=some (cell u)) :
    Calls P f #[.agg #[],.slice (some ⟨sb,q,none⟩) len cap] w fun e w'=>e=.returned (.int .u16 ((unfix [u0,u1]:Nat):Int))∧Below w.heap.size w w':=by
  have hst:=rd_facts hR
  refine fCa hf hb hn (by simp) fun a0 hs hd ha=>?_
  have h0:=ha 0 _ rfl
  have h1:=ha 1 _ rfl
  simp only [List.getElem_toArray,List.getElem_cons_zero,List.getElem_cons_succ] at h0 h1
  have c0:=hc 0 u0 rfl
  have c1:=hc 1 u1 rfl
  simp only [cell,Nat.add_zero] at c0 c1
  have hlt:u0.toNat < 256∧u1.toNat < 256:=⟨u0.toNat_lt,u1.toNat_lt⟩
  refine SC.wp_seq (SC.wp_reg (oNo rfl (opw_box h0 ?_)))
  repeat (apply ops_1;(focus (simp (disch:=(try simp only [sPu]);omega) ;try rfl)))
  refine oNi ?_
  simp only [Exit.then]
  generalize hw1:w.alloc (.cells (Value.agg #[]).cells T0)=w1
  have hb1:Below w.heap.size w w1:=by rw [← hw1];exact (Below.refl _ _).alloc (Nat.le_refl _) _
  have hl1:sb < w1.heap.size:=Nat.lt_of_lt_of_le hsb hb1.size
  have d0:w1.cell? ⟨sb,q,none⟩=some (.int .u8 (u0.toNat:Int)):=by rw [hb1.cell (p:=⟨sb,q,none⟩) hsb];exact c0
  have d1:w1.cell? ⟨sb,q+1,none⟩=some (.int .u8 (u1.toNat:Int)):=by rw [hb1.cell (p:=⟨sb,q+1,none⟩) hsb];exact c1
  have g0:0 < len:=by omega
  have g1:(1:Int) < (len:Int):=by omega
  have x0:IntKind.u16.wrap (u0.toNat:Int)=(u0.toNat:Int):=wrap_uN rfl (by have:=u0.toNat_lt;simp only [IntKind.bits];omega)
  have x1:IntKind.u16.wrap (u1.toNat:Int)=(u1.toNat:Int):=wrap_uN rfl (by have:=u1.toNat_lt;simp only [IntKind.bits];omega)
  have s0:IntKind.u16.wrap ((u0.toNat:Int) * 256)=(u0.toNat:Int) * 256:=by
    have:=wrap_uN (k:=.u16) rfl (n:=u0.toNat * 256) (by have:=u0.toNat_lt;simp only [IntKind.bits];omega)
    simpa using this
  have o0:IntKind.u16.wrap ((BitVec.ofInt IntKind.u16.bits ((u1.toNat:Int)) ||| BitVec.ofInt IntKind.u16.bits ((u0.toNat:Int) * 256)).toNat:Int)=(u1.toNat:Int)+(u0.toNat:Int) * 256:=by
    rw [or_add2 (a:=u1.toNat) (b:=u0.toNat) (s:=8) (by omega) (by omega) (by omega) (by simp only [IntKind.bits];omega)]
    rw [wrap_uN (k:=.u16) rfl (n:=u1.toNat+u0.toNat * 2 ^ 8) (by simp only [IntKind.bits];omega)]
    omega
  have b1:8≤IntKind.u16.bits:=by decide
  refine SC.wp_seq (SC.wp_reg ?_)
  repeat (apply ops_1;(focus (simp (disch:=(try simp only [sPu]);omega) [hst,h1,hi3,hl1,d0,g0,x0,d1,g1,x1,s0,o0,b1];try rfl)))
  refine oNi ?_
  simp only [Exit.then]
  refine SC.wp_seq (SC.wp_dreg hm (Below w1.heap.size w1.drew) [(0,true),(1,true),(2,true),(3,true),(4,true),(5,true),(6,true),(7,true),(8,true),(9,true),(10,true)] (by rfl) (by rfl) (by decide) (Below.refl _ _) ?_)
  have e0:w1.drew.cell? ⟨sb,q,none⟩=some (.int .u8 (u0.toNat:Int)):=d0
  have e1:w1.drew.cell? ⟨sb,q+1,none⟩=some (.int .u8 (u1.toNat:Int)):=d1
  repeat (apply dr_1;(focus rfl);(focus (simp (disch:=(try simp only [sPu]);omega) [hst,h1,hi3,hl1,e0,g0,x0,e1,g1,x1,s0,o0,b1,-BitVec.toNat_or,-BitVec.ofInt_natCast,-BitVec.toNat_ofInt,-BitVec.toNat_ofNat];try rfl)))
  refine dreg_nil ?_
  simp only [Exit.then]
  refine SC.wp_ret (ret_tmp hr (by simp [dPu,hd]) ⟨?_,hb1.drew⟩)
  simp (disch:=(try simp only [sPu]);omega) [-BitVec.toNat_or,-BitVec.ofInt_natCast,-BitVec.toNat_ofInt,-BitVec.toNat_ofNat]
  simp only [unfix,List.length_cons,List.length_nil,Nat.reduceAdd,Nat.reducePow]
  omega
end Go.Proofs.YtcchakpiemhpeaaDoor.K
namespace Go.Proofs.YtcchakpiemhpeaaDoor.K
open Go Go.RowKit Go.Proofs.YtcchakpiemhpeaaDoor.T
attribute [local simp] eTm eCo pNo gTp gTn qv qcall vop iop
set_option linter.unusedSimpArgs false
set_option linter.unusedVariables false
set_option maxHeartbeats 2000000
def rDropC (R:RTy) (t:Nat) (n:Int):SC:=.reg [mv t 0,mv (t+1) 0,nilc (t+2) (t+1),fa (t+3) R.TR (t+2) 0,ld (t+4) R.TB (t+3),⟨some (t+5),.slice R.TB (.tmp (t+4)) (some (.const (.int .i64 n))) none none,none⟩,nilc (t+6) t,fa (t+7) R.TR (t+6) 0,⟨none,.store R.TB (.tmp (t+7)) (.tmp (t+5)),none⟩]
def rLess (R:RTy) (n:Int):SC:=.reg [mv 4 0,nilc 5 4,fa 6 R.TR 5 0,ld 7 R.TB 6,lenOp 8 R.TB 7,⟨some 9,.binOp .lss R.I (.tmp 8) (.const (.int .i64 n)) R.I,none⟩]
section
variable {P:Program} {R:RTy} {f:FuncId} {fn:Func}
theorem rDropC_ok {t n rb:Nat} {a:Act} {w:World} {S:Option Nat} {base:Option Addr} {rest:Bytes} {cap:Nat} {Q:Exit→Act→World→Prop} (hR:rdOK P R=true) (hr:rdRow R.TR w rb (.slice base rest.length cap) false) (hc:rest.length≤cap) (hs:SrcAt w S base rest) (hS:∀ sb,S=some sb→sb ≠ rb) (hn:n≤rest.length)
    (h0:getT a 0=.pointer (some ⟨rb,0,none⟩)) (ht:0 < t) (htN:t+8≤a.tmps.size)
    (hQ:∀ a' w',a'.tmps.size=a.tmps.size→a'.defers=a.defers→(∀ s,s < t→getT a' s=getT a s)→RdAt R.TR w' S rb (some (rest.drop n))→Only rb w w'→Q .normal a' w'):(rDropC R t (n:Int)).wp P Q a w:=by
  have hf:=rd_facts hR
  have hcl:=rdRow_cells hr
  have hrow:w.heap[rb]?=some (.cells #[.slice base rest.length cap,.bool false] R.TR (0,0)):=hr
  refine SC.wp_reg (ops_mv (ops_mv (ops_nilc (ad:=⟨rb,0,none⟩) ?_ (ops_fa (fieldB_of hf.1) (b:=rb) (o:=0) ?_ (ops_ld hf.2.2.1 (ad:=⟨rb,0,none⟩) (v:=.slice base rest.length cap) ?_ hcl.1 (oNo rfl (opw_sliceLo (n:=n) (k:=.i64) (len:=rest.length) (cap:=cap) (base:=base) hf.2.2.2.1 ?_ rfl hn (ops_nilc (ad:=⟨rb,0,none⟩) ?_ (ops_fa (fieldB_of hf.1) (b:=rb) (o:=0) ?_ (ops_stR (b:=rb) (i:=0) (v:=sliceLo base rest.length cap n) hf.2.2.1 ?_ ?_ rfl hrow (by simp) (oNi ?_)))))))))))
  · rw [gTp (by simp only [sPu];omega),gTn (by omega)];exact h0
  · rw [gTp (by simp only [sPu];omega)]
  · rw [gTp (by simp only [sPu];omega)]
  · rw [eTm,gTp (by simp only [sPu];omega)]
  · rw [gTn (by omega),gTn (by omega),gTn (by omega),gTn (by omega),gTn (by omega),gTp (by omega)];exact h0
  · rw [gTp (by simp only [sPu];omega)]
  · rw [eTm,gTp (by simp only [sPu];omega)]
  · rw [eTm,gTn (by omega),gTn (by omega),gTp (by simp only [sPu];omega)]
  refine hQ _ _ (by simp only [sPu]) (by simp only [dPu]) (fun s hs=>?_) (rdAt_drop hr hc hs hS hn) ((Only.refl rb w).setRow _)
  rw [gTn (by omega),gTn (by omega),gTn (by omega),gTn (by omega),gTn (by omega),gTn (by omega),gTn (by omega),gTn (by omega)]
theorem RC.map {α β:Type} {TR gb:Nat} {p:Rd α} {g:α→β} {ty ty':Value→Prop} {ok:World→(Nat→Prop)→α→Value→Prop} {ok':World→(Nat→Prop)→β→Value→Prop} (h:RC P TR gb f p ty ok) (hty:∀ v,ty v→ty' v) (hok:∀ w F x v,ok w F x v→ok' w F (g x) v) :
    RC P TR gb f (rThen p fun x=>rOk (g x)) ty' ok':=by
  refine ⟨h.1,fun w S rb st h1 h2 h3=>(h.2 w S rb st h1 h2 h3).mono ?_⟩
  rintro e w' ⟨v,rfl,q1,q2,q3,q4⟩
  have ea:after st (rThen p fun x=>rOk (g x))=after st p:=by
    cases st with
    | none=>rfl
    | some b =>
      cases hp:p b with
      | none=>simp [after,rThen,hp]
      | some z=>rw [after_then _ _ _ rfl hp,after_ok hp];exact after_rOk _ _
  refine ⟨v,rfl,by rw [ea];exact q1,q2,hty v q3,fun b x r hst hpx=>?_⟩
  obtain ⟨y,r1,k1,k2⟩:=rThen_some hpx
  obtain ⟨rfl,rfl⟩:=rOk_some k2
  exact hok _ _ _ _ (q4 b y _ hst k1)
theorem pFix_none {k:Nat} {b:Bytes} (h:b.length < k):pFix k b=none:=by simp [pFix,h]
theorem pFix_some {k:Nat} {b:Bytes} (h:k≤b.length):pFix k b=some (unfix (b.take k),b.drop k):=by unfold pFix;rw [if_neg (by omega)]
theorem rdAt_lt {TR rb:Nat} {w:World} {v:Value} {bad:Bool} (h:rdRow TR w rb v bad):rb < w.heap.size:=(Array.getElem?_eq_some_iff.1 h).1
def sc_RBool (R:RTy):SC:=.seq (.reg [⟨some 2,.assign (.const (.bool false)),none⟩]) (.seq (.seq (rLess R 1) (.cond (.tmp 9) (rFail R 10 2 (.bool false)) .skip)) (.seq (.reg [mv 16 0,nilc 17 16,fa 18 R.TR 17 0,ld 19 R.TB 18,⟨some 20,.indexAddr R.TB (.tmp 19) (.const (.int .i64 0)),none⟩,ld 21 R.U8 20,⟨some 22,.binOp .neq R.U8 (.tmp 21) (.const (.int .u8 0)) R.U8,none⟩,asg 3 22]) (.seq (rDropC R 23 1) (.seq (.reg [mv 31 3,asg 2 31]) .ret))))
theorem src_head {w:World} {S:Option Nat} {base:Option Addr} {rest:Bytes} (hs:SrcAt w S base rest) {k:Nat} (hk:k≤rest.length) (hk0:0 < k):∃ sb o,S=some sb∧base=some ⟨sb,o,none⟩∧∀ j u,(rest.take k)[j]?=some u→w.cell? ⟨sb,o+j,none⟩=some (cell u):=by
  cases S with
  | none =>
    obtain ⟨_,rfl⟩:=hs
    simp at hk
    omega
  | some sb =>
    obtain ⟨o,h1,h2⟩:=hs
    refine ⟨sb,o,rfl,h1,fun j u hu=>h2 j u ?_⟩
    rw [List.getElem?_take] at hu
    split at hu
    · exact hu
    · simp at hu
theorem rBool_ok {TR gb : Nat} (hTR : R.TR = TR) (hR : rdOK P R = true) (hf : P.funcs[f]? = some fn) (hb : fn.body.map strip = some (sc_RBool R)) (hnm : (fn.name == "runtime.NumGoroutine") = false) (hn : fn.ntmps = 32) (hr : fn.results = #[.tmp 2]) :
    RC P TR gb f (pFix 1) (fun v=>∃ x,v=.bool x) (fun _ _ n v=>v=.bool (n != 0)):=by
  subst hTR
  have hst:=rd_facts hR
  refine ⟨fnOK_of hf hb hnm,fun w S rb st hgb hrd hsrc=>?_⟩
  refine fCa hf hb hn (by simp) fun a0 hs hd ha=>?_
  have h0:=ha 0 _ rfl
  simp only [List.getElem_toArray,List.getElem_cons_zero,List.getElem_cons_succ] at h0
  refine SC.wp_seq (SC.wp_reg ?_)
  repeat (apply ops_1;(focus (simp (disch:=(try simp only [sPu]);omega) ;try rfl)))
  refine oNi (SC.wp_seq (SC.wp_seq (SC.wp_reg ?_)))
  rcases rdAt_row hrd with ⟨rfl,hrow⟩ | ⟨rest,base,cap,rfl,hrow,hcap,hsr⟩
  · have hc:=rdRow_cells hrow
    repeat (apply ops_1;(focus (simp (disch:=(try simp only [sPu]);omega) [hst,h0,hc];try rfl)))
    refine oNi (SC.wp_cond (t:=true) (by simp (disch:=(try simp only [sPu]);omega)) ?_)
    rw [if_pos rfl]
    refine rFail_ok (S:=S) hR hrow (by simp (disch:=(try simp only [sPu]);omega) [h0]) (by omega) (by simp [sPu,hs]) (by simp [sPu,hs]) fun a' w' q1 q2 q3 q4=>?_
    simp only [Exit.then]
    exact ret_tmp hr (by rw [q1];simp [dPu,hd]) ⟨_,rfl,q3,q4,⟨false,q2⟩,fun b x r h=>by cases h⟩
  · have hc:=rdRow_cells hrow
    repeat (apply ops_1;(focus (simp (disch:=(try simp only [sPu]);omega) [hst,h0,hc];try rfl)))
    refine oNi (SC.wp_cond (t:=decide ((rest.length:Int) < 1)) (by simp (disch:=(try simp only [sPu]);omega)) ?_)
    by_cases hl:rest.length < 1
    · rw [if_pos (decide_eq_true (by omega))]
      refine rFail_ok (S:=S) hR hrow (by simp (disch:=(try simp only [sPu]);omega) [h0]) (by omega) (by simp [sPu,hs]) (by simp [sPu,hs]) fun a' w' q1 q2 q3 q4=>?_
      simp only [Exit.then]
      refine ret_tmp hr (by rw [q1];simp [dPu,hd]) ⟨_,rfl,by rw [after_no (pFix_none hl)];exact q3,q4,⟨false,q2⟩,fun b x r h hp=>?_⟩
      cases h
      rw [pFix_none hl] at hp
      cases hp
    · rw [if_neg (by rw [decide_eq_false (by omega)];simp)]
      refine SC.wp_skip ?_
      simp only [Exit.then]
      obtain ⟨sb,q,rfl,rfl,hbytes⟩:=src_head hsr (k:=1) (by omega) (by omega)
      obtain ⟨u,rest',rfl⟩:∃ u rest',rest=u :: rest':=by
        cases rest with
        | nil=>simp at hl
        | cons u r=>exact ⟨u,r,rfl⟩
      have hcu:=hbytes 0 u rfl
      simp only [cell,Nat.add_zero] at hcu
      have hlp:0 < (u :: rest').length:=by simp
      refine SC.wp_seq (SC.wp_reg ?_)
      repeat (apply ops_1;(focus (simp (disch:=(try simp only [sPu]);omega) [hst,h0,hc,hcu,hlp];try rfl)))
      refine oNi ?_
      simp only [Exit.then]
      refine SC.wp_seq (rDropC_ok (n:=1) (S:=some sb) hR hrow hcap hsr (fun s h=>(hsrc s h).1) (by simp) (by simp (disch:=(try simp only [sPu]);omega) [h0]) (by omega) (by simp [sPu,hs]) fun a1 w1 q1 q2 q3 q4 q5=>?_)
      have hs1:a1.tmps.size=32:=by rw [q1];simp [sPu,hs]
      have hd1:a1.defers=[]:=by rw [q2];simp [dPu,hd]
      have h3:getT a1 3=.bool ((u.toNat:Int) != 0):=by rw [q3 3 (by omega)];simp (disch:=(try simp only [sPu]);omega)
      simp only [Exit.then]
      refine SC.wp_seq (SC.wp_reg ?_)
      repeat (apply ops_1;(focus (simp (disch:=(try simp only [sPu]);omega) [h3];try rfl)))
      refine oNi (SC.wp_ret ?_)
      have hpf:pFix 1 (u :: rest')=some (u.toNat,rest'):=by simp [pFix,unfix]
      refine ret_tmp hr (by simp [dPu,hd1]) ⟨_,rfl,by rw [after_ok hpf];exact q4,q5,⟨(u.toNat:Int) != 0,by simp (disch:=(try simp only [sPu]);omega) [h3]⟩,fun b x r h hp=>?_⟩
      cases h
      rw [hpf] at hp
      cases hp
      have hbn:((u.toNat:Int) != 0)=(u.toNat != 0):=by
        rw [Bool.eq_iff_iff,bne_iff_ne,bne_iff_ne]
        omega
      rw [← hbn]
      simp (disch:=(try simp only [sPu]);omega) [h3]
end
end Go.Proofs.YtcchakpiemhpeaaDoor.K
namespace Go.Proofs.YtcchakpiemhpeaaDoor.K
open Go Go.RowKit Go.Proofs.YtcchakpiemhpeaaDoor.T
attribute [local simp] eTm eCo pNo gTp gTn qv qcall vop iop
set_option linter.unusedSimpArgs false
set_option linter.unusedVariables false
set_option maxHeartbeats 2000000
def sc_RNumS (R:RTy) (BE F G0 T T':Nat) (nb:Int) (ks:IntKind):SC:=.seq (.reg [⟨some 2,.assign (.const (.int ks 0)),none⟩]) (.seq (.seq (rLess R nb) (.cond (.tmp 9) (rFail R 10 2 (.int ks 0)) .skip)) (.seq (.dreg [⟨some 16,.load BE (.global G0),none⟩,mv 17 0,nilc 18 17,fa 19 R.TR 18 0,ld 20 R.TB 19,cal 21 F [16,20],⟨some 22,.convert T T' (.tmp 21),none⟩,asg 3 22] [[],[],[1],[2],[3],[0,4],[5],[6,5,0,1,2,3,4,5,6]]) (.seq (rDropC R 23 nb) (.seq (.reg [mv 31 3,asg 2 31]) .ret))))
def BeC (P:Program) (F nb:Nat) (ku:IntKind):Prop:=FnOK P F∧∀ (w:World) (sb q len cap:Nat) (bs:Bytes),bs.length=nb→nb≤len→sb < w.heap.size→(∀ j u,bs[j]?=some u→w.cell? ⟨sb,q+j,none⟩=some (cell u)) →
  Calls P F #[.agg #[],.slice (some ⟨sb,q,none⟩) len cap] w fun e w'=>e=.returned (.int ku ((unfix bs:Nat):Int))∧Below w.heap.size w w'
theorem beC2 {P : Program} {f : FuncId} {fn : Func} {R : RTy} {T0 T3 T4 : Nat} (hm : P.follows .mixedOrders = true) (hR : rdOK P R = true) (hi3 : intK P T3 = some .u16) (hf : P.funcs[f]? = some fn) (hb : fn.body.map strip = some (sc_BE16 T0 R.TB R.U8 T3 T4)) (hnm : (fn.name == "runtime.NumGoroutine") = false) (hn : fn.ntmps = 18) (hr : fn.results = #[.tmp 4]) : BeC P f 2 .u16 := by
  refine ⟨fnOK_of hf hb hnm,fun w sb q len cap bs hbs hlen hsb hc=>?_⟩
  match bs,hbs,hc with
  | [u0,u1],_,hc=>exact be2_ok hm hR hi3 hf hb hn hr w sb q len cap u0 u1 hlen hsb hc
theorem eval_global (a:Act) (g:Nat):a.eval (.global g)=.pointer (some ⟨g,0,none⟩):=rfl
theorem wrap_i16s {n:Nat} (h:n < 256 ^ 2):IntKind.i16.wrap (n:Int)=sgn 2 n:=by
  simp only [IntKind.wrap,IntKind.bits,IntKind.signed,sgn]
  simp
  split <;> split <;> omega
theorem unfix_lt:∀ (l:Bytes),unfix l < 256 ^ l.length
  | []=>by simp [unfix]
  | u :: l=>by
    have ih:=unfix_lt l
    simp only [unfix,List.length_cons,Nat.pow_succ]
    have hu:u.toNat≤255:=by have:=u.toNat_lt;omega
    have:u.toNat * 256 ^ l.length≤255 * 256 ^ l.length:=Nat.mul_le_mul_right _ hu
    omega
theorem pInt_of {k:Nat} {b:Bytes} (h:k≤b.length):pInt k b=some (sgn k (unfix (b.take k)),b.drop k):=by
  unfold pInt
  rw [rThen_of (pFix_some h)]
  rfl
theorem pInt_no {k:Nat} {b:Bytes} (h:b.length < k):pInt k b=none:=by simp [pInt,rThen,pFix_none h]
section
variable {P:Program} {R:RTy} {f:FuncId} {fn:Func}
theorem rNumS_ok {TR gb BE F T T' nb : Nat} {ks ku : IntKind} (hTR : R.TR = TR) (hm : P.follows .mixedOrders = true) (hR : rdOK P R = true) (hBE : aggN P BE = some 0) (hBE1 : oneB P BE = false) (hF : BeC P F nb ku) (hnb : 0 < nb) (hT : intK P T = some ku) (hT' : intK P T' = some ks) (hw : ∀ n : Nat, n < 256 ^ nb → ks.wrap (n : Int) = sgn nb n) (hf : P.funcs[f]? = some fn) (hb : fn.body.map strip = some (sc_RNumS R BE F gb T T' (nb : Int) ks)) (hnm : (fn.name == "runtime.NumGoroutine") = false) (hn : fn.ntmps = 32) (hr : fn.results = #[.tmp 2]) :
    RC P TR gb f (pInt nb) (fun v=>∃ n,v=.int ks n) (fun _ _ n v=>v=.int ks n):=by
  subst hTR
  have hst:=rd_facts hR
  refine ⟨fnOK_of hf hb hnm,fun w S rb st hgb hrd hsrc=>?_⟩
  refine fCa hf hb hn (by simp) fun a0 hs hd ha=>?_
  have h0:=ha 0 _ rfl
  simp only [List.getElem_toArray,List.getElem_cons_zero,List.getElem_cons_succ] at h0
  refine SC.wp_seq (SC.wp_reg ?_)
  repeat (apply ops_1;(focus (simp (disch:=(try simp only [sPu]);omega) ;try rfl)))
  refine oNi (SC.wp_seq (SC.wp_seq (SC.wp_reg ?_)))
  rcases rdAt_row hrd with ⟨rfl,hrow⟩ | ⟨rest,base,cap,rfl,hrow,hcap,hsr⟩
  · have hc:=rdRow_cells hrow
    have hnbi:decide ((0:Int) < (nb:Int))=true:=by simpa using hnb
    repeat (apply ops_1;(focus (simp (disch:=(try simp only [sPu]);omega) [hst,h0,hc];try rfl)))
    refine oNi (SC.wp_cond (t:=true) (by simp (disch:=(try simp only [sPu]);omega) [hnb]) ?_)
    rw [if_pos rfl]
    refine rFail_ok (S:=S) hR hrow (by simp (disch:=(try simp only [sPu]);omega) [h0]) (by omega) (by simp [sPu,hs]) (by simp [sPu,hs]) fun a' w' q1 q2 q3 q4=>?_
    simp only [Exit.then]
    exact ret_tmp hr (by rw [q1];simp [dPu,hd]) ⟨_,rfl,q3,q4,⟨0,q2⟩,fun b x r h=>by cases h⟩
  · have hc:=rdRow_cells hrow
    repeat (apply ops_1;(focus (simp (disch:=(try simp only [sPu]);omega) [hst,h0,hc];try rfl)))
    refine oNi (SC.wp_cond (t:=decide ((rest.length:Int) < (nb:Int))) (by simp (disch:=(try simp only [sPu]);omega)) ?_)
    by_cases hl:rest.length < nb
    · have hno:pInt nb rest=none:=pInt_no hl
      rw [if_pos (decide_eq_true (by omega))]
      refine rFail_ok (S:=S) hR hrow (by simp (disch:=(try simp only [sPu]);omega) [h0]) (by omega) (by simp [sPu,hs]) (by simp [sPu,hs]) fun a' w' q1 q2 q3 q4=>?_
      simp only [Exit.then]
      refine ret_tmp hr (by rw [q1];simp [dPu,hd]) ⟨_,rfl,by rw [after_no hno];exact q3,q4,⟨0,q2⟩,fun b x r h hp=>?_⟩
      cases h
      rw [hno] at hp
      cases hp
    · rw [if_neg (by rw [decide_eq_false (by omega)];simp)]
      refine SC.wp_skip ?_
      simp only [Exit.then]
      obtain ⟨sb,q,rfl,rfl,hbytes⟩:=src_head hsr (k:=nb) (by omega) hnb
      have hsbl:=(hsrc sb rfl).2
      have hrbl:=rdAt_lt hrow
      have hcd:w.drew.cell? ⟨rb,0,none⟩=some (.slice (some ⟨sb,q,none⟩) rest.length cap):=hc.1
      have hrg:rangeV w.drew gb 0 0=some []:=rfl
      refine SC.wp_seq (SC.wp_dreg hm (Below w.heap.size w.drew) [(0,true),(1,true),(2,true),(3,true),(4,true),(5,false),(6,true),(7,true)] (by rfl) (by rfl) (by decide) (Below.refl _ _) ?_)
      iterate 5 (apply dr_1;(focus rfl);(focus (simp (disch:=(try simp only [sPu]);omega) [hst,h0,hcd,hrbl,hgb,hBE,hBE1,hrg,eval_global];try rfl)))
      refine dreg_call (argsV:=#[.agg #[],.slice (some ⟨sb,q,none⟩) rest.length cap]) rfl hF.1 (hF.2 w.drew sb q rest.length cap (rest.take nb) (by simp;omega) (by omega) hsbl hbytes) (by simp (disch:=(try simp only [sPu]);omega)) ?_
      rintro e w1 ⟨rfl,hb1⟩
      refine ⟨_,rfl,hb1,?_⟩
      have hwv:=hw (unfix (rest.take nb)) (by have:=unfix_lt (rest.take nb);rwa [show (rest.take nb).length=nb by simp;omega] at this)
      repeat (apply dr_1;(focus rfl);(focus (simp (disch:=(try simp only [sPu]);omega) [hT,hT',hwv];try rfl)))
      refine dreg_nil ?_
      simp only [Exit.then]
      have hrow1:rdRow R.TR w1 rb (.slice (some ⟨sb,q,none⟩) rest.length cap) false:=(hb1.block rb hrbl).trans hrow
      have hsr1:SrcAt w1 (some sb) (some ⟨sb,q,none⟩) rest:=hsr.frame fun s h=>hb1.block s (hsrc s h).2
      refine SC.wp_seq (rDropC_ok (n:=nb) (S:=some sb) hR hrow1 hcap hsr1 (fun s h=>(hsrc s h).1) (by omega) (by simp (disch:=(try simp only [sPu]);omega) [h0]) (by omega) (by simp [sPu,hs]) fun a1 w2 q1 q2 q3 q4 q5=>?_)
      have hs1:a1.tmps.size=32:=by rw [q1];simp [sPu,hs]
      have hd1:a1.defers=[]:=by rw [q2];simp [dPu,hd]
      have h3:getT a1 3=.int ks (sgn nb (unfix (rest.take nb))):=by rw [q3 3 (by omega)];simp (disch:=(try simp only [sPu]);omega)
      simp only [Exit.then]
      refine SC.wp_seq (SC.wp_reg ?_)
      repeat (apply ops_1;(focus (simp (disch:=(try simp only [sPu]);omega) [h3];try rfl)))
      refine oNi (SC.wp_ret ?_)
      have hpf:pInt nb rest=some (sgn nb (unfix (rest.take nb)),rest.drop nb):=pInt_of (by omega)
      have ho1:Only rb w w1:=⟨hb1.os,hb1.tape,hb1.output,hb1.size,fun k hk _=>hb1.block k hk⟩
      refine ret_tmp hr (by simp [dPu,hd1]) ⟨_,rfl,by rw [after_ok hpf];exact q4,ho1.trans q5,⟨sgn nb (unfix (rest.take nb)),by simp (disch:=(try simp only [sPu]);omega) [h3]⟩,fun b x r h hp=>?_⟩
      cases h
      rw [hpf] at hp
      cases hp
      simp (disch:=(try simp only [sPu]);omega) [h3]
end
end Go.Proofs.YtcchakpiemhpeaaDoor.K
namespace Go.Proofs.YtcchakpiemhpeaaDoor.K
open Go Go.RowKit Go.Proofs.YtcchakpiemhpeaaDoor.T
attribute [local simp] eTm eCo pNo gTp gTn qv qcall vop iop
set_option linter.unusedSimpArgs false
set_option linter.unusedVariables false
set_option maxHeartbeats 2000000
def sFind:SC→Nat→Option SC
  | .seq a b,l=>match sFind a l with
    | some r=>some (.seq r b)
    | none=>sFind b l
  | .label l',l=>if l' == l then some .skip else none
  | _,_=>none
theorem sFind_strip:∀ (c:Code) (l:Nat),(findLabel c l).map strip=sFind (strip c) l
  | .seq a b,l=>by
    simp only [findLabel,strip,sFind]
    rw [← sFind_strip a l,← sFind_strip b l]
    cases findLabel a l <;> simp [strip]
  | .label l',l=>by
    simp only [findLabel,strip,sFind]
    split <;> simp [strip]
  | .region _ ops d,l=>by
    simp only [findLabel,strip]
    split <;> simp [sFind]
  | .skip,_=>rfl
  | .cond _ _ _,_=>rfl
  | .block _ _,_=>rfl
  | .loop _,_=>rfl
  | .exit _,_=>rfl
  | .ret,_=>rfl
  | .goto _,_=>rfl
  | .scope _,_=>rfl
  | .rangeFunc ..,_=>rfl
  | .refuse _,_=>rfl
theorem SC.wp_goto {P:Program} {Q:Exit→Act→World→Prop} {a:Act} {w:World} {l:Nat} (h:Q (.goto l) a w):(SC.goto l).wp P Q a w:=by
  intro c hc
  cases c <;> simp [strip] at hc
  · split at hc <;> simp at hc
  · subst hc
    exact Go.wp_goto h
theorem SC.wp_label {P:Program} {Q:Exit→Act→World→Prop} {a:Act} {w:World} {l:Nat} (h:Q .normal a w):(SC.label l).wp P Q a w:=by
  intro c hc
  cases c <;> simp [strip] at hc
  · split at hc <;> simp at hc
  · subst hc
    exact Go.wp_label h
theorem SC.wp_scope {P:Program} {Q:Exit→Act→World→Prop} {a:Act} {w:World} {x rest:SC} (l:Nat) (J:Act→World→Prop) (hf:sFind x l=some rest) (first:x.wp P (Exit.jump l J Q) a w) (pass:∀ a w,J a w→rest.wp P (Exit.noGoto Q) a w):(SC.scope x).wp P Q a w:=by
  intro c hc
  cases c <;> simp [strip] at hc
  · split at hc <;> simp at hc
  · rename_i b
    subst hc
    rw [← sFind_strip b l] at hf
    obtain ⟨r,hr,rfl⟩:=Option.map_eq_some_iff.1 hf
    refine wp_scope_jumps l J (fun _ _=>0) hr (first b rfl) fun a w hJ=>Go.wp_mono (pass a w hJ r rfl) fun e a w hq=>?_
    cases e <;> first | exact hq | exact hq.elim
def sc_KUvarint (T0 T1 T2 T3 T4:Nat):SC:=.seq (.reg [⟨some 2,.assign (.const (.int .u32 0)),none⟩,⟨some 3,.assign (.const (.int .i64 0)),none⟩]) (.scope (.seq (.reg [⟨some 4,.assign (.const (.int .u32 0)),none⟩]) (.seq (.reg [⟨some 5,.assign (.const (.int .i64 0)),none⟩]) (.seq (.seq (.reg [mv 6 0,lenOp 7 T0 6,⟨some 8,.binOp .lss T1 (.tmp 7) (.const (.int .i64 1)) T1,none⟩]) (.cond (.tmp 8) (.goto 0) (.skip))) (.seq (.reg [mv 9 0,⟨some 10,.indexAddr T0 (.tmp 9) (.const (.int .i64 0)),none⟩,ld 11 T2 10,⟨some 12,.binOp .and T2 (.tmp 11) (.const (.int .u8 127)) T2,none⟩,⟨some 13,.convert T2 T3 (.tmp 12),none⟩,asg 4 13]) (.seq (.seq (.reg [mv 14 0,⟨some 15,.indexAddr T0 (.tmp 14) (.const (.int .i64 0)),none⟩,ld 16 T2 15,⟨some 17,.binOp .and T2 (.tmp 16) (.const (.int .u8 128)) T2,none⟩,⟨some 18,.binOp .eql T2 (.tmp 17) (.const (.int .u8 0)) T2,none⟩]) (.cond (.tmp 18) (.seq (.reg [mv 19 4,asg 2 19,⟨some 3,.assign (.const (.int .i64 1)),none⟩]) (.ret)) (.seq (.reg [mv 20 0,lenOp 21 T0 20,⟨some 22,.binOp .lss T1 (.tmp 21) (.const (.int .i64 2)) T1,none⟩]) (.cond (.tmp 22) (.goto 0) (.skip))))) (.seq (.reg [mv 23 4,mv 24 0,⟨some 25,.indexAddr T0 (.tmp 24) (.const (.int .i64 1)),none⟩,ld 26 T2 25,⟨some 27,.binOp .and T2 (.tmp 26) (.const (.int .u8 127)) T2,none⟩,⟨some 28,.convert T2 T3 (.tmp 27),none⟩,⟨some 29,.binOp .shl T3 (.tmp 28) (.const (.int .u64 7)) T4,none⟩,⟨some 30,.binOp .or T3 (.tmp 23) (.tmp 29) T3,none⟩,asg 4 30]) (.seq (.seq (.reg [mv 31 0,⟨some 32,.indexAddr T0 (.tmp 31) (.const (.int .i64 1)),none⟩,ld 33 T2 32,⟨some 34,.binOp .and T2 (.tmp 33) (.const (.int .u8 128)) T2,none⟩,⟨some 35,.binOp .eql T2 (.tmp 34) (.const (.int .u8 0)) T2,none⟩]) (.cond (.tmp 35) (.seq (.reg [mv 36 4,asg 2 36,⟨some 3,.assign (.const (.int .i64 2)),none⟩]) (.ret)) (.seq (.reg [mv 37 0,lenOp 38 T0 37,⟨some 39,.binOp .lss T1 (.tmp 38) (.const (.int .i64 3)) T1,none⟩]) (.cond (.tmp 39) (.goto 0) (.skip))))) (.seq (.reg [mv 40 4,mv 41 0,⟨some 42,.indexAddr T0 (.tmp 41) (.const (.int .i64 2)),none⟩,ld 43 T2 42,⟨some 44,.binOp .and T2 (.tmp 43) (.const (.int .u8 127)) T2,none⟩,⟨some 45,.convert T2 T3 (.tmp 44),none⟩,⟨some 46,.binOp .shl T3 (.tmp 45) (.const (.int .u64 14)) T4,none⟩,⟨some 47,.binOp .or T3 (.tmp 40) (.tmp 46) T3,none⟩,asg 4 47]) (.seq (.seq (.reg [mv 48 0,⟨some 49,.indexAddr T0 (.tmp 48) (.const (.int .i64 2)),none⟩,ld 50 T2 49,⟨some 51,.binOp .and T2 (.tmp 50) (.const (.int .u8 128)) T2,none⟩,⟨some 52,.binOp .eql T2 (.tmp 51) (.const (.int .u8 0)) T2,none⟩]) (.cond (.tmp 52) (.seq (.reg [mv 53 4,asg 2 53,⟨some 3,.assign (.const (.int .i64 3)),none⟩]) (.ret)) (.seq (.reg [mv 54 0,lenOp 55 T0 54,⟨some 56,.binOp .lss T1 (.tmp 55) (.const (.int .i64 4)) T1,none⟩]) (.cond (.tmp 56) (.goto 0) (.skip))))) (.seq (.reg [mv 57 4,mv 58 0,⟨some 59,.indexAddr T0 (.tmp 58) (.const (.int .i64 3)),none⟩,ld 60 T2 59,⟨some 61,.binOp .and T2 (.tmp 60) (.const (.int .u8 127)) T2,none⟩,⟨some 62,.convert T2 T3 (.tmp 61),none⟩,⟨some 63,.binOp .shl T3 (.tmp 62) (.const (.int .u64 21)) T4,none⟩,⟨some 64,.binOp .or T3 (.tmp 57) (.tmp 63) T3,none⟩,asg 4 64]) (.seq (.seq (.reg [mv 65 0,⟨some 66,.indexAddr T0 (.tmp 65) (.const (.int .i64 3)),none⟩,ld 67 T2 66,⟨some 68,.binOp .and T2 (.tmp 67) (.const (.int .u8 128)) T2,none⟩,⟨some 69,.binOp .eql T2 (.tmp 68) (.const (.int .u8 0)) T2,none⟩]) (.cond (.tmp 69) (.seq (.reg [mv 70 4,asg 2 70,⟨some 3,.assign (.const (.int .i64 4)),none⟩]) (.ret)) (.seq (.reg [mv 71 0,lenOp 72 T0 71,⟨some 73,.binOp .lss T1 (.tmp 72) (.const (.int .i64 5)) T1,none⟩]) (.cond (.tmp 73) (.goto 0) (.skip))))) (.seq (.reg [mv 74 4,mv 75 0,⟨some 76,.indexAddr T0 (.tmp 75) (.const (.int .i64 4)),none⟩,ld 77 T2 76,⟨some 78,.convert T2 T3 (.tmp 77),none⟩,⟨some 79,.binOp .shl T3 (.tmp 78) (.const (.int .u64 28)) T4,none⟩,⟨some 80,.binOp .or T3 (.tmp 74) (.tmp 79) T3,none⟩,asg 4 80]) (.seq (.seq (.reg [mv 81 0,⟨some 82,.indexAddr T0 (.tmp 81) (.const (.int .i64 4)),none⟩,ld 83 T2 82,⟨some 84,.binOp .leq T2 (.tmp 83) (.const (.int .u8 15)) T2,none⟩]) (.cond (.tmp 84) (.seq (.reg [mv 85 4,asg 2 85,⟨some 3,.assign (.const (.int .i64 5)),none⟩]) (.ret)) (.skip))) (.seq (.reg [⟨some 5,.assign (.const (.int .i64 (-5))),none⟩]) (.seq (.label 0) (.seq (.reg [mv 86 5,⟨some 2,.assign (.const (.int .u32 0)),none⟩,asg 3 86]) (.ret))))))))))))))))))
theorem and127 {u:Nat} (h:u < 256):IntKind.u8.wrap ((BitVec.ofInt IntKind.u8.bits (u:Int) &&& BitVec.ofInt IntKind.u8.bits 127).toNat:Int)=((u % 128:Nat):Int):=by
  have e1:(BitVec.ofInt IntKind.u8.bits (u:Int)).toNat=u:=by
    rw [BitVec.ofInt_natCast,BitVec.toNat_ofNat]
    exact Nat.mod_eq_of_lt h
  have e2:(BitVec.ofInt IntKind.u8.bits 127).toNat=2 ^ 7 - 1:=by decide
  rw [BitVec.toNat_and,e1,e2,Nat.and_two_pow_sub_one_eq_mod]
  exact wrap_uN (k:=.u8) rfl (by simp only [IntKind.bits];omega)
set_option maxRecDepth 100000 in
theorem and128n:∀ n,n < 256→n &&& 128=if n < 128 then 0 else 128:=by decide
theorem and128 {u:Nat} (h:u < 256):IntKind.u8.wrap ((BitVec.ofInt IntKind.u8.bits (u:Int) &&& BitVec.ofInt IntKind.u8.bits 128).toNat:Int)=if u < 128 then 0 else 128:=by
  have e1:(BitVec.ofInt IntKind.u8.bits (u:Int)).toNat=u:=by
    rw [BitVec.ofInt_natCast,BitVec.toNat_ofNat]
    exact Nat.mod_eq_of_lt h
  have e2:(BitVec.ofInt IntKind.u8.bits 128).toNat=128:=by decide
  rw [BitVec.toNat_and,e1,e2]
  rw [and128n u h]
  split <;> decide
def UvC (P:Program) (F:Nat):Prop:=FnOK P F∧∀ (w:World) (S:Option Nat) (base:Option Addr) (rest:Bytes) (cap:Nat),SrcAt w S base rest →
  Calls P F #[.slice base rest.length cap] w fun e w'=>w'=w∧∃ (x:Nat) (n:Int),e=.returned (.tuple #[.int .u32 (x:Int),.int .i64 n]) ∧
    match pUv rest with
    | some (y,r)=>x=y∧n=((rest.length - r.length:Nat):Int)∧0 < n∧r=rest.drop (rest.length - r.length)
    | none=>x=0∧n≤0
section
variable {P:Program} {R:RTy} {f:FuncId} {fn:Func}
theorem uvC {T3 T4 : Nat} (hR : rdOK P R = true) (hi3 : intK P T3 = some .u32) (hf : P.funcs[f]? = some fn) (hb : fn.body.map strip = some (sc_KUvarint R.TB R.I R.U8 T3 T4)) (hnm : (fn.name == "runtime.NumGoroutine") = false) (hn : fn.ntmps = 87) (hr : fn.results = #[.tmp 2, .tmp 3]) : UvC P f := by
  have hst:=rd_facts hR
  refine ⟨fnOK_of hf hb hnm,fun w S base rest cap hsr=>?_⟩
  refine fCa hf hb hn (by simp) fun a0 hs hd ha=>?_
  have h0:=ha 0 _ rfl
  simp only [List.getElem_toArray,List.getElem_cons_zero,List.getElem_cons_succ] at h0
  have fin:∀ (a:Act) (x:Nat) (n:Int),a.defers=[]→getT a 2=.int .u32 (x:Int)→getT a 3=.int .i64 n→(match pUv rest with | some (y,r)=>x=y∧n=((rest.length - r.length:Nat):Int)∧0 < n∧r=rest.drop (rest.length - r.length) | none=>x=0∧n≤0) →
      bodyPost P fn (fun e w'=>w'=w∧∃ (x:Nat) (n:Int),e=.returned (.tuple #[.int .u32 (x:Int),.int .i64 n])∧match pUv rest with | some (y,r)=>x=y∧n=((rest.length - r.length:Nat):Int)∧0 < n∧r=rest.drop (rest.length - r.length) | none=>x=0∧n≤0) .ret a w:=by
    intro a x n q1 q2 q3 q4
    refine bodyPost_ret_by (v:=.tuple #[.int .u32 (x:Int),.int .i64 n]) ?_ q1 ⟨rfl,x,n,rfl,q4⟩
    have e2:a.tmps.getD 2 undef=.int .u32 (x:Int):=q2
    have e3:a.tmps.getD 3 undef=.int .i64 n:=q3
    simp only [Array.getD_eq_getD_getElem?] at e2 e3
    simp [results,hr,e2,e3]
  refine SC.wp_seq (SC.wp_reg ?_)
  repeat (apply ops_1;(focus (simp (disch:=(try simp only [sPu]);omega) ;try rfl)))
  refine oNi ?_
  simp only [Exit.then]
  refine SC.wp_scope 0 (fun a w'=>a.tmps.size=87∧a.defers=[]∧(∃ n:Int,n≤0∧getT a 5=.int .i64 n)∧w'=w∧pUv rest=none) rfl ?_ ?_
  rotate_left 1
  · rintro a w' ⟨z1,z2,⟨n,z3,z4⟩,rfl,z5⟩
    refine SC.wp_seq (SC.wp_skip ?_)
    simp only [Exit.then]
    refine SC.wp_seq (SC.wp_reg ?_)
    repeat (apply ops_1;(focus (simp (disch:=(try simp only [sPu]);omega) [z4];try rfl)))
    refine oNi ?_
    simp only [Exit.then]
    refine SC.wp_ret ?_
    simp only [Exit.noGoto]
    exact fin _ 0 n (by simp [dPu,z2]) (by simp (disch:=(try simp only [sPu]);omega)) (by simp (disch:=(try simp only [sPu]);omega)) (by rw [z5];exact ⟨rfl,z3⟩)
  refine SC.wp_seq (SC.wp_reg ?_)
  repeat (apply ops_1;(focus (simp (disch:=(try simp only [sPu]);omega) ;try rfl)))
  refine oNi ?_
  simp only [Exit.then]
  refine SC.wp_seq (SC.wp_reg ?_)
  repeat (apply ops_1;(focus (simp (disch:=(try simp only [sPu]);omega) ;try rfl)))
  refine oNi ?_
  simp only [Exit.then]
  refine SC.wp_seq (SC.wp_seq (SC.wp_reg ?_))
  repeat (apply ops_1;(focus (simp (disch:=(try simp only [sPu]);omega) [hst,h0];try rfl)))
  refine oNi ?_
  simp only [Exit.then]
  refine SC.wp_cond (t:=decide ((rest.length:Int) < 1)) (by simp (disch:=(try simp only [sPu]);omega)) ?_
  cases rest with
  | nil =>
    rw [if_pos (by simp)]
    refine SC.wp_goto ?_
    simp only [Exit.then,Exit.jump]
    exact ⟨trivial,by simp [sPu,hs],by simp [dPu,hd],⟨0,by decide,by simp (disch:=(try simp only [sPu]);omega)⟩,trivial,rfl⟩
  | cons u0 r0 =>
  rw [if_neg (by simp;omega)]
  refine SC.wp_skip ?_
  simp only [Exit.then]
  obtain ⟨sb,q,rfl,rfl,hby⟩:=src_head hsr (k:=(u0 :: r0).length) (Nat.le_refl _) (by simp)
  rw [List.take_length] at hby
  have l0:0 < (u0 :: r0).length:=by simp
  have c0:=hby 0 u0 rfl
  simp only [cell,Nat.add_zero] at c0
  have b0:=u0.toNat_lt
  have a0:=and127 (u:=u0.toNat) b0
  have z0:=and128 (u:=u0.toNat) b0
  have k0:=wrap_uN (k:=.u32) rfl (n:=u0.toNat % 128) (by simp only [IntKind.bits];omega)
  refine SC.wp_seq (SC.wp_reg ?_)
  repeat (apply ops_1;(focus (simp (disch:=(try simp only [sPu]);omega) [hst,hi3,h0,l0,c0,a0,k0,-Int.natCast_emod,-List.length_cons,-BitVec.toNat_or,-BitVec.ofInt_natCast,-BitVec.ofInt_ofNat,-BitVec.toNat_ofInt,-BitVec.toNat_ofNat,-BitVec.toNat_and];try rfl)))
  refine oNi ?_
  simp only [Exit.then]
  refine gen_act (fun a=>a.tmps.size=87∧a.defers=[]∧getT a 0=.slice (some ⟨sb,q,none⟩) (u0 :: r0).length cap∧getT a 5=.int .i64 0∧getT a 4=.int .u32 (((u0.toNat % 128:Nat):Int))) ⟨by simp [sPu,hs],by simp [dPu,hd],by simp (disch:=(try simp only [sPu]);omega) [h0],by simp (disch:=(try simp only [sPu]);omega),by simp (disch:=(try simp only [sPu]);omega) [-Int.natCast_emod,-List.length_cons,-BitVec.toNat_or,-BitVec.ofInt_natCast,-BitVec.ofInt_ofNat,-BitVec.toNat_ofInt,-BitVec.toNat_ofNat,-BitVec.toNat_and]⟩ fun a1 ⟨p0s,p0d,p00,p05,x0⟩=>?_
  refine SC.wp_seq (SC.wp_seq (SC.wp_reg ?_))
  repeat (apply ops_1;(focus (simp (disch:=(try simp only [sPu]);omega) [hst,p00,l0,c0,z0,-List.length_cons,-BitVec.toNat_or,-BitVec.ofInt_natCast,-BitVec.ofInt_ofNat,-BitVec.toNat_ofInt,-BitVec.toNat_ofNat,-BitVec.toNat_and];try rfl)))
  refine oNi ?_
  simp only [Exit.then]
  refine SC.wp_cond (t:=decide (u0.toNat < 128)) (by
    simp (disch:=(try simp only [sPu]);omega) [-List.length_cons,-BitVec.toNat_or,-BitVec.ofInt_natCast,-BitVec.ofInt_ofNat,-BitVec.toNat_ofInt,-BitVec.toNat_ofNat,-BitVec.toNat_and]
    split <;> simp_all) ?_
  by_cases hu0:u0.toNat < 128
  · rw [if_pos (by simpa using hu0)]
    refine SC.wp_seq (SC.wp_reg ?_)
    repeat (apply ops_1;(focus (simp (disch:=(try simp only [sPu]);omega) [x0];try rfl)))
    refine oNi ?_
    simp only [Exit.then]
    refine SC.wp_ret ?_
    simp only [Exit.then,Exit.jump]
    refine fin _ (u0.toNat % 128) 1 (by simp [dPu,p0d]) (by simp (disch:=(try simp only [sPu]);omega) [-Int.natCast_emod,-List.length_cons,-BitVec.toNat_or,-BitVec.ofInt_natCast,-BitVec.ofInt_ofNat,-BitVec.toNat_ofInt,-BitVec.toNat_ofNat,-BitVec.toNat_and];try omega) (by simp (disch:=(try simp only [sPu]);omega)) ?_
    have hp:pUv (u0 :: r0)=some (u0.toNat % 128,r0):=by
      simp only [pUv,pUvGo,hu0,if_true,if_false,Option.map_some,Option.some.injEq,Prod.mk.injEq,and_true]
      omega
    rw [hp]
    refine ⟨rfl,?_,by decide,?_⟩
    · simp only [List.length_cons]
      omega
    · rw [show (u0 :: r0).length - r0.length=1 by simp only [List.length_cons];omega]
      rfl
  · rw [if_neg (by simpa using hu0)]
    refine SC.wp_seq (SC.wp_reg ?_)
    repeat (apply ops_1;(focus (simp (disch:=(try simp only [sPu]);omega) [hst,p00];try rfl)))
    refine oNi ?_
    simp only [Exit.then]
    refine SC.wp_cond (t:=decide (((u0 :: r0).length:Int) < 2)) (by simp (disch:=(try simp only [sPu]);omega)) ?_
    cases r0 with
    | nil =>
      rw [if_pos (by simp)]
      refine SC.wp_goto ?_
      simp only [Exit.then,Exit.jump]
      refine ⟨trivial,by simp [sPu,p0s],by simp [dPu,p0d],⟨0,by decide,by simp (disch:=(try simp only [sPu]);omega) [p05]⟩,trivial,?_⟩
      simp [pUv,pUvGo,hu0]
    | cons u1 r1 =>
    rw [if_neg (by simp;omega)]
    refine SC.wp_skip ?_
    simp only [Exit.then]
    refine gen_act (fun a=>a.tmps.size=87∧a.defers=[]∧getT a 0=.slice (some ⟨sb,q,none⟩) (u0 :: u1 :: r1).length cap∧getT a 5=.int .i64 0∧getT a 4=.int .u32 (((u0.toNat % 128:Nat):Int))) ⟨by simp [sPu,p0s],by simp [dPu,p0d],by simp (disch:=(try simp only [sPu]);omega) [p00],by simp (disch:=(try simp only [sPu]);omega) [p05],by simp (disch:=(try simp only [sPu]);omega) [x0,-Int.natCast_emod]⟩ ?_
    clear p0s p0d p00 p05 x0
    intro a1 ⟨p0s,p0d,h0,p05,x0⟩
    have l1:(1:Int) < ((u0 :: u1 :: r1).length:Int):=by simp only [List.length_cons];omega
    have c1:=hby 1 u1 rfl
    simp only [cell,Nat.add_zero] at c1
    have b1:=u1.toNat_lt
    have a1:=and127 (u:=u1.toNat) b1
    have z1:=and128 (u:=u1.toNat) b1
    have k1:=wrap_uN (k:=.u32) rfl (n:=u1.toNat % 128) (by simp only [IntKind.bits];omega)
    have s1:IntKind.u32.wrap (((u1.toNat % 128:Nat):Int) * 128)=((u1.toNat % 128:Nat):Int) * 128:=by
      have:=wrap_uN (k:=.u32) rfl (n:=u1.toNat % 128 * 128) (by simp only [IntKind.bits];omega)
      simpa using this
    have o1:IntKind.u32.wrap ((BitVec.ofInt IntKind.u32.bits (((u0.toNat % 128:Nat):Int)) ||| BitVec.ofInt IntKind.u32.bits (((u1.toNat % 128:Nat):Int) * 128)).toNat:Int)=((u0.toNat % 128:Nat):Int)+((u1.toNat % 128:Nat):Int) * 128:=by
      rw [or_add2 (a:=u0.toNat % 128) (b:=u1.toNat % 128) (s:=7) (by omega) (by omega) (by omega) (by simp only [IntKind.bits];omega),wrap_uN (k:=.u32) rfl (n:=u0.toNat % 128+u1.toNat % 128 * 2 ^ 7) (by simp only [IntKind.bits];omega)]
      omega
    have e1:7≤IntKind.u32.bits:=by decide
    refine SC.wp_seq (SC.wp_reg ?_)
    repeat (apply ops_1;(focus (simp (disch:=(try simp only [sPu]);omega) [hst,hi3,h0,l1,c1,a1,k1,s1,o1,e1,x0,-Int.natCast_emod,-List.length_cons,-BitVec.toNat_or,-BitVec.ofInt_natCast,-BitVec.ofInt_ofNat,-BitVec.toNat_ofInt,-BitVec.toNat_ofNat,-BitVec.toNat_and];try rfl)))
    refine oNi ?_
    simp only [Exit.then]
    refine gen_act (fun a=>a.tmps.size=87∧a.defers=[]∧getT a 0=.slice (some ⟨sb,q,none⟩) (u0 :: u1 :: r1).length cap∧getT a 5=.int .i64 0∧getT a 4=.int .u32 (((u0.toNat % 128:Nat):Int)+((u1.toNat % 128:Nat):Int) * 128)) ⟨by simp [sPu,p0s],by simp [dPu,p0d],by simp (disch:=(try simp only [sPu]);omega) [h0],by simp (disch:=(try simp only [sPu]);omega) [p05],by simp (disch:=(try simp only [sPu]);omega) [-Int.natCast_emod,-List.length_cons,-BitVec.toNat_or,-BitVec.ofInt_natCast,-BitVec.ofInt_ofNat,-BitVec.toNat_ofInt,-BitVec.toNat_ofNat,-BitVec.toNat_and]⟩ fun a2 ⟨p1s,p1d,p10,p15,x1⟩=>?_
    refine SC.wp_seq (SC.wp_seq (SC.wp_reg ?_))
    repeat (apply ops_1;(focus (simp (disch:=(try simp only [sPu]);omega) [hst,p10,l1,c1,z1,-List.length_cons,-BitVec.toNat_or,-BitVec.ofInt_natCast,-BitVec.ofInt_ofNat,-BitVec.toNat_ofInt,-BitVec.toNat_ofNat,-BitVec.toNat_and];try rfl)))
    refine oNi ?_
    simp only [Exit.then]
    refine SC.wp_cond (t:=decide (u1.toNat < 128)) (by
      simp (disch:=(try simp only [sPu]);omega) [-List.length_cons,-BitVec.toNat_or,-BitVec.ofInt_natCast,-BitVec.ofInt_ofNat,-BitVec.toNat_ofInt,-BitVec.toNat_ofNat,-BitVec.toNat_and]
      split <;> simp_all) ?_
    by_cases hu1:u1.toNat < 128
    · rw [if_pos (by simpa using hu1)]
      refine SC.wp_seq (SC.wp_reg ?_)
      repeat (apply ops_1;(focus (simp (disch:=(try simp only [sPu]);omega) [x1];try rfl)))
      refine oNi ?_
      simp only [Exit.then]
      refine SC.wp_ret ?_
      simp only [Exit.then,Exit.jump]
      refine fin _ (u0.toNat % 128+u1.toNat % 128 * 128) 2 (by simp [dPu,p1d]) (by simp (disch:=(try simp only [sPu]);omega) [-Int.natCast_emod,-List.length_cons,-BitVec.toNat_or,-BitVec.ofInt_natCast,-BitVec.ofInt_ofNat,-BitVec.toNat_ofInt,-BitVec.toNat_ofNat,-BitVec.toNat_and];try omega) (by simp (disch:=(try simp only [sPu]);omega)) ?_
      have hp:pUv (u0 :: u1 :: r1)=some (u0.toNat % 128+u1.toNat % 128 * 128,r1):=by
        simp only [pUv,pUvGo,hu0,hu1,if_true,if_false,Option.map_some,Option.some.injEq,Prod.mk.injEq,and_true]
        omega
      rw [hp]
      refine ⟨rfl,?_,by decide,?_⟩
      · simp only [List.length_cons]
        omega
      · rw [show (u0 :: u1 :: r1).length - r1.length=2 by simp only [List.length_cons];omega]
        rfl
    · rw [if_neg (by simpa using hu1)]
      refine SC.wp_seq (SC.wp_reg ?_)
      repeat (apply ops_1;(focus (simp (disch:=(try simp only [sPu]);omega) [hst,p10];try rfl)))
      refine oNi ?_
      simp only [Exit.then]
      refine SC.wp_cond (t:=decide (((u0 :: u1 :: r1).length:Int) < 3)) (by simp (disch:=(try simp only [sPu]);omega)) ?_
      cases r1 with
      | nil =>
        rw [if_pos (by simp)]
        refine SC.wp_goto ?_
        simp only [Exit.then,Exit.jump]
        refine ⟨trivial,by simp [sPu,p1s],by simp [dPu,p1d],⟨0,by decide,by simp (disch:=(try simp only [sPu]);omega) [p15]⟩,trivial,?_⟩
        simp [pUv,pUvGo,hu0,hu1]
      | cons u2 r2 =>
      rw [if_neg (by simp;omega)]
      refine SC.wp_skip ?_
      simp only [Exit.then]
      refine gen_act (fun a=>a.tmps.size=87∧a.defers=[]∧getT a 0=.slice (some ⟨sb,q,none⟩) (u0 :: u1 :: u2 :: r2).length cap∧getT a 5=.int .i64 0∧getT a 4=.int .u32 (((u0.toNat % 128:Nat):Int)+((u1.toNat % 128:Nat):Int) * 128)) ⟨by simp [sPu,p1s],by simp [dPu,p1d],by simp (disch:=(try simp only [sPu]);omega) [p10],by simp (disch:=(try simp only [sPu]);omega) [p15],by simp (disch:=(try simp only [sPu]);omega) [x1,-Int.natCast_emod]⟩ ?_
      clear p1s p1d p10 p15 x1
      intro a2 ⟨p1s,p1d,h0,p15,x1⟩
      have l2:(2:Int) < ((u0 :: u1 :: u2 :: r2).length:Int):=by simp only [List.length_cons];omega
      have c2:=hby 2 u2 rfl
      simp only [cell,Nat.add_zero] at c2
      have b2:=u2.toNat_lt
      have a2:=and127 (u:=u2.toNat) b2
      have z2:=and128 (u:=u2.toNat) b2
      have k2:=wrap_uN (k:=.u32) rfl (n:=u2.toNat % 128) (by simp only [IntKind.bits];omega)
      have s2:IntKind.u32.wrap (((u2.toNat % 128:Nat):Int) * 16384)=((u2.toNat % 128:Nat):Int) * 16384:=by
        have:=wrap_uN (k:=.u32) rfl (n:=u2.toNat % 128 * 16384) (by simp only [IntKind.bits];omega)
        simpa using this
      have o2:IntKind.u32.wrap ((BitVec.ofInt IntKind.u32.bits (((u0.toNat % 128:Nat):Int)+((u1.toNat % 128:Nat):Int) * 128) ||| BitVec.ofInt IntKind.u32.bits (((u2.toNat % 128:Nat):Int) * 16384)).toNat:Int)=((u0.toNat % 128:Nat):Int)+((u1.toNat % 128:Nat):Int) * 128+((u2.toNat % 128:Nat):Int) * 16384:=by
        rw [or_add2 (a:=u0.toNat % 128+u1.toNat % 128 * 128) (b:=u2.toNat % 128) (s:=14) (by omega) (by omega) (by omega) (by simp only [IntKind.bits];omega),wrap_uN (k:=.u32) rfl (n:=u0.toNat % 128+u1.toNat % 128 * 128+u2.toNat % 128 * 2 ^ 14) (by simp only [IntKind.bits];omega)]
        omega
      have e2:14≤IntKind.u32.bits:=by decide
      refine SC.wp_seq (SC.wp_reg ?_)
      repeat (apply ops_1;(focus (simp (disch:=(try simp only [sPu]);omega) [hst,hi3,h0,l2,c2,a2,k2,s2,o2,e2,x1,-Int.natCast_emod,-List.length_cons,-BitVec.toNat_or,-BitVec.ofInt_natCast,-BitVec.ofInt_ofNat,-BitVec.toNat_ofInt,-BitVec.toNat_ofNat,-BitVec.toNat_and];try rfl)))
      refine oNi ?_
      simp only [Exit.then]
      refine gen_act (fun a=>a.tmps.size=87∧a.defers=[]∧getT a 0=.slice (some ⟨sb,q,none⟩) (u0 :: u1 :: u2 :: r2).length cap∧getT a 5=.int .i64 0∧getT a 4=.int .u32 (((u0.toNat % 128:Nat):Int)+((u1.toNat % 128:Nat):Int) * 128+((u2.toNat % 128:Nat):Int) * 16384)) ⟨by simp [sPu,p1s],by simp [dPu,p1d],by simp (disch:=(try simp only [sPu]);omega) [h0],by simp (disch:=(try simp only [sPu]);omega) [p15],by simp (disch:=(try simp only [sPu]);omega) [-Int.natCast_emod,-List.length_cons,-BitVec.toNat_or,-BitVec.ofInt_natCast,-BitVec.ofInt_ofNat,-BitVec.toNat_ofInt,-BitVec.toNat_ofNat,-BitVec.toNat_and]⟩ fun a3 ⟨p2s,p2d,p20,p25,x2⟩=>?_
      refine SC.wp_seq (SC.wp_seq (SC.wp_reg ?_))
      repeat (apply ops_1;(focus (simp (disch:=(try simp only [sPu]);omega) [hst,p20,l2,c2,z2,-List.length_cons,-BitVec.toNat_or,-BitVec.ofInt_natCast,-BitVec.ofInt_ofNat,-BitVec.toNat_ofInt,-BitVec.toNat_ofNat,-BitVec.toNat_and];try rfl)))
      refine oNi ?_
      simp only [Exit.then]
      refine SC.wp_cond (t:=decide (u2.toNat < 128)) (by
        simp (disch:=(try simp only [sPu]);omega) [-List.length_cons,-BitVec.toNat_or,-BitVec.ofInt_natCast,-BitVec.ofInt_ofNat,-BitVec.toNat_ofInt,-BitVec.toNat_ofNat,-BitVec.toNat_and]
        split <;> simp_all) ?_
      by_cases hu2:u2.toNat < 128
      · rw [if_pos (by simpa using hu2)]
        refine SC.wp_seq (SC.wp_reg ?_)
        repeat (apply ops_1;(focus (simp (disch:=(try simp only [sPu]);omega) [x2];try rfl)))
        refine oNi ?_
        simp only [Exit.then]
        refine SC.wp_ret ?_
        simp only [Exit.then,Exit.jump]
        refine fin _ (u0.toNat % 128+u1.toNat % 128 * 128+u2.toNat % 128 * 16384) 3 (by simp [dPu,p2d]) (by simp (disch:=(try simp only [sPu]);omega) [-Int.natCast_emod,-List.length_cons,-BitVec.toNat_or,-BitVec.ofInt_natCast,-BitVec.ofInt_ofNat,-BitVec.toNat_ofInt,-BitVec.toNat_ofNat,-BitVec.toNat_and];try omega) (by simp (disch:=(try simp only [sPu]);omega)) ?_
        have hp:pUv (u0 :: u1 :: u2 :: r2)=some (u0.toNat % 128+u1.toNat % 128 * 128+u2.toNat % 128 * 16384,r2):=by
          simp only [pUv,pUvGo,hu0,hu1,hu2,if_true,if_false,Option.map_some,Option.some.injEq,Prod.mk.injEq,and_true]
          omega
        rw [hp]
        refine ⟨rfl,?_,by decide,?_⟩
        · simp only [List.length_cons]
          omega
        · rw [show (u0 :: u1 :: u2 :: r2).length - r2.length=3 by simp only [List.length_cons];omega]
          rfl
      · rw [if_neg (by simpa using hu2)]
        refine SC.wp_seq (SC.wp_reg ?_)
        repeat (apply ops_1;(focus (simp (disch:=(try simp only [sPu]);omega) [hst,p20];try rfl)))
        refine oNi ?_
        simp only [Exit.then]
        refine SC.wp_cond (t:=decide (((u0 :: u1 :: u2 :: r2).length:Int) < 4)) (by simp (disch:=(try simp only [sPu]);omega)) ?_
        cases r2 with
        | nil =>
          rw [if_pos (by simp)]
          refine SC.wp_goto ?_
          simp only [Exit.then,Exit.jump]
          refine ⟨trivial,by simp [sPu,p2s],by simp [dPu,p2d],⟨0,by decide,by simp (disch:=(try simp only [sPu]);omega) [p25]⟩,trivial,?_⟩
          simp [pUv,pUvGo,hu0,hu1,hu2]
        | cons u3 r3 =>
        rw [if_neg (by simp;omega)]
        refine SC.wp_skip ?_
        simp only [Exit.then]
        refine gen_act (fun a=>a.tmps.size=87∧a.defers=[]∧getT a 0=.slice (some ⟨sb,q,none⟩) (u0 :: u1 :: u2 :: u3 :: r3).length cap∧getT a 5=.int .i64 0∧getT a 4=.int .u32 (((u0.toNat % 128:Nat):Int)+((u1.toNat % 128:Nat):Int) * 128+((u2.toNat % 128:Nat):Int) * 16384)) ⟨by simp [sPu,p2s],by simp [dPu,p2d],by simp (disch:=(try simp only [sPu]);omega) [p20],by simp (disch:=(try simp only [sPu]);omega) [p25],by simp (disch:=(try simp only [sPu]);omega) [x2,-Int.natCast_emod]⟩ ?_
        clear p2s p2d p20 p25 x2
        intro a3 ⟨p2s,p2d,h0,p25,x2⟩
        have l3:(3:Int) < ((u0 :: u1 :: u2 :: u3 :: r3).length:Int):=by simp only [List.length_cons];omega
        have c3:=hby 3 u3 rfl
        simp only [cell,Nat.add_zero] at c3
        have b3:=u3.toNat_lt
        have a3:=and127 (u:=u3.toNat) b3
        have z3:=and128 (u:=u3.toNat) b3
        have k3:=wrap_uN (k:=.u32) rfl (n:=u3.toNat % 128) (by simp only [IntKind.bits];omega)
        have s3:IntKind.u32.wrap (((u3.toNat % 128:Nat):Int) * 2097152)=((u3.toNat % 128:Nat):Int) * 2097152:=by
          have:=wrap_uN (k:=.u32) rfl (n:=u3.toNat % 128 * 2097152) (by simp only [IntKind.bits];omega)
          simpa using this
        have o3:IntKind.u32.wrap ((BitVec.ofInt IntKind.u32.bits (((u0.toNat % 128:Nat):Int)+((u1.toNat % 128:Nat):Int) * 128+((u2.toNat % 128:Nat):Int) * 16384) ||| BitVec.ofInt IntKind.u32.bits (((u3.toNat % 128:Nat):Int) * 2097152)).toNat:Int)=((u0.toNat % 128:Nat):Int)+((u1.toNat % 128:Nat):Int) * 128+((u2.toNat % 128:Nat):Int) * 16384+((u3.toNat % 128:Nat):Int) * 2097152:=by
          rw [or_add2 (a:=u0.toNat % 128+u1.toNat % 128 * 128+u2.toNat % 128 * 16384) (b:=u3.toNat % 128) (s:=21) (by omega) (by omega) (by omega) (by simp only [IntKind.bits];omega),wrap_uN (k:=.u32) rfl (n:=u0.toNat % 128+u1.toNat % 128 * 128+u2.toNat % 128 * 16384+u3.toNat % 128 * 2 ^ 21) (by simp only [IntKind.bits];omega)]
          omega
        have e3:21≤IntKind.u32.bits:=by decide
        refine SC.wp_seq (SC.wp_reg ?_)
        repeat (apply ops_1;(focus (simp (disch:=(try simp only [sPu]);omega) [hst,hi3,h0,l3,c3,a3,k3,s3,o3,e3,x2,-Int.natCast_emod,-List.length_cons,-BitVec.toNat_or,-BitVec.ofInt_natCast,-BitVec.ofInt_ofNat,-BitVec.toNat_ofInt,-BitVec.toNat_ofNat,-BitVec.toNat_and];try rfl)))
        refine oNi ?_
        simp only [Exit.then]
        refine gen_act (fun a=>a.tmps.size=87∧a.defers=[]∧getT a 0=.slice (some ⟨sb,q,none⟩) (u0 :: u1 :: u2 :: u3 :: r3).length cap∧getT a 5=.int .i64 0∧getT a 4=.int .u32 (((u0.toNat % 128:Nat):Int)+((u1.toNat % 128:Nat):Int) * 128+((u2.toNat % 128:Nat):Int) * 16384+((u3.toNat % 128:Nat):Int) * 2097152)) ⟨by simp [sPu,p2s],by simp [dPu,p2d],by simp (disch:=(try simp only [sPu]);omega) [h0],by simp (disch:=(try simp only [sPu]);omega) [p25],by simp (disch:=(try simp only [sPu]);omega) [-Int.natCast_emod,-List.length_cons,-BitVec.toNat_or,-BitVec.ofInt_natCast,-BitVec.ofInt_ofNat,-BitVec.toNat_ofInt,-BitVec.toNat_ofNat,-BitVec.toNat_and]⟩ fun a4 ⟨p3s,p3d,p30,p35,x3⟩=>?_
        refine SC.wp_seq (SC.wp_seq (SC.wp_reg ?_))
        repeat (apply ops_1;(focus (simp (disch:=(try simp only [sPu]);omega) [hst,p30,l3,c3,z3,-List.length_cons,-BitVec.toNat_or,-BitVec.ofInt_natCast,-BitVec.ofInt_ofNat,-BitVec.toNat_ofInt,-BitVec.toNat_ofNat,-BitVec.toNat_and];try rfl)))
        refine oNi ?_
        simp only [Exit.then]
        refine SC.wp_cond (t:=decide (u3.toNat < 128)) (by
          simp (disch:=(try simp only [sPu]);omega) [-List.length_cons,-BitVec.toNat_or,-BitVec.ofInt_natCast,-BitVec.ofInt_ofNat,-BitVec.toNat_ofInt,-BitVec.toNat_ofNat,-BitVec.toNat_and]
          split <;> simp_all) ?_
        by_cases hu3:u3.toNat < 128
        · rw [if_pos (by simpa using hu3)]
          refine SC.wp_seq (SC.wp_reg ?_)
          repeat (apply ops_1;(focus (simp (disch:=(try simp only [sPu]);omega) [x3];try rfl)))
          refine oNi ?_
          simp only [Exit.then]
          refine SC.wp_ret ?_
          simp only [Exit.then,Exit.jump]
          refine fin _ (u0.toNat % 128+u1.toNat % 128 * 128+u2.toNat % 128 * 16384+u3.toNat % 128 * 2097152) 4 (by simp [dPu,p3d]) (by simp (disch:=(try simp only [sPu]);omega) [-Int.natCast_emod,-List.length_cons,-BitVec.toNat_or,-BitVec.ofInt_natCast,-BitVec.ofInt_ofNat,-BitVec.toNat_ofInt,-BitVec.toNat_ofNat,-BitVec.toNat_and];try omega) (by simp (disch:=(try simp only [sPu]);omega)) ?_
          have hp:pUv (u0 :: u1 :: u2 :: u3 :: r3)=some (u0.toNat % 128+u1.toNat % 128 * 128+u2.toNat % 128 * 16384+u3.toNat % 128 * 2097152,r3):=by
            simp only [pUv,pUvGo,hu0,hu1,hu2,hu3,if_true,if_false,Option.map_some,Option.some.injEq,Prod.mk.injEq,and_true]
            omega
          rw [hp]
          refine ⟨rfl,?_,by decide,?_⟩
          · simp only [List.length_cons]
            omega
          · rw [show (u0 :: u1 :: u2 :: u3 :: r3).length - r3.length=4 by simp only [List.length_cons];omega]
            rfl
        · rw [if_neg (by simpa using hu3)]
          refine SC.wp_seq (SC.wp_reg ?_)
          repeat (apply ops_1;(focus (simp (disch:=(try simp only [sPu]);omega) [hst,p30];try rfl)))
          refine oNi ?_
          simp only [Exit.then]
          refine SC.wp_cond (t:=decide (((u0 :: u1 :: u2 :: u3 :: r3).length:Int) < 5)) (by simp (disch:=(try simp only [sPu]);omega)) ?_
          cases r3 with
          | nil =>
            rw [if_pos (by simp)]
            refine SC.wp_goto ?_
            simp only [Exit.then,Exit.jump]
            refine ⟨trivial,by simp [sPu,p3s],by simp [dPu,p3d],⟨0,by decide,by simp (disch:=(try simp only [sPu]);omega) [p35]⟩,trivial,?_⟩
            simp [pUv,pUvGo,hu0,hu1,hu2,hu3]
          | cons u4 r4 =>
          rw [if_neg (by simp;omega)]
          refine SC.wp_skip ?_
          simp only [Exit.then]
          refine gen_act (fun a=>a.tmps.size=87∧a.defers=[]∧getT a 0=.slice (some ⟨sb,q,none⟩) (u0 :: u1 :: u2 :: u3 :: u4 :: r4).length cap∧getT a 5=.int .i64 0∧getT a 4=.int .u32 (((u0.toNat % 128:Nat):Int)+((u1.toNat % 128:Nat):Int) * 128+((u2.toNat % 128:Nat):Int) * 16384+((u3.toNat % 128:Nat):Int) * 2097152)) ⟨by simp [sPu,p3s],by simp [dPu,p3d],by simp (disch:=(try simp only [sPu]);omega) [p30],by simp (disch:=(try simp only [sPu]);omega) [p35],by simp (disch:=(try simp only [sPu]);omega) [x3,-Int.natCast_emod]⟩ ?_
          clear p3s p3d p30 p35 x3
          intro a4 ⟨p3s,p3d,h0,p35,x3⟩
          have l4:(4:Int) < ((u0 :: u1 :: u2 :: u3 :: u4 :: r4).length:Int):=by simp only [List.length_cons];omega
          have c4:=hby 4 u4 rfl
          simp only [cell,Nat.add_zero] at c4
          have b4:=u4.toNat_lt
          have k4:=wrap_uN (k:=.u32) rfl (n:=u4.toNat) (by simp only [IntKind.bits];omega)
          have e4:28≤IntKind.u32.bits:=by decide
          by_cases hu4:u4.toNat≤15
          · have s4:IntKind.u32.wrap ((u4.toNat:Int) * 268435456)=(u4.toNat:Int) * 268435456:=by
              have:=wrap_uN (k:=.u32) rfl (n:=u4.toNat * 268435456) (by simp only [IntKind.bits];omega)
              simpa using this
            have o4:IntKind.u32.wrap ((BitVec.ofInt IntKind.u32.bits (((u0.toNat % 128:Nat):Int)+((u1.toNat % 128:Nat):Int) * 128+((u2.toNat % 128:Nat):Int) * 16384+((u3.toNat % 128:Nat):Int) * 2097152) ||| BitVec.ofInt IntKind.u32.bits ((u4.toNat:Int) * 268435456)).toNat:Int)=((u0.toNat % 128:Nat):Int)+((u1.toNat % 128:Nat):Int) * 128+((u2.toNat % 128:Nat):Int) * 16384+((u3.toNat % 128:Nat):Int) * 2097152+(u4.toNat:Int) * 268435456:=by
              rw [or_add2 (a:=u0.toNat % 128+u1.toNat % 128 * 128+u2.toNat % 128 * 16384+u3.toNat % 128 * 2097152) (b:=u4.toNat) (s:=28) (by omega) (by omega) (by omega) (by simp only [IntKind.bits];omega),wrap_uN (k:=.u32) rfl (n:=u0.toNat % 128+u1.toNat % 128 * 128+u2.toNat % 128 * 16384+u3.toNat % 128 * 2097152+u4.toNat * 2 ^ 28) (by simp only [IntKind.bits];omega)]
              omega
            refine SC.wp_seq (SC.wp_reg ?_)
            repeat (apply ops_1;(focus (simp (disch:=(try simp only [sPu]);omega) [hst,hi3,h0,l4,c4,k4,s4,o4,e4,x3,-Int.natCast_emod,-List.length_cons,-BitVec.toNat_or,-BitVec.ofInt_natCast,-BitVec.ofInt_ofNat,-BitVec.toNat_ofInt,-BitVec.toNat_ofNat,-BitVec.toNat_and];try rfl)))
            refine oNi ?_
            simp only [Exit.then]
            have hle:decide ((u4.toNat:Int)≤15)=true:=decide_eq_true (by omega)
            refine SC.wp_seq (SC.wp_seq (SC.wp_reg ?_))
            repeat (apply ops_1;(focus (simp (disch:=(try simp only [sPu]);omega) [hst,h0,l4,c4,hle,-List.length_cons,-BitVec.toNat_or,-BitVec.ofInt_natCast,-BitVec.ofInt_ofNat,-BitVec.toNat_ofInt,-BitVec.toNat_ofNat,-BitVec.toNat_and];try rfl)))
            refine oNi ?_
            simp only [Exit.then]
            refine SC.wp_cond (t:=true) (by simp (disch:=(try simp only [sPu]);omega) [-List.length_cons,-BitVec.toNat_or,-BitVec.ofInt_natCast,-BitVec.ofInt_ofNat,-BitVec.toNat_ofInt,-BitVec.toNat_ofNat,-BitVec.toNat_and];try omega) ?_
            rw [if_pos rfl]
            refine SC.wp_seq (SC.wp_reg ?_)
            repeat (apply ops_1;(focus (simp (disch:=(try simp only [sPu]);omega) [-List.length_cons,-BitVec.toNat_or,-BitVec.ofInt_natCast,-BitVec.ofInt_ofNat,-BitVec.toNat_ofInt,-BitVec.toNat_ofNat,-BitVec.toNat_and];try rfl)))
            refine oNi ?_
            simp only [Exit.then]
            refine SC.wp_ret ?_
            simp only [Exit.then,Exit.jump]
            refine fin _ (u0.toNat % 128+u1.toNat % 128 * 128+u2.toNat % 128 * 16384+u3.toNat % 128 * 2097152+u4.toNat * 268435456) 5 (by simp [dPu,p3d]) (by simp (disch:=(try simp only [sPu]);omega) [-Int.natCast_emod,-List.length_cons,-BitVec.toNat_or,-BitVec.ofInt_natCast,-BitVec.ofInt_ofNat,-BitVec.toNat_ofInt,-BitVec.toNat_ofNat,-BitVec.toNat_and];try omega) (by simp (disch:=(try simp only [sPu]);omega)) ?_
            have hp:pUv (u0 :: u1 :: u2 :: u3 :: u4 :: r4)=some (u0.toNat % 128+u1.toNat % 128 * 128+u2.toNat % 128 * 16384+u3.toNat % 128 * 2097152+u4.toNat * 268435456,r4):=by
              simp only [pUv,pUvGo,hu0,hu1,hu2,hu3,hu4,if_true,if_false,Option.map_some,Option.some.injEq,Prod.mk.injEq,and_true]
              omega
            rw [hp]
            refine ⟨rfl,?_,by decide,?_⟩
            · simp only [List.length_cons]
              omega
            · rw [show (u0 :: u1 :: u2 :: u3 :: u4 :: r4).length - r4.length=5 by simp only [List.length_cons];omega]
              rfl
          · refine SC.wp_seq (SC.wp_reg ?_)
            repeat (apply ops_1;(focus (simp (disch:=(try simp only [sPu]);omega) [hst,hi3,h0,l4,c4,k4,e4,x3,-Int.natCast_emod,-List.length_cons,-BitVec.toNat_or,-BitVec.ofInt_natCast,-BitVec.ofInt_ofNat,-BitVec.toNat_ofInt,-BitVec.toNat_ofNat,-BitVec.toNat_and];try rfl)))
            refine oNi ?_
            simp only [Exit.then]
            have hle:decide ((u4.toNat:Int)≤15)=false:=decide_eq_false (by omega)
            refine SC.wp_seq (SC.wp_seq (SC.wp_reg ?_))
            repeat (apply ops_1;(focus (simp (disch:=(try simp only [sPu]);omega) [hst,h0,l4,c4,hle,-List.length_cons,-BitVec.toNat_or,-BitVec.ofInt_natCast,-BitVec.ofInt_ofNat,-BitVec.toNat_ofInt,-BitVec.toNat_ofNat,-BitVec.toNat_and];try rfl)))
            refine oNi ?_
            simp only [Exit.then]
            refine SC.wp_cond (t:=false) (by simp (disch:=(try simp only [sPu]);omega) [-List.length_cons,-BitVec.toNat_or,-BitVec.ofInt_natCast,-BitVec.ofInt_ofNat,-BitVec.toNat_ofInt,-BitVec.toNat_ofNat,-BitVec.toNat_and];try omega) ?_
            rw [if_neg (by simp)]
            refine SC.wp_skip ?_
            simp only [Exit.then]
            refine SC.wp_seq (SC.wp_reg ?_)
            repeat (apply ops_1;(focus (simp (disch:=(try simp only [sPu]);omega) [-List.length_cons,-BitVec.toNat_or,-BitVec.ofInt_natCast,-BitVec.ofInt_ofNat,-BitVec.toNat_ofInt,-BitVec.toNat_ofNat,-BitVec.toNat_and];try rfl)))
            refine oNi ?_
            simp only [Exit.then]
            refine SC.wp_seq (SC.wp_label ?_)
            simp only [Exit.then]
            refine SC.wp_seq (SC.wp_reg ?_)
            repeat (apply ops_1;(focus (simp (disch:=(try simp only [sPu]);omega) [-List.length_cons,-BitVec.toNat_or,-BitVec.ofInt_natCast,-BitVec.ofInt_ofNat,-BitVec.toNat_ofInt,-BitVec.toNat_ofNat,-BitVec.toNat_and];try rfl)))
            refine oNi ?_
            simp only [Exit.then]
            refine SC.wp_ret ?_
            simp only [Exit.then,Exit.jump]
            refine fin _ 0 (-5) (by simp [dPu,p3d]) (by simp (disch:=(try simp only [sPu]);omega) [-List.length_cons,-BitVec.toNat_or,-BitVec.ofInt_natCast,-BitVec.ofInt_ofNat,-BitVec.toNat_ofInt,-BitVec.toNat_ofNat,-BitVec.toNat_and]) (by simp (disch:=(try simp only [sPu]);omega) [-List.length_cons,-BitVec.toNat_or,-BitVec.ofInt_natCast,-BitVec.ofInt_ofNat,-BitVec.toNat_ofInt,-BitVec.toNat_ofNat,-BitVec.toNat_and]) ?_
            have hp:pUv (u0 :: u1 :: u2 :: u3 :: u4 :: r4)=none:=by simp [pUv,pUvGo,hu0,hu1,hu2,hu3,hu4]
            rw [hp]
            exact ⟨rfl,by decide⟩
end
end Go.Proofs.YtcchakpiemhpeaaDoor.K
