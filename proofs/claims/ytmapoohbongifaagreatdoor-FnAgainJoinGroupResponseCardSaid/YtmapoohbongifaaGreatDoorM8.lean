/- Generic texts: R18 R19 R20 R21 R22 R23 S18. No condition. -/
import Derived.Test.YtmapoohbongifaaGreatDoorM7
import Derived.Laws.BytesArg
namespace Go.Proofs.YtmapoohbongifaaGreatDoor.K
open Go Go.RowKit Go.Proofs.YtmapoohbongifaaGreatDoor.T
attribute [local simp] eTm eCo pNo gTp gTn qv qcall vop iop
set_option linter.unusedSimpArgs false
set_option linter.unusedVariables false
set_option maxHeartbeats 2000000
def bstrB (P:Program) (TB TS:Nat):Bool :=
  (match P.underlying TB with
  | some (.slice e)=>(match P.underlying e with | some (.int .u8)=>true | _=>false)
  | _=>false) && (match P.underlying TS with | some .string=>true | _=>false)
def zeroOne (P:Program) (T:Nat):Bool:=oneB P T && (match P.info? T with
  | some i=>(match i.zero with | some z=>z.cells.size == 1 | _=>false)
  | _=>false)
theorem zeroOne_of {P:Program} {T:Nat} (h:zeroOne P T=true):oneB P T=true∧∃ i z,P.info? T=some i∧i.zero=some z∧z.cells.size=1:=by
  simp only [zeroOne,Bool.and_eq_true] at h
  obtain ⟨h1,h⟩:=h
  split at h <;> try (simp at h;done)
  rename_i i hi
  split at h <;> try (simp at h;done)
  rename_i z hz
  exact ⟨h1,i,z,hi,hz,by simpa using h⟩
section
variable {P:Program} {a:Act} {w:World} {K:Act→World→Prop} {d:Option Tmp} {g:Option (Nat × Bool)}
theorem opw_str {T0 T1 cap:Nat} {x:Operand} {base:Option Addr} {S:Option Nat} {bs:Bytes} (hT:bstrB P T0 T1=true) (hx:a.eval x=.slice base bs.length cap) (hs:SrcAt w S base bs) (h:K (a.put d (.string ⟨bs.toArray⟩)) w):opw P ⟨d,.convert T0 T1 x,g⟩ a w K:=by
  simp only [bstrB,Bool.and_eq_true] at hT
  obtain ⟨h1,h2⟩:=hT
  split at h1 <;> try (simp at h1;done)
  rename_i e he
  split at h1 <;> try (simp at h1;done)
  rename_i he2
  split at h2 <;> try (simp at h2;done)
  rename_i h3
  refine oVa (v:=.string ⟨bs.toArray⟩) (by simp) (fun p hp=>?_) h
  have hr:(convert T0 T1 (.slice base bs.length cap)).run P w=.ok (.string ⟨bs.toArray⟩) w:=by
    cases S with
    | none =>
      obtain ⟨rfl,rfl⟩:=hs
      exact run_convert_bytes_nil w T0 e he he2 _ _ T1 h3
    | some sb =>
      obtain ⟨q,rfl,hc⟩:=hs
      have:=run_convert_bytes_arg (P:=P) w T0 e he he2 sb q bs.length cap (bs.map fun u=>(u.toNat:Int)) (by simp) (fun i hi=>by
        rw [hc i bs[i] (List.getElem?_eq_getElem hi)]
        simp [cell,hi]) T1 h3
      rw [this]
      have hfun:((fun n:Int=>UInt8.ofNat n.toNat) ∘ fun u:UInt8=>(u.toNat:Int))=id:=by funext u;simp
      simp only [strOfNums,List.map_map,hfun,List.map_id]
  simp [execOp,hp,hx,hr]
theorem opw_slice00' {T E n:Nat} (hT:sliceB P T E n=true) (hz:∃ i z,P.info? E=some i∧i.zero=some z) (h:K (a.put d (.slice (some ⟨w.heap.size,0,none⟩) 0 0)) (w.alloc (.cells #[] E))) :
    opw P ⟨d,.buildSlice T 0 #[],g⟩ a w K:=by
  obtain ⟨hu,i,hi,hs⟩:=slice_of hT
  obtain ⟨i',z,hi',hz⟩:=hz
  rw [hi] at hi'
  cases hi'
  refine oVa (w':=w.alloc (.cells #[] E)) (by simp) (fun p hp=>?_) h
  have hr1:Array.range 0=#[]:=by decide
  simp [execOp,hp,Instr.buildSlice,run_underlying hu,sizeOf,typeInfo,zeroValue,hi,hz,newRow,hr1,Instr.fill]
end
theorem after_prim {α β γ:Type} {st:Option Bytes} {pC:Rd α} {g:α→Rd β} {q:Rd γ} (h:∀ b x r,st=some b→pC b=some (x,r)→after (some r) (g x)=after (some r) q):after st (rThen pC g)=after (after st pC) q:=by
  cases st with
  | none=>rfl
  | some b =>
    cases hp:pC b with
    | none=>rw [after_then_none (after_no hp),after_no hp];rfl
    | some z=>rw [after_then _ _ _ rfl hp,after_ok hp];exact h b z.1 z.2 rfl hp
theorem after_map {α β:Type} {st:Option Bytes} {p:Rd α} {g:α→β}:after st (rThen p fun x=>rOk (g x))=after st p:=by
  rw [after_prim (q:=rOk ()) (fun b x r _ _=>by rw [after_rOk,after_rOk]),after_rOk]
theorem after_cnt_uv {st:Option Bytes} {sz:Nat}:after st (pCount true sz)=after st pUv:=by
  simp only [pCount,if_true]
  exact after_map
theorem wrap64 {n:Int} (h1:-9223372036854775808≤n) (h2:n < 9223372036854775808):IntKind.i64.wrap n=n:=by
  simp only [IntKind.wrap,IntKind.bits,IntKind.signed]
  simp
  split <;> omega
theorem pInt_rng {k:Nat} (hk:k=2∨k=4) {b r:Bytes} {x:Int} (h:pInt k b=some (x,r)):-2147483648≤x∧x < 2147483648:=by
  obtain ⟨n,r1,h1,h2⟩:=rThen_some h
  obtain ⟨rfl,-⟩:=rOk_some h2
  have h3:=(pFix_facts h1)
  have h4:=unfix_lt (b.take k)
  rw [← h3.2.1,List.length_take,Nat.min_eq_left (by omega)] at h4
  rcases hk with rfl | rfl
  · simp only [sgn]
    have h4':n < 65536:=h4
    simp
    split <;> omega
  · simp only [sgn]
    have h4':n < 4294967296:=h4
    simp
    split <;> omega
theorem cnt_int {k:Nat} (hk:k=2∨k=4) {n:Int} {ks:IntKind} {st:Option Bytes} (q:∀ b x r,st=some b→pInt k b=some (x,r)→Value.int ks n=.int ks x):∀ b x r,st=some b→pCount false k b=some (x,r)→IntKind.i64.wrap n=x∧n=x:=by
  intro b x r hb hp
  have hp':pInt k b=some (x,r):=hp
  have hv:=q b x r hb hp'
  simp only [Value.int.injEq,true_and] at hv
  subst hv
  have:=pInt_rng hk hp'
  exact ⟨wrap64 (by omega) (by omega),rfl⟩
theorem cnt_uv {sz:Nat} {n:Int} {st:Option Bytes} (q:∀ b x r,st=some b→pUv b=some (x,r)→Value.int .u32 n=.int .u32 (x:Int)):∀ b x r,st=some b→pCount true sz b=some (x,r)→IntKind.i64.wrap (IntKind.i64.wrap n - 1)=x:=by
  intro b x r hb hp
  simp only [pCount,if_true] at hp
  obtain ⟨y,r1,h1,h2⟩:=rThen_some hp
  obtain ⟨rfl,-⟩:=rOk_some h2
  have hv:=q b y r1 hb h1
  simp only [Value.int.injEq,true_and] at hv
  subst hv
  have:=(pUv_facts h1).1
  rw [wrap64 (n:=(y:Int)) (by omega) (by omega),wrap64 (by omega) (by omega)]
theorem src_some {TR:Nat} {w:World} {S:Option Nat} {rb:Nat} {b:Bytes} {α:Type} {p:Rd α} {z:α × Bytes} (h:RdAt TR w S rb (some b)) (hp:p b=some z) (hne:p []=none):∃ sb,S=some sb:=by
  cases S with
  | some sb=>exact ⟨sb,rfl⟩
  | none =>
    rcases rdAt_row h with ⟨h1,-⟩ | ⟨rest,base,cap,h1,-,-,hs⟩
    · cases h1
    · cases h1
      obtain ⟨-,rfl⟩:=hs
      rw [hne] at hp
      cases hp
theorem pCount_nil {flex:Bool} {sz:Nat} (h:0 < sz):pCount flex sz []=none:=by
  cases flex
  · simp only [pCount,Bool.false_eq_true,if_false]
    exact pInt_no (by simpa using h)
  · rfl
theorem bytesAt_src {w:World} {F:Nat→Prop} {S:Option Nat} {base:Option Addr} {bs:Bytes} (h:SrcAt w S base bs) (hF:∀ sb,S=some sb→F sb):BytesAt w F base bs:=by
  cases S with
  | none=>exact .inl h.2
  | some sb =>
    obtain ⟨q,h1,h2⟩:=h
    exact .inr ⟨sb,q,h1,hF sb rfl,h2⟩
section
variable {P:Program} {R:RTy} {f:FuncId} {fn:Func}
def sc_RStr (T0 T1 T2 T3 F0 F1:Nat):SC:=.seq (.reg [⟨some 2,.assign (.const (.string ⟨#[]⟩)),none⟩]) (.seq (.reg [mv 4 0,cal 5 F0 [4],asg 3 5]) (.seq (.reg [mv 6 0,mv 7 3,⟨some 8,.convert T0 T1 (.tmp 7),none⟩,cal 9 F1 [6,8],⟨some 10,.convert T2 T3 (.tmp 9),none⟩,asg 2 10]) (.ret)))
def sc_RCStr (T0 T1 T2 T3 F0 F1:Nat):SC:=.seq (.reg [⟨some 2,.assign (.const (.string ⟨#[]⟩)),none⟩]) (.seq (.reg [mv 4 0,cal 5 F0 [4],⟨some 6,.convert T0 T1 (.tmp 5),none⟩,⟨some 7,.binOp .sub T1 (.tmp 6) (.const (.int .i64 1)) T1,none⟩,asg 3 7]) (.seq (.reg [mv 8 0,mv 9 3,cal 10 F1 [8,9],⟨some 11,.convert T2 T3 (.tmp 10),none⟩,asg 2 11]) (.ret)))
def sc_RNStr (T0 T1 T2 T3 F0 F1:Nat):SC:=.seq (.reg [⟨some 2,.assign (.const (.pointer none)),none⟩]) (.seq (.reg [mv 5 0,cal 6 F0 [5],asg 3 6]) (.seq (.seq (.reg [mv 7 3,⟨some 8,.binOp .lss T0 (.tmp 7) (.const (.int .i16 0)) T0,none⟩]) (.cond (.tmp 8) (.seq (.reg [⟨some 2,.assign (.const (.pointer none)),none⟩]) (.ret)) (.skip))) (.seq (.reg [mv 9 0,mv 10 3,⟨some 11,.convert T0 T1 (.tmp 10),none⟩,cal 12 F1 [9,11],⟨some 13,.convert T2 T3 (.tmp 12),none⟩,⟨some 4,.alloc T3,none⟩,⟨none,.store T3 (.tmp 4) (.tmp 13),none⟩]) (.seq (.reg [asg 2 4]) (.ret)))))
def sc_RCNStr (T0 T1 T2 T3 F0 F1:Nat):SC:=.seq (.reg [⟨some 2,.assign (.const (.pointer none)),none⟩]) (.seq (.reg [mv 5 0,cal 6 F0 [5],⟨some 7,.convert T0 T1 (.tmp 6),none⟩,⟨some 8,.binOp .sub T1 (.tmp 7) (.const (.int .i64 1)) T1,none⟩,asg 3 8]) (.seq (.seq (.reg [mv 9 3,⟨some 10,.binOp .lss T1 (.tmp 9) (.const (.int .i64 0)) T1,none⟩]) (.cond (.tmp 10) (.seq (.reg [⟨some 2,.assign (.const (.pointer none)),none⟩]) (.ret)) (.skip))) (.seq (.reg [mv 11 0,mv 12 3,cal 13 F1 [11,12],⟨some 14,.convert T2 T3 (.tmp 13),none⟩,⟨some 4,.alloc T3,none⟩,⟨none,.store T3 (.tmp 4) (.tmp 14),none⟩]) (.seq (.reg [asg 2 4]) (.ret)))))
def sc_RBytes (T0 TB T1 F0 F1:Nat):SC:=.seq (.reg [⟨some 2,.assign (.const (.slice none 0 0)),none⟩]) (.seq (.reg [mv 4 0,cal 5 F0 [4],asg 3 5]) (.seq (.seq (.reg [mv 6 3,⟨some 7,.binOp .eql T0 (.tmp 6) (.const (.int .i32 (-1))) T0,none⟩]) (.cond (.tmp 7) (.seq (.reg [⟨some 8,.buildSlice TB 0 #[],none⟩,asg 2 8]) (.ret)) (.skip))) (.seq (.reg [mv 9 0,mv 10 3,⟨some 11,.convert T0 T1 (.tmp 10),none⟩,cal 12 F1 [9,11],asg 2 12]) (.ret))))
def sc_RCBytes (T0 T1 TB F0 F1:Nat):SC:=.seq (.reg [⟨some 2,.assign (.const (.slice none 0 0)),none⟩]) (.seq (.reg [mv 4 0,cal 5 F0 [4],⟨some 6,.convert T0 T1 (.tmp 5),none⟩,⟨some 7,.binOp .sub T1 (.tmp 6) (.const (.int .i64 1)) T1,none⟩,asg 3 7]) (.seq (.seq (.reg [mv 8 3,⟨some 9,.binOp .eql T1 (.tmp 8) (.const (.int .i64 (-1))) T1,none⟩]) (.cond (.tmp 9) (.seq (.reg [⟨some 10,.buildSlice TB 0 #[],none⟩,asg 2 10]) (.ret)) (.skip))) (.seq (.reg [mv 11 0,mv 12 3,cal 13 F1 [11,12],asg 2 13]) (.ret))))
def sc_RNBytes (T0 T1 F0 F1:Nat):SC:=.seq (.reg [⟨some 2,.assign (.const (.slice none 0 0)),none⟩]) (.seq (.reg [mv 5 0,cal 6 F0 [5],asg 3 6]) (.seq (.seq (.reg [mv 7 3,⟨some 8,.binOp .lss T0 (.tmp 7) (.const (.int .i32 0)) T0,none⟩]) (.cond (.tmp 8) (.seq (.reg [⟨some 2,.assign (.const (.slice none 0 0)),none⟩]) (.ret)) (.skip))) (.seq (.reg [mv 9 0,mv 10 3,⟨some 11,.convert T0 T1 (.tmp 10),none⟩,cal 12 F1 [9,11],asg 4 12]) (.seq (.reg [mv 13 4,asg 2 13]) (.ret)))))
theorem rStr_ok {TR gb F0 F1 T0 T1 T2 T3 : Nat} (hTR : R.TR = TR) (hR : rdOK P R = true) (h0k : intK P T0 = some .i16) (h1k : intK P T1 = some .i64) (hS : bstrB P T2 T3 = true) (hF : RC P TR gb F0 (pInt 2) (fun v => ∃ n, v = .int .i16 n) (fun _ _ n v => v = .int .i16 n)) (hG : SpC P TR F1) (hf : P.funcs[f]? = some fn) (hb : fn.body.map strip = some (sc_RStr T0 T1 T2 T3 F0 F1)) (hnm : (fn.name == "runtime.NumGoroutine") = false) (hn : fn.ntmps = 11) (hr : fn.results = #[.tmp 2]) :
    RC P TR gb f (pPrim false false .str) (tyP false .str) (okP false .str):=by
  subst hTR
  have hst:=rd_facts hR
  refine ⟨fnOK_of hf hb hnm,fun w S rb st hgb hrd hsrc=>?_⟩
  refine fCa hf hb hn (by simp) fun a0 hs hd ha=>?_
  have h0:=ha 0 _ rfl
  simp only [List.getElem_toArray,List.getElem_cons_zero,List.getElem_cons_succ] at h0
  refine SC.wp_seq (SC.wp_reg ?_)
  repeat (apply ops_1;(focus (simp (disch:=(try simp only [sPu]);omega) ;try rfl)))
  refine oNi (SC.wp_seq (SC.wp_reg ?_))
  iterate 1 (apply ops_1;(focus (simp (disch:=(try simp only [sPu]);omega) [h0];try rfl)))
  refine ops_call hF.1 (hF.2 w S rb st hgb hrd hsrc) (by simp (disch:=(try simp only [sPu]);omega) [h0]) ?_
  rintro e w1 ⟨v,rfl,q1,q2,⟨n,rfl⟩,q4⟩
  refine ⟨_,rfl,?_⟩
  repeat (apply ops_1;(focus (simp (disch:=(try simp only [sPu]);omega) [h0k,h1k];try rfl)))
  refine oNi ?_
  simp only [Exit.then]
  have hsrc1:∀ sb,S=some sb→sb ≠ rb∧sb < w1.heap.size:=fun sb h=>⟨(hsrc sb h).1,Nat.lt_of_lt_of_le (hsrc sb h).2 q2.size⟩
  have q1:RdAt R.TR w1 S rb (after st (pCount false 2)):=q1
  have hcnt2:=cnt_int (k:=2) (by omega) q4
  have hcnt:=fun b x r hb hp=>(hcnt2 b x r hb hp).1
  have haft:after st (pPrim false false .str)=after (after st (pCount false 2)) (pSpan (IntKind.i64.wrap n)):=by
    simp only [pPrim]
    refine after_prim fun b x r hb hp=>?_
    simp only [Bool.false_and,Bool.false_eq_true,if_false]
    rw [hcnt b x r hb hp]
    exact after_map
  refine SC.wp_seq (SC.wp_reg ?_)
  iterate 3 (apply ops_1;(focus (simp (disch:=(try simp only [sPu]);omega) [h0,h0k,h1k];try rfl)))
  refine ops_call hG.1 (hG.2 w1 S rb _ (IntKind.i64.wrap n) q1 hsrc1) (by simp (disch:=(try simp only [sPu]);omega) [h0]) ?_
  rintro e w2 ⟨S',base,cap,x,rfl,z1,z2,z3,z4,-⟩
  refine ⟨_,rfl,?_⟩
  refine oNo rfl (opw_str (cap:=cap) (base:=base) hS (by simp (disch:=(try simp only [sPu]);omega)) z3 ?_)
  repeat (apply ops_1;(focus (simp (disch:=(try simp only [sPu]);omega) ;try rfl)))
  refine oNi (SC.wp_ret ?_)
  refine ret_tmp hr (by simp [dPu,hd]) ⟨_,rfl,by rw [haft];exact z1,q2.trans z2,?_,fun b t r hb hp=>?_⟩
  · simp only [tyP,Bool.false_eq_true,if_false]
    exact ⟨_,by simp (disch:=(try simp only [sPu]);omega);rfl⟩
  · simp only [pPrim] at hp
    obtain ⟨l,r1,k1,k2⟩:=rThen_some hp
    simp only [Bool.false_and,Bool.false_eq_true,if_false] at k2
    obtain ⟨s,r2,k3,k4⟩:=rThen_some k2
    obtain ⟨rfl,rfl⟩:=rOk_some k4
    subst hb
    have hx:=z4 r1 s _ (after_ok k1) (by rw [hcnt _ _ _ rfl k1];exact k3)
    intro hm
    refine ⟨⟨x.toArray⟩,by simp (disch:=(try simp only [sPu]);omega),?_,hm⟩
    simp [tS,Tree.s,hx.1]
theorem rCStr_ok {TR gb F0 F1 T0 T1 T2 T3 : Nat} (hTR : R.TR = TR) (hR : rdOK P R = true) (h0k : intK P T0 = some .u32) (h1k : intK P T1 = some .i64) (hS : bstrB P T2 T3 = true) (hF : RC P TR gb F0 pUv (fun v => ∃ n, v = .int .u32 n) (fun _ _ n v => v = .int .u32 (n : Int))) (hG : SpC P TR F1) (hf : P.funcs[f]? = some fn) (hb : fn.body.map strip = some (sc_RCStr T0 T1 T2 T3 F0 F1)) (hnm : (fn.name == "runtime.NumGoroutine") = false) (hn : fn.ntmps = 12) (hr : fn.results = #[.tmp 2]) :
    RC P TR gb f (pPrim true false .str) (tyP false .str) (okP false .str):=by
  subst hTR
  have hst:=rd_facts hR
  refine ⟨fnOK_of hf hb hnm,fun w S rb st hgb hrd hsrc=>?_⟩
  refine fCa hf hb hn (by simp) fun a0 hs hd ha=>?_
  have h0:=ha 0 _ rfl
  simp only [List.getElem_toArray,List.getElem_cons_zero,List.getElem_cons_succ] at h0
  refine SC.wp_seq (SC.wp_reg ?_)
  repeat (apply ops_1;(focus (simp (disch:=(try simp only [sPu]);omega) ;try rfl)))
  refine oNi (SC.wp_seq (SC.wp_reg ?_))
  iterate 1 (apply ops_1;(focus (simp (disch:=(try simp only [sPu]);omega) [h0];try rfl)))
  refine ops_call hF.1 (hF.2 w S rb st hgb hrd hsrc) (by simp (disch:=(try simp only [sPu]);omega) [h0]) ?_
  rintro e w1 ⟨v,rfl,q1,q2,⟨n,rfl⟩,q4⟩
  refine ⟨_,rfl,?_⟩
  repeat (apply ops_1;(focus (simp (disch:=(try simp only [sPu]);omega) [h0k,h1k];try rfl)))
  refine oNi ?_
  simp only [Exit.then]
  have hsrc1:∀ sb,S=some sb→sb ≠ rb∧sb < w1.heap.size:=fun sb h=>⟨(hsrc sb h).1,Nat.lt_of_lt_of_le (hsrc sb h).2 q2.size⟩
  rw [← after_cnt_uv (sz:=2)] at q1
  have hcnt:=cnt_uv (sz:=2) q4
  have haft:after st (pPrim true false .str)=after (after st (pCount true 2)) (pSpan (IntKind.i64.wrap (IntKind.i64.wrap n - 1))):=by
    simp only [pPrim]
    refine after_prim fun b x r hb hp=>?_
    simp only [Bool.false_and,Bool.false_eq_true,if_false]
    rw [hcnt b x r hb hp]
    exact after_map
  refine SC.wp_seq (SC.wp_reg ?_)
  iterate 2 (apply ops_1;(focus (simp (disch:=(try simp only [sPu]);omega) [h0,h0k,h1k];try rfl)))
  refine ops_call hG.1 (hG.2 w1 S rb _ (IntKind.i64.wrap (IntKind.i64.wrap n - 1)) q1 hsrc1) (by simp (disch:=(try simp only [sPu]);omega) [h0]) ?_
  rintro e w2 ⟨S',base,cap,x,rfl,z1,z2,z3,z4,-⟩
  refine ⟨_,rfl,?_⟩
  refine oNo rfl (opw_str (cap:=cap) (base:=base) hS (by simp (disch:=(try simp only [sPu]);omega)) z3 ?_)
  repeat (apply ops_1;(focus (simp (disch:=(try simp only [sPu]);omega) ;try rfl)))
  refine oNi (SC.wp_ret ?_)
  refine ret_tmp hr (by simp [dPu,hd]) ⟨_,rfl,by rw [haft];exact z1,q2.trans z2,?_,fun b t r hb hp=>?_⟩
  · simp only [tyP,Bool.false_eq_true,if_false]
    exact ⟨_,by simp (disch:=(try simp only [sPu]);omega);rfl⟩
  · simp only [pPrim] at hp
    obtain ⟨l,r1,k1,k2⟩:=rThen_some hp
    simp only [Bool.false_and,Bool.false_eq_true,if_false] at k2
    obtain ⟨s,r2,k3,k4⟩:=rThen_some k2
    obtain ⟨rfl,rfl⟩:=rOk_some k4
    subst hb
    have hx:=z4 r1 s _ (after_ok k1) (by rw [hcnt _ _ _ rfl k1];exact k3)
    intro hm
    refine ⟨⟨x.toArray⟩,by simp (disch:=(try simp only [sPu]);omega),?_,hm⟩
    simp [tS,Tree.s,hx.1]
theorem rNStr_ok {TR gb F0 F1 T0 T1 T2 T3 : Nat} (hTR : R.TR = TR) (hR : rdOK P R = true) (h0k : intK P T0 = some .i16) (h1k : intK P T1 = some .i64) (hS : bstrB P T2 T3 = true) (hZ : zeroOne P T3 = true) (hF : RC P TR gb F0 (pInt 2) (fun v => ∃ n, v = .int .i16 n) (fun _ _ n v => v = .int .i16 n)) (hG : SpC P TR F1) (hf : P.funcs[f]? = some fn) (hb : fn.body.map strip = some (sc_RNStr T0 T1 T2 T3 F0 F1)) (hnm : (fn.name == "runtime.NumGoroutine") = false) (hn : fn.ntmps = 14) (hr : fn.results = #[.tmp 2]) :
    RC P TR gb f (pPrim false true .str) (tyP true .str) (okP true .str):=by
  subst hTR
  have hst:=rd_facts hR
  refine ⟨fnOK_of hf hb hnm,fun w S rb st hgb hrd hsrc=>?_⟩
  refine fCa hf hb hn (by simp) fun a0 hs hd ha=>?_
  have h0:=ha 0 _ rfl
  simp only [List.getElem_toArray,List.getElem_cons_zero,List.getElem_cons_succ] at h0
  refine SC.wp_seq (SC.wp_reg ?_)
  repeat (apply ops_1;(focus (simp (disch:=(try simp only [sPu]);omega) ;try rfl)))
  refine oNi (SC.wp_seq (SC.wp_reg ?_))
  iterate 1 (apply ops_1;(focus (simp (disch:=(try simp only [sPu]);omega) [h0];try rfl)))
  refine ops_call hF.1 (hF.2 w S rb st hgb hrd hsrc) (by simp (disch:=(try simp only [sPu]);omega) [h0]) ?_
  rintro e w1 ⟨v,rfl,q1,q2,⟨n,rfl⟩,q4⟩
  refine ⟨_,rfl,?_⟩
  repeat (apply ops_1;(focus (simp (disch:=(try simp only [sPu]);omega) [h0k,h1k];try rfl)))
  refine oNi ?_
  simp only [Exit.then]
  have hsrc1:∀ sb,S=some sb→sb ≠ rb∧sb < w1.heap.size:=fun sb h=>⟨(hsrc sb h).1,Nat.lt_of_lt_of_le (hsrc sb h).2 q2.size⟩
  have q1:RdAt R.TR w1 S rb (after st (pCount false 2)):=q1
  have hcnt2:=cnt_int (k:=2) (by omega) q4
  have hcnt:=fun b x r hb hp=>(hcnt2 b x r hb hp).1
  obtain ⟨hZ1,iz,z,hiz,hzz,hz1⟩:=zeroOne_of hZ
  refine SC.wp_seq (SC.wp_seq (SC.wp_reg ?_))
  repeat (apply ops_1;(focus (simp (disch:=(try simp only [sPu]);omega) ;try rfl)))
  refine oNi (SC.wp_cond (t:=decide (n < 0)) (by simp (disch:=(try simp only [sPu]);omega)) ?_)
  refine Decidable.byCases (p:=n < 0) (fun hlt=>?_) (fun hlt=>?_)
  · rw [if_pos (decide_eq_true hlt)]
    refine SC.wp_seq (SC.wp_reg ?_)
    repeat (apply ops_1;(focus (simp (disch:=(try simp only [sPu]);omega) ;try rfl)))
    refine oNi (SC.wp_ret ?_)
    have haft:after st (pPrim false true .str)=after st (pCount false 2):=by
      simp only [pPrim]
      rw [after_prim (q:=rOk ()) fun b x r hb hp=>?_,after_rOk]
      have hx:=(hcnt2 b x r hb hp).2
      rw [if_pos (by simp;omega),after_rOk,after_rOk]
    simp only [Exit.then]
    refine ret_tmp hr (by simp [dPu,hd]) ⟨_,rfl,by rw [haft];exact q1,q2,?_,fun b t r hb hp=>?_⟩
    · simp only [tyP,if_true]
      exact ⟨_,by simp (disch:=(try simp only [sPu]);omega);rfl⟩
    · simp only [pPrim] at hp
      obtain ⟨l,r1,k1,k2⟩:=rThen_some hp
      have hx:=(hcnt2 b l r1 hb k1).2
      rw [if_pos (by simp;omega)] at k2
      obtain ⟨rfl,rfl⟩:=rOk_some k2
      intro hm
      simp only [reduceCtorEq,if_false,PVal,if_true,tNull,Tree.null]
      simp (disch:=(try simp only [sPu]);omega)
  rw [if_neg (by rw [decide_eq_false hlt];simp)]
  refine SC.wp_skip ?_
  simp only [Exit.then]
  have haft:after st (pPrim false true .str)=after (after st (pCount false 2)) (pSpan (IntKind.i64.wrap n)):=by
    simp only [pPrim]
    refine after_prim fun b x r hb hp=>?_
    have hx:=(hcnt2 b x r hb hp).2
    rw [if_neg (by simp;omega),hcnt b x r hb hp]
    exact after_map
  refine SC.wp_seq (SC.wp_reg ?_)
  iterate 3 (apply ops_1;(focus (simp (disch:=(try simp only [sPu]);omega) [h0,h0k,h1k];try rfl)))
  refine ops_call hG.1 (hG.2 w1 S rb _ (IntKind.i64.wrap n) q1 hsrc1) (by simp (disch:=(try simp only [sPu]);omega) [h0]) ?_
  rintro e w2 ⟨S',base,cap,x,rfl,z1,z2,z3,z4,-⟩
  refine ⟨_,rfl,?_⟩
  refine oNo rfl (opw_str (cap:=cap) (base:=base) hS (by simp (disch:=(try simp only [sPu]);omega)) z3 ?_)
  refine oNo rfl (opw_alloc hiz hzz ?_)
  have hnew:=heap_alloc_new w2 (.cells z.cells T3)
  refine ops_stR (b:=w2.heap.size) (i:=0) (v:=.string ⟨x.toArray⟩) hZ1 (by simp (disch:=(try simp only [sPu]);omega)) (by simp (disch:=(try simp only [sPu]);omega)) rfl hnew (by omega) (oNi ?_)
  simp only [Exit.then]
  refine SC.wp_seq (SC.wp_reg ?_)
  repeat (apply ops_1;(focus (simp (disch:=(try simp only [sPu]);omega) ;try rfl)))
  refine oNi (SC.wp_ret ?_)
  have hlt2:rb < w2.heap.size:=RdAt.lt z1
  have hon:Only rb w ((w2.alloc (.cells z.cells T3)).setRow w2.heap.size (z.cells.setIfInBounds 0 (.string ⟨x.toArray⟩))):=((q2.trans z2).alloc _).own (by have:=(q2.trans z2).size;omega) _
  have hrow3:=setRow_heap _ _ _ (z.cells.setIfInBounds 0 (.string ⟨x.toArray⟩)) _ _ hnew
  have hbl:∀ k,k < w2.heap.size→((w2.alloc (.cells z.cells T3)).setRow w2.heap.size (z.cells.setIfInBounds 0 (.string ⟨x.toArray⟩))).heap[k]?=w2.heap[k]?:=fun k hk=>by
    rw [setRow_other _ _ _ _ (by omega)]
    exact Below.heap_alloc _ _ _ hk
  have hsrc2:∀ sb,S=some sb→sb < w2.heap.size:=fun sb h=>Nat.lt_of_lt_of_le (hsrc1 sb h).2 z2.size
  refine ret_tmp hr (by simp [dPu,hd]) ⟨_,rfl,by rw [haft];exact RdAt.frame z1 (hbl _ hlt2) (fun sb h=>hbl _ (hsrc2 sb h)),hon,?_,fun b t r hb hp=>?_⟩
  · simp only [tyP,if_true]
    exact ⟨_,by simp (disch:=(try simp only [sPu]);omega);rfl⟩
  · simp only [pPrim] at hp
    obtain ⟨l,r1,k1,k2⟩:=rThen_some hp
    have hx:=(hcnt2 b l r1 hb k1).2
    rw [if_neg (by simp;omega)] at k2
    obtain ⟨s,r2,k3,k4⟩:=rThen_some k2
    obtain ⟨rfl,rfl⟩:=rOk_some k4
    subst hb
    have hxs:=z4 r1 s _ (after_ok k1) (by rw [hcnt _ _ _ rfl k1];exact k3)
    intro hm
    simp only [reduceCtorEq,if_false,PVal,if_true,tS,Tree.null,Bool.false_eq_true]
    refine ⟨w2.heap.size,0,⟨x.toArray⟩,by simp (disch:=(try simp only [sPu]);omega),.inr ⟨(q2.trans z2).size,by simp⟩,?_,?_,hm⟩
    · rw [cell_of_row _ _ _ _ _ _ hrow3]
      simp [hz1]
    · simp [Tree.s,hxs.1]
theorem rCNStr_ok {TR gb F0 F1 T0 T1 T2 T3 : Nat} (hTR : R.TR = TR) (hR : rdOK P R = true) (h0k : intK P T0 = some .u32) (h1k : intK P T1 = some .i64) (hS : bstrB P T2 T3 = true) (hZ : zeroOne P T3 = true) (hF : RC P TR gb F0 pUv (fun v => ∃ n, v = .int .u32 n) (fun _ _ n v => v = .int .u32 (n : Int))) (hG : SpC P TR F1) (hf : P.funcs[f]? = some fn) (hb : fn.body.map strip = some (sc_RCNStr T0 T1 T2 T3 F0 F1)) (hnm : (fn.name == "runtime.NumGoroutine") = false) (hn : fn.ntmps = 15) (hr : fn.results = #[.tmp 2]) :
    RC P TR gb f (pPrim true true .str) (tyP true .str) (okP true .str):=by
  subst hTR
  have hst:=rd_facts hR
  refine ⟨fnOK_of hf hb hnm,fun w S rb st hgb hrd hsrc=>?_⟩
  refine fCa hf hb hn (by simp) fun a0 hs hd ha=>?_
  have h0:=ha 0 _ rfl
  simp only [List.getElem_toArray,List.getElem_cons_zero,List.getElem_cons_succ] at h0
  refine SC.wp_seq (SC.wp_reg ?_)
  repeat (apply ops_1;(focus (simp (disch:=(try simp only [sPu]);omega) ;try rfl)))
  refine oNi (SC.wp_seq (SC.wp_reg ?_))
  iterate 1 (apply ops_1;(focus (simp (disch:=(try simp only [sPu]);omega) [h0];try rfl)))
  refine ops_call hF.1 (hF.2 w S rb st hgb hrd hsrc) (by simp (disch:=(try simp only [sPu]);omega) [h0]) ?_
  rintro e w1 ⟨v,rfl,q1,q2,⟨n,rfl⟩,q4⟩
  refine ⟨_,rfl,?_⟩
  repeat (apply ops_1;(focus (simp (disch:=(try simp only [sPu]);omega) [h0k,h1k];try rfl)))
  refine oNi ?_
  simp only [Exit.then]
  have hsrc1:∀ sb,S=some sb→sb ≠ rb∧sb < w1.heap.size:=fun sb h=>⟨(hsrc sb h).1,Nat.lt_of_lt_of_le (hsrc sb h).2 q2.size⟩
  rw [← after_cnt_uv (sz:=2)] at q1
  have hcnt:=cnt_uv (sz:=2) q4
  obtain ⟨hZ1,iz,z,hiz,hzz,hz1⟩:=zeroOne_of hZ
  refine SC.wp_seq (SC.wp_seq (SC.wp_reg ?_))
  repeat (apply ops_1;(focus (simp (disch:=(try simp only [sPu]);omega) ;try rfl)))
  refine oNi (SC.wp_cond (t:=decide (IntKind.i64.wrap (IntKind.i64.wrap n - 1) < 0)) (by simp (disch:=(try simp only [sPu]);omega)) ?_)
  refine Decidable.byCases (p:=IntKind.i64.wrap (IntKind.i64.wrap n - 1) < 0) (fun hlt=>?_) (fun hlt=>?_)
  · rw [if_pos (decide_eq_true hlt)]
    refine SC.wp_seq (SC.wp_reg ?_)
    repeat (apply ops_1;(focus (simp (disch:=(try simp only [sPu]);omega) ;try rfl)))
    refine oNi (SC.wp_ret ?_)
    have haft:after st (pPrim true true .str)=after st (pCount true 2):=by
      simp only [pPrim]
      rw [after_prim (q:=rOk ()) fun b x r hb hp=>?_,after_rOk]
      have hx:=hcnt b x r hb hp
      rw [if_pos (by simp;omega),after_rOk,after_rOk]
    simp only [Exit.then]
    refine ret_tmp hr (by simp [dPu,hd]) ⟨_,rfl,by rw [haft];exact q1,q2,?_,fun b t r hb hp=>?_⟩
    · simp only [tyP,if_true]
      exact ⟨_,by simp (disch:=(try simp only [sPu]);omega);rfl⟩
    · simp only [pPrim] at hp
      obtain ⟨l,r1,k1,k2⟩:=rThen_some hp
      have hx:=hcnt b l r1 hb k1
      rw [if_pos (by simp;omega)] at k2
      obtain ⟨rfl,rfl⟩:=rOk_some k2
      intro hm
      simp only [reduceCtorEq,if_false,PVal,if_true,tNull,Tree.null]
      simp (disch:=(try simp only [sPu]);omega)
  rw [if_neg (by rw [decide_eq_false hlt];simp)]
  refine SC.wp_skip ?_
  simp only [Exit.then]
  have haft:after st (pPrim true true .str)=after (after st (pCount true 2)) (pSpan (IntKind.i64.wrap (IntKind.i64.wrap n - 1))):=by
    simp only [pPrim]
    refine after_prim fun b x r hb hp=>?_
    have hx:=hcnt b x r hb hp
    rw [if_neg (by simp;omega),hcnt b x r hb hp]
    exact after_map
  refine SC.wp_seq (SC.wp_reg ?_)
  iterate 2 (apply ops_1;(focus (simp (disch:=(try simp only [sPu]);omega) [h0,h0k,h1k];try rfl)))
  refine ops_call hG.1 (hG.2 w1 S rb _ (IntKind.i64.wrap (IntKind.i64.wrap n - 1)) q1 hsrc1) (by simp (disch:=(try simp only [sPu]);omega) [h0]) ?_
  rintro e w2 ⟨S',base,cap,x,rfl,z1,z2,z3,z4,-⟩
  refine ⟨_,rfl,?_⟩
  refine oNo rfl (opw_str (cap:=cap) (base:=base) hS (by simp (disch:=(try simp only [sPu]);omega)) z3 ?_)
  refine oNo rfl (opw_alloc hiz hzz ?_)
  have hnew:=heap_alloc_new w2 (.cells z.cells T3)
  refine ops_stR (b:=w2.heap.size) (i:=0) (v:=.string ⟨x.toArray⟩) hZ1 (by simp (disch:=(try simp only [sPu]);omega)) (by simp (disch:=(try simp only [sPu]);omega)) rfl hnew (by omega) (oNi ?_)
  simp only [Exit.then]
  refine SC.wp_seq (SC.wp_reg ?_)
  repeat (apply ops_1;(focus (simp (disch:=(try simp only [sPu]);omega) ;try rfl)))
  refine oNi (SC.wp_ret ?_)
  have hlt2:rb < w2.heap.size:=RdAt.lt z1
  have hon:Only rb w ((w2.alloc (.cells z.cells T3)).setRow w2.heap.size (z.cells.setIfInBounds 0 (.string ⟨x.toArray⟩))):=((q2.trans z2).alloc _).own (by have:=(q2.trans z2).size;omega) _
  have hrow3:=setRow_heap _ _ _ (z.cells.setIfInBounds 0 (.string ⟨x.toArray⟩)) _ _ hnew
  have hbl:∀ k,k < w2.heap.size→((w2.alloc (.cells z.cells T3)).setRow w2.heap.size (z.cells.setIfInBounds 0 (.string ⟨x.toArray⟩))).heap[k]?=w2.heap[k]?:=fun k hk=>by
    rw [setRow_other _ _ _ _ (by omega)]
    exact Below.heap_alloc _ _ _ hk
  have hsrc2:∀ sb,S=some sb→sb < w2.heap.size:=fun sb h=>Nat.lt_of_lt_of_le (hsrc1 sb h).2 z2.size
  refine ret_tmp hr (by simp [dPu,hd]) ⟨_,rfl,by rw [haft];exact RdAt.frame z1 (hbl _ hlt2) (fun sb h=>hbl _ (hsrc2 sb h)),hon,?_,fun b t r hb hp=>?_⟩
  · simp only [tyP,if_true]
    exact ⟨_,by simp (disch:=(try simp only [sPu]);omega);rfl⟩
  · simp only [pPrim] at hp
    obtain ⟨l,r1,k1,k2⟩:=rThen_some hp
    have hx:=hcnt b l r1 hb k1
    rw [if_neg (by simp;omega)] at k2
    obtain ⟨s,r2,k3,k4⟩:=rThen_some k2
    obtain ⟨rfl,rfl⟩:=rOk_some k4
    subst hb
    have hxs:=z4 r1 s _ (after_ok k1) (by rw [hcnt _ _ _ rfl k1];exact k3)
    intro hm
    simp only [reduceCtorEq,if_false,PVal,if_true,tS,Tree.null,Bool.false_eq_true]
    refine ⟨w2.heap.size,0,⟨x.toArray⟩,by simp (disch:=(try simp only [sPu]);omega),.inr ⟨(q2.trans z2).size,by simp⟩,?_,?_,hm⟩
    · rw [cell_of_row _ _ _ _ _ _ hrow3]
      simp [hz1]
    · simp [Tree.s,hxs.1]
theorem rBytes_ok {TR gb F0 F1 T0 T1 T2 T3 : Nat} (hTR : R.TR = TR) (hR : rdOK P R = true) (h0k : intK P T0 = some .i32) (h1k : intK P T1 = some .i64) (hsl : sliceB P R.TB R.U8 1 = true) (hz : ∃ i z, P.info? R.U8 = some i ∧ i.zero = some z) (hF : RC P TR gb F0 (pInt 4) (fun v => ∃ n, v = .int .i32 n) (fun _ _ n v => v = .int .i32 n)) (hG : SpC P TR F1) (hf : P.funcs[f]? = some fn) (hb : fn.body.map strip = some (sc_RBytes T0 R.TB T1 F0 F1)) (hnm : (fn.name == "runtime.NumGoroutine") = false) (hn : fn.ntmps = 13) (hr : fn.results = #[.tmp 2]) :
    RC P TR gb f (pPrim false false .bytes) (tyP false .bytes) (okP false .bytes):=by
  subst hTR
  have hst:=rd_facts hR
  refine ⟨fnOK_of hf hb hnm,fun w S rb st hgb hrd hsrc=>?_⟩
  refine fCa hf hb hn (by simp) fun a0 hs hd ha=>?_
  have h0:=ha 0 _ rfl
  simp only [List.getElem_toArray,List.getElem_cons_zero,List.getElem_cons_succ] at h0
  refine SC.wp_seq (SC.wp_reg ?_)
  repeat (apply ops_1;(focus (simp (disch:=(try simp only [sPu]);omega) ;try rfl)))
  refine oNi (SC.wp_seq (SC.wp_reg ?_))
  iterate 1 (apply ops_1;(focus (simp (disch:=(try simp only [sPu]);omega) [h0];try rfl)))
  refine ops_call hF.1 (hF.2 w S rb st hgb hrd hsrc) (by simp (disch:=(try simp only [sPu]);omega) [h0]) ?_
  rintro e w1 ⟨v,rfl,q1,q2,⟨n,rfl⟩,q4⟩
  refine ⟨_,rfl,?_⟩
  repeat (apply ops_1;(focus (simp (disch:=(try simp only [sPu]);omega) [h0k,h1k];try rfl)))
  refine oNi ?_
  simp only [Exit.then]
  have hsrc1:∀ sb,S=some sb→sb ≠ rb∧sb < w1.heap.size:=fun sb h=>⟨(hsrc sb h).1,Nat.lt_of_lt_of_le (hsrc sb h).2 q2.size⟩
  have q1:RdAt R.TR w1 S rb (after st (pCount false 4)):=q1
  have hcnt2:=cnt_int (k:=4) (by omega) q4
  have hcnt:=fun b x r hb hp=>(hcnt2 b x r hb hp).1
  refine SC.wp_seq (SC.wp_seq (SC.wp_reg ?_))
  repeat (apply ops_1;(focus (simp (disch:=(try simp only [sPu]);omega) ;try rfl)))
  refine oNi (SC.wp_cond (t:=n == -1) (by simp (disch:=(try simp only [sPu]);omega)) ?_)
  refine Decidable.byCases (p:=n=-1) (fun hlt=>?_) (fun hlt=>?_)
  · rw [if_pos (by simpa using hlt)]
    have haft:after st (pPrim false false .bytes)=after st (pCount false 4):=by
      simp only [pPrim]
      rw [after_prim (q:=rOk ()) fun b x r hb hp=>?_,after_rOk]
      have hx:=(hcnt2 b x r hb hp).2
      rw [if_neg (by simp),if_pos (by simp;omega),after_rOk,after_rOk]
    refine SC.wp_seq (SC.wp_reg ?_)
    refine oNo rfl (opw_slice00' hsl hz ?_)
    repeat (apply ops_1;(focus (simp (disch:=(try simp only [sPu]);omega) ;try rfl)))
    refine oNi (SC.wp_ret ?_)
    try simp only [Exit.then]
    refine ret_tmp hr (by simp [dPu,hd]) ⟨_,rfl,by rw [haft];exact RdAt.frame q1 (Below.heap_alloc _ _ _ (RdAt.lt q1)) (fun sb h=>Below.heap_alloc _ _ _ (hsrc1 sb h).2),q2.alloc _,⟨some ⟨w1.heap.size,0,none⟩,0,0,by simp (disch:=(try simp only [sPu]);omega)⟩,fun b t r hb hp=>?_⟩
    simp only [pPrim] at hp
    obtain ⟨l,r1,k1,k2⟩:=rThen_some hp
    have hx:=(hcnt2 b l r1 hb k1).2
    rw [if_neg (by simp),if_pos (by simp;omega)] at k2
    obtain ⟨rfl,rfl⟩:=rOk_some k2
    intro hm
    simp only [reduceCtorEq,if_false,PVal,tS,Tree.null,Tree.s,Bool.false_and,Bool.false_eq_true,List.length_nil]
    exact ⟨some ⟨w1.heap.size,0,none⟩,0,by simp (disch:=(try simp only [sPu]);omega),.inr ⟨w1.heap.size,0,rfl,.inr ⟨q2.size,by simp⟩,fun j u hu=>by simp at hu⟩,by decide,fun h=>by cases h⟩
  rw [if_neg (by simpa using hlt)]
  refine SC.wp_skip ?_
  try simp only [Exit.then]
  have haft:after st (pPrim false false .bytes)=after (after st (pCount false 4)) (pSpan (IntKind.i64.wrap n)):=by
    simp only [pPrim]
    refine after_prim fun b x r hb hp=>?_
    have hx:=(hcnt2 b x r hb hp).2
    rw [if_neg (by simp),if_neg (by simp;omega),hcnt b x r hb hp]
    exact after_map
  refine SC.wp_seq (SC.wp_reg ?_)
  iterate 3 (apply ops_1;(focus (simp (disch:=(try simp only [sPu]);omega) [h0,h0k,h1k];try rfl)))
  refine ops_call hG.1 (hG.2 w1 S rb _ (IntKind.i64.wrap n) q1 hsrc1) (by simp (disch:=(try simp only [sPu]);omega) [h0]) ?_
  rintro e w2 ⟨S',base,cap,x,rfl,z1,z2,z3,z4,-⟩
  refine ⟨_,rfl,?_⟩
  repeat (apply ops_1;(focus (simp (disch:=(try simp only [sPu]);omega) ;try rfl)))
  refine oNi (SC.wp_ret ?_)
  try simp only [Exit.then]
  refine ret_tmp hr (by simp [dPu,hd]) ⟨_,rfl,by rw [haft];exact z1,q2.trans z2,⟨base,x.length,cap,by simp (disch:=(try simp only [sPu]);omega)⟩,fun b t r hb hp=>?_⟩
  simp only [pPrim] at hp
  obtain ⟨l,r1,k1,k2⟩:=rThen_some hp
  have hx:=(hcnt2 b l r1 hb k1).2
  rw [if_neg (by simp),if_neg (by simp;omega)] at k2
  obtain ⟨s,r2,k3,k4⟩:=rThen_some k2
  obtain ⟨rfl,rfl⟩:=rOk_some k4
  subst hb
  obtain ⟨rfl,rfl⟩:=z4 r1 s _ (after_ok k1) (by rw [hcnt _ _ _ rfl k1];exact k3)
  intro hm
  simp only [reduceCtorEq,if_false,PVal,tS,Tree.null,Tree.s,Bool.false_and,Bool.false_eq_true]
  exact ⟨base,cap,by simp (disch:=(try simp only [sPu]);omega),bytesAt_src z3 fun sb h=>.inl h,hm,fun h=>by cases h⟩
theorem rCBytes_ok {TR gb F0 F1 T0 T1 T2 T3 : Nat} (hTR : R.TR = TR) (hR : rdOK P R = true) (h0k : intK P T0 = some .u32) (h1k : intK P T1 = some .i64) (hsl : sliceB P R.TB R.U8 1 = true) (hz : ∃ i z, P.info? R.U8 = some i ∧ i.zero = some z) (hF : RC P TR gb F0 pUv (fun v => ∃ n, v = .int .u32 n) (fun _ _ n v => v = .int .u32 (n : Int))) (hG : SpC P TR F1) (hf : P.funcs[f]? = some fn) (hb : fn.body.map strip = some (sc_RCBytes T0 T1 R.TB F0 F1)) (hnm : (fn.name == "runtime.NumGoroutine") = false) (hn : fn.ntmps = 14) (hr : fn.results = #[.tmp 2]) :
    RC P TR gb f (pPrim true false .bytes) (tyP false .bytes) (okP false .bytes):=by
  subst hTR
  have hst:=rd_facts hR
  refine ⟨fnOK_of hf hb hnm,fun w S rb st hgb hrd hsrc=>?_⟩
  refine fCa hf hb hn (by simp) fun a0 hs hd ha=>?_
  have h0:=ha 0 _ rfl
  simp only [List.getElem_toArray,List.getElem_cons_zero,List.getElem_cons_succ] at h0
  refine SC.wp_seq (SC.wp_reg ?_)
  repeat (apply ops_1;(focus (simp (disch:=(try simp only [sPu]);omega) ;try rfl)))
  refine oNi (SC.wp_seq (SC.wp_reg ?_))
  iterate 1 (apply ops_1;(focus (simp (disch:=(try simp only [sPu]);omega) [h0];try rfl)))
  refine ops_call hF.1 (hF.2 w S rb st hgb hrd hsrc) (by simp (disch:=(try simp only [sPu]);omega) [h0]) ?_
  rintro e w1 ⟨v,rfl,q1,q2,⟨n,rfl⟩,q4⟩
  refine ⟨_,rfl,?_⟩
  repeat (apply ops_1;(focus (simp (disch:=(try simp only [sPu]);omega) [h0k,h1k];try rfl)))
  refine oNi ?_
  simp only [Exit.then]
  have hsrc1:∀ sb,S=some sb→sb ≠ rb∧sb < w1.heap.size:=fun sb h=>⟨(hsrc sb h).1,Nat.lt_of_lt_of_le (hsrc sb h).2 q2.size⟩
  rw [← after_cnt_uv (sz:=4)] at q1
  have hcnt:=cnt_uv (sz:=4) q4
  refine SC.wp_seq (SC.wp_seq (SC.wp_reg ?_))
  repeat (apply ops_1;(focus (simp (disch:=(try simp only [sPu]);omega) ;try rfl)))
  refine oNi (SC.wp_cond (t:=IntKind.i64.wrap (IntKind.i64.wrap n - 1) == -1) (by simp (disch:=(try simp only [sPu]);omega)) ?_)
  refine Decidable.byCases (p:=IntKind.i64.wrap (IntKind.i64.wrap n - 1)=-1) (fun hlt=>?_) (fun hlt=>?_)
  · rw [if_pos (by simpa using hlt)]
    have haft:after st (pPrim true false .bytes)=after st (pCount true 4):=by
      simp only [pPrim]
      rw [after_prim (q:=rOk ()) fun b x r hb hp=>?_,after_rOk]
      have hx:=hcnt b x r hb hp
      rw [if_neg (by simp),if_pos (by simp;omega),after_rOk,after_rOk]
    refine SC.wp_seq (SC.wp_reg ?_)
    refine oNo rfl (opw_slice00' hsl hz ?_)
    repeat (apply ops_1;(focus (simp (disch:=(try simp only [sPu]);omega) ;try rfl)))
    refine oNi (SC.wp_ret ?_)
    try simp only [Exit.then]
    refine ret_tmp hr (by simp [dPu,hd]) ⟨_,rfl,by rw [haft];exact RdAt.frame q1 (Below.heap_alloc _ _ _ (RdAt.lt q1)) (fun sb h=>Below.heap_alloc _ _ _ (hsrc1 sb h).2),q2.alloc _,⟨some ⟨w1.heap.size,0,none⟩,0,0,by simp (disch:=(try simp only [sPu]);omega)⟩,fun b t r hb hp=>?_⟩
    simp only [pPrim] at hp
    obtain ⟨l,r1,k1,k2⟩:=rThen_some hp
    have hx:=hcnt b l r1 hb k1
    rw [if_neg (by simp),if_pos (by simp;omega)] at k2
    obtain ⟨rfl,rfl⟩:=rOk_some k2
    intro hm
    simp only [reduceCtorEq,if_false,PVal,tS,Tree.null,Tree.s,Bool.false_and,Bool.false_eq_true,List.length_nil]
    exact ⟨some ⟨w1.heap.size,0,none⟩,0,by simp (disch:=(try simp only [sPu]);omega),.inr ⟨w1.heap.size,0,rfl,.inr ⟨q2.size,by simp⟩,fun j u hu=>by simp at hu⟩,by decide,fun h=>by cases h⟩
  rw [if_neg (by simpa using hlt)]
  refine SC.wp_skip ?_
  try simp only [Exit.then]
  have haft:after st (pPrim true false .bytes)=after (after st (pCount true 4)) (pSpan (IntKind.i64.wrap (IntKind.i64.wrap n - 1))):=by
    simp only [pPrim]
    refine after_prim fun b x r hb hp=>?_
    have hx:=hcnt b x r hb hp
    rw [if_neg (by simp),if_neg (by simp;omega),hcnt b x r hb hp]
    exact after_map
  refine SC.wp_seq (SC.wp_reg ?_)
  iterate 2 (apply ops_1;(focus (simp (disch:=(try simp only [sPu]);omega) [h0,h0k,h1k];try rfl)))
  refine ops_call hG.1 (hG.2 w1 S rb _ (IntKind.i64.wrap (IntKind.i64.wrap n - 1)) q1 hsrc1) (by simp (disch:=(try simp only [sPu]);omega) [h0]) ?_
  rintro e w2 ⟨S',base,cap,x,rfl,z1,z2,z3,z4,-⟩
  refine ⟨_,rfl,?_⟩
  repeat (apply ops_1;(focus (simp (disch:=(try simp only [sPu]);omega) ;try rfl)))
  refine oNi (SC.wp_ret ?_)
  try simp only [Exit.then]
  refine ret_tmp hr (by simp [dPu,hd]) ⟨_,rfl,by rw [haft];exact z1,q2.trans z2,⟨base,x.length,cap,by simp (disch:=(try simp only [sPu]);omega)⟩,fun b t r hb hp=>?_⟩
  simp only [pPrim] at hp
  obtain ⟨l,r1,k1,k2⟩:=rThen_some hp
  have hx:=hcnt b l r1 hb k1
  rw [if_neg (by simp),if_neg (by simp;omega)] at k2
  obtain ⟨s,r2,k3,k4⟩:=rThen_some k2
  obtain ⟨rfl,rfl⟩:=rOk_some k4
  subst hb
  obtain ⟨rfl,rfl⟩:=z4 r1 s _ (after_ok k1) (by rw [hcnt _ _ _ rfl k1];exact k3)
  intro hm
  simp only [reduceCtorEq,if_false,PVal,tS,Tree.null,Tree.s,Bool.false_and,Bool.false_eq_true]
  exact ⟨base,cap,by simp (disch:=(try simp only [sPu]);omega),bytesAt_src z3 fun sb h=>.inl h,hm,fun h=>by cases h⟩
theorem rNBytes_ok {TR gb F0 F1 T0 T1 T2 T3 : Nat} (hTR : R.TR = TR) (hR : rdOK P R = true) (h0k : intK P T0 = some .i32) (h1k : intK P T1 = some .i64)  (hF : RC P TR gb F0 (pInt 4) (fun v => ∃ n, v = .int .i32 n) (fun _ _ n v => v = .int .i32 n)) (hG : SpC P TR F1) (hf : P.funcs[f]? = some fn) (hb : fn.body.map strip = some (sc_RNBytes T0 T1 F0 F1)) (hnm : (fn.name == "runtime.NumGoroutine") = false) (hn : fn.ntmps = 14) (hr : fn.results = #[.tmp 2]) :
    RC P TR gb f (pPrim false true .bytes) (tyP true .bytes) (okP true .bytes):=by
  subst hTR
  have hst:=rd_facts hR
  refine ⟨fnOK_of hf hb hnm,fun w S rb st hgb hrd hsrc=>?_⟩
  refine fCa hf hb hn (by simp) fun a0 hs hd ha=>?_
  have h0:=ha 0 _ rfl
  simp only [List.getElem_toArray,List.getElem_cons_zero,List.getElem_cons_succ] at h0
  refine SC.wp_seq (SC.wp_reg ?_)
  repeat (apply ops_1;(focus (simp (disch:=(try simp only [sPu]);omega) ;try rfl)))
  refine oNi (SC.wp_seq (SC.wp_reg ?_))
  iterate 1 (apply ops_1;(focus (simp (disch:=(try simp only [sPu]);omega) [h0];try rfl)))
  refine ops_call hF.1 (hF.2 w S rb st hgb hrd hsrc) (by simp (disch:=(try simp only [sPu]);omega) [h0]) ?_
  rintro e w1 ⟨v,rfl,q1,q2,⟨n,rfl⟩,q4⟩
  refine ⟨_,rfl,?_⟩
  repeat (apply ops_1;(focus (simp (disch:=(try simp only [sPu]);omega) [h0k,h1k];try rfl)))
  refine oNi ?_
  simp only [Exit.then]
  have hsrc1:∀ sb,S=some sb→sb ≠ rb∧sb < w1.heap.size:=fun sb h=>⟨(hsrc sb h).1,Nat.lt_of_lt_of_le (hsrc sb h).2 q2.size⟩
  have q1:RdAt R.TR w1 S rb (after st (pCount false 4)):=q1
  have hcnt2:=cnt_int (k:=4) (by omega) q4
  have hcnt:=fun b x r hb hp=>(hcnt2 b x r hb hp).1
  refine SC.wp_seq (SC.wp_seq (SC.wp_reg ?_))
  repeat (apply ops_1;(focus (simp (disch:=(try simp only [sPu]);omega) ;try rfl)))
  refine oNi (SC.wp_cond (t:=decide (n < 0)) (by simp (disch:=(try simp only [sPu]);omega)) ?_)
  refine Decidable.byCases (p:=n < 0) (fun hlt=>?_) (fun hlt=>?_)
  · rw [if_pos (by simpa using hlt)]
    have haft:after st (pPrim false true .bytes)=after st (pCount false 4):=by
      simp only [pPrim]
      rw [after_prim (q:=rOk ()) fun b x r hb hp=>?_,after_rOk]
      have hx:=(hcnt2 b x r hb hp).2
      rw [if_pos (by simp;omega),after_rOk,after_rOk]
    refine SC.wp_seq (SC.wp_reg ?_)
    repeat (apply ops_1;(focus (simp (disch:=(try simp only [sPu]);omega) ;try rfl)))
    refine oNi (SC.wp_ret ?_)
    try simp only [Exit.then]
    refine ret_tmp hr (by simp [dPu,hd]) ⟨_,rfl,by rw [haft];exact q1,q2,⟨none,0,0,by simp (disch:=(try simp only [sPu]);omega)⟩,fun b t r hb hp=>?_⟩
    simp only [pPrim] at hp
    obtain ⟨l,r1,k1,k2⟩:=rThen_some hp
    have hx:=(hcnt2 b l r1 hb k1).2
    rw [if_pos (by simp;omega)] at k2
    obtain ⟨rfl,rfl⟩:=rOk_some k2
    intro hm
    simp only [reduceCtorEq,if_false,PVal,if_true,tNull,Tree.null,Bool.true_and]
    exact ⟨none,0,by simp (disch:=(try simp only [sPu]);omega),rfl⟩
  rw [if_neg (by simpa using hlt)]
  refine SC.wp_skip ?_
  try simp only [Exit.then]
  have haft:after st (pPrim false true .bytes)=after (after st (pCount false 4)) (pSpan (IntKind.i64.wrap n)):=by
    simp only [pPrim]
    refine after_prim fun b x r hb hp=>?_
    have hx:=(hcnt2 b x r hb hp).2
    rw [if_neg (by simp;omega),if_neg (by simp),hcnt b x r hb hp]
    exact after_map
  refine SC.wp_seq (SC.wp_reg ?_)
  iterate 3 (apply ops_1;(focus (simp (disch:=(try simp only [sPu]);omega) [h0,h0k,h1k];try rfl)))
  refine ops_call hG.1 (hG.2 w1 S rb _ (IntKind.i64.wrap n) q1 hsrc1) (by simp (disch:=(try simp only [sPu]);omega) [h0]) ?_
  rintro e w2 ⟨S',base,cap,x,rfl,z1,z2,z3,z4,-⟩
  refine ⟨_,rfl,?_⟩
  repeat (apply ops_1;(focus (simp (disch:=(try simp only [sPu]);omega) ;try rfl)))
  refine oNi (SC.wp_seq (SC.wp_reg ?_))
  repeat (apply ops_1;(focus (simp (disch:=(try simp only [sPu]);omega) ;try rfl)))
  refine oNi (SC.wp_ret ?_)
  try simp only [Exit.then]
  refine ret_tmp hr (by simp [dPu,hd]) ⟨_,rfl,by rw [haft];exact z1,q2.trans z2,⟨base,x.length,cap,by simp (disch:=(try simp only [sPu]);omega)⟩,fun b t r hb hp=>?_⟩
  simp only [pPrim] at hp
  obtain ⟨l,r1,k1,k2⟩:=rThen_some hp
  have hx:=(hcnt2 b l r1 hb k1).2
  rw [if_neg (by simp;omega),if_neg (by simp)] at k2
  obtain ⟨s,r2,k3,k4⟩:=rThen_some k2
  obtain ⟨rfl,rfl⟩:=rOk_some k4
  subst hb
  obtain ⟨rfl,rfl⟩:=z4 r1 s _ (after_ok k1) (by rw [hcnt _ _ _ rfl k1];exact k3)
  intro hm
  simp only [reduceCtorEq,if_false,PVal,tS,Tree.null,Tree.s,Bool.true_and,Bool.false_eq_true]
  refine ⟨base,cap,by simp (disch:=(try simp only [sPu]);omega),bytesAt_src z3 fun sb h=>.inl h,hm,fun _=>?_⟩
  obtain ⟨sb,rfl⟩:=src_some hrd k1 (pCount_nil (by omega))
  obtain ⟨q,rfl,-⟩:=z3
  simp
end
end Go.Proofs.YtmapoohbongifaaGreatDoor.K
namespace Go.Proofs.YtmapoohbongifaaGreatDoor.K
open Go Go.RowKit Go.Proofs.YtmapoohbongifaaGreatDoor.T
attribute [local simp] eTm eCo pNo gTp gTn qv qcall vop iop
set_option linter.unusedSimpArgs false
set_option linter.unusedVariables false
set_option maxHeartbeats 2000000
def sc_RArr (R:RTy) (T2 F0:Nat):SC:=.seq (.reg [⟨some 2,.assign (.const (.int .i32 0)),none⟩]) (.seq (.reg [mv 4 0,cal 5 F0 [4],asg 3 5]) (.seq (.seq (.reg [mv 6 0,nilc 7 6,fa 8 R.TR 7 0,ld 9 R.TB 8,lenOp 10 R.TB 9,mv 11 3,⟨some 12,.convert T2 R.I (.tmp 11),none⟩,⟨some 13,.binOp .lss R.I (.tmp 10) (.tmp 12) R.I,none⟩]) (.cond (.tmp 13) (rFail R 14 2 (.int .i32 0)) (.skip))) (.seq (.reg [mv 20 3,asg 2 20]) (.ret))))
def sc_RCArr (R:RTy) (T0 T1 F0:Nat):SC:=.seq (.reg [⟨some 2,.assign (.const (.int .i32 0)),none⟩]) (.seq (.reg [mv 4 0,cal 5 F0 [4],⟨some 6,.convert T0 T1 (.tmp 5),none⟩,⟨some 7,.binOp .sub T1 (.tmp 6) (.const (.int .i32 1)) T1,none⟩,asg 3 7]) (.seq (.seq (.reg [mv 8 0,nilc 9 8,fa 10 R.TR 9 0,ld 11 R.TB 10,lenOp 12 R.TB 11,mv 13 3,⟨some 14,.convert T1 R.I (.tmp 13),none⟩,⟨some 15,.binOp .lss R.I (.tmp 12) (.tmp 14) R.I,none⟩]) (.cond (.tmp 15) (rFail R 16 2 (.int .i32 0)) (.skip))) (.seq (.reg [mv 22 3,asg 2 22]) (.ret))))
def pLen0 (flex:Bool):Rd Int:=if flex then rThen pUv fun n=>rOk (if n=2147483648 then 2147483647 else (if n < 2147483648 then (n:Int) else (n:Int) - 4294967296) - 1) else pInt 4
theorem pLen_eq (flex:Bool):pLen flex=rThen (pLen0 flex) fun l b=>if (b.length:Int) < l then none else some (l,b):=rfl
theorem wrap64_i32 {n m:Int} (h:n=IntKind.i32.wrap m):IntKind.i64.wrap n=n:=by
  subst h
  have:-2147483648≤IntKind.i32.wrap m∧IntKind.i32.wrap m < 2147483648:=by
    simp only [IntKind.wrap,IntKind.bits,IntKind.signed]
    simp
    split <;> omega
  exact wrap64 (by omega) (by omega)
theorem arrCnt_of {n:Nat} (h:n < 4294967296):IntKind.i32.wrap (IntKind.i32.wrap (n:Int) - 1)=if n=2147483648 then 2147483647 else (if n < 2147483648 then (n:Int) else (n:Int) - 4294967296) - 1:=by
  simp only [IntKind.wrap,IntKind.bits,IntKind.signed]
  simp
  split <;> split <;> (try split) <;> (try split) <;> omega
section
variable {P:Program} {R:RTy} {f:FuncId} {fn:Func}
theorem rArr_ok {TR gb F0 T2 : Nat} (hTR : R.TR = TR) (hR : rdOK P R = true) (h2k : intK P T2 = some .i32) (hF : RC P TR gb F0 (pInt 4) (fun v => ∃ n, v = .int .i32 n) (fun _ _ n v => v = .int .i32 n)) (hf : P.funcs[f]? = some fn) (hb : fn.body.map strip = some (sc_RArr R T2 F0)) (hnm : (fn.name == "runtime.NumGoroutine") = false) (hn : fn.ntmps = 21) (hr : fn.results = #[.tmp 2]) :
    RC P TR gb f (pLen false) (fun v=>∃ n,v=.int .i32 n) (fun _ _ n v=>v=.int .i32 n):=by
  subst hTR
  have hst:=rd_facts hR
  refine ⟨fnOK_of hf hb hnm,fun w S rb st hgb hrd hsrc=>?_⟩
  refine fCa hf hb hn (by simp) fun a0 hs hd ha=>?_
  have h0:=ha 0 _ rfl
  simp only [List.getElem_toArray,List.getElem_cons_zero,List.getElem_cons_succ] at h0
  refine SC.wp_seq (SC.wp_reg ?_)
  repeat (apply ops_1;(focus (simp (disch:=(try simp only [sPu]);omega) ;try rfl)))
  refine oNi (SC.wp_seq (SC.wp_reg ?_))
  iterate 1 (apply ops_1;(focus (simp (disch:=(try simp only [sPu]);omega) [h0];try rfl)))
  refine ops_call hF.1 (hF.2 w S rb st hgb hrd hsrc) (by simp (disch:=(try simp only [sPu]);omega) [h0]) ?_
  rintro e w1 ⟨v,rfl,q1,q2,⟨n,rfl⟩,q4⟩
  refine ⟨_,rfl,?_⟩
  repeat (apply ops_1;(focus (simp (disch:=(try simp only [sPu]);omega) ;try rfl)))
  refine oNi ?_
  simp only [Exit.then]
  have q1:RdAt R.TR w1 S rb (after st (pLen0 false)):=q1
  have hcnt:∀ b x r,st=some b→pLen0 false b=some (x,r)→n=x∧IntKind.i64.wrap n=n:=by
    intro b x r hb hp
    have hv:=q4 b x r hb hp
    simp only [Value.int.injEq,true_and] at hv
    subst hv
    have:=pInt_rng (k:=4) (by omega) hp
    exact ⟨rfl,wrap64 (by omega) (by omega)⟩
  obtain ⟨bad,len,base,cap,hrow,hlen⟩:∃ bad len base cap,rdRow R.TR w1 rb (.slice base len cap) bad∧((after st (pLen0 false)=none)∨∃ rest,after st (pLen0 false)=some rest∧len=rest.length):=by
    rcases rdAt_row q1 with ⟨e1,hrow⟩ | ⟨rest,base,cap,e1,hrow,-,-⟩
    · exact ⟨_,_,_,_,hrow,.inl e1⟩
    · exact ⟨_,_,_,_,hrow,.inr ⟨_,e1,rfl⟩⟩
  have hc:=rdRow_cells hrow
  refine SC.wp_seq (SC.wp_seq (SC.wp_reg ?_))
  repeat (apply ops_1;(focus (simp (disch:=(try simp only [sPu]);omega) [hst,h0,hc,h2k];try rfl)))
  refine oNi (SC.wp_cond (t:=decide ((len:Int) < IntKind.i64.wrap n)) (by simp (disch:=(try simp only [sPu]);omega)) ?_)
  have key:(after st (pLen false)=if (len:Int) < IntKind.i64.wrap n then none else after st (pLen0 false)):=by
    rw [pLen_eq]
    cases st with
    | none=>simp [after]
    | some b =>
      cases hp:pLen0 false b with
      | none=>rw [after_then_none (after_no hp),after_no hp];simp
      | some z =>
        obtain ⟨x,r⟩:=z
        obtain ⟨rfl,e2⟩:=hcnt b x r rfl hp
        rw [after_then _ _ _ rfl hp,after_ok hp]
        rcases hlen with e | ⟨rest,e,rfl⟩
        · rw [after_ok hp] at e
          cases e
        · rw [after_ok hp] at e
          cases e
          rw [e2]
          by_cases h:(r.length:Int) < n <;> simp [after,h]
  refine Decidable.byCases (p:=(len:Int) < IntKind.i64.wrap n) (fun hl=>?_) (fun hl=>?_)
  · have hno:after st (pLen false)=none:=by rw [key,if_pos hl]
    rw [if_pos (decide_eq_true hl)]
    refine rFail_ok (S:=S) hR hrow (by simp (disch:=(try simp only [sPu]);omega) [h0]) (by omega) (by simp [sPu,hs]) (by simp [sPu,hs]) fun a' w' z1 z2 z3 z4=>?_
    simp only [Exit.then]
    refine ret_tmp hr (by rw [z1];simp [dPu,hd]) ⟨_,rfl,by rw [hno];exact z3,q2.trans z4,⟨0,z2⟩,fun b x r h hp=>?_⟩
    rw [h,after_ok hp] at hno
    cases hno
  · have hyes:after st (pLen false)=after st (pLen0 false):=by rw [key,if_neg hl]
    rw [if_neg (by rw [decide_eq_false hl];simp)]
    refine SC.wp_skip ?_
    simp only [Exit.then]
    refine SC.wp_seq (SC.wp_reg ?_)
    repeat (apply ops_1;(focus (simp (disch:=(try simp only [sPu]);omega) ;try rfl)))
    refine oNi (SC.wp_ret ?_)
    try simp only [Exit.then]
    refine ret_tmp hr (by simp [dPu,hd]) ⟨_,rfl,by rw [hyes];exact q1,q2,⟨n,by simp (disch:=(try simp only [sPu]);omega)⟩,fun b x r h hp=>?_⟩
    rw [pLen_eq] at hp
    obtain ⟨l,r1,k1,k2⟩:=rThen_some hp
    obtain ⟨rfl,-⟩:=hcnt b l r1 h k1
    split at k2
    · cases k2
    · cases k2
      simp (disch:=(try simp only [sPu]);omega)
theorem rCArr_ok {TR gb F0 T0 T1 : Nat} (hTR : R.TR = TR) (hR : rdOK P R = true) (h0k : intK P T0 = some .u32) (h2k : intK P T1 = some .i32) (hF : RC P TR gb F0 pUv (fun v => ∃ n, v = .int .u32 n) (fun _ _ n v => v = .int .u32 (n : Int))) (hf : P.funcs[f]? = some fn) (hb : fn.body.map strip = some (sc_RCArr R T0 T1 F0)) (hnm : (fn.name == "runtime.NumGoroutine") = false) (hn : fn.ntmps = 23) (hr : fn.results = #[.tmp 2]) :
    RC P TR gb f (pLen true) (fun v=>∃ n,v=.int .i32 n) (fun _ _ n v=>v=.int .i32 n):=by
  subst hTR
  have hst:=rd_facts hR
  refine ⟨fnOK_of hf hb hnm,fun w S rb st hgb hrd hsrc=>?_⟩
  refine fCa hf hb hn (by simp) fun a0 hs hd ha=>?_
  have h0:=ha 0 _ rfl
  simp only [List.getElem_toArray,List.getElem_cons_zero,List.getElem_cons_succ] at h0
  refine SC.wp_seq (SC.wp_reg ?_)
  repeat (apply ops_1;(focus (simp (disch:=(try simp only [sPu]);omega) ;try rfl)))
  refine oNi (SC.wp_seq (SC.wp_reg ?_))
  iterate 1 (apply ops_1;(focus (simp (disch:=(try simp only [sPu]);omega) [h0];try rfl)))
  refine ops_call hF.1 (hF.2 w S rb st hgb hrd hsrc) (by simp (disch:=(try simp only [sPu]);omega) [h0]) ?_
  rintro e w1 ⟨v,rfl,q1,q2,⟨n0,rfl⟩,q4⟩
  refine ⟨_,rfl,?_⟩
  obtain ⟨n,hn⟩:∃ n,n=IntKind.i32.wrap (IntKind.i32.wrap n0 - 1):=⟨_,rfl⟩
  repeat (apply ops_1;(focus (simp (disch:=(try simp only [sPu]);omega) [h0k,h2k,← hn];try rfl)))
  refine oNi ?_
  simp only [Exit.then]
  have q1:RdAt R.TR w1 S rb (after st (pLen0 true)):=by
    have:after st (pLen0 true)=after st pUv:=by simp only [pLen0,if_true];exact after_map
    rw [this];exact q1
  have hcnt:∀ b x r,st=some b→pLen0 true b=some (x,r)→n=x∧IntKind.i64.wrap n=n:=by
    intro b x r hb hp
    refine ⟨?_,wrap64_i32 hn⟩
    simp only [pLen0,if_true] at hp
    obtain ⟨y,r1,k1,k2⟩:=rThen_some hp
    obtain ⟨rfl,-⟩:=rOk_some k2
    have hv:=q4 b y r1 hb k1
    simp only [Value.int.injEq,true_and] at hv
    subst hv
    rw [hn]
    exact arrCnt_of (pUv_facts k1).1
  obtain ⟨bad,len,base,cap,hrow,hlen⟩:∃ bad len base cap,rdRow R.TR w1 rb (.slice base len cap) bad∧((after st (pLen0 true)=none)∨∃ rest,after st (pLen0 true)=some rest∧len=rest.length):=by
    rcases rdAt_row q1 with ⟨e1,hrow⟩ | ⟨rest,base,cap,e1,hrow,-,-⟩
    · exact ⟨_,_,_,_,hrow,.inl e1⟩
    · exact ⟨_,_,_,_,hrow,.inr ⟨_,e1,rfl⟩⟩
  have hc:=rdRow_cells hrow
  refine SC.wp_seq (SC.wp_seq (SC.wp_reg ?_))
  repeat (apply ops_1;(focus (simp (disch:=(try simp only [sPu]);omega) [hst,h0,hc,h2k,← hn];try rfl)))
  refine oNi (SC.wp_cond (t:=decide ((len:Int) < IntKind.i64.wrap n)) (by simp (disch:=(try simp only [sPu]);omega) [← hn]) ?_)
  have key:(after st (pLen true)=if (len:Int) < IntKind.i64.wrap n then none else after st (pLen0 true)):=by
    rw [pLen_eq]
    cases st with
    | none=>simp [after]
    | some b =>
      cases hp:pLen0 true b with
      | none=>rw [after_then_none (after_no hp),after_no hp];simp
      | some z =>
        obtain ⟨x,r⟩:=z
        obtain ⟨rfl,e2⟩:=hcnt b x r rfl hp
        rw [after_then _ _ _ rfl hp,after_ok hp]
        rcases hlen with e | ⟨rest,e,rfl⟩
        · rw [after_ok hp] at e
          cases e
        · rw [after_ok hp] at e
          cases e
          rw [e2]
          by_cases h:(r.length:Int) < n <;> simp [after,h]
  refine Decidable.byCases (p:=(len:Int) < IntKind.i64.wrap n) (fun hl=>?_) (fun hl=>?_)
  · have hno:after st (pLen true)=none:=by rw [key,if_pos hl]
    rw [if_pos (decide_eq_true hl)]
    refine rFail_ok (S:=S) hR hrow (by simp (disch:=(try simp only [sPu]);omega) [h0]) (by omega) (by simp [sPu,hs]) (by simp [sPu,hs]) fun a' w' z1 z2 z3 z4=>?_
    simp only [Exit.then]
    refine ret_tmp hr (by rw [z1];simp [dPu,hd]) ⟨_,rfl,by rw [hno];exact z3,q2.trans z4,⟨0,z2⟩,fun b x r h hp=>?_⟩
    rw [h,after_ok hp] at hno
    cases hno
  · have hyes:after st (pLen true)=after st (pLen0 true):=by rw [key,if_neg hl]
    rw [if_neg (by rw [decide_eq_false hl];simp)]
    refine SC.wp_skip ?_
    simp only [Exit.then]
    refine SC.wp_seq (SC.wp_reg ?_)
    repeat (apply ops_1;(focus (simp (disch:=(try simp only [sPu]);omega) ;try rfl)))
    refine oNi (SC.wp_ret ?_)
    try simp only [Exit.then]
    refine ret_tmp hr (by simp [dPu,hd]) ⟨_,rfl,by rw [hyes];exact q1,q2,⟨n,by simp (disch:=(try simp only [sPu]);omega) [hn]⟩,fun b x r h hp=>?_⟩
    rw [pLen_eq] at hp
    obtain ⟨l,r1,k1,k2⟩:=rThen_some hp
    obtain ⟨rfl,-⟩:=hcnt b l r1 h k1
    split at k2
    · cases k2
    · cases k2
      simp (disch:=(try simp only [sPu]);omega) [hn]
end
section
variable {P:Program} {TR gb:Nat} {f:FuncId}
theorem num_bool (h:RC P TR gb f (pFix 1) (fun v=>∃ x,v=.bool x) (fun _ _ n v=>v=.bool (n != 0))):RC P TR gb f (pPrim false false .bool) (tyP false .bool) (okP false .bool):=by
  refine RC.map (g:=fun n:Nat=>tN (if n=0 then 0 else 1)) h (fun v hv=>hv) fun w F n v hv _=>?_
  refine ⟨n != 0,hv,?_⟩
  by_cases h0:n=0 <;> simp [h0,tN,Tree.n]
theorem num_i8 (h:RC P TR gb f (pInt 1) (fun v=>∃ n,v=.int .i8 n) (fun _ _ n v=>v=.int .i8 n)):RC P TR gb f (pPrim false false .i8) (tyP false .i8) (okP false .i8) :=
  RC.map (g:=tN) h (fun v hv=>hv) fun w F n v hv _=>hv
theorem num_i16 (h:RC P TR gb f (pInt 2) (fun v=>∃ n,v=.int .i16 n) (fun _ _ n v=>v=.int .i16 n)):RC P TR gb f (pPrim false false .i16) (tyP false .i16) (okP false .i16) :=
  RC.map (g:=tN) h (fun v hv=>hv) fun w F n v hv _=>hv
theorem num_i32 (h:RC P TR gb f (pInt 4) (fun v=>∃ n,v=.int .i32 n) (fun _ _ n v=>v=.int .i32 n)):RC P TR gb f (pPrim false false .i32) (tyP false .i32) (okP false .i32) :=
  RC.map (g:=tN) h (fun v hv=>hv) fun w F n v hv _=>hv
theorem num_i64 (h:RC P TR gb f (pInt 8) (fun v=>∃ n,v=.int .i64 n) (fun _ _ n v=>v=.int .i64 n)):RC P TR gb f (pPrim false false .i64) (tyP false .i64) (okP false .i64) :=
  RC.map (g:=tN) h (fun v hv=>hv) fun w F n v hv _=>hv
theorem num_u16 (h:RC P TR gb f (pFix 2) (fun v=>∃ n,v=.int .u16 n) (fun _ _ n v=>v=.int .u16 (n:Int))):RC P TR gb f (pPrim false false .u16) (tyP false .u16) (okP false .u16) :=
  RC.map (g:=fun n:Nat=>tN n) h (fun v hv=>hv) fun w F n v hv _=>hv
end
end Go.Proofs.YtmapoohbongifaaGreatDoor.K
namespace Go.Proofs.YtmapoohbongifaaGreatDoor.K
open Go Go.RowKit Go.Proofs.YtmapoohbongifaaGreatDoor.T
attribute [local simp] eTm eCo pNo gTp gTn qv qcall vop iop
set_option linter.unusedVariables false
set_option linter.unusedSimpArgs false
def rdNew (P:Program) (TR:Nat):Bool:=aggB P TR 2 && (match P.info? TR,P.underlying TR with
  | some it,some (.struct fs)=>(match it.zero with | some z=>(match z.cells.toList with | [.slice none 0 0,.bool false]=>true | _=>false) | none=>false) &&
      (match fs.toList.mapM (fun f=>(P.info? f.type).map fun i=>(f.offset,i.size)) with | some [(0,1),(1,1)]=>true | _=>false)
  | _,_=>false)
theorem rdNew_of {P:Program} {TR:Nat} (h:rdNew P TR=true):aggB P TR 2=true∧(∃ it z,P.info? TR=some it∧it.zero=some z∧z.cells=#[.slice none 0 0,.bool false])∧∀ v:Value,v.oneCell'=true→P.built TR [(0,v)]=some #[v,.bool false]:=by
  simp only [rdNew,Bool.and_eq_true] at h
  obtain ⟨h1,h⟩:=h
  split at h <;> try (simp at h;done)
  rename_i it fs hi hu
  simp only [Bool.and_eq_true] at h
  obtain ⟨hz,hp⟩:=h
  split at hz <;> try (simp at hz;done)
  rename_i z hz0
  split at hz <;> try (simp at hz;done)
  rename_i hzl
  have hzc:z.cells=#[.slice none 0 0,.bool false]:=Array.ext' (by simpa using hzl)
  split at hp <;> try (simp at hp;done)
  rename_i hpl
  refine ⟨h1,⟨it,z,hi,hz0,hzc⟩,fun v hv=>?_⟩
  have hvc:=cells_oneCell hv
  simp only [Program.built,hi,hu,hz0,hpl,hzc]
  simp [Instr.fill,hvc]
def topEnd (size:Nat):Option (Nat × Nat)→Nat
  | none=>size
  | some (_,off)=>off
theorem wpL_gen {P:Program} {l:List SC} {Q:Exit→Act→World→Prop} {a:Act} {w:World} (C:Act→Prop) (ha:C a) (h:∀ a,C a→wpL P Q l a w):wpL P Q l a w:=h a ha
theorem top_body {X:RX} {fs:Fs} {S p v t bk b o lo size:Nat} {tags:Option (Nat × Nat)} {O:Nat→Prop} {a:Act} {w:World} {st:Option Bytes} {Q:Exit→Act→World→Prop} {rest:List SC} (hX:X.ok)
    (hok:okRFs X.P X.I X.c S fs=true) (hokt:okRTags X.P X.I X.c S tags=true) (hlay:layFs lo (topEnd size tags) fs=true) (hszt:∀ f off,tags=some (f,off)→off < size∧lo≤off) (hlo:lo≤size) (hdef:DefFs X.P fs) (hi:RInv X a w st) (hp:getT a p=.pointer (some ⟨b,o,none⟩)) (ho:Opn X O b w) (hrow:RowAt w b o size) (hfr:FrFs w b fs o)
    (hpv:p < v) (hv:10≤v) (hvT:v+rVs fs≤X.T0) (ht:X.T0≤t) (htN:t+rFT X.c fs+rTagsT tags≤X.N)
    (hQ:∀ a' w',RInv X a' w' (after st (pBody X.ver X.flex fs))→RSame X a a' v t→Foot X.rb b (o+lo) (o+size) w w' →
      (∀ r x r',st=some r→pBody X.ver X.flex fs r=some (x,r')→FitFs X.ver fs x.l→FitTags x.u→HFs X.G w' (FO O w') X.ver X.flex fs b o x.l∧TagsAt X.G w' (FO O w') X.flex b o tags x.u)→wpL X.P Q rest a' w')
    (hR:RetOK X Q (after st (pBody X.ver X.flex fs)=none)) :
    wpL X.P Q (rFs X.I X.c S p v t bk fs ++ (rTagsL X.I S p tags (t+rFT X.c fs) ++ rest)) a w:=by
  obtain ⟨n,hlf,hns,hn⟩:∃ n,layFs lo n fs=true∧n≤size∧(tags=none∧n=size∨∃ f,tags=some (f,n)):=by
    cases tags with
    | none=>exact ⟨size,hlay,Nat.le_refl _,.inl ⟨rfl,rfl⟩⟩
    | some z=>exact ⟨z.2,hlay,Nat.le_of_lt (hszt z.1 z.2 rfl).1,.inr ⟨z.1,rfl⟩⟩
  have hln:lo≤n:=by
    rcases hn with ⟨rfl,rfl⟩ | ⟨f,rfl⟩
    · exact hlo
    · exact (hszt f n rfl).2
  refine fs_all hX fs S p v t bk b o lo n O a w st Q _ hok hlf hdef hi hp ho (hrow.mono (by omega)) hfr hpv hv hvT ht (by omega) ?_ ?_
  · intro a1 w1 hi1 hs1 hf1 hv1
    refine rTags_ok hX hokt hi1 ((hs1 p (.inl hpv)).trans hp) (ho.mono hf1.size) (hf1.rowAt hrow) (fun f off e=>(hszt f off e).1) (by omega) (by omega) htN ?_
    intro a2 w2 hi2 hs2 hf2 hv2
    refine hQ a2 w2 (by rw [after_body];exact hi2) (fun s hs=>(hs2 s (by omega)).trans (hs1 s hs)) ?_ ?_
    · refine (hf1.mono (by omega) (by omega)).trans (hf2.mono ?_ (Nat.le_refl _))
      rcases hn with ⟨rfl,rfl⟩ | ⟨f,rfl⟩
      · simp only;omega
      · simp only;omega
    · intro r x r' hst hpx hfit hfu
      unfold pBody at hpx
      obtain ⟨xs,r1,q1,q2⟩:=rThen_some hpx
      obtain ⟨u,r2,q3,q4⟩:=rThen_some q2
      obtain ⟨rfl,rfl⟩:=rOk_some q4
      have hst2:after st (pFs X.ver X.flex fs)=some r1:=by rw [hst];exact after_ok q1
      refine ⟨?_,hv2 r1 u _ hst2 q3 hfu⟩
      have h1:=hv1 r xs r1 hst q1 hfit
      refine hFs_frame (hf2.fo (ho.mono hf1.size)) X.ver X.flex fs lo n b o xs hlf (fun j h1 h2=>hf2.cell (hf1.rowAt hrow) ?_) h1
      rcases hn with ⟨rfl,rfl⟩ | ⟨f,rfl⟩
      · left;simp only;omega
      · left;simp only;omega
  · intro a' w' h1 h2 h3 h4
    refine hR a' w' h1 h2 h3 ?_
    rw [after_body,h4]
    rfl
structure RTop where
  S:Nat
  size:Nat
  d:Nat
  t:Nat
  N:Nat
  flex:Option Int
  tags:Option (Nat × Nat)
  fs:Fs
def RTop.chk (P:Program) (I:RIds) (M:RTop):Bool :=
  okRFs P I (rCtx M.flex) M.S M.fs && okRTags P I (rCtx M.flex) M.S M.tags && layFs 1 (topEnd M.size M.tags) M.fs && (match M.tags with | none=>true | some (_,off)=>decide (off < M.size∧1≤off)) &&
  decide (1≤M.size∧rS M.flex+1+rVs M.fs≤M.t∧rT1 M.t M.flex+1+rFT (rCtx M.flex) M.fs+rTagsT M.tags+1≤M.N) && fieldB P M.S 0 0 && intB P I.tI16 .i16 && oneB P I.tI16 && rdNew P I.tRd
def ReadC (P:Program) (I:RIds) (M:RTop) (B:Nat) (G:List (Nat × Bytes)→Prop) (err:Value) (F:FuncId) (w0:World):Prop :=
  ∀ (S:Option Nat) (b:Nat) (cs:Array Value) (E:TypeId) (base:Option Addr) (src:Bytes) (cap:Nat) (ver:Int),0≤ver→B≤b→B≤w0.heap.size→w0.heap[b]?=some (.cells cs E (0,0))→M.size≤cs.size→cs[0]?=some (.int .i16 ver) →
    FrFs w0 b M.fs 0→src.length≤cap→SrcAt w0 S base src→(∀ sb,S=some sb→sb ≠ b∧sb < w0.heap.size) →
    Calls P F #[.pointer (some ⟨b,0,none⟩),.slice base src.length cap,.bool false] w0 fun e w'=>Below B w0 w'∧B≤w'.heap.size ∧
      match pBody ver (flexAt M.flex ver) M.fs src with
      | none=>e=.returned err
      | some (x,r)=>e=.returned .nilIface∧b < w'.heap.size∧w'.cell? ⟨b,0,none⟩=some (.int .i16 ver) ∧
        (FitFs ver M.fs x.l→FitTags x.u→∃ F:Nat→Prop,(∀ k,F k→k < w'.heap.size)∧HFs G w' F ver (flexAt M.flex ver) M.fs b 0 x.l∧TagsAt G w' F (flexAt M.flex ver) b 0 M.tags x.u)
section
variable {P:Program} {I:RIds} {M:RTop} {B:Nat} {G:List (Nat × Bytes)→Prop} {err:Value} {Gl:World→Prop} {gb:Nat} {f:FuncId} {fn:Func} {w0:World}
theorem readFrom_ok {out:List (Nat × Value)} (hk:KR P I I.tRd gb err Gl) (hG:∀ u,G u) (hgl:∀ w,Below B w0 w→Gl w) (hgb:gb < B) (hchk:M.chk P I=true) (hdef:DefFs P M.fs) (hd:DefAt P M.d M.size out) (hout:outFs out M.fs 0=true) (hoa:(out.all fun x=>decide (x.1 < M.size∧0 < x.1))=true)
    (hf:P.funcs[f]?=some fn) (hb:fn.body.map strip=some (rTop I M.S M.d M.t M.flex M.tags M.fs)) (hn:fn.ntmps=M.N) (hr:fn.results=#[.tmp 6]):ReadC P I M B G err f w0:=by
  intro S b cs E base src cap ver hver hBb hBw hcs hlen hvc hfr hcap hsr hsrc
  simp only [RTop.chk,Bool.and_eq_true,decide_eq_true_eq] at hchk
  obtain ⟨⟨⟨⟨⟨⟨⟨⟨c1,c2⟩,c3⟩,c4⟩,c5,c6,c7⟩,c8⟩,c9⟩,c10⟩,c11⟩:=hchk
  obtain ⟨r1,⟨rit,rz,rzi,rzz,rzc⟩,r3⟩:=rdNew_of c11
  have hrS:9≤rS M.flex:=by cases M.flex <;> simp [rS]
  have hbl:b < w0.heap.size:=(Array.getElem?_eq_some_iff.1 hcs).1
  have hoa':∀ x ∈ out,x.1 < M.size∧0 < x.1:=fun x hx=>by simpa using (List.all_eq_true.1 hoa) x hx
  have hT1:M.t+9≤rT1 M.t M.flex:=by cases M.flex <;> simp [rT1]
  refine fCa hf hb hn (by simp;omega) fun a0 hs hdf ha=>?_
  have h0:=ha 0 _ rfl
  have h1:=ha 1 _ rfl
  have h2:=ha 2 _ rfl
  simp only [List.getElem_toArray,List.getElem_cons_zero,List.getElem_cons_succ] at h0 h1 h2
  refine wpL_seqs _ _ _ ?_
  simp only [List.cons_append,List.nil_append,wpL]
  refine SC.wp_reg (oNo rfl (opw_assign (oNi ?_)))
  simp only [Exit.then,eCo]
  refine SC.wp_reg (ops_mv (ops_call (argsV:=#[.pointer (some ⟨b,0,none⟩)]) hd.1 (hd.2 w0 b 0 cs E hcs (by omega)) (by simp (disch:=(try simp only [sPu]);omega) [h0]) ?_))
  rintro e w1 ⟨rfl,hw1⟩
  refine ⟨_,rfl,oNi ?_⟩
  simp only [Exit.then]
  have hds:(dSetAll 0 out cs).size=cs.size:=dSetAll_size _ _ _
  have hrow1:w1.heap[b]?=some (.cells (dSetAll 0 out cs) E (0,0)):=by rw [hw1];exact setRow_heap _ _ _ _ _ _ hcs
  have hoth1:∀ k,k ≠ b→w1.heap[k]?=w0.heap[k]?:=fun k hk=>by rw [hw1];exact setRow_other _ _ _ _ hk
  have hsz1:w1.heap.size=w0.heap.size:=by rw [hw1];simp
  have hbelow1:Below B w0 w1:=by rw [hw1];exact ⟨rfl,rfl,rfl,by simp,fun k hk=>setRow_other _ _ _ _ (by omega)⟩
  have hv1:(dSetAll 0 out cs)[0]?=some (.int .i16 ver):=by
    rw [dSetAll_other out cs fun x hx=>by have:=(hoa' x hx).2;omega]
    exact hvc
  have hfr1:FrFs w1 b M.fs 0:=by
    have:=outFs_ok (w:=w0) (w':=w1) (b:=b) (q:=0) (out:=out) (fun j hj=>by
      rw [Nat.zero_add,cell_of_row _ _ _ _ _ _ hrow1,cell_of_row _ _ _ _ _ _ hcs]
      exact dSetAll_other out cs fun x hx=>by rw [Nat.zero_add];exact hj x hx) M.fs 0 hout (by simpa using hfr)
    simpa using this
  refine SC.wp_reg (ops_mv (oNo rfl (opw_build (cs:=#[.slice base src.length cap,.bool false]) ?_ (oNo rfl (opw_alloc rzi rzz ?_)))))
  · have:(#[(0,Operand.tmp (M.t+2))].map fun x:Nat × Operand=>(x.1,Act.eval (((((a0.put (some 6) .nilIface).put (some M.t) (getT (a0.put (some 6) .nilIface) 0)).put (some (M.t+1)) (.tuple #[])).put (some (M.t+2)) (getT (((a0.put (some 6) .nilIface).put (some M.t) (getT (a0.put (some 6) .nilIface) 0)).put (some (M.t+1)) (.tuple #[])) 1))) x.2)).toList=[(0,.slice base src.length cap)]:=by
      simp only [List.map_toArray,List.map_cons,List.map_nil]
      rw [eTm,gTp (by simp only [sPu];omega),gTn (by omega),gTn (by omega),gTn (by omega),h1]
    rw [this]
    exact r3 _ rfl
  have hnew:=heap_alloc_new w1 (.cells rz.cells I.tRd)
  refine oNo rfl (opw_store_agg (cs:=[.slice base src.length cap,.bool false]) (cur:=rz.cells) (b:=w1.heap.size) (E:=I.tRd) r1 (by simp (disch:=(try simp only [sPu]);omega)) (by simp (disch:=(try simp only [sPu]);omega)) hnew (by rw [rzc];rfl) (by intro v hv;simp at hv;rcases hv with rfl | rfl <;> rfl) (oNi ?_))
  rw [pNo]
  simp only [Exit.then]
  obtain ⟨rb,hrb⟩:∃ rb,rb=w1.heap.size:=⟨_,rfl⟩
  rw [← hrb] at hnew ⊢
  obtain ⟨w2,hw2⟩:∃ w2,w2=(w1.alloc (.cells rz.cells I.tRd)).setRow rb [Value.slice base src.length cap,.bool false].toArray:=⟨_,rfl⟩
  rw [← hw2]
  have hrow2:w2.heap[rb]?=some (.cells #[.slice base src.length cap,.bool false] I.tRd (0,0)):=by rw [hw2];exact setRow_heap _ _ _ _ _ _ hnew
  have hoth2:∀ k,k < w1.heap.size→w2.heap[k]?=w1.heap[k]?:=fun k hk=>by
    rw [hw2,setRow_other _ _ _ _ (by omega)]
    exact Below.heap_alloc _ _ _ hk
  have hsz2:w2.heap.size=w1.heap.size+1:=by rw [hw2];simp
  have hbelow2:Below B w0 w2:=by
    rw [hw2]
    exact (hbelow1.alloc (by omega) _).trans ⟨rfl,rfl,rfl,by simp,fun k hk=>setRow_other _ _ _ _ (by omega)⟩
  have hrb2:w2.heap[b]?=some (.cells (dSetAll 0 out cs) E (0,0)):=by rw [hoth2 b (by omega)];exact hrow1
  have hvc2:w2.cell? ⟨b,0,none⟩=some (.int .i16 ver):=by rw [cell_of_row _ _ _ _ _ _ hrb2];exact hv1
  refine SC.wp_reg (ops_mv (ops_nilc (ad:=⟨b,0,none⟩) (by simp (disch:=(try simp only [sPu]);omega) [h0]) (ops_fa c8 (b:=b) (o:=0) (by simp (disch:=(try simp only [sPu]);omega)) (ops_ld c10 (ad:=⟨b,0,none⟩) (v:=.int .i16 ver) (by simp (disch:=(try simp only [sPu]);omega)) hvc2 (ops_asg (oNi ?_))))))
  simp only [Exit.then]
  refine SC.wp_reg (ops_mv (oNi ?_))
  simp only [Exit.then]
  refine wpL_gen (fun a=>a.tmps.size=M.N∧a.defers=[]∧getT a 2=.bool false∧getT a 7=.pointer (some ⟨rb,0,none⟩)∧getT a 8=.int .i16 ver∧getT a 0=.pointer (some ⟨b,0,none⟩)) ⟨by simp [sPu,hs,hn],by simp [dPu,hdf],by simp (disch:=(try simp only [sPu]);omega) [h2],by simp (disch:=(try simp only [sPu]);omega),by simp (disch:=(try simp only [sPu]);omega),by simp (disch:=(try simp only [sPu]);omega) [h0]⟩ fun a2 ⟨p1,p2,p3,p4,p5,p6⟩=>?_
  have mid:∀ a:Act,a.tmps.size=M.N∧a.defers=[]∧getT a 2=.bool false∧getT a 7=.pointer (some ⟨rb,0,none⟩)∧getT a 8=.int .i16 ver∧getT a 0=.pointer (some ⟨b,0,none⟩)∧(M.flex ≠ none→getT a 9=.bool (flexAt M.flex ver)) →
      wpL P (bodyPost P fn (fun e w'=>Below B w0 w'∧B≤w'.heap.size ∧
      match pBody ver (flexAt M.flex ver) M.fs src with
      | none=>e=.returned err
      | some (x,r)=>e=.returned .nilIface∧b < w'.heap.size∧w'.cell? ⟨b,0,none⟩=some (.int .i16 ver) ∧
        (FitFs ver M.fs x.l→FitTags x.u→∃ F:Nat→Prop,(∀ k,F k→k < w'.heap.size)∧HFs G w' F ver (flexAt M.flex ver) M.fs b 0 x.l∧TagsAt G w' F (flexAt M.flex ver) b 0 M.tags x.u))) (.reg [mv (rT1 M.t M.flex) 0,asg (rS M.flex) (rT1 M.t M.flex)] :: (rFs I (rCtx M.flex) M.S (rS M.flex) (rS M.flex+1) (rT1 M.t M.flex+1) 0 M.fs ++ rTagsL I M.S (rS M.flex) M.tags (rT1 M.t M.flex+1+rFT (rCtx M.flex) M.fs) ++
        [.reg [cal (rT1 M.t M.flex+1+rFT (rCtx M.flex) M.fs+rTagsT M.tags) I.rCompl [7],asg 6 (rT1 M.t M.flex+1+rFT (rCtx M.flex) M.fs+rTagsT M.tags)],.ret])) a w2:=by
    clear p1 p2 p3 p4 p5 p6
    rintro a ⟨p1,p2,p3,p4,p5,p6,p7⟩
    simp only [wpL]
    refine SC.wp_reg (ops_mv (ops_asg (oNi ?_)))
    simp only [Exit.then]
    obtain ⟨X,hX⟩:∃ X:RX,X=⟨P,I,I.tRd,S,rb,G,rCtx M.flex,w0,B,ver,flexAt M.flex ver,M.t,M.N,err,Gl,gb⟩:=⟨_,rfl⟩
    have hXok:X.ok:=by
      rw [hX]
      refine ⟨hk,hgb,by cases M.flex <;> rfl,by simp only;omega,?_,by simp only;omega,hver,hG,hgl⟩
      intro h
      cases hfl:M.flex with
      | none=>rfl
      | some n=>rw [hfl] at h;cases h
    have hg:∀ s,s < 9→getT ((a.put (some (rT1 M.t M.flex)) (getT a 0)).put (some (rS M.flex)) (getT (a.put (some (rT1 M.t M.flex)) (getT a 0)) (rT1 M.t M.flex))) s=getT a s:=fun s h=>by
      rw [gTn (by omega),gTn (by omega)]
    have hpS:getT ((a.put (some (rT1 M.t M.flex)) (getT a 0)).put (some (rS M.flex)) (getT (a.put (some (rT1 M.t M.flex)) (getT a 0)) (rT1 M.t M.flex))) (rS M.flex)=.pointer (some ⟨b,0,none⟩):=by
      rw [gTp (by simp only [sPu];omega),gTp (by omega)]
      exact p6
    have hg9:M.flex ≠ none→getT ((a.put (some (rT1 M.t M.flex)) (getT a 0)).put (some (rS M.flex)) (getT (a.put (some (rT1 M.t M.flex)) (getT a 0)) (rT1 M.t M.flex))) 9=.bool (flexAt M.flex ver):=fun h=>by
      have:rS M.flex=10:=by cases hfl:M.flex <;> simp_all [rS]
      rw [gTn (by omega),gTn (by omega)]
      exact p7 h
    have hs3:((a.put (some (rT1 M.t M.flex)) (getT a 0)).put (some (rS M.flex)) (getT (a.put (some (rT1 M.t M.flex)) (getT a 0)) (rT1 M.t M.flex))).tmps.size=M.N:=by simp only [sPu];exact p1
    have hd3:((a.put (some (rT1 M.t M.flex)) (getT a 0)).put (some (rS M.flex)) (getT (a.put (some (rT1 M.t M.flex)) (getT a 0)) (rT1 M.t M.flex))).defers=[]:=by simp only [dPu];exact p2
    generalize ((a.put (some (rT1 M.t M.flex)) (getT a 0)).put (some (rS M.flex)) (getT (a.put (some (rT1 M.t M.flex)) (getT a 0)) (rT1 M.t M.flex)))=a3 at hg hpS hg9 hs3 hd3 ⊢
    rw [List.append_assoc]
    have hi:RInv X a3 w2 (some src):=by
      rw [hX]
      refine ⟨hs3,hd3,by rw [hg 2 (by omega)];exact p3,by rw [hg 7 (by omega)];exact p4,by rw [hg 8 (by omega)];exact p5,fun h=>?_,⟨base,cap,hrow2,hcap,?_⟩,fun sb hsb=>⟨by have:=(hsrc sb hsb).2;show sb ≠ rb;omega,by have:=(hsrc sb hsb).2;show sb < w2.heap.size;omega⟩,hbelow2,by show B≤w2.heap.size;omega⟩
      · refine hg9 fun e=>?_
        rw [e] at h
        cases h
      · have:SrcAt w2 S base src:=hsr.frame fun sb hsb=>by rw [hoth2 sb (by have:=(hsrc sb hsb).2;omega),hoth1 sb (hsrc sb hsb).1]
        cases S <;> exact this
    have hopn:Opn X (fun k=>k=rb∨k=b) b w2:=by
      rw [hX]
      refine ⟨.inl rfl,.inr rfl,fun k hk=>by rcases hk with rfl | rfl <;> omega,fun sb hsb h=>?_,by simp only;omega,hBb⟩
      have:=hsrc sb hsb
      rcases h with h | h
      · omega
      · exact this.1 h
    have hfr2:FrFs w2 b M.fs 0:=by
      refine frFs_frame (w:=w1) M.fs 1 (topEnd M.size M.tags) 0 c3 (fun j h1 h2=>World.cell?_of_block (hoth2 b (by omega))) hfr1
    subst hX
    refine top_body (X:=⟨P,I,I.tRd,S,rb,G,rCtx M.flex,w0,B,ver,flexAt M.flex ver,M.t,M.N,err,Gl,gb⟩) (fs:=M.fs) (S:=M.S) (p:=rS M.flex) (v:=rS M.flex+1) (t:=rT1 M.t M.flex+1) (bk:=0) (b:=b) (o:=0) (tags:=M.tags) (lo:=1) (size:=M.size) (O:=fun k=>k=rb∨k=b) (st:=some src) hXok c1 c2 c3 (fun f off e=>by rw [e] at c4;simpa using c4) c5 hdef hi hpS hopn ⟨_,_,hrb2,by omega⟩ hfr2 (by omega) (by omega) c6 (by simp only;omega) (by simp only;omega) ?_ ?_
    · intro a4 w4 hi4 hs4 hf4 hv4
      simp only [wpL]
      refine SC.wp_reg (ops_call (argsV:=#[.pointer (some ⟨rb,0,none⟩)]) hk.complF (hk.compl w4 S rb _ (hgl _ hi4.below) hi4.at_) ?_ ?_)
      · simp only [List.map_cons,List.map_nil,List.map_toArray,eTm]
        rw [hi4.rd]
      rintro e w5 ⟨rfl,rfl⟩
      refine ⟨_,rfl,ops_asg (oNi ?_)⟩
      simp only [Exit.then]
      refine SC.wp_ret ?_
      simp only [Exit.then]
      have hsz4:a4.tmps.size=M.N:=hi4.size
      refine ret_tmp hr (by simp only [dPu];exact hi4.defers) ⟨hi4.below,hi4.heap,?_⟩
      have hres:getT ((a4.put (some (rT1 M.t M.flex+1+rFT (rCtx M.flex) M.fs+rTagsT M.tags)) (if (after (some src) (pBody ver (flexAt M.flex ver) M.fs)).isSome=true then Value.nilIface else err)).put (some 6) (getT (a4.put (some (rT1 M.t M.flex+1+rFT (rCtx M.flex) M.fs+rTagsT M.tags)) (if (after (some src) (pBody ver (flexAt M.flex ver) M.fs)).isSome=true then Value.nilIface else err)) (rT1 M.t M.flex+1+rFT (rCtx M.flex) M.fs+rTagsT M.tags))) 6=(if (after (some src) (pBody ver (flexAt M.flex ver) M.fs)).isSome=true then Value.nilIface else err):=by
        rw [gTp (by simp only [sPu];omega),gTp (by omega)]
      rw [hres]
      cases hp:pBody ver (flexAt M.flex ver) M.fs src with
      | none=>simp [after_no hp]
      | some z =>
        obtain ⟨x,r⟩:=z
        have hlt4:b < w5.heap.size:=Nat.lt_of_lt_of_le (by omega) hf4.size
        refine ⟨by simp [after_ok hp],hlt4,?_,fun hfit hfu=>⟨FO (fun k=>k=rb∨k=b) w5,fun k hk=>hk.1,hv4 src x r rfl hp hfit hfu⟩⟩
        rw [hf4.cell (q:=0) (n:=0) ⟨_,_,hrb2,Nat.zero_le _⟩ (j:=0) (by omega)]
        exact hvc2
    · intro a' w' e1 e2 e3 e4
      refine ret_tmp hr e1 ⟨e3,Nat.le_trans hBw e3.size,?_⟩
      cases hp:pBody ver (flexAt M.flex ver) M.fs src with
      | none=>simp only;rw [e2]
      | some z =>
        rw [after_ok hp] at e4
        cases e4
  cases hfl:M.flex with
  | none =>
    rw [hfl] at mid
    simp only [rFlexL,List.nil_append]
    exact mid a2 ⟨p1,p2,p3,p4,p5,p6,fun h=>absurd rfl h⟩
  | some n =>
    rw [hfl] at mid
    simp only [rFlexL,List.cons_append,List.nil_append,wpL]
    have ht1:rT1 M.t (some n)=M.t+12:=rfl
    rw [hfl] at c7 hT1
    refine SC.wp_reg (ops_mv (ops_1 (v:=.bool (decide (n≤ver))) (by simp (disch:=(try simp only [sPu]);omega) [p5,qv,vop,iop]) (ops_asg (oNi ?_))))
    simp only [Exit.then]
    refine SC.wp_reg (ops_mv (oNi ?_))
    simp only [Exit.then]
    exact mid _ ⟨by simp [sPu,p1],by simp [dPu,p2],by simp (disch:=(try simp only [sPu]);omega) [p3],by simp (disch:=(try simp only [sPu]);omega) [p4],by simp (disch:=(try simp only [sPu]);omega) [p5],by simp (disch:=(try simp only [sPu]);omega) [p6],fun _=>by simp (disch:=(try simp only [sPu]);omega) [flexAt]⟩
end
end Go.Proofs.YtmapoohbongifaaGreatDoor.K
namespace Go.Proofs.YtmapoohbongifaaGreatDoor.K
open Go Go.RowKit Go.Proofs.YtmapoohbongifaaGreatDoor.T
set_option linter.unusedVariables false
set_option linter.unusedSimpArgs false
set_option maxHeartbeats 1000000
def mapU (P:Program) (T:Nat):Bool:=oneB P T && (match P.underlying T with
  | some (.map k _)=>(match P.underlying k with | some (.int .u32)=>true | _=>false)
  | _=>false)
theorem mapU_of {P:Program} {T:Nat} (h:mapU P T=true):oneB P T=true∧∃ k e,P.underlying T=some (.map k e)∧P.underlying k=some (.int .u32):=by
  simp only [mapU,Bool.and_eq_true] at h
  obtain ⟨h1,h⟩:=h
  split at h <;> try (simp at h;done)
  rename_i k e hu
  split at h <;> try (simp at h;done)
  rename_i hk
  exact ⟨h1,k,e,hu,hk⟩
theorem setTag_self (t:Nat × Bytes):∀ u,t ∈ setTag t u
  | []=>by simp [setTag]
  | x :: r=>by
    simp only [setTag]
    split
    · exact List.mem_cons_of_mem _ (setTag_self t r)
    · split <;> simp
theorem setTag_new {t:Nat × Bytes}:∀ {u:List (Nat × Bytes)},(∀ x ∈ u,x.1 ≠ t.1)→((setTag t u).map (·.1)).Perm (u.map (·.1) ++ [t.1])
  | [],_=>by simp [setTag]
  | x :: r,h=>by
    simp only [setTag]
    split
    · simp only [List.map_cons,List.cons_append]
      exact (setTag_new fun y hy=>h y (List.mem_cons_of_mem _ hy)).cons _
    · rw [if_neg (h x (.head _))]
      simp only [List.map_cons]
      exact (List.perm_append_comm (l₁:=x.1 :: r.map (·.1)) (l₂:=[t.1])).symm
theorem setTag_old {t:Nat × Bytes}:∀ {u:List (Nat × Bytes)},Sorted u→(∃ x ∈ u,x.1=t.1)→(setTag t u).map (·.1)=u.map (·.1)
  | [],_,h=>by simp at h
  | x :: r,hs,h=>by
    have hs':=List.pairwise_cons.1 hs
    simp only [setTag]
    split
    · rename_i hlt
      simp only [List.map_cons]
      rw [setTag_old hs'.2]
      obtain ⟨y,hy,he⟩:=h
      rcases List.mem_cons.1 hy with rfl | hy
      · omega
      · exact ⟨y,hy,he⟩
    · split
      · rename_i he
        simp [he]
      · exfalso
        obtain ⟨y,hy,he⟩:=h
        rcases List.mem_cons.1 hy with rfl | hy
        · omega
        · have:=hs'.1 y hy
          omega
theorem sorted_uniq:∀ {u:List (Nat × Bytes)},Sorted u→∀ x ∈ u,∀ y ∈ u,x.1=y.1→x=y
  | [],_,x,hx,_,_,_=>by simp at hx
  | z :: r,hs,x,hx,y,hy,he=>by
    have hs':=List.pairwise_cons.1 hs
    rcases List.mem_cons.1 hx with e1 | hx1
    · rcases List.mem_cons.1 hy with e2 | hy1
      · rw [e1,e2]
      · have:=hs'.1 y hy1
        rw [← e1] at this
        omega
    · rcases List.mem_cons.1 hy with e2 | hy1
      · have:=hs'.1 x hx1
        rw [← e2] at this
        omega
      · exact sorted_uniq hs'.2 x hx1 y hy1 he
theorem bytesAt_F {w:World} {F F':Nat→Prop} {base:Option Addr} {bs:Bytes} (h:BytesAt w F base bs) (hF:∀ k,F k→F' k):BytesAt w F' base bs:=by
  rcases h with h | ⟨b,q,h1,h2,h3⟩
  · exact .inl h
  · exact .inr ⟨b,q,h1,hF _ h2,h3⟩
theorem bytesAt_keep {w w':World} {F:Nat→Prop} {base:Option Addr} {bs:Bytes} (h:BytesAt w F base bs) (hF:∀ k (a:Addr),F k→a.block=k→∀ v,w.cell? a=some v→w'.cell? a=some v):BytesAt w' F base bs:=by
  rcases h with h | ⟨b,q,h1,h2,h3⟩
  · exact .inl h
  · exact .inr ⟨b,q,h1,h2,fun j u hj=>hF b _ h2 rfl _ (h3 j u hj)⟩
theorem tagsEs_push {w:World} {F:Nat→Prop} {es:Array MapEntry} {clock:Nat} {u:List (Nat × Bytes)} {k:Nat} {bs:Bytes} {base:Option Addr} {cap:Nat} (h:TagsEs w F es clock u) (hn:∀ x ∈ es.toList,x.key ≠ .int .u32 (k:Int)) (hs:Sorted u) (hb:BytesAt w F base bs) :
    TagsEs w F (es.push { key:=.int .u32 (k:Int),val:=.slice base bs.length cap,born:=clock }) (clock+1) (setTag (k,bs) u):=by
  obtain ⟨h1,h2,h3⟩:=h
  have hnk:∀ x ∈ u,x.1 ≠ k:=fun x hx e=>by
    have:Value.int .u32 (x.1:Int) ∈ es.toList.map (·.key):=h1.mem_iff.2 (List.mem_map_of_mem hx)
    obtain ⟨y,hy,hye⟩:=List.mem_map.1 this
    exact hn y hy (by rw [hye,e])
  refine ⟨?_,MapKept.stamped_push h2 hn,?_⟩
  · have hp:=(setTag_new (t:=(k,bs)) hnk).map (fun n:Nat=>Value.int .u32 (n:Int))
    simp only [List.map_map,List.map_append,List.map_cons,List.map_nil,Function.comp_def] at hp
    simp only [Array.toList_push,List.map_append,List.map_cons,List.map_nil]
    exact (h1.append_right _).trans hp.symm
  · intro e he x hx hk
    simp only [Array.toList_push,List.mem_append,List.mem_singleton] at he
    have hst:Sorted (setTag (k,bs) u):=setTag_sorted hs
    rcases he with he | rfl
    · have hxk:x.1 ≠ k:=fun e2=>hn e he (by rw [hk,e2])
      rcases setTag_mem hx with rfl | hx
      · exact absurd rfl hxk
      · exact h3 e he x hx hk
    · simp only [Value.int.injEq,true_and] at hk
      have hxe:x=(k,bs):=sorted_uniq hst x hx _ (setTag_self _ _) (by simp only;omega)
      subst hxe
      exact ⟨base,cap,rfl,hb⟩
theorem tagsEs_modify {w:World} {F:Nat→Prop} {es:Array MapEntry} {clock:Nat} {u:List (Nat × Bytes)} {k j:Nat} {e0:MapEntry} {bs:Bytes} {base:Option Addr} {cap:Nat} (h:TagsEs w F es clock u) (hj:es[j]?=some e0) (hk0:e0.key=.int .u32 (k:Int)) (hs:Sorted u) (hb:BytesAt w F base bs) :
    TagsEs w F (es.modify j fun e=>{ e with key:=.int .u32 (k:Int),val:=.slice base bs.length cap }) clock (setTag (k,bs) u):=by
  obtain ⟨h1,h2,h3⟩:=h
  have hkeys:∀ e',es[j]?=some e'→({ e' with key:=Value.int .u32 (k:Int),val:=.slice base bs.length cap }:MapEntry).key=e'.key:=fun e' he'=>by
    rw [hj] at he'
    cases he'
    exact hk0.symm
  have hmem:e0 ∈ es.toList:=by
    rw [← Array.getElem?_toList] at hj
    exact List.mem_of_getElem? hj
  have hin:∃ x ∈ u,x.1=k:=by
    have:e0.key ∈ u.map fun x=>Value.int .u32 (x.1:Int):=h1.mem_iff.1 (List.mem_map_of_mem hmem)
    obtain ⟨x,hx,hxe⟩:=List.mem_map.1 this
    rw [hk0] at hxe
    simp only [Value.int.injEq,true_and] at hxe
    exact ⟨x,hx,by omega⟩
  refine ⟨?_,MapKept.stamped_modify h2 _ _ (fun _ _=>rfl) (fun e' _ he'=>hkeys e' he'),?_⟩
  · rw [MapKept.modify_keys _ _ hkeys]
    have:(setTag (k,bs) u).map (fun x=>Value.int .u32 (x.1:Int))=u.map fun x=>Value.int .u32 (x.1:Int):=by
      have:=congrArg (List.map fun n:Nat=>Value.int .u32 (n:Int)) (setTag_old (t:=(k,bs)) hs hin)
      simpa only [List.map_map,Function.comp_def] using this
    rw [this]
    exact h1
  · intro e he x hx hk
    have hst:Sorted (setTag (k,bs) u):=setTag_sorted hs
    obtain ⟨i,hi⟩:=List.getElem?_of_mem he
    rw [Array.getElem?_toList,Array.getElem?_modify] at hi
    by_cases hij:j=i
    · subst hij
      rw [if_pos rfl,hj] at hi
      simp only [Option.map_some,Option.some.injEq] at hi
      subst hi
      simp only [Value.int.injEq,true_and] at hk
      have hxe:x=(k,bs):=sorted_uniq hst x hx _ (setTag_self _ _) (by simp only;omega)
      subst hxe
      exact ⟨base,cap,rfl,hb⟩
    · rw [if_neg hij] at hi
      have hem:e ∈ es.toList:=by
        rw [← Array.getElem?_toList] at hi
        exact List.mem_of_getElem? hi
      have hne:e.key ≠ .int .u32 (k:Int):=fun hek=>by
        have hnd:=h2.2.2
        have e1:(es.toList.map (·.key))[i]?=some (.int .u32 (k:Int)):=by rw [List.getElem?_map,Array.getElem?_toList,hi,Option.map_some,hek]
        have e2:(es.toList.map (·.key))[j]?=some (.int .u32 (k:Int)):=by rw [List.getElem?_map,Array.getElem?_toList,hj,Option.map_some,hk0]
        have hil:=(List.getElem?_eq_some_iff.1 e1).1
        have:=(List.getElem?_inj hil hnd).1 (e1.trans e2.symm)
        exact hij this.symm
      have hxk:x.1 ≠ k:=fun e2=>hne (by rw [hk,e2])
      rcases setTag_mem hx with rfl | hx
      · exact absurd rfl hxk
      · exact h3 e hem x hx hk
section
variable {P:Program} {a:Act} {w:World} {K:Act→World→Prop} {d:Option Tmp} {g:Option (Nat × Bool)}
theorem opw_mapNil {T T':Nat} {x:Operand} {m:Option Nat} (hT:mapU P T=true) (hx:a.eval x=.map m) (h:K (a.put d (.bool m.isNone)) w):opw P ⟨d,.binOp .eql T x (.const (.map none)) T',g⟩ a w K:=by
  obtain ⟨-,k,e,hu,hk⟩:=mapU_of hT
  refine oVa (v:=.bool m.isNone) (by simp) (fun p hp=>?_) h
  have he:(Op.equal T (.map m) (.map none)).run P w=.ok m.isNone w:=by
    have hd:∀ d,(Op.equalIn (d+1) T (.map m) (.map none)).run P w=.ok m.isNone w:=fun d=>by
      cases m <;> simp [Op.equalIn,run_underlying hu]
    exact hd 9999
  simp [execOp,hp,hx,eCo,eqGuard,binOp,he]
theorem opw_makeMap {T:Nat} (h:K (a.put d (.map (some w.heap.size))) (w.alloc (.map #[] 0))):opw P ⟨d,.makeMap T none,g⟩ a w K:=by
  refine oVa (v:=.map (some w.heap.size)) (w':=w.alloc (.map #[] 0)) (by simp) (fun p hp=>?_) h
  have:(Instr.makeMap T none).run P w=.ok (.map (some w.heap.size)) (w.alloc (.map #[] 0)):=rfl
  simp [execOp,hp,this]
def mapSet (w:World) (r:Nat) (es:Array MapEntry) (clock:Nat):World:={ w with heap:=w.heap.setIfInBounds r (.map es clock) }
theorem mapSet_at {r:Nat} {es es':Array MapEntry} {c c':Nat} (h:w.heap[r]?=some (.map es c)):(mapSet w r es' c').heap[r]?=some (.map es' c'):=(MapKept.heap_set h).1
theorem mapSet_other {r k:Nat} {es':Array MapEntry} {c':Nat} (hk:k ≠ r):(mapSet w r es' c').heap[k]?=w.heap[k]?:=by
  simp [mapSet,Ne.symm hk]
theorem opw_mapUpdate {T r k clock:Nat} {m x y:Operand} {es:Array MapEntry} {F:Nat→Prop} {u:List (Nat × Bytes)} {base:Option Addr} {cap:Nat} {bs:Bytes} (hT:mapU P T=true) (hm:a.eval m=.map (some r)) (hx:a.eval x=.int .u32 (k:Int)) (hy:a.eval y=.slice base bs.length cap)
    (hr:w.heap[r]?=some (.map es clock)) (ht:TagsEs w F es clock u) (hs:Sorted u) (hb:BytesAt w F base bs)
    (h:∀ es' clock',TagsEs w F es' clock' (setTag (k,bs) u)→K (a.put d undef) (mapSet w r es' clock')):opw P ⟨d,.mapUpdate T m x y,g⟩ a w K:=by
  obtain ⟨-,kt,e,hu,hk⟩:=mapU_of hT
  have hik:MapKept.IsKey (.int .u32) (.int .u32 (k:Int)):=rfl
  have hks:∀ z ∈ es.toList,MapKept.IsKey (.int .u32) z.key:=fun z hz=>by
    have:z.key ∈ u.map fun x=>Value.int .u32 (x.1:Int):=ht.1.mem_iff.1 (List.mem_map_of_mem hz)
    obtain ⟨x,_,hxe⟩:=List.mem_map.1 this
    rw [← hxe]
    rfl
  rcases MapKept.findNow_spec hik es.toList 0 hks with ⟨h1,h2⟩ | ⟨j,e0,h1,h2,h3⟩
  · refine opw_skip (w':=mapSet w r (es.push { key:=.int .u32 (k:Int),val:=.slice base bs.length cap,born:=clock }) (clock+1)) (by simp) (fun p hp=>?_) (h _ _ (tagsEs_push ht h2 hs hb))
    simp [execOp,hp,hm,hx,hy,Instr.mapUpdate,run_underlying hu,MapKept.run_getObj_map hr,MapKept.run_checkKey hk hik,MapKept.run_findKey hk h1,MapKept.run_setObj_map _ hr,Result.andThen,mapSet]
  · have hj:es[j]?=some e0:=by simpa using h2
    refine opw_skip (w':=mapSet w r (es.modify j fun e=>{ e with key:=.int .u32 (k:Int),val:=.slice base bs.length cap }) clock) (by simp) (fun p hp=>?_) (h _ _ (tagsEs_modify ht hj h3 hs hb))
    simp [execOp,hp,hm,hx,hy,Instr.mapUpdate,run_underlying hu,MapKept.run_getObj_map hr,MapKept.run_checkKey hk hik,MapKept.run_findKey hk h1,hj,h3,MapKept.run_keyThatStays hik,MapKept.run_setObj_map _ hr,Result.andThen,mapSet]
end
end Go.Proofs.YtmapoohbongifaaGreatDoor.K
namespace Go.Proofs.YtmapoohbongifaaGreatDoor.K
open Go Go.RowKit Go.Proofs.YtmapoohbongifaaGreatDoor.T
attribute [local simp] eTm eCo pNo gTp gTn qv qcall vop iop
set_option linter.unusedVariables false
set_option linter.unusedSimpArgs false
set_option maxHeartbeats 2000000
def sc_TSet (T0 T1:Nat):SC:=.seq (.seq (.reg [mv 6 0,nilc 7 6,fa 8 T0 7 0,ld 9 T1 8,⟨some 10,.binOp .eql T1 (.tmp 9) (.const (.map none)) T1,none⟩]) (.cond (.tmp 10) (.reg [mv 11 0,⟨some 12,.makeMap T1 none,none⟩,nilc 13 11,fa 14 T0 13 0,⟨none,.store T1 (.tmp 14) (.tmp 12),none⟩]) (.skip))) (.reg [mv 15 0,nilc 16 15,fa 17 T0 16 0,ld 18 T1 17,mv 19 1,mv 20 2,⟨none,.mapUpdate T1 (.tmp 18) (.tmp 19) (.tmp 20),none⟩])
def sc_ReadTags (T0 T1 T2 F0 F1 F2:Nat):SC:=.seq (.reg [⟨some 2,.alloc T0,none⟩]) (.seq (.reg [⟨some 3,.alloc T0,none⟩]) (.seq (.seq (.reg [mv 7 0,cal 8 F0 [7],asg 4 8]) (.block 0 (.loop (.seq (.seq (.reg [mv 9 4,⟨some 10,.binOp .gtr T1 (.tmp 9) (.const (.int .u32 0)) T1,none⟩]) (.cond (.tmp 10) (.skip) (.exit 0))) (.seq (.block 1 (.seq (.reg [mv 13 0,cal 14 F0 [13],mv 15 0,cal 16 F0 [15],asg 5 14,asg 6 16]) (.reg [mv 17 5,mv 18 0,mv 19 6,⟨some 20,.convert T1 T2 (.tmp 19),none⟩,cal 21 F1 [18,20],cal 22 F2 [3,17,21]]))) (.reg [mv 11 4,⟨some 12,.binOp .sub T1 (.tmp 11) (.const (.int .u32 1)) T1,none⟩,asg 4 12])))))) (.seq (.reg [ld 23 T0 3,⟨none,.store T0 (.tmp 2) (.tmp 23),none⟩]) (.ret))))
def MapV (w:World) (lo tb:Nat) (S:Option Nat) (u:List (Nat × Bytes)) (m:Option Nat):Prop :=
  (m=none∧u=[])∨∃ r es clock,m=some r∧lo≤r∧r ≠ tb∧w.heap[r]?=some (.map es clock)∧TagsEs w (fun k=>S=some k) es clock u
theorem MapV.frame {w w':World} {lo tb:Nat} {S:Option Nat} {u:List (Nat × Bytes)} {m:Option Nat} (h:MapV w lo tb S u m) (hb:∀ k,lo≤k→k < w.heap.size→w'.heap[k]?=w.heap[k]?) (hS:∀ sb,S=some sb→w'.heap[sb]?=w.heap[sb]?):MapV w' lo tb S u m:=by
  rcases h with h | ⟨r,es,clock,h1,h2,h3,h4,h5,h6,h7⟩
  · exact .inl h
  · refine .inr ⟨r,es,clock,h1,h2,h3,by rw [hb r h2 (Array.getElem?_eq_some_iff.1 h4).1];exact h4,h5,h6,fun e he x hx hk=>?_⟩
    obtain ⟨base,cap,q1,q2⟩:=h7 e he x hx hk
    exact ⟨base,cap,q1,bytesAt_keep q2 fun k a hF ha v hv=>by rw [World.cell?_of_block (ha ▸ hS k hF)];exact hv⟩
def SetC (P:Program) (T0:Nat) (F:FuncId):Prop:=FnOK P F∧∀ (w:World) (tb lo k cap:Nat) (S m:Option Nat) (u:List (Nat × Bytes)) (base:Option Addr) (bs:Bytes),lo≤tb→lo≤w.heap.size→(∀ sb,S=some sb→sb < lo) →
  w.heap[tb]?=some (.cells #[.map m] T0 (0,0))→MapV w lo tb S u m→Sorted u→BytesAt w (fun k=>S=some k) base bs →
  Calls P F #[.pointer (some ⟨tb,0,none⟩),.int .u32 (k:Int),.slice base bs.length cap] w fun e w'=>e=.returned (.tuple #[])∧Below lo w w'∧lo≤w'.heap.size∧(∀ k,k < w.heap.size→k ≠ tb→m ≠ some k→w'.heap[k]?=w.heap[k]?) ∧
    ∃ m',w'.heap[tb]?=some (.cells #[.map m'] T0 (0,0))∧MapV w' lo tb S (setTag (k,bs) u) m'
section
variable {P:Program} {R:RTy} {f:FuncId} {fn:Func}
theorem ret_cellAgg {Rr:Ending→World→Prop} {a:Act} {w:World} {r T b:Nat} {cs:List Value} (hr:fn.results=#[.cell r T]) (hT:aggB P T cs.length=true) (hx:getT a r=.pointer (some ⟨b,0,none⟩)) (hc:∀ j v,cs[j]?=some v→w.cell? ⟨b,j,none⟩=some v) (hd:a.defers=[]) (hR:Rr (.returned (.agg cs.toArray)) w):bodyPost P fn Rr .ret a w:=by
  refine ⟨hd,.agg cs.toArray,?_,hR⟩
  obtain ⟨i,hi,hs,ha⟩:=agg_of (w:=w) hT
  have hl:=run_loadCells_list (P:=P) w ⟨b,0,none⟩ cs (fun j v hv=>by rw [add_none,Nat.zero_add];exact hc j v hv)
  have hx':a.tmps[r]?.getD undef=.pointer (some ⟨b,0,none⟩):=by simpa [getT,Array.getD_eq_getD_getElem?] using hx
  simp [results,hr,hx',asAddr,loadVar,ha,sizeOf,typeInfo,hi,hs,hl]
theorem tSet_ok {T0 T1 : Nat} (hT : mapU P T1 = true) (hf0 : fieldOff P T0 0 = some 0) (hf : P.funcs[f]? = some fn) (hb : fn.body.map strip = some (sc_TSet T0 T1)) (hnm : (fn.name == "runtime.NumGoroutine") = false) (hn : fn.ntmps = 21) (hr : fn.results = #[]) : SetC P T0 f := by
  refine ⟨fnOK_of hf hb hnm,fun w tb lo k cap S m u base bs htb hlo hS hrow hm hsu hbs=>?_⟩
  have h1:=(mapU_of hT).1
  refine fCa hf hb hn (by simp) fun a0 hs hd ha=>?_
  have h0:=ha 0 _ rfl
  have g1:=ha 1 _ rfl
  have g2:=ha 2 _ rfl
  simp only [List.getElem_toArray,List.getElem_cons_zero,List.getElem_cons_succ] at h0 g1 g2
  have hcell:w.cell? ⟨tb,0,none⟩=some (.map m):=by rw [cell_of_row _ _ _ _ _ _ hrow];rfl
  have htl:tb < w.heap.size:=(Array.getElem?_eq_some_iff.1 hrow).1
  refine SC.wp_seq (SC.wp_seq (SC.wp_reg ?_))
  iterate 4 (apply ops_1;(focus (simp (disch:=(try simp only [sPu]);omega) [h0,hf0,h1,hcell];try rfl)))
  refine oNo rfl (opw_mapNil (m:=m) hT (by simp (disch:=(try simp only [sPu]);omega)) (oNi ?_))
  simp only [Exit.then]
  refine SC.wp_cond (t:=m.isNone) (by simp (disch:=(try simp only [sPu]);omega)) ?_
  have last:∀ (a:Act) (w1:World) (r clock:Nat) (es:Array MapEntry),a.tmps.size=21→a.defers=[]→getT a 0=.pointer (some ⟨tb,0,none⟩)→getT a 1=.int .u32 (k:Int)→getT a 2=.slice base bs.length cap →
      w1.heap[tb]?=some (.cells #[.map (some r)] T0 (0,0))→lo≤r→r ≠ tb→w1.heap[r]?=some (.map es clock)→TagsEs w1 (fun k=>S=some k) es clock u→BytesAt w1 (fun k=>S=some k) base bs→Below lo w w1→lo≤w1.heap.size→(∀ k,k < w.heap.size→k ≠ tb→w1.heap[k]?=w.heap[k]?)→(r < w.heap.size→m=some r) →
      (SC.reg [mv 15 0,nilc 16 15,fa 17 T0 16 0,ld 18 T1 17,mv 19 1,mv 20 2,⟨none,.mapUpdate T1 (.tmp 18) (.tmp 19) (.tmp 20),none⟩]).wp P (bodyPost P fn (fun e w'=>e=.returned (.tuple #[])∧Below lo w w'∧lo≤w'.heap.size∧(∀ k,k < w.heap.size→k ≠ tb→m ≠ some k→w'.heap[k]?=w.heap[k]?) ∧
    ∃ m',w'.heap[tb]?=some (.cells #[.map m'] T0 (0,0))∧MapV w' lo tb S (setTag (k,bs) u) m')) a w1:=by
    intro a w1 r clock es p1 p2 p3 p4 p5 p6 p7 p8 p9 p10 p11 p12 p13 p14 p15
    have hcell1:w1.cell? ⟨tb,0,none⟩=some (.map (some r)):=by rw [cell_of_row _ _ _ _ _ _ p6];rfl
    refine SC.wp_reg ?_
    iterate 6 (apply ops_1;(focus (simp (disch:=(try simp only [sPu]);omega) [p3,p4,p5,hf0,h1,hcell1];try rfl)))
    refine oNo rfl (opw_mapUpdate (r:=r) (k:=k) (es:=es) (F:=fun k=>S=some k) (u:=u) (base:=base) (cap:=cap) (bs:=bs) hT (by simp (disch:=(try simp only [sPu]);omega)) (by simp (disch:=(try simp only [sPu]);omega) [p4]) (by simp (disch:=(try simp only [sPu]);omega) [p5]) p9 p10 hsu p11 fun es' clock' ht=>oNi ?_)
    rw [pNo]
    refine ⟨by simp only [dPu];exact p2,.tuple #[],by simp [results,hr],rfl,?_,by simpa [mapSet] using p13,fun k hk h2 h3=>?_,some r,?_,.inr ⟨r,es',clock',rfl,p7,p8,mapSet_at p9,ht.1,ht.2.1,fun e he x hx hk=>?_⟩⟩
    · exact p12.trans ⟨rfl,rfl,rfl,by simp [mapSet],fun k hk=>mapSet_other (by omega)⟩
    · rw [mapSet_other (fun e=>h3 (by rw [e];exact p15 (by omega)))]
      exact p14 k hk h2
    · rw [mapSet_other (Ne.symm p8)]
      exact p6
    · obtain ⟨b2,c2,q1,q2⟩:=ht.2.2 e he x hx hk
      exact ⟨b2,c2,q1,bytesAt_keep q2 fun k a hF ha v hv=>by
        rw [World.cell?_of_block (mapSet_other (w:=w1) (by have:=hS k hF;omega))]
        exact hv⟩
  cases m with
  | none =>
    simp only [Option.isNone_none,if_true]
    have hu:u=[]:=by
      rcases hm with h | ⟨r,es,clock,h,-⟩
      · exact h.2
      · cases h
    subst hu
    refine SC.wp_reg ?_
    iterate 1 (apply ops_1;(focus (simp (disch:=(try simp only [sPu]);omega) [h0];try rfl)))
    refine oNo rfl (opw_makeMap ?_)
    have hnew:=heap_alloc_new w (.map #[] 0)
    have hrow2:(w.alloc (.map #[] 0)).heap[tb]?=some (.cells #[.map none] T0 (0,0)):=by rw [Below.heap_alloc _ _ _ htl];exact hrow
    iterate 2 (apply ops_1;(focus (simp (disch:=(try simp only [sPu]);omega) [h0,hf0];try rfl)))
    refine ops_stR (b:=tb) (i:=0) (v:=.map (some w.heap.size)) h1 (by simp (disch:=(try simp only [sPu]);omega)) (by simp (disch:=(try simp only [sPu]);omega)) rfl hrow2 (by simp) (oNi ?_)
    simp only [Exit.then]
    refine last _ _ w.heap.size 0 #[] (by simp [sPu,hs]) (by simp [dPu,hd]) (by simp (disch:=(try simp only [sPu]);omega) [h0]) (by simp (disch:=(try simp only [sPu]);omega) [g1]) (by simp (disch:=(try simp only [sPu]);omega) [g2]) ?_ hlo (by omega) ?_ ⟨by simp,MapKept.stamped_empty 0,fun e he=>by simp at he⟩ ?_ ?_ (by simp;omega) ?_ (fun h=>by omega)
    · have:=setRow_heap _ _ _ (#[Value.map none].setIfInBounds 0 (.map (some w.heap.size))) _ _ hrow2
      rw [this]
      simp
    · rw [setRow_other _ _ _ _ (by omega)]
      exact hnew
    · refine bytesAt_keep hbs fun k a hF ha v hv=>?_
      have:=hS k hF
      rw [World.cell?_of_block (w':=(w.alloc (.map #[] 0)).setRow tb _) (w:=w) (by rw [setRow_other _ _ _ _ (by omega)];exact Below.heap_alloc _ _ _ (by omega))]
      exact hv
    · exact ((Below.refl lo w).alloc hlo _).trans ⟨rfl,rfl,rfl,by simp,fun k hk=>setRow_other _ _ _ _ (by omega)⟩
    · intro k hk h2
      rw [setRow_other _ _ _ _ h2]
      exact Below.heap_alloc _ _ _ hk
  | some r =>
    simp only [Option.isNone_some,Bool.false_eq_true,if_false]
    refine SC.wp_skip ?_
    simp only [Exit.then]
    rcases hm with h | ⟨r',es,clock,h,q1,q2,q3,q4⟩
    · cases h.1
    · cases h
      exact last _ w r clock es (by simp [sPu,hs]) (by simp [dPu,hd]) (by simp (disch:=(try simp only [sPu]);omega) [h0]) (by simp (disch:=(try simp only [sPu]);omega) [g1]) (by simp (disch:=(try simp only [sPu]);omega) [g2]) hrow q1 q2 q3 q4 hbs (Below.refl _ _) hlo (fun _ _ _=>rfl) (fun _=>rfl)
end
end Go.Proofs.YtmapoohbongifaaGreatDoor.K
namespace Go.Proofs.YtmapoohbongifaaGreatDoor.K
open Go Go.RowKit Go.Proofs.YtmapoohbongifaaGreatDoor.T
attribute [local simp] eTm eCo pNo gTp gTn qv qcall vop iop
set_option linter.unusedVariables false
set_option linter.unusedSimpArgs false
set_option maxHeartbeats 2000000
theorem after_bind {α:Type} {st:Option Bytes} {p:Rd α}:after st p=(st.bind p).map (·.2):=by
  cases st <;> rfl
theorem tagN_step {st:Option Bytes} {n k:Nat} {s:Int} {x:Bytes} {acc:List (Nat × Bytes)} (h1:∀ b y r,st=some b→pUv b=some (y,r)→k=y) (h2:∀ b (y:Nat) r,after st pUv=some b→pUv b=some (y,r)→s=(y:Int)) (h3:∀ b y r,after (after st pUv) pUv=some b→pSpan s b=some (y,r)→x=y) :
    st.bind (pTagN (n+1) acc)=(after (after (after st pUv) pUv) (pSpan s)).bind (pTagN n (setTag (k,x) acc)):=by
  cases st with
  | none=>rfl
  | some b =>
    cases hp:pUv b with
    | none =>
      have e1:after (some b) pUv=none:=after_no hp
      rw [e1]
      simp [pTagN,rThen,hp,after]
    | some z =>
      obtain ⟨y,r⟩:=z
      have e1:after (some b) pUv=some r:=after_ok hp
      obtain rfl:=h1 b y r rfl hp
      rw [e1] at h2 h3 ⊢
      cases hp2:pUv r with
      | none =>
        have e2:after (some r) pUv=none:=after_no hp2
        rw [e2]
        simp [pTagN,rThen,hp,hp2,after]
      | some z2 =>
        obtain ⟨y2,r2⟩:=z2
        have e2:after (some r) pUv=some r2:=after_ok hp2
        obtain rfl:=h2 r y2 r2 rfl hp2
        rw [e2] at h3 ⊢
        cases hp3:pSpan (y2:Int) r2 with
        | none =>
          rw [after_no hp3]
          simp [pTagN,rThen,hp,hp2,hp3]
        | some z3 =>
          obtain ⟨y3,r3⟩:=z3
          obtain rfl:=h3 r2 y3 r3 rfl hp3
          rw [after_ok hp3]
          simp [pTagN,rThen,hp,hp2,hp3]
section
variable {P:Program} {R:RTy} {f:FuncId} {fn:Func}
structure TLoop (P:Program) (TR:Nat) (T0:Nat) (w:World) (S:Option Nat) (rb:Nat) (st:Option Bytes) (a:Act) (w':World):Prop where
  size:a.tmps.size=24
  defers:a.defers=[]
  rd:getT a 0=.pointer (some ⟨rb,0,none⟩)
  res:getT a 2=.pointer (some ⟨w.heap.size,0,none⟩)
  tag:getT a 3=.pointer (some ⟨w.heap.size+1,0,none⟩)
  only:Only rb w w'
  heap:w.heap.size+2≤w'.heap.size
  row2:w'.heap[w.heap.size]?=some (.cells #[.map none] T0 (0,0))
  ex:∃ (n:Nat) (acc:List (Nat × Bytes)) (m:Option Nat) (st':Option Bytes),getT a 4=.int .u32 (n:Int)∧n < 4294967296∧RdAt TR w' S rb st'∧w'.heap[w.heap.size+1]?=some (.cells #[.map m] T0 (0,0))∧MapV w' (w.heap.size+1) (w.heap.size+1) S acc m∧Sorted acc∧st.bind (pTags true)=st'.bind (pTagN n acc)
def tMu (a:Act) (_:World):Nat:=match getT a 4 with
  | .int _ n=>n.toNat
  | _=>0
theorem rTagsFn_ok {TR gb T0 T1 T2 F0 F1 F2:Nat} (hm:aggB P T0 1=true) (hz:∃ i z,P.info? T0=some i∧i.zero=some z∧z.cells=#[.map none]) (h1k:intK P T1=some .u32) (h2k:intK P T2=some .i64)
    (hU:RC P TR gb F0 pUv (fun v=>∃ n:Nat,n < 4294967296∧v=.int .u32 (n:Int)) (fun _ _ n v=>v=.int .u32 (n:Int))) (hSp:SpC P TR F1) (hSet:SetC P T0 F2)
    (hf : P.funcs[f]? = some fn) (hb : fn.body.map strip = some (sc_ReadTags T0 T1 T2 F0 F1 F2)) (hnm : (fn.name == "runtime.NumGoroutine") = false) (hn : fn.ntmps = 24) (hr : fn.results = #[.cell 2 T0]) :
    RC P TR gb f (pTags true) (fun v=>∃ m,v=.agg #[m]∧m.oneCell'=true) (fun w F u v=>∃ m,v=.agg #[m]∧TagsV w F u m):=by
  refine ⟨fnOK_of hf hb hnm,fun w S rb st hgb hrd hsrc=>?_⟩
  obtain ⟨iz,z,hiz,hzz,hzc⟩:=hz
  have hrbl:rb < w.heap.size:=RdAt.lt hrd
  refine fCa hf hb hn (by simp) fun a0 hs hd ha=>?_
  have h0:=ha 0 _ rfl
  simp only [List.getElem_toArray,List.getElem_cons_zero,List.getElem_cons_succ] at h0
  refine SC.wp_seq (SC.wp_reg (oNo rfl (opw_alloc hiz hzz (oNi ?_))))
  simp only [Exit.then]
  refine SC.wp_seq (SC.wp_reg (oNo rfl (opw_alloc hiz hzz (oNi ?_))))
  simp only [Exit.then]
  rw [hzc]
  have hn1:=heap_alloc_new w (.cells #[.map none] T0)
  have hn2:=heap_alloc_new (w.alloc (.cells #[.map none] T0)) (.cells #[.map none] T0)
  have hsz1:(w.alloc (.cells #[.map none] T0)).heap.size=w.heap.size+1:=by simp
  rw [hsz1] at hn2 ⊢
  obtain ⟨w2,hw2⟩:∃ w2,w2=(w.alloc (.cells #[.map none] T0)).alloc (.cells #[.map none] T0):=⟨_,rfl⟩
  rw [← hw2] at hn2 ⊢
  have hsz2:w2.heap.size=w.heap.size+2:=by rw [hw2];simp
  have hold:∀ k,k < w.heap.size→w2.heap[k]?=w.heap[k]?:=fun k hk=>by
    rw [hw2,Below.heap_alloc _ _ _ (by simp;omega),Below.heap_alloc _ _ _ hk]
  have hr2:w2.heap[w.heap.size]?=some (.cells #[.map none] T0 (0,0)):=by
    rw [hw2,Below.heap_alloc _ _ _ (by simp)]
    exact hn1
  have hon2:Only rb w w2:=by rw [hw2];exact ((Only.refl rb w).alloc _).alloc _
  have hrd2:RdAt TR w2 S rb st:=RdAt.frame hrd (hold _ hrbl) fun sb h=>hold _ (hsrc sb h).2
  have hsrc2:∀ (w':World),Only rb w w'→∀ sb,S=some sb→sb ≠ rb∧sb < w'.heap.size:=fun w' ho sb h=>⟨(hsrc sb h).1,Nat.lt_of_lt_of_le (hsrc sb h).2 ho.size⟩
  refine SC.wp_seq (SC.wp_seq (SC.wp_reg ?_))
  iterate 1 (apply ops_1;(focus (simp (disch:=(try simp only [sPu]);omega) [h0];try rfl)))
  refine ops_call hU.1 (hU.2 w2 S rb st (by omega) hrd2 (hsrc2 w2 hon2)) (by simp (disch:=(try simp only [sPu]);omega) [h0]) ?_
  rintro e w3 ⟨v,rfl,q1,q2,⟨n,hnl,rfl⟩,q4⟩
  refine ⟨_,rfl,?_⟩
  repeat (apply ops_1;(focus (simp (disch:=(try simp only [sPu]);omega) ;try rfl)))
  refine oNi ?_
  simp only [Exit.then]
  refine SC.wp_block ?_
  refine SC.wp_loop (TLoop P TR T0 w S rb st) tMu ?_ ?_
  · refine ⟨by simp [sPu,hs],by simp [dPu,hd],by simp (disch:=(try simp only [sPu]);omega) [h0],by simp (disch:=(try simp only [sPu]);omega),by simp (disch:=(try simp only [sPu]);omega),hon2.trans q2,by have:=q2.size;omega,?_,n,[],none,after st pUv,by simp (disch:=(try simp only [sPu]);omega),hnl,q1,?_,.inl ⟨rfl,rfl⟩,List.Pairwise.nil,?_⟩
    · rw [q2.block _ (by omega) (by omega)];exact hr2
    · rw [q2.block _ (by omega) (by omega)];exact hn2
    · cases st with
      | none=>rfl
      | some b =>
        cases hp:pUv b with
        | none=>simp [pTags,rThen,hp,after]
        | some zz =>
          obtain ⟨y,r⟩:=zz
          have:=q4 b y r rfl hp
          simp only [Value.int.injEq,true_and] at this
          obtain rfl:n=y:=by omega
          simp [pTags,rThen,hp,after]
  · rintro a w4 ⟨p1,p2,p3,p4,p5,p6,p7,p8,n,acc,m,st',p9,p10,p11,p12,p13,p14,p15⟩
    have hmu:tMu a w4=n:=by simp [tMu,p9]
    refine SC.wp_seq (SC.wp_seq (SC.wp_reg ?_))
    repeat (apply ops_1;(focus (simp (disch:=(try simp only [sPu]);omega) [p9];try rfl)))
    refine oNi (SC.wp_cond (t:=decide ((n:Int) > 0)) (by simp (disch:=(try simp only [sPu]);omega)) ?_)
    by_cases h0n:n=0
    · subst h0n
      rw [if_neg (by simp)]
      refine SC.wp_exit ?_
      simp only [Exit.then,Exit.inBlock,if_true]
      have hcell:∀ j v,[Value.map m][j]?=some v→w4.cell? ⟨w.heap.size+1,0+j,none⟩=some v:=by
        intro j v hj
        rw [Nat.zero_add,cell_of_row _ _ _ _ _ _ p12]
        rw [← List.getElem?_toArray] at hj
        exact hj
      refine SC.wp_seq (SC.wp_reg (oNo rfl (opw_load_agg (cs:=[.map m]) (b:=w.heap.size+1) (o:=0) hm (by simp (disch:=(try simp only [sPu]);omega) [p5]) hcell (oNo rfl (opw_store_agg (cs:=[.map m]) (cur:=#[.map none]) (b:=w.heap.size) (E:=T0) hm (by simp (disch:=(try simp only [sPu]);omega) [p4]) (by simp (disch:=(try simp only [sPu]);omega)) p8 rfl (by intro v hv;simp at hv;subst hv;rfl) (oNi ?_))))))
      rw [pNo]
      simp only [Exit.then]
      refine SC.wp_ret ?_
      have hfin:=setRow_heap w4 w.heap.size _ [Value.map m].toArray _ _ p8
      have hoth:∀ k,k ≠ w.heap.size→(w4.setRow w.heap.size [Value.map m].toArray).heap[k]?=w4.heap[k]?:=fun k hk=>setRow_other _ _ _ _ hk
      have hst':after st (pTags true)=st':=by
        rw [after_bind,p15]
        cases st' <;> simp [pTagN,rOk]
      refine ret_cellAgg (cs:=[.map m]) (b:=w.heap.size) hr hm (by simp (disch:=(try simp only [sPu]);omega) [p4]) ?_ (by simp [dPu,p2]) ⟨_,rfl,?_,?_,⟨.map m,rfl,rfl⟩,fun b x r hst hp=>⟨.map m,rfl,?_⟩⟩
      · intro j v hj
        rw [cell_of_row _ _ _ _ _ _ hfin,List.getElem?_toArray]
        exact hj
      · rw [hst']
        exact RdAt.frame p11 (hoth _ (by omega)) fun sb h=>hoth _ (by have:=(hsrc sb h).2;omega)
      · exact p6.own (Nat.le_refl _) _
      · have hacc:x=acc:=by
          rw [hst] at p15
          simp only [Option.bind_some,hp] at p15
          cases st' with
          | none=>cases p15
          | some r' =>
            simp only [Option.bind_some,pTagN,rOk,Option.some.injEq,Prod.mk.injEq] at p15
            exact p15.1
        subst hacc
        have hmv:=p13.frame (w':=w4.setRow w.heap.size [Value.map m].toArray) (fun k h1 _=>hoth k (by omega)) (fun sb h=>hoth _ (by have:=(hsrc sb h).2;omega))
        rcases hmv with ⟨rfl,rfl⟩ | ⟨r',es,clock,rfl,e2,e3,e4,e5,e6,e7⟩
        · exact .inl ⟨rfl,rfl⟩
        · refine .inr ⟨r',es,clock,rfl,.inr ⟨by omega,(Array.getElem?_eq_some_iff.1 e4).1⟩,e4,e5,e6,fun e he x hx hk=>?_⟩
          obtain ⟨b2,c2,k1,k2⟩:=e7 e he x hx hk
          exact ⟨b2,c2,k1,bytesAt_F k2 fun k hk=>.inl hk⟩
    · rw [if_pos (by simp;omega)]
      refine SC.wp_skip ?_
      simp only [Exit.then]
      obtain ⟨n',rfl⟩:∃ n',n=n'+1:=⟨n - 1,by omega⟩
      refine SC.wp_seq (SC.wp_block (SC.wp_seq (SC.wp_reg ?_)))
      iterate 1 (apply ops_1;(focus (simp (disch:=(try simp only [sPu]);omega) [p3];try rfl)))
      refine ops_call hU.1 (hU.2 w4 S rb st' (by omega) p11 (hsrc2 w4 p6)) (by simp (disch:=(try simp only [sPu]);omega) [p3]) ?_
      rintro e w5 ⟨v,rfl,k1,k2,⟨k,hkl,rfl⟩,k4⟩
      refine ⟨_,rfl,?_⟩
      iterate 1 (apply ops_1;(focus (simp (disch:=(try simp only [sPu]);omega) [p3];try rfl)))
      refine ops_call hU.1 (hU.2 w5 S rb _ (by have:=k2.size;omega) k1 (hsrc2 w5 (p6.trans k2))) (by simp (disch:=(try simp only [sPu]);omega) [p3]) ?_
      rintro e w6 ⟨v,rfl,l1,l2,⟨s,hsl,rfl⟩,l4⟩
      refine ⟨_,rfl,?_⟩
      repeat (apply ops_1;(focus (simp (disch:=(try simp only [sPu]);omega) ;try rfl)))
      refine oNi (SC.wp_reg ?_)
      have hws:IntKind.i64.wrap (s:Int)=(s:Int):=wrap64 (by omega) (by omega)
      iterate 4 (apply ops_1;(focus (simp (disch:=(try simp only [sPu]);omega) [p3,h1k,h2k,hws];try rfl)))
      refine ops_call hSp.1 (hSp.2 w6 S rb _ (s:Int) l1 (hsrc2 w6 ((p6.trans k2).trans l2))) (by simp (disch:=(try simp only [sPu]);omega) [p3]) ?_
      rintro e w7 ⟨S',base,cap,x,rfl,m1,m2,m3,m4,m5⟩
      refine ⟨_,rfl,?_⟩
      have ho7:Only rb w4 w7:=(k2.trans l2).trans m2
      have hrow7:w7.heap[w.heap.size+1]?=some (.cells #[.map m] T0 (0,0)):=by rw [ho7.block _ (by omega) (by omega)];exact p12
      have hmv7:MapV w7 (w.heap.size+1) (w.heap.size+1) S acc m:=p13.frame (fun k h1 h2=>ho7.block k h2 (by omega)) fun sb h=>ho7.block sb (by have:=(hsrc sb h).2;omega) (hsrc sb h).1
      have hb7:BytesAt w7 (fun k=>S=some k) base x:=by
        rcases m5 with rfl | rfl
        · exact .inl m3.2
        · exact bytesAt_src m3 fun sb h=>h
      refine ops_call hSet.1 (hSet.2 w7 (w.heap.size+1) (w.heap.size+1) k cap S m acc base x (Nat.le_refl _) (by have:=ho7.size;omega) (fun sb h=>by have:=(hsrc sb h).2;omega) hrow7 hmv7 p14 hb7) (by simp (disch:=(try simp only [sPu]);omega) [p5]) ?_
      rintro e w8 ⟨rfl,n1,n2,n3,m',n4,n5⟩
      refine ⟨_,rfl,oNi ?_⟩
      simp only [Exit.then,Exit.inBlock]
      have hwn:IntKind.u32.wrap (n':Int)=(n':Int):=wrap_uN (k:=.u32) rfl (n:=n') (by simp only [IntKind.bits];omega)
      refine SC.wp_reg ?_
      repeat (apply ops_1;(focus (simp (disch:=(try simp only [sPu]);omega) [p9,hwn];try rfl)))
      refine oNi ?_
      have ho8:Only rb w w8:=by
        have ho:=p6.trans ho7
        exact ⟨n1.os.trans ho.os,n1.tape.trans ho.tape,n1.output.trans ho.output,Nat.le_trans ho.size n1.size,fun k hk hr=>(n1.block k (by omega)).trans (ho.block k hk hr)⟩
      refine ⟨⟨by simp [sPu,p1],by simp [dPu,p2],by simp (disch:=(try simp only [sPu]);omega) [p3],by simp (disch:=(try simp only [sPu]);omega) [p4],by simp (disch:=(try simp only [sPu]);omega) [p5],ho8,by have:=n1.size;have:=ho7.size;omega,?_,n',setTag (k,x) acc,m',after (after (after st' pUv) pUv) (pSpan (s:Int)),by simp (disch:=(try simp only [sPu]);omega),by omega,?_,n4,n5,setTag_sorted p14,?_⟩,?_⟩
      · rw [n1.block _ (by omega),ho7.block _ (by omega) (by omega)]
        exact p8
      · exact RdAt.frame m1 (n1.block _ (by omega)) fun sb h=>n1.block _ (by have:=(hsrc sb h).2;omega)
      · rw [p15]
        refine tagN_step (fun b y r hb hp=>?_) (fun b y r hb hp=>?_) (fun b y r hb hp=>(m4 b y r hb hp).1)
        · have:=k4 b y r hb hp
          simp only [Value.int.injEq,true_and] at this
          omega
        · have:=l4 b y r hb hp
          simp only [Value.int.injEq,true_and] at this
          omega
      · rw [hmu]
        simp only [tMu]
        simp (disch:=(try simp only [sPu]);omega)
end
end Go.Proofs.YtmapoohbongifaaGreatDoor.K
namespace Go.Proofs.YtmapoohbongifaaGreatDoor.K
open Go Go.RowKit Go.Proofs.YtmapoohbongifaaGreatDoor.T
attribute [local simp] eTm eCo pNo gTp gTn qv qcall vop iop
set_option linter.unusedSimpArgs false
set_option linter.unusedVariables false
set_option maxHeartbeats 4000000
def sc_NewPtr (T fDef:Nat):SC:=.seq (.reg [⟨some 0,.assign (.const (.pointer none)),none⟩]) (.seq (.reg [⟨some 1,.alloc T,none⟩]) (.seq (.reg [cal 2 fDef [1]]) (.seq (.reg [asg 0 1]) .ret)))
def sc_MaxV (n:Int):SC:=.seq (.reg [⟨some 2,.assign (.const (.int .i16 0)),none⟩]) (.seq (.reg [⟨some 2,.assign (.const (.int .i16 n)),none⟩]) .ret)
def sc_SetV (T T16:Nat):SC:=.reg [mv 4 0,mv 5 1,nilc 6 4,fa 7 T 6 0,⟨none,.store T16 (.tmp 7) (.tmp 5),none⟩]
def sc_Max (fNP fMV T16 TI:Nat):SC:=.seq (.reg [⟨some 0,.assign (.const (.int .i64 0)),none⟩]) (.seq (.reg [cal 1 fNP [],cal 2 fMV [1],⟨some 3,.convert T16 TI (.tmp 2),none⟩,asg 0 3]) .ret)
def sc_New (fNP fSV fAT TI T16:Nat):SC:=.seq (.reg [⟨some 2,.assign (.const (.slice none 0 0)),none⟩]) (.seq (.reg [cal 4 fNP [],asg 3 4]) (.seq (.reg [mv 5 3,mv 6 0,⟨some 7,.convert TI T16 (.tmp 6),none⟩,cal 8 fSV [5,7]]) (.seq (.reg [mv 9 3,⟨some 10,.call ⟨.value (.func fAT),#[.tmp 9,.const (.slice none 0 0)],#[]⟩,none⟩,asg 2 10]) .ret)))
section
variable {P:Program} {X:STy} {f:FuncId} {fn:Func}
def DefFn (P:Program) (f T:Nat) (cs0 cs:Array Value):Prop :=
  FnOK P f∧∀ (w:World) (b:Nat),w.heap[b]?=some (.cells cs0 T (0,0))→Calls P f #[.pointer (some ⟨b,0,none⟩)] w fun e w'=>e=.returned (.tuple #[])∧w'=w.setRow b cs
theorem newPtr_ok {T fDef:Nat} {cs0 cs:Array Value} (hT:∃ i z,P.info? T=some i∧i.zero=some z∧z.cells=cs0) (hD:DefFn P fDef T cs0 cs) (hf:P.funcs[f]?=some fn) (hb:fn.body.map strip=some (sc_NewPtr T fDef)) (hn:fn.ntmps=3) (hr:fn.results=#[.tmp 0]) (w:World) :
    Calls P f #[] w fun e w'=>∃ b,e=.returned (.pointer (some ⟨b,0,none⟩))∧w.heap.size≤b∧w'.heap[b]?=some (.cells cs T (0,0))∧Below w.heap.size w w':=by
  obtain ⟨i,z,hi,hz,rfl⟩:=hT
  refine fCa hf hb hn (by simp) fun a0 hs hd ha=>?_
  refine SC.wp_seq (SC.wp_reg ?_)
  repeat (apply ops_1;(focus (simp (disch:=(try simp only [sPu]);omega) ;try rfl)))
  refine oNi (SC.wp_seq (SC.wp_reg (oNo rfl (opw_alloc hi hz (oNi ?_)))))
  have hnew:=heap_alloc_new w (.cells z.cells T)
  have hbn:Below w.heap.size w (w.alloc (.cells z.cells T)):=(Below.refl _ _).alloc (Nat.le_refl _) _
  generalize w.alloc (.cells z.cells T)=w1 at *
  simp only [Exit.then]
  refine SC.wp_seq (SC.wp_reg (ops_cal hD.1 (R:=fun e w'=>e=.returned (.tuple #[])∧w'=w1.setRow w.heap.size cs) ?_ ?_))
  · refine Eq.mp (congrArg (fun z=>Calls P fDef z w1 _) ?_) (hD.2 w1 w.heap.size hnew)
    simp (disch:=(try simp only [sPu]);omega)
  rintro e w2 ⟨rfl,rfl⟩
  refine ⟨_,rfl,oNi ?_⟩
  simp only [Exit.then]
  refine SC.wp_seq (SC.wp_reg ?_)
  repeat (apply ops_1;(focus (simp (disch:=(try simp only [sPu]);omega) ;try rfl)))
  refine oNi (SC.wp_ret (ret_tmp hr (by simp [dPu,hd]) ⟨w.heap.size,?_,Nat.le_refl _,setRow_heap w1 _ _ cs _ _ hnew,below_setRow hbn (Nat.le_refl _) _⟩))
  simp (disch:=(try simp only [sPu]);omega)
theorem maxV_ok {n:Int} (hf:P.funcs[f]?=some fn) (hb:fn.body.map strip=some (sc_MaxV n)) (hn:fn.ntmps=3) (hr:fn.results=#[.tmp 2]) (w:World) (v:Value) :
    Calls P f #[v] w fun e w'=>e=.returned (.int .i16 n)∧w'=w:=by
  refine fCa hf hb hn (by simp) fun a0 hs hd ha=>?_
  refine SC.wp_seq (SC.wp_reg ?_)
  repeat (apply ops_1;(focus (simp (disch:=(try simp only [sPu]);omega) ;try rfl)))
  refine oNi (SC.wp_seq (SC.wp_reg ?_))
  repeat (apply ops_1;(focus (simp (disch:=(try simp only [sPu]);omega) ;try rfl)))
  refine oNi (SC.wp_ret (ret_tmp hr (by simp [dPu,hd]) ⟨?_,rfl⟩))
  simp (disch:=(try simp only [sPu]);omega)
theorem max_ok {fNP fMV T16 TI T:Nat} {n:Nat} {cs:Array Value} (h16:intK P T16=some .i16) (hI:intK P TI=some .i64) (hn16:n < 32768) (oNP:FnOK P fNP) (cNP:∀ w:World,Calls P fNP #[] w fun e w'=>∃ b,e=.returned (.pointer (some ⟨b,0,none⟩))∧w.heap.size≤b∧w'.heap[b]?=some (.cells cs T (0,0))∧Below w.heap.size w w')
    (oMV:FnOK P fMV) (cMV:∀ (w:World) (v:Value),Calls P fMV #[v] w fun e w'=>e=.returned (.int .i16 (n:Int))∧w'=w)
    (hf:P.funcs[f]?=some fn) (hb:fn.body.map strip=some (sc_Max fNP fMV T16 TI)) (hn:fn.ntmps=4) (hr:fn.results=#[.tmp 0]) (w:World) :
    Calls P f #[] w fun e w'=>e=.returned (.int .i64 (n:Int))∧Below w.heap.size w w':=by
  refine fCa hf hb hn (by simp) fun a0 hs hd ha=>?_
  have ew:IntKind.i64.wrap (n:Int)=(n:Int):=by rw [wrap_i64'];split <;> omega
  refine SC.wp_seq (SC.wp_reg ?_)
  repeat (apply ops_1;(focus (simp (disch:=(try simp only [sPu]);omega) ;try rfl)))
  refine oNi (SC.wp_seq (SC.wp_reg (ops_cal oNP (cNP w) ?_)))
  rintro e w1 ⟨b,rfl,hb,hc,hbw⟩
  refine ⟨_,rfl,ops_cal oMV (R:=fun e w'=>e=.returned (.int .i16 (n:Int))∧w'=w1) ?_ ?_⟩
  · refine Eq.mp (congrArg (fun z=>Calls P fMV z w1 _) ?_) (cMV w1 (.pointer (some ⟨b,0,none⟩)))
    simp (disch:=(try simp only [sPu]);omega)
  rintro e w2 ⟨rfl,rfl⟩
  refine ⟨_,rfl,?_⟩
  repeat (apply ops_1;(focus (simp (disch:=(try simp only [sPu]);omega) [h16,hI,ew];try rfl)))
  refine oNi (SC.wp_ret (ret_tmp hr (by simp [dPu,hd]) ⟨?_,hbw⟩))
  simp (disch:=(try simp only [sPu]);omega)
theorem setV_ok {T T16:Nat} (h0:fieldOff P T 0=some 0) (h1:oneB P T16=true) (hf:P.funcs[f]?=some fn) (hb:fn.body.map strip=some (sc_SetV T T16)) (hn:fn.ntmps=8) (hr:fn.results=#[]) (w:World) (b:Nat) (cs:Array Value) (E:TypeId) (hc:w.heap[b]?=some (.cells cs E (0,0))) (hcs:0 < cs.size) (n:Int) :
    Calls P f #[.pointer (some ⟨b,0,none⟩),.int .i16 n] w fun e w'=>e=.returned (.tuple #[])∧w'=w.setRow b (cs.setIfInBounds 0 (.int .i16 n)):=by
  refine fCa hf hb hn (by simp) fun a0 hs hd ha=>?_
  have k0:=ha 0 _ rfl
  have k1:=ha 1 _ rfl
  simp only [List.getElem_toArray,List.getElem_cons_zero,List.getElem_cons_succ] at k0 k1
  refine SC.wp_reg ?_
  iterate 4 (apply ops_1;(focus (simp (disch:=(try simp only [sPu]);omega) [k0,k1,h0];try rfl)))
  refine oNo rfl (opw_store_one (ad:=⟨b,0,none⟩) (v:=.int .i16 n) (v0:=cs[0]) h1 (by simp (disch:=(try simp only [sPu]);omega)) (by simp (disch:=(try simp only [sPu]);omega)) rfl (by rw [cell_of_row _ _ _ _ _ _ hc];exact Array.getElem?_eq_getElem hcs) (by simp [World.frozen?,hc]) (oNi ?_))
  refine ⟨by simp [dPu,pNo,hd],.tuple #[],by simp [results,hr],rfl,setCell_eq_setRow _ _ _ _ _ _ _ hc⟩
theorem new_ok {fNP fSV fAT TI T16 T tU8:Nat} {cs:Array Value} {out:Int→Bytes} (h16:intK P T16=some .i16) (hI:intK P TI=some .i64) (oNP:FnOK P fNP) (cNP:∀ w:World,Calls P fNP #[] w fun e w'=>∃ b,e=.returned (.pointer (some ⟨b,0,none⟩))∧w.heap.size≤b∧w'.heap[b]?=some (.cells cs T (0,0))∧Below w.heap.size w w')
    (oSV:FnOK P fSV) (cSV:∀ (w:World) (b:Nat),w.heap[b]?=some (.cells cs T (0,0))→∀ n:Int,Calls P fSV #[.pointer (some ⟨b,0,none⟩),.int .i16 n] w fun e w'=>e=.returned (.tuple #[])∧w'=w.setRow b (cs.setIfInBounds 0 (.int .i16 n)))
    (oAT:FnOK P fAT) (cAT:∀ (w:World) (b:Nat) (n:Int),w.heap[b]?=some (.cells (cs.setIfInBounds 0 (.int .i16 n)) T (0,0))→0≤n→n < 32768→Calls P fAT #[.pointer (some ⟨b,0,none⟩),.slice none 0 0] w fun e w'=>∃ dv,e=.returned dv∧Own tU8 w' w.heap.size dv (out n)∧Below w.heap.size w w')
    (hf:P.funcs[f]?=some fn) (hb:fn.body.map strip=some (sc_New fNP fSV fAT TI T16)) (hn:fn.ntmps=11) (hr:fn.results=#[.tmp 2]) (w:World) (ver:Nat) (hv:ver < 32768) :
    Calls P f #[.int .i64 (ver:Int)] w (RetOwn tU8 w (out ver)):=by
  refine fCa hf hb hn (by simp) fun a0 hs hd ha=>?_
  have k0:=ha 0 _ rfl
  simp only [List.getElem_toArray,List.getElem_cons_zero,List.getElem_cons_succ] at k0
  have ew:IntKind.i16.wrap (ver:Int)=(ver:Int):=by rw [wrap_i16'];split <;> omega
  refine SC.wp_seq (SC.wp_reg ?_)
  repeat (apply ops_1;(focus (simp (disch:=(try simp only [sPu]);omega) ;try rfl)))
  refine oNi (SC.wp_seq (SC.wp_reg (ops_cal oNP (cNP w) ?_)))
  rintro e w1 ⟨b,rfl,hb,hc,hbw⟩
  refine ⟨_,rfl,?_⟩
  have hsw:w.heap.size≤w1.heap.size:=hbw.size
  repeat (apply ops_1;(focus (simp (disch:=(try simp only [sPu]);omega) ;try rfl)))
  refine oNi ?_
  simp only [Exit.then]
  refine SC.wp_seq (SC.wp_reg ?_)
  iterate 3 (apply ops_1;(focus (simp (disch:=(try simp only [sPu]);omega) [h16,hI,k0,ew];try rfl)))
  refine ops_cal oSV (R:=fun e w'=>e=.returned (.tuple #[])∧w'=w1.setRow b (cs.setIfInBounds 0 (.int .i16 (ver:Int)))) ?_ ?_
  · refine Eq.mp (congrArg (fun z=>Calls P fSV z w1 _) ?_) (cSV w1 b hc (ver:Int))
    simp (disch:=(try simp only [sPu]);omega)
  rintro e w2 ⟨rfl,rfl⟩
  refine ⟨_,rfl,oNi ?_⟩
  have hc2:=setRow_heap w1 b _ (cs.setIfInBounds 0 (.int .i16 (ver:Int))) _ _ hc
  have hb2:Below w.heap.size w (w1.setRow b (cs.setIfInBounds 0 (.int .i16 (ver:Int)))):=below_setRow hbw hb _
  have hs2:(w1.setRow b (cs.setIfInBounds 0 (.int .i16 (ver:Int)))).heap.size=w1.heap.size:=by simp
  generalize w1.setRow b (cs.setIfInBounds 0 (.int .i16 (ver:Int)))=w3 at *
  simp only [Exit.then]
  refine SC.wp_seq (SC.wp_reg ?_)
  iterate 1 (apply ops_1;(focus (simp (disch:=(try simp only [sPu]);omega) ;try rfl)))
  refine ops_call oAT (cAT w3 b ver hc2 (by omega) (by omega)) (by simp (disch:=(try simp only [sPu]);omega)) ?_
  rintro e w4 ⟨dv,rfl,ho,hb4⟩
  refine ⟨dv,rfl,?_⟩
  repeat (apply ops_1;(focus (simp (disch:=(try simp only [sPu]);omega) ;try rfl)))
  refine oNi (SC.wp_ret (ret_tmp hr (by simp [dPu,hd]) ⟨dv,?_,own_down ho (by omega),hb2.trans (hb4.mono (by omega))⟩))
  simp (disch:=(try simp only [sPu]);omega)
def sc_LawNew (fMax fSp fVer fNew fDef fWr fSame TI M Fs_:Nat):SC:=.seq (.reg [⟨some 2,.assign (.const (.bool false)),none⟩]) (.seq (.reg [cal 5 fMax [],asg 3 5]) (.seq (.seq (.reg [mv 6 3,⟨some 7,.binOp .lss TI (.tmp 6) (.const (.int .i64 0)) TI,none⟩]) (.cond (.tmp 7) (.seq (.reg [⟨some 2,.assign (.const (.bool false)),none⟩]) .ret) .skip)) (.seq (.reg [cal 8 fSp [],⟨some 4,.alloc M,none⟩,⟨none,.store M (.tmp 4) (.tmp 8),none⟩]) (.seq (.dreg [mv 9 0,mv 10 3,cal 11 fVer [9,10],cal 12 fNew [11],ld 13 M 4,mv 14 0,mv 15 3,cal 16 fVer [14,15],fa 17 M 4 0,ld 18 Fs_ 17,cal 19 fDef [18],cal 20 fWr [13,16,19],cal 21 fSame [12,20],asg 2 21] [[],[],[0,1],[2,2],[],[],[],[5,6,3],[],[8],[9,7],[4,7,10,10],[3,11,11],[12,12,0,1,2,3,4,5,6,7,8,9,10,11,12]]) .ret))))
end
end Go.Proofs.YtmapoohbongifaaGreatDoor.K
