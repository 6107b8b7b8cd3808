/- Generic texts: K13 Q1 T2 T3 T4 R2 D1. No condition. -/
import Derived.Test.YtecdefhecaeclaaDoorN1
namespace Go.Proofs.YtecdefhecaeclaaDoor.K
open Go Go.RowKit Go.Proofs.YtecdefhecaeclaaDoor.T
attribute [local simp] eTm eCo pNo gTp gTn
set_option linter.unusedSimpArgs false
set_option linter.unusedVariables false
def sc_AppendBytes (T0 T1 T2 F0:Nat):SC:=.seq (.reg [⟨some 4,.assign (.const (.slice none 0 0)),none⟩]) (.seq (.reg [mv 5 0,mv 6 1,lenOp 7 T0 6,⟨some 8,.convert T1 T2 (.tmp 7),none⟩,cal 9 F0 [5,8],asg 0 9]) (.seq (.reg [mv 10 0,mv 11 1,⟨some 12,.call ⟨.builtin .append,#[(.tmp 10),(.tmp 11)],#[T0,T0]⟩,none⟩,asg 4 12]) (.ret)))
def sc_AppendCompactBytes (T0 T1 T2 F0:Nat):SC:=.seq (.reg [⟨some 4,.assign (.const (.slice none 0 0)),none⟩]) (.seq (.reg [mv 5 0,mv 6 1,lenOp 7 T0 6,⟨some 8,.convert T1 T2 (.tmp 7),none⟩,⟨some 9,.binOp .add T2 (.const (.int .u32 1)) (.tmp 8) T2,none⟩,cal 10 F0 [5,9],asg 0 10]) (.seq (.reg [mv 11 0,mv 12 1,⟨some 13,.call ⟨.builtin .append,#[(.tmp 11),(.tmp 12)],#[T0,T0]⟩,none⟩,asg 4 13]) (.ret)))
section
variable {P:Program} {tU8:Nat}
theorem opw_lenStr {a:Act} {w:World} {K:Act→World→Prop} {d:Option Tmp} {g:Option (Nat × Bool)} {T:TypeId} {x:Operand} {s:ByteArray} {ts:Array TypeId} (hT:strB P T=true) (hx:a.eval x=.string s) (ht:ts=#[T])
    (h:K (a.put d (.int .i64 (s.data.toList.length:Int))) w):opw P ⟨d,.call ⟨.builtin .len,#[x],ts⟩,g⟩ a w K:=by
  subst ht
  have hu:=str_of hT
  refine oVa (v:=.int .i64 (s.data.toList.length:Int)) (by simp) (fun p hp=>?_) h
  have e:s.size=s.data.toList.length:=by rw [Array.length_toList];rfl
  simp [execOp,hp,hx,resolve,invoke,builtin,Builtin.len_,run_underlying hu,goInt]
theorem ops_ap {all:List SOp} {a:Act} {w:World} {B t f:Nat} {args:List Nat} {argsV:Array Value} {pre:World→Nat→Prop} {dv:Value} {xs out:Bytes} {r:List SOp} {K:Act→World→Prop} (hAP:AP P tU8 f argsV pre out)
    (hargs:(args.map (getT a)).toArray=#[dv] ++ argsV) (ho:Own tU8 w B dv xs) (hB:B≤w.heap.size) (hlen:xs.length+out.length≤lim) (hpre:pre w B)
    (h:∀ dv' w',Own tU8 w' B dv' (xs ++ out)→Below B w w'→B≤w'.heap.size→opsw P all r K (a.put (some t) dv') w'):opsw P all (cal t f args :: r) K a w:=by
  have hc:=hAP.2 w B dv xs ho hB hlen hpre
  refine ops_cal hAP.1 (R:=fun e w'=>∃ dv',e=.returned dv'∧Own tU8 w' B dv' (xs ++ out)∧Below B w w'∧B≤w'.heap.size) ?_ ?_
  · rw [hargs];exact hc
  · rintro e w' ⟨dv',rfl,h1,h2,h3⟩
    exact ⟨dv',rfl,h dv' w' h1 h2 h3⟩
theorem opw_ap {a:Act} {w:World} {K:Act→World→Prop} {d:Option Tmp} {B f:Nat} {args:Array Operand} {argsV:Array Value} {pre:World→Nat→Prop} {dv:Value} {xs out:Bytes} (hAP:AP P tU8 f argsV pre out)
    (hargs:args.map a.eval=#[dv] ++ argsV) (ho:Own tU8 w B dv xs) (hB:B≤w.heap.size) (hlen:xs.length+out.length≤lim) (hpre:pre w B)
    (h:∀ dv' w',Own tU8 w' B dv' (xs ++ out)→Below B w w'→B≤w'.heap.size→K (a.put d dv') w'):opw P ⟨d,.call ⟨.value (.func f),args,#[]⟩,none⟩ a w K:=by
  have hc:=hAP.2 w B dv xs ho hB hlen hpre
  obtain ⟨fn,h1,h2,h3⟩:=hAP.1
  refine opw_call h1 h2 h3 (R:=fun e w'=>∃ dv',e=.returned dv'∧Own tU8 w' B dv' (xs ++ out)∧Below B w w'∧B≤w'.heap.size) ?_ ?_
  · rw [hargs];exact hc
  · rintro e w' ⟨dv',rfl,h1,h2,h3⟩
    exact ⟨dv',rfl,h dv' w' h1 h2 h3⟩
theorem byteCells_eq (s:ByteArray):byteCells s=cellsOf s.data.toList:=rfl
theorem src_str {T:TypeId} (hT:strB P T=true) (s:ByteArray) (w:World):Src P 1 T (.string s) s.data.toList.length (cellsOf s.data.toList) w:=by
  have h:=Src.ofString (P:=P) w (str_of hT) s
  have e:s.size=s.data.toList.length:=by rw [Array.length_toList];rfl
  rwa [e] at h
theorem wrap_i16' (m:Int):IntKind.i16.wrap m=if 32768≤m % 65536 then m % 65536 - 65536 else m % 65536:=by
  simp [IntKind.wrap,IntKind.bits,IntKind.signed]
theorem wrap_i32' (m:Int):IntKind.i32.wrap m=if 2147483648≤m % 4294967296 then m % 4294967296 - 4294967296 else m % 4294967296:=by
  simp [IntKind.wrap,IntKind.bits,IntKind.signed]
theorem wrap_i64' (m:Int):IntKind.i64.wrap m=if 9223372036854775808≤m % 18446744073709551616 then m % 18446744073709551616 - 18446744073709551616 else m % 18446744073709551616:=by
  simp [IntKind.wrap,IntKind.bits,IntKind.signed]
theorem wrap_i16_small {n:Nat} (h:n≤most):IntKind.i16.wrap (n:Int)=n:=by
  have hm:most=32767:=rfl
  rw [wrap_i16']
  omega
theorem wrap_i32_small {n:Nat} (h:n≤most):IntKind.i32.wrap (n:Int)=n:=by
  have hm:most=32767:=rfl
  rw [wrap_i32']
  omega
theorem wrap_u32_small {n:Nat} (h:n≤32768):IntKind.u32.wrap (n:Int)=n:=by
  rw [wrap_u32];omega
theorem appendString_ok {f g : FuncId} {fn : Func} {T0 T1 T2 T3 : Nat} (hf : P.funcs[f]? = some fn) (hb : fn.body.map strip = some (sc_AppendString T0 T1 T2 T3 g)) (hnm : (fn.name == "runtime.NumGoroutine") = false) (hn : fn.ntmps = 13) (hr : fn.results = #[.tmp 4])
    (hT:u8sB P T3 tU8=true) (hS:strB P T0=true) (h1:intB P T1 .i64=true) (h2:intB P T2 .i16=true) (hg:∀ n:Int,AP P tU8 g #[.int .i16 n] (fun _ _=>True) (fixed n 2)) (s:ByteArray) (hs:s.data.toList.length≤most) :
    AP P tU8 f #[.string s] (fun _ _=>True) (counted false false s.data.toList.length 2 ++ s.data.toList):=by
  refine AP_of hf hb hnm hn (by simp) fun w B dv xs a0 ho hB hl _ hsz hd hh0 ha=>?_
  have hx0:=ha 0 (.string s) rfl
  simp only [Nat.zero_add] at hx0
  generalize hbs:s.data.toList=bs at *
  rw [List.length_append] at hl
  refine SC.wp_seq (SC.wp_reg (oNo rfl (opw_assign (oNi ?_))))
  refine SC.wp_seq (SC.wp_reg (ops_mv (ops_mv (oNo rfl (opw_lenStr hS (s:=s) ?_ rfl (oNo rfl (opw_convert h1 h2 (n:=(bs.length:Int)) ?_ (ops_ap (B:=B) (dv:=dv) (xs:=xs) (hg (bs.length:Int)) ?_ ho hB ?_ trivial ?_))))))))
  · simp (disch:=(try simp only [sPu]);omega) [eTm,gTp,gTn,hx0]
  · simp (disch:=(try simp only [sPu]);omega) [eTm,gTp,gTn,hbs]
  · simp (disch:=(try simp only [sPu]);omega) [eTm,gTp,gTn,hh0,wrap_i16_small hs]
  · simp [counted] at hl;omega
  intro dv' w' q1 q2 q3
  refine ops_asg (oNi ?_)
  refine SC.wp_seq (SC.wp_reg (ops_mv (ops_mv (oNo rfl (opw_appendU8 (B:=B) (dv:=dv') (xv:=.string s) (xs:=xs ++ fixed bs.length 2) (bs:=bs) hT ?_ ?_ rfl q1 q3 ?_ ?_ ?_)))))
  · simp (disch:=(try simp only [sPu]);omega) [eTm,gTp,gTn]
  · simp (disch:=(try simp only [sPu]);omega) [eTm,gTp,gTn,hx0]
  · rw [← hbs];exact src_str hS s w'
  · simp [counted] at hl ⊢;omega
  intro dv2 w2 r1 r2 r3 _
  refine ops_asg (oNi (SC.wp_ret ?_))
  try simp only [Exit.then,Exit.inBlock]
  refine ret_tmp hr (by simp [dPu,hd]) ⟨dv2,?_,?_,q2.trans r2,r3⟩
  · simp (disch:=(try simp only [sPu]);omega) [eTm,gTp,gTn]
  · simpa [counted,List.append_assoc] using r1
theorem appendCompactString_ok {f g : FuncId} {fn : Func} {T0 T1 T2 T3 : Nat} (hf : P.funcs[f]? = some fn) (hb : fn.body.map strip = some (sc_AppendCompactString T0 T1 T2 T3 g)) (hnm : (fn.name == "runtime.NumGoroutine") = false) (hn : fn.ntmps = 14) (hr : fn.results = #[.tmp 4])
    (hT:u8sB P T3 tU8=true) (hS:strB P T0=true) (h1:intB P T1 .i64=true) (h2:intB P T2 .u32=true) (hg:∀ n:Nat,n < 4294967296→AP P tU8 g #[.int .u32 n] (fun _ _=>True) (uvarint n)) (s:ByteArray) (hs:s.data.toList.length≤most) :
    AP P tU8 f #[.string s] (fun _ _=>True) (counted true false s.data.toList.length 2 ++ s.data.toList):=by
  refine AP_of hf hb hnm hn (by simp) fun w B dv xs a0 ho hB hl _ hsz hd hh0 ha=>?_
  have hx0:=ha 0 (.string s) rfl
  simp only [Nat.zero_add] at hx0
  have hm:most=32767:=rfl
  generalize hbs:s.data.toList=bs at *
  rw [List.length_append] at hl
  have ew:IntKind.u32.wrap (1+(bs.length:Int))=((bs.length+1:Nat):Int):=by rw [wrap_u32];omega
  refine SC.wp_seq (SC.wp_reg (oNo rfl (opw_assign (oNi ?_))))
  refine SC.wp_seq (SC.wp_reg (ops_mv (ops_mv (oNo rfl (opw_lenStr hS (s:=s) ?_ rfl (oNo rfl (opw_convert h1 h2 (n:=(bs.length:Int)) ?_ (oNo rfl (opw_arith (op:=.add) (k:=.u32) (m:=1) (n:=(bs.length:Int)) ?_ ?_ (.inl ⟨rfl,rfl⟩) (ops_ap (B:=B) (dv:=dv) (xs:=xs) (hg (bs.length+1) (by omega)) ?_ ho hB ?_ trivial ?_))))))))))
  · simp (disch:=(try simp only [sPu]);omega) [eTm,gTp,gTn,hx0]
  · simp (disch:=(try simp only [sPu]);omega) [eTm,gTp,gTn,hbs]
  · rfl
  · simp (disch:=(try simp only [sPu]);omega) [eTm,gTp,gTn,wrap_u32_small (by omega:bs.length≤32768)]
  · simp (disch:=(try simp only [sPu]);omega) [eTm,gTp,gTn,hh0,ew]
  · simp [counted] at hl;omega
  intro dv' w' q1 q2 q3
  refine ops_asg (oNi ?_)
  refine SC.wp_seq (SC.wp_reg (ops_mv (ops_mv (oNo rfl (opw_appendU8 (B:=B) (dv:=dv') (xv:=.string s) (xs:=xs ++ uvarint (bs.length+1)) (bs:=bs) hT ?_ ?_ rfl q1 q3 ?_ ?_ ?_)))))
  · simp (disch:=(try simp only [sPu]);omega) [eTm,gTp,gTn]
  · simp (disch:=(try simp only [sPu]);omega) [eTm,gTp,gTn,hx0]
  · rw [← hbs];exact src_str hS s w'
  · simp [counted] at hl ⊢;omega
  intro dv2 w2 r1 r2 r3 _
  refine ops_asg (oNi (SC.wp_ret ?_))
  try simp only [Exit.then,Exit.inBlock]
  refine ret_tmp hr (by simp [dPu,hd]) ⟨dv2,?_,?_,q2.trans r2,r3⟩
  · simp (disch:=(try simp only [sPu]);omega) [eTm,gTp,gTn]
  · simpa [counted,List.append_assoc] using r1
theorem src_bytes {T tU8:TypeId} (hT:u8sB P T tU8=true) {w:World} {F:Nat→Prop} {base:Option Addr} {bs:Bytes} (h:BytesAt w F base bs) (cap:Nat):Src P 1 T (.slice base bs.length cap) bs.length (cellsOf bs) w:=by
  obtain ⟨hu,_⟩:=u8s_of hT
  rcases h with rfl | ⟨b,o,rfl,_,h⟩
  · cases base with
    | none=>exact Src.ofNil w hu cap
    | some a0=>exact Src.ofSlice w hu a0 _ cap _ (by rw [cLen,Nat.mul_one]) (by intro j u hj;simp [cellsOf] at hj) (by intro u hu;simp [cellsOf] at hu)
  · refine Src.ofSlice w hu ⟨b,o,none⟩ _ cap _ (by rw [cLen,Nat.mul_one]) ?_ ?_
    · intro j u hj
      rw [add_none]
      exact cells_cell h j u hj
    · intro u hu
      simp only [cellsOf,List.mem_map] at hu
      obtain ⟨c,_,rfl⟩:=hu
      rfl
theorem appendBytes_ok {f g : FuncId} {fn : Func} {T0 T1 T2 : Nat} (hf : P.funcs[f]? = some fn) (hb : fn.body.map strip = some (sc_AppendBytes T0 T1 T2 g)) (hnm : (fn.name == "runtime.NumGoroutine") = false) (hn : fn.ntmps = 13) (hr : fn.results = #[.tmp 4])
    (hT:u8sB P T0 tU8=true) (hE:sliceB P T0 tU8 1=true) (h1:intB P T1 .i64=true) (h2:intB P T2 .i32=true) (hg:∀ n:Int,AP P tU8 g #[.int .i32 n] (fun _ _=>True) (fixed n 4)) (base:Option Addr) (cap:Nat) (bs:Bytes) (hs:bs.length≤most) :
    AP P tU8 f #[.slice base bs.length cap] (fun w B=>BytesAt w (· < B) base bs) (counted false false bs.length 4 ++ bs):=by
  refine AP_of hf hb hnm hn (by simp) fun w B dv xs a0 ho hB hl hpre hsz hd hh0 ha=>?_
  have hx0:=ha 0 (.slice base bs.length cap) rfl
  simp only [Nat.zero_add] at hx0
  rw [List.length_append] at hl
  refine SC.wp_seq (SC.wp_reg (oNo rfl (opw_assign (oNi ?_))))
  refine SC.wp_seq (SC.wp_reg (ops_mv (ops_mv (ops_len (cap:=cap) (len:=bs.length) (base:=base) hE ?_ (oNo rfl (opw_convert h1 h2 (n:=(bs.length:Int)) ?_ (ops_ap (B:=B) (dv:=dv) (xs:=xs) (hg (bs.length:Int)) ?_ ho hB ?_ trivial ?_)))))))
  · simp (disch:=(try simp only [sPu]);omega) [eTm,gTp,gTn,hx0]
  · simp (disch:=(try simp only [sPu]);omega) [eTm,gTp,gTn]
  · simp (disch:=(try simp only [sPu]);omega) [eTm,gTp,gTn,hh0,wrap_i32_small hs]
  · simp [counted] at hl;omega
  intro dv' w' q1 q2 q3
  refine ops_asg (oNi ?_)
  refine SC.wp_seq (SC.wp_reg (ops_mv (ops_mv (oNo rfl (opw_appendU8 (B:=B) (dv:=dv') (xv:=.slice base bs.length cap) (xs:=xs ++ fixed bs.length 4) (bs:=bs) hT ?_ ?_ rfl q1 q3 ?_ ?_ ?_)))))
  · simp (disch:=(try simp only [sPu]);omega) [eTm,gTp,gTn]
  · simp (disch:=(try simp only [sPu]);omega) [eTm,gTp,gTn,hx0]
  · exact src_bytes hT (bytesAt_below hpre q2) cap
  · simp [counted] at hl ⊢;omega
  intro dv2 w2 r1 r2 r3 _
  refine ops_asg (oNi (SC.wp_ret ?_))
  try simp only [Exit.then,Exit.inBlock]
  refine ret_tmp hr (by simp [dPu,hd]) ⟨dv2,?_,?_,q2.trans r2,r3⟩
  · simp (disch:=(try simp only [sPu]);omega) [eTm,gTp,gTn]
  · simpa [counted,List.append_assoc] using r1
theorem appendCompactBytes_ok {f g : FuncId} {fn : Func} {T0 T1 T2 : Nat} (hf : P.funcs[f]? = some fn) (hb : fn.body.map strip = some (sc_AppendCompactBytes T0 T1 T2 g)) (hnm : (fn.name == "runtime.NumGoroutine") = false) (hn : fn.ntmps = 14) (hr : fn.results = #[.tmp 4])
    (hT:u8sB P T0 tU8=true) (hE:sliceB P T0 tU8 1=true) (h1:intB P T1 .i64=true) (h2:intB P T2 .u32=true) (hg:∀ n:Nat,n < 4294967296→AP P tU8 g #[.int .u32 n] (fun _ _=>True) (uvarint n)) (base:Option Addr) (cap:Nat) (bs:Bytes) (hs:bs.length≤most) :
    AP P tU8 f #[.slice base bs.length cap] (fun w B=>BytesAt w (· < B) base bs) (counted true false bs.length 4 ++ bs):=by
  refine AP_of hf hb hnm hn (by simp) fun w B dv xs a0 ho hB hl hpre hsz hd hh0 ha=>?_
  have hx0:=ha 0 (.slice base bs.length cap) rfl
  simp only [Nat.zero_add] at hx0
  have hm:most=32767:=rfl
  rw [List.length_append] at hl
  have ew:IntKind.u32.wrap (1+(bs.length:Int))=((bs.length+1:Nat):Int):=by rw [wrap_u32];omega
  refine SC.wp_seq (SC.wp_reg (oNo rfl (opw_assign (oNi ?_))))
  refine SC.wp_seq (SC.wp_reg (ops_mv (ops_mv (ops_len (cap:=cap) (len:=bs.length) (base:=base) hE ?_ (oNo rfl (opw_convert h1 h2 (n:=(bs.length:Int)) ?_ (oNo rfl (opw_arith (op:=.add) (k:=.u32) (m:=1) (n:=(bs.length:Int)) ?_ ?_ (.inl ⟨rfl,rfl⟩) (ops_ap (B:=B) (dv:=dv) (xs:=xs) (hg (bs.length+1) (by omega)) ?_ ho hB ?_ trivial ?_)))))))))
  · simp (disch:=(try simp only [sPu]);omega) [eTm,gTp,gTn,hx0]
  · simp (disch:=(try simp only [sPu]);omega) [eTm,gTp,gTn]
  · rfl
  · simp (disch:=(try simp only [sPu]);omega) [eTm,gTp,gTn,wrap_u32_small (by omega:bs.length≤32768)]
  · simp (disch:=(try simp only [sPu]);omega) [eTm,gTp,gTn,hh0,ew]
  · simp [counted] at hl;omega
  intro dv' w' q1 q2 q3
  refine ops_asg (oNi ?_)
  refine SC.wp_seq (SC.wp_reg (ops_mv (ops_mv (oNo rfl (opw_appendU8 (B:=B) (dv:=dv') (xv:=.slice base bs.length cap) (xs:=xs ++ uvarint (bs.length+1)) (bs:=bs) hT ?_ ?_ rfl q1 q3 ?_ ?_ ?_)))))
  · simp (disch:=(try simp only [sPu]);omega) [eTm,gTp,gTn]
  · simp (disch:=(try simp only [sPu]);omega) [eTm,gTp,gTn,hx0]
  · exact src_bytes hT (bytesAt_below hpre q2) cap
  · simp [counted] at hl ⊢;omega
  intro dv2 w2 r1 r2 r3 _
  refine ops_asg (oNi (SC.wp_ret ?_))
  try simp only [Exit.then,Exit.inBlock]
  refine ret_tmp hr (by simp [dPu,hd]) ⟨dv2,?_,?_,q2.trans r2,r3⟩
  · simp (disch:=(try simp only [sPu]);omega) [eTm,gTp,gTn]
  · simpa [counted,List.append_assoc] using r1
theorem appendNullStr0_ok {f g g2 : FuncId} {fn : Func} {T0 T1 : Nat} {compact : Bool} (hf : P.funcs[f]? = some fn) (hb : fn.body.map strip = some (if compact then sc_AppendCompactNullableString T0 T1 g g2 else sc_AppendNullableString T0 T1 g g2)) (hnm : (fn.name == "runtime.NumGoroutine") = false) (hn : fn.ntmps = 14) (hr : fn.results = #[.tmp 4]) (hP : ptrB P T0 = true)
    (hg:AP P tU8 g #[if compact then .int .u32 0 else .int .i16 (-1)] (fun _ _=>True) (counted compact true 0 2)) :
    AP P tU8 f #[.pointer none] (fun _ _=>True) (counted compact true 0 2):=by
  refine AP_of hf hb hnm hn (by simp) fun w B dv xs a0 ho hB hl _ hsz hd hh0 ha=>?_
  have hx0:=ha 0 (.pointer none) rfl
  simp only [Nat.zero_add] at hx0
  have main:∀ c:Value,c=(if compact then Value.int .u32 0 else .int .i16 (-1))→SC.wp P (.seq (.reg [⟨some 4,.assign (.const (.slice none 0 0)),none⟩]) (.seq (.seq (.reg [mv 5 1,⟨some 6,.binOp .eql T0 (.tmp 5) (.const (.pointer none)) T0,none⟩]) (.cond (.tmp 6) (.seq (.reg [mv 7 0,⟨some 8,.call ⟨.value (.func g),#[(.tmp 7),(.const c)],#[]⟩,none⟩,asg 4 8]) (.ret)) (.skip))) (.seq (.reg [mv 9 0,mv 10 1,nilc 11 10,ld 12 T1 11,cal 13 g2 [9,12],asg 4 13]) (.ret)))) (bodyPost P fn fun e w'=>∃ dv',e=.returned dv'∧Own tU8 w' B dv' (xs ++ counted compact true 0 2)∧Below B w w'∧B≤w'.heap.size) a0 w:=by
    intro c hcv
    subst hcv
    refine SC.wp_seq (SC.wp_reg (oNo rfl (opw_assign (oNi ?_))))
    refine SC.wp_seq (SC.wp_seq (SC.wp_reg (ops_mv (oNo rfl (opw_eqlnil_ptr (q:=none) hP ?_ (oNi ?_))))))
    · simp (disch:=(try simp only [sPu]);omega) [eTm,gTp,gTn,hx0]
    refine SC.wp_cond (t:=true) (by simp (disch:=(try simp only [sPu]);omega) [eTm,gTp,gTn]) ?_
    rw [if_pos rfl]
    refine SC.wp_seq (SC.wp_reg (ops_mv (oNo rfl (opw_ap (B:=B) (dv:=dv) (xs:=xs) hg ?_ ho hB hl trivial ?_))))
    · simp (disch:=(try simp only [sPu]);omega) [eTm,gTp,gTn,hh0,eCo]
    intro dv' w' q1 q2 q3
    refine ops_asg (oNi (SC.wp_ret ?_))
    try simp only [Exit.then,Exit.inBlock]
    refine ret_tmp hr (by simp [dPu,hd]) ⟨dv',?_,q1,q2,q3⟩
    simp (disch:=(try simp only [sPu]);omega) [eTm,gTp,gTn]
  cases compact
  · exact main _ rfl
  · exact main _ rfl
theorem appendNullStr_ok {f g g2 : FuncId} {fn : Func} {T0 T1 : Nat} {compact : Bool} (hf : P.funcs[f]? = some fn) (hb : fn.body.map strip = some (if compact then sc_AppendCompactNullableString T0 T1 g g2 else sc_AppendNullableString T0 T1 g g2)) (hnm : (fn.name == "runtime.NumGoroutine") = false) (hn : fn.ntmps = 14) (hr : fn.results = #[.tmp 4])
    (hP:ptrB P T0=true) (h1:oneB P T1=true) (s:ByteArray) (hg:AP P tU8 g2 #[.string s] (fun _ _=>True) (counted compact false s.data.toList.length 2 ++ s.data.toList)) (b o:Nat) :
    AP P tU8 f #[.pointer (some ⟨b,o,none⟩)] (fun w B=>b < B∧w.cell? ⟨b,o,none⟩=some (.string s)) (counted compact false s.data.toList.length 2 ++ s.data.toList):=by
  refine AP_of hf hb hnm hn (by simp) fun w B dv xs a0 ho hB hl hpre hsz hd hh0 ha=>?_
  have hx0:=ha 0 (.pointer (some ⟨b,o,none⟩)) rfl
  simp only [Nat.zero_add] at hx0
  have main:∀ c:Value,SC.wp P (.seq (.reg [⟨some 4,.assign (.const (.slice none 0 0)),none⟩]) (.seq (.seq (.reg [mv 5 1,⟨some 6,.binOp .eql T0 (.tmp 5) (.const (.pointer none)) T0,none⟩]) (.cond (.tmp 6) (.seq (.reg [mv 7 0,⟨some 8,.call ⟨.value (.func g),#[(.tmp 7),(.const c)],#[]⟩,none⟩,asg 4 8]) (.ret)) (.skip))) (.seq (.reg [mv 9 0,mv 10 1,nilc 11 10,ld 12 T1 11,cal 13 g2 [9,12],asg 4 13]) (.ret)))) (bodyPost P fn fun e w'=>∃ dv',e=.returned dv'∧Own tU8 w' B dv' (xs ++ (counted compact false s.data.toList.length 2 ++ s.data.toList))∧Below B w w'∧B≤w'.heap.size) a0 w:=by
    intro c
    refine SC.wp_seq (SC.wp_reg (oNo rfl (opw_assign (oNi ?_))))
    refine SC.wp_seq (SC.wp_seq (SC.wp_reg (ops_mv (oNo rfl (opw_eqlnil_ptr (q:=some ⟨b,o,none⟩) hP ?_ (oNi ?_))))))
    · simp (disch:=(try simp only [sPu]);omega) [eTm,gTp,gTn,hx0]
    refine SC.wp_cond (t:=false) (by simp (disch:=(try simp only [sPu]);omega) [eTm,gTp,gTn]) ?_
    rw [if_neg (by simp)]
    refine SC.wp_skip ?_
    try simp only [Exit.then]
    refine SC.wp_seq (SC.wp_reg (ops_mv (ops_mv (ops_nilc (ad:=⟨b,o,none⟩) ?_ (ops_ld (ad:=⟨b,o,none⟩) (v:=.string s) h1 ?_ hpre.2 (ops_ap (B:=B) (dv:=dv) (xs:=xs) hg ?_ ho hB hl trivial ?_))))))
    · simp (disch:=(try simp only [sPu]);omega) [eTm,gTp,gTn,hx0]
    · simp (disch:=(try simp only [sPu]);omega) [eTm,gTp,gTn]
    · simp (disch:=(try simp only [sPu]);omega) [eTm,gTp,gTn,hh0]
    intro dv' w' q1 q2 q3
    refine ops_asg (oNi (SC.wp_ret ?_))
    try simp only [Exit.then,Exit.inBlock]
    refine ret_tmp hr (by simp [dPu,hd]) ⟨dv',?_,q1,q2,q3⟩
    simp (disch:=(try simp only [sPu]);omega) [eTm,gTp,gTn]
  cases compact
  · exact main _
  · exact main _
theorem appendArrayLen_ok {f g : FuncId} {fn : Func} {T0 T1 : Nat} (hf : P.funcs[f]? = some fn) (hb : fn.body.map strip = some (sc_AppendArrayLen T0 T1 g)) (hnm : (fn.name == "runtime.NumGoroutine") = false) (hn : fn.ntmps = 9) (hr : fn.results = #[.tmp 4])
    (h1:intB P T0 .i64=true) (h2:intB P T1 .i32=true) (hg:∀ n:Int,AP P tU8 g #[.int .i32 n] (fun _ _=>True) (fixed n 4)) (n:Nat) (hs:n≤most) :
    AP P tU8 f #[.int .i64 n] (fun _ _=>True) (counted false false n 4):=by
  refine AP_of hf hb hnm hn (by simp) fun w B dv xs a0 ho hB hl _ hsz hd hh0 ha=>?_
  have hx0:=ha 0 (.int .i64 n) rfl
  simp only [Nat.zero_add] at hx0
  refine SC.wp_seq (SC.wp_reg (oNo rfl (opw_assign (oNi ?_))))
  refine SC.wp_seq (SC.wp_reg (ops_mv (ops_mv (oNo rfl (opw_convert h1 h2 (n:=(n:Int)) ?_ (ops_ap (B:=B) (dv:=dv) (xs:=xs) (hg (n:Int)) ?_ ho hB ?_ trivial ?_))))))
  · simp (disch:=(try simp only [sPu]);omega) [eTm,gTp,gTn,hx0]
  · simp (disch:=(try simp only [sPu]);omega) [eTm,gTp,gTn,hh0,wrap_i32_small hs]
  · simpa [counted] using hl
  intro dv' w' q1 q2 q3
  refine ops_asg (oNi (SC.wp_ret ?_))
  try simp only [Exit.then,Exit.inBlock]
  refine ret_tmp hr (by simp [dPu,hd]) ⟨dv',?_,by simpa [counted] using q1,q2,q3⟩
  simp (disch:=(try simp only [sPu]);omega) [eTm,gTp,gTn]
theorem appendCompactArrayLen_ok {f g : FuncId} {fn : Func} {T0 T1 : Nat} (hf : P.funcs[f]? = some fn) (hb : fn.body.map strip = some (sc_AppendCompactArrayLen T0 T1 g)) (hnm : (fn.name == "runtime.NumGoroutine") = false) (hn : fn.ntmps = 10) (hr : fn.results = #[.tmp 4])
    (h1:intB P T0 .i64=true) (h2:intB P T1 .u32=true) (hg:∀ n:Nat,n < 4294967296→AP P tU8 g #[.int .u32 n] (fun _ _=>True) (uvarint n)) (n:Nat) (hs:n≤most) :
    AP P tU8 f #[.int .i64 n] (fun _ _=>True) (counted true false n 4):=by
  refine AP_of hf hb hnm hn (by simp) fun w B dv xs a0 ho hB hl _ hsz hd hh0 ha=>?_
  have hx0:=ha 0 (.int .i64 n) rfl
  simp only [Nat.zero_add] at hx0
  have hm:most=32767:=rfl
  have ew:IntKind.u32.wrap (1+(n:Int))=((n+1:Nat):Int):=by rw [wrap_u32];omega
  refine SC.wp_seq (SC.wp_reg (oNo rfl (opw_assign (oNi ?_))))
  refine SC.wp_seq (SC.wp_reg (ops_mv (ops_mv (oNo rfl (opw_convert h1 h2 (n:=(n:Int)) ?_ (oNo rfl (opw_arith (op:=.add) (k:=.u32) (m:=1) (n:=(n:Int)) ?_ ?_ (.inl ⟨rfl,rfl⟩) (ops_ap (B:=B) (dv:=dv) (xs:=xs) (hg (n+1) (by omega)) ?_ ho hB ?_ trivial ?_))))))))
  · simp (disch:=(try simp only [sPu]);omega) [eTm,gTp,gTn,hx0]
  · rfl
  · simp (disch:=(try simp only [sPu]);omega) [eTm,gTp,gTn,wrap_u32_small (by omega:n≤32768)]
  · simp (disch:=(try simp only [sPu]);omega) [eTm,gTp,gTn,hh0,ew]
  · simpa [counted] using hl
  intro dv' w' q1 q2 q3
  refine ops_asg (oNi (SC.wp_ret ?_))
  try simp only [Exit.then,Exit.inBlock]
  refine ret_tmp hr (by simp [dPu,hd]) ⟨dv',?_,by simpa [counted] using q1,q2,q3⟩
  simp (disch:=(try simp only [sPu]);omega) [eTm,gTp,gTn]
theorem appendNullArr_ok {f g : FuncId} {fn : Func} {T0 T1 : Nat} (hf : P.funcs[f]? = some fn) (hb : fn.body.map strip = some (sc_AppendNullableArrayLen T0 T1 g)) (hnm : (fn.name == "runtime.NumGoroutine") = false) (hn : fn.ntmps = 14) (hr : fn.results = #[.tmp 6])
    (h1:intB P T0 .i64=true) (h2:intB P T1 .i32=true) (hg:∀ n:Int,AP P tU8 g #[.int .i32 n] (fun _ _=>True) (fixed n 4)) (n:Nat) (x:Bool) (hs:n≤most) :
    AP P tU8 f #[.int .i64 n,.bool x] (fun _ _=>True) (counted false x n 4):=by
  refine AP_of hf hb hnm hn (by simp) fun w B dv xs a0 ho hB hl _ hsz hd hh0 ha=>?_
  have hx0:=ha 0 (.int .i64 n) rfl
  have hx1:=ha 1 (.bool x) rfl
  simp only [Nat.zero_add] at hx0 hx1
  refine SC.wp_seq (SC.wp_reg (oNo rfl (opw_assign (oNi ?_))))
  refine SC.wp_seq (SC.wp_seq (SC.wp_reg (ops_mv (oNi ?_))))
  refine SC.wp_cond (t:=x) (by simp (disch:=(try simp only [sPu]);omega) [eTm,gTp,gTn,hx1]) ?_
  cases x
  · rw [if_neg (by simp)]
    refine SC.wp_skip ?_
    try simp only [Exit.then]
    refine SC.wp_seq (SC.wp_reg (ops_mv (ops_mv (oNo rfl (opw_convert h1 h2 (n:=(n:Int)) ?_ (ops_ap (B:=B) (dv:=dv) (xs:=xs) (hg (n:Int)) ?_ ho hB ?_ trivial ?_))))))
    · simp (disch:=(try simp only [sPu]);omega) [eTm,gTp,gTn,hx0]
    · simp (disch:=(try simp only [sPu]);omega) [eTm,gTp,gTn,hh0,wrap_i32_small hs]
    · simpa [counted] using hl
    intro dv' w' q1 q2 q3
    refine ops_asg (oNi (SC.wp_ret ?_))
    try simp only [Exit.then,Exit.inBlock]
    refine ret_tmp hr (by simp [dPu,hd]) ⟨dv',?_,by simpa [counted] using q1,q2,q3⟩
    simp (disch:=(try simp only [sPu]);omega) [eTm,gTp,gTn]
  · rw [if_pos rfl]
    refine SC.wp_seq (SC.wp_reg (ops_mv (oNo rfl (opw_ap (B:=B) (dv:=dv) (xs:=xs) (hg (-1)) ?_ ho hB ?_ trivial ?_))))
    · simp (disch:=(try simp only [sPu]);omega) [eTm,gTp,gTn,hh0,eCo]
    · simpa [counted] using hl
    intro dv' w' q1 q2 q3
    refine ops_asg (oNi (SC.wp_ret ?_))
    try simp only [Exit.then,Exit.inBlock]
    refine ret_tmp hr (by simp [dPu,hd]) ⟨dv',?_,by simpa [counted] using q1,q2,q3⟩
    simp (disch:=(try simp only [sPu]);omega) [eTm,gTp,gTn]
theorem appendCompactNullArr_ok {f g : FuncId} {fn : Func} {T0 T1 : Nat} (hf : P.funcs[f]? = some fn) (hb : fn.body.map strip = some (sc_AppendCompactNullableArrayLen T0 T1 g)) (hnm : (fn.name == "runtime.NumGoroutine") = false) (hn : fn.ntmps = 15) (hr : fn.results = #[.tmp 6])
    (h1:intB P T0 .i64=true) (h2:intB P T1 .u32=true) (hg:∀ n:Nat,n < 4294967296→AP P tU8 g #[.int .u32 n] (fun _ _=>True) (uvarint n)) (n:Nat) (x:Bool) (hs:n≤most) :
    AP P tU8 f #[.int .i64 n,.bool x] (fun _ _=>True) (counted true x n 4):=by
  refine AP_of hf hb hnm hn (by simp) fun w B dv xs a0 ho hB hl _ hsz hd hh0 ha=>?_
  have hx0:=ha 0 (.int .i64 n) rfl
  have hx1:=ha 1 (.bool x) rfl
  simp only [Nat.zero_add] at hx0 hx1
  have hm:most=32767:=rfl
  have ew:IntKind.u32.wrap (1+(n:Int))=((n+1:Nat):Int):=by rw [wrap_u32];omega
  have e0:uvarint 0=[0]:=by rw [uvarint_lt (by decide)];rfl
  refine SC.wp_seq (SC.wp_reg (oNo rfl (opw_assign (oNi ?_))))
  refine SC.wp_seq (SC.wp_seq (SC.wp_reg (ops_mv (oNi ?_))))
  refine SC.wp_cond (t:=x) (by simp (disch:=(try simp only [sPu]);omega) [eTm,gTp,gTn,hx1]) ?_
  cases x
  · rw [if_neg (by simp)]
    refine SC.wp_skip ?_
    try simp only [Exit.then]
    refine SC.wp_seq (SC.wp_reg (ops_mv (ops_mv (oNo rfl (opw_convert h1 h2 (n:=(n:Int)) ?_ (oNo rfl (opw_arith (op:=.add) (k:=.u32) (m:=1) (n:=(n:Int)) ?_ ?_ (.inl ⟨rfl,rfl⟩) (ops_ap (B:=B) (dv:=dv) (xs:=xs) (hg (n+1) (by omega)) ?_ ho hB ?_ trivial ?_))))))))
    · simp (disch:=(try simp only [sPu]);omega) [eTm,gTp,gTn,hx0]
    · rfl
    · simp (disch:=(try simp only [sPu]);omega) [eTm,gTp,gTn,wrap_u32_small (by omega:n≤32768)]
    · simp (disch:=(try simp only [sPu]);omega) [eTm,gTp,gTn,hh0,ew]
    · simpa [counted] using hl
    intro dv' w' q1 q2 q3
    refine ops_asg (oNi (SC.wp_ret ?_))
    try simp only [Exit.then,Exit.inBlock]
    refine ret_tmp hr (by simp [dPu,hd]) ⟨dv',?_,by simpa [counted] using q1,q2,q3⟩
    simp (disch:=(try simp only [sPu]);omega) [eTm,gTp,gTn]
  · rw [if_pos rfl]
    refine SC.wp_seq (SC.wp_reg (ops_mv (oNo rfl (opw_ap (B:=B) (dv:=dv) (xs:=xs) (hg 0 (by decide)) ?_ ho hB ?_ trivial ?_))))
    · simp (disch:=(try simp only [sPu]);omega) [eTm,gTp,gTn,hh0,eCo]
    · simpa [counted,e0] using hl
    intro dv' w' q1 q2 q3
    refine ops_asg (oNi (SC.wp_ret ?_))
    try simp only [Exit.then,Exit.inBlock]
    refine ret_tmp hr (by simp [dPu,hd]) ⟨dv',?_,by simpa [counted,e0] using q1,q2,q3⟩
    simp (disch:=(try simp only [sPu]);omega) [eTm,gTp,gTn]
theorem opw_sliceArr {a:Act} {w:World} {K:Act→World→Prop} {d:Option Tmp} {g:Option (Nat × Bool)} {A E n b:Nat} {x:Operand} (hE:P.underlying A=some (.array n E)) (hs:∃ i,P.info? E=some i) (hx:a.eval x=.pointer (some ⟨b,0,none⟩))
    (h:K (a.put d (.slice (some ⟨b,0,none⟩) n n)) w):opw P ⟨d,.slice A x none none none,g⟩ a w K:=by
  obtain ⟨i,hi⟩:=hs
  refine oVa (by simp) (fun p hp=>?_) h
  simp [execOp,hp,hx,Instr.sliceAt,run_underlying hE,Instr.sliceBounds,Instr.sureAddr,asAddr,sizeOf,typeInfo,hi,Addr.add]
def arr16 (P:Program) (T tU8:TypeId):Bool :=
  match P.underlying T with
  | some (.array 16 e)=>e == tU8
  | _=>false
theorem appendUuid_ok {f : FuncId} {fn : Func} {T0 T1 : Nat} (hf : P.funcs[f]? = some fn) (hb : fn.body.map strip = some (sc_AppendUuid T0 T1)) (hnm : (fn.name == "runtime.NumGoroutine") = false) (hn : fn.ntmps = 8) (hr : fn.results = #[.tmp 4])
    (hT:u8sB P T1 tU8=true) (hA:arr16 P T0 tU8=true) (bs:Bytes) (hs:bs.length=16) :
    AP P tU8 f #[.agg (cellsOf bs).toArray] (fun _ _=>True) bs:=by
  refine AP_of hf hb hnm hn (by simp) fun w B dv xs a0 ho hB hl _ hsz hd hh0 ha=>?_
  have hx0:=ha 0 (.agg (cellsOf bs).toArray) rfl
  simp only [Nat.zero_add] at hx0
  obtain ⟨hu,i,hi,hz,hs1,hby⟩:=u8s_of hT
  have hE:P.underlying T0=some (.array 16 tU8):=by
    unfold arr16 at hA
    split at hA
    · rename_i e he
      simp at hA
      subst hA
      exact he
    · simp at hA
  refine SC.wp_seq (SC.wp_reg (oNo rfl (opw_box (v:=.agg (cellsOf bs).toArray) (by simp (disch:=(try simp only [sPu]);omega) [eTm,gTp,gTn,hx0]) (oNo rfl (opw_assign (oNi ?_))))))
  have hown:Own tU8 (w.alloc (.cells (Value.agg (cellsOf bs).toArray).cells T0)) B dv xs:=ho.alloc _
  refine SC.wp_seq (SC.wp_reg (ops_mv (oNo rfl (opw_sliceArr hE ⟨i,hi⟩ (b:=w.heap.size) ?_ (oNo rfl (opw_appendU8 (B:=B) (dv:=dv) (xv:=.slice (some ⟨w.heap.size,0,none⟩) bs.length 16) (xs:=xs) (bs:=bs) hT ?_ ?_ rfl hown ?_ ?_ hl ?_))))))
  · simp (disch:=(try simp only [sPu]);omega) [eTm,gTp,gTn]
  · simp (disch:=(try simp only [sPu]);omega) [eTm,gTp,gTn,hh0]
  · rw [hs];simp (disch:=(try simp only [sPu]);omega) [eTm,gTp,gTn]
  · simp;omega
  · refine Src.ofSlice _ hu ⟨w.heap.size,0,none⟩ _ 16 _ (by rw [cLen,Nat.mul_one]) ?_ ?_
    · intro j u hj
      rw [add_none,cell_of_row _ _ _ _ _ _ (heap_alloc_new w _)]
      simpa [Value.cells] using hj
    · intro u hu
      simp only [cellsOf,List.mem_map] at hu
      obtain ⟨c,_,rfl⟩:=hu
      rfl
  intro dv2 w2 r1 r2 r3 _
  refine ops_asg (oNi (SC.wp_ret ?_))
  try simp only [Exit.then,Exit.inBlock]
  refine ret_tmp hr (by simp [dPu,hd]) ⟨dv2,?_,r1,((Below.refl B w).alloc hB _).trans r2,r3⟩
  simp (disch:=(try simp only [sPu]);omega) [eTm,gTp,gTn]
end
end Go.Proofs.YtecdefhecaeclaaDoor.K
namespace Go.Proofs.YtecdefhecaeclaaDoor.K
open Go Go.RowKit Go.Proofs.YtecdefhecaeclaaDoor.T
set_option linter.unusedSimpArgs false
set_option linter.unusedVariables false
def intK (P:Program) (T:TypeId):Option IntKind :=
  match P.underlying T with
  | some (.int k)=>some k
  | _=>none
def fieldOff (P:Program) (S f:Nat):Option Nat :=
  match P.underlying S with
  | some (.struct fields)=>match fields.toList[f]? with
    | some fld=>match P.info? fld.type with
      | some i=>if i.size=0 then none else some fld.offset
      | none=>none
    | none=>none
  | _=>none
def sliceN (P:Program) (T:Nat):Option Nat :=
  match P.underlying T with
  | some (.slice e)=>(P.info? e).map (·.size)
  | _=>none
def aggN (P:Program) (T:TypeId):Option Nat :=
  match P.info? T,P.underlying T with
  | some i,some (.struct _)=>some i.size
  | some i,some (.array _ _)=>some i.size
  | _,_=>none
def rangeV (w:World) (b:Nat):Nat→Nat→Option (List Value)
  | _,0=>some []
  | o,n+1=>(w.cell? ⟨b,o,none⟩).bind fun v=>(rangeV w b (o+1) n).map (v :: ·)
def iop (op:BinOp) (k k':IntKind) (m n:Int):Option Value :=
  match op with
  | .add=>if k=k' then some (.int k (k.wrap (m+n))) else none
  | .sub=>if k=k' then some (.int k (k.wrap (m - n))) else none
  | .mul=>if k=k' then some (.int k (k.wrap (m * n))) else none
  | .lss=>if k=k' then some (.bool (decide (m < n))) else none
  | .leq=>if k=k' then some (.bool (decide (m≤n))) else none
  | .gtr=>if k=k' then some (.bool (decide (n < m))) else none
  | .geq=>if k=k' then some (.bool (decide (n≤m))) else none
  | .eql=>if k=k' then some (.bool (m == n)) else none
  | .neq=>if k=k' then some (.bool (m != n)) else none
  | .shr=>if 0≤n∧n.toNat≤k.bits then some (.int k (m / (2 ^ n.toNat:Int))) else none
  | .shl=>if 0≤n∧n.toNat≤k.bits then some (.int k (k.wrap (m * 2 ^ n.toNat))) else none
  | .and=>if k=k' then some (.int k (k.wrap ((BitVec.ofInt k.bits m &&& BitVec.ofInt k.bits n).toNat:Int))) else none
  | .or=>if k=k' then some (.int k (k.wrap ((BitVec.ofInt k.bits m ||| BitVec.ofInt k.bits n).toNat:Int))) else none
  | .rem=>if k=k'∧n ≠ 0 then some (.int k (m.tmod n)) else none
  | _=>none
def vop (op:BinOp):Value→Value→Option Value
  | .int k m,.int k' n=>iop op k k' m n
  | _,_=>none
def qcall (P:Program) (a:Act):Callee→List Operand→List TypeId→Option Value
  | .builtin .len,[x],[T]=>match a.eval x with
    | .slice _ len _=>if (sliceN P T).isSome then some (.int .i64 (len:Int)) else none
    | .string s=>if strB P T then some (.int .i64 (s.data.toList.length:Int)) else none
    | _=>none
  | .builtin .min,[x,y],_=>match a.eval x,a.eval y with
    | .int k m,.int _ n=>some (.int k (if n < m then n else m))
    | _,_=>none
  | .builtin .max,[x,y],_=>match a.eval x,a.eval y with
    | .int k m,.int _ n=>some (.int k (if n > m then n else m))
    | _,_=>none
  | _,_,_=>none
def arrN (P:Program) (T:TypeId):Option Nat :=
  match P.underlying T with
  | some (.array n e)=>if (P.info? e).isSome then some n else none
  | _=>none
theorem arrN_of {P:Program} {T n:Nat} (h:arrN P T=some n):∃ E,P.underlying T=some (.array n E)∧∃ i,P.info? E=some i:=by
  unfold arrN at h
  split at h <;> try (simp at h;done)
  rename_i m e hu
  split at h <;> try (simp at h;done)
  rename_i hi
  simp at h
  subst h
  exact ⟨e,hu,Option.isSome_iff_exists.1 hi⟩
def qv (ok:Nat→Bool) (P:Program) (w:World) (a:Act):Op→Option Value
  | .move x=>some (a.eval x)
  | .assign x=>some (a.eval x)
  | .nilCheck x=>match a.eval x with
    | .pointer (some ad)=>some (.pointer (some ad))
    | _=>none
  | .fieldAddr S x f=>match a.eval x,fieldOff P S f with
    | .pointer (some ⟨b,o,none⟩),some off=>some (.pointer (some ⟨b,o+off,none⟩))
    | _,_=>none
  | .load T x=>match a.eval x with
    | .pointer (some ⟨b,o,none⟩)=>if ok b then (if oneB P T then w.cell? ⟨b,o,none⟩ else match aggN P T with
      | some n=>(rangeV w b o n).map fun cs=>.agg cs.toArray
      | none=>none) else none
    | _=>none
  | .indexAddr T x y=>match a.eval x,a.eval y,sliceN P T with
    | .slice (some ⟨b,o,none⟩) len _,.int _ j,some n=>if 0≤j∧j < len then some (.pointer (some ⟨b,o+j.toNat * n,none⟩)) else none
    | _,_,_=>none
  | .binOp op _ x y _=>vop op (a.eval x) (a.eval y)
  | .unOp .not _ x=>match a.eval x with
    | .bool b=>some (.bool !b)
    | _=>none
  | .pick c x y=>match a.eval c with
    | .bool b=>some (if b then a.eval x else a.eval y)
    | _=>none
  | .convert S T x=>match intK P S,intK P T,a.eval x with
    | some k,some k',.int k2 n=>if k=k2 then some (.int k' (k'.wrap n)) else none
    | _,_,_=>none
  | .slice T x none (some y) none=>match a.eval x,a.eval y,sliceN P T with
    | .slice base _ cap,.int _ h,some _=>if 0≤h∧h≤cap then some (.slice base h.toNat cap) else none
    | _,_,_=>none
  | .slice T x none none none=>match a.eval x,arrN P T with
    | .pointer (some ⟨b,0,none⟩),some n=>some (.slice (some ⟨b,0,none⟩) n n)
    | _,_=>none
  | .extract x i=>match a.eval x with
    | .tuple vs=>vs[i]?
    | _=>none
  | .call ⟨f,args,ts⟩=>qcall P a f args.toList ts.toList
  | _=>none
section
variable {P:Program} {a:Act} {w:World} {K:Act→World→Prop} {d:Option Tmp} {g:Option (Nat × Bool)}
theorem fieldB_of {S f off:Nat} (h:fieldOff P S f=some off):fieldB P S f off=true:=by
  unfold fieldOff at h
  unfold fieldB
  split at h <;> try (simp at h;done)
  rename_i fields hu
  split at h <;> try (simp at h;done)
  rename_i fld hf
  split at h <;> try (simp at h;done)
  rename_i i hi
  split at h <;> try (simp at h;done)
  rename_i h0
  simp at h
  subst h
  simp [hu,hf,hi,h0]
theorem fieldOff_of {S f off:Nat} (h:fieldB P S f off=true):fieldOff P S f=some off:=by
  unfold fieldB at h
  unfold fieldOff
  split at h <;> try (simp at h;done)
  rename_i fields hu
  split at h <;> try (simp at h;done)
  rename_i fld hf
  simp at h
  obtain ⟨h1,h2⟩:=h
  split at h2 <;> try (simp at h2;done)
  rename_i i hi
  simp at h2
  simp [hu,hf,hi,h2,h1]
theorem sliceB_of {T n:Nat} (h:sliceN P T=some n):∃ E,sliceB P T E n=true:=by
  unfold sliceN at h
  split at h <;> try (simp at h;done)
  rename_i e hu
  obtain ⟨i,hi,hn⟩:=Option.map_eq_some_iff.1 h
  exact ⟨e,by simp [sliceB,hu,hi,hn]⟩
theorem sliceN_of {T E n:Nat} (h:sliceB P T E n=true):sliceN P T=some n:=by
  obtain ⟨hu,i,hi,hs⟩:=slice_of h
  simp [sliceN,hu,hi,hs]
theorem intB_of {T:Nat} {k:IntKind} (h:intK P T=some k):intB P T k=true:=by
  unfold intK at h
  split at h <;> try (simp at h;done)
  rename_i k' hu
  simp at h
  subst h
  simp [intB,hu]
theorem intK_of {T:Nat} {k:IntKind} (h:intB P T k=true):intK P T=some k:=by
  unfold intB at h
  split at h <;> try (simp at h;done)
  rename_i k' hu
  simp at h
  subst h
  simp [intK,hu]
theorem aggB_of {T n:Nat} (h:aggN P T=some n):aggB P T n=true:=by
  unfold aggN at h
  split at h <;> simp_all [aggB]
theorem aggN_of {T n:Nat} (h:aggB P T n=true):aggN P T=some n:=by
  unfold aggB at h
  split at h <;> simp_all [aggN]
theorem oneB_not_agg {T n:Nat} (h:aggB P T n=true):oneB P T=false:=by
  unfold aggB at h
  split at h <;> try (simp at h;done)
  all_goals
    rename_i h1 h2
    simp [oneB,h1,h2]
theorem rangeV_get {b:Nat}:∀ (n o:Nat) (cs:List Value),rangeV w b o n=some cs→cs.length=n∧∀ j v,cs[j]?=some v→w.cell? ⟨b,o+j,none⟩=some v
  | 0,o,cs,h=>by
    simp [rangeV] at h
    subst h
    simp
  | n+1,o,cs,h=>by
    unfold rangeV at h
    obtain ⟨v,hv,h⟩:=Option.bind_eq_some_iff.1 h
    obtain ⟨cs',hcs,rfl⟩:=Option.map_eq_some_iff.1 h
    obtain ⟨h1,h2⟩:=rangeV_get n (o+1) cs' hcs
    refine ⟨by simp [h1],fun j u hu=>?_⟩
    cases j with
    | zero=>simp at hu;subst hu;exact hv
    | succ j =>
      simp at hu
      have:=h2 j u hu
      rwa [show o+1+j=o+(j+1) by omega] at this
theorem rangeV_of {b:Nat}:∀ (cs:List Value) (o:Nat),(∀ j v,cs[j]?=some v→w.cell? ⟨b,o+j,none⟩=some v)→rangeV w b o cs.length=some cs
  | [],_,_=>rfl
  | v :: cs,o,h=>by
    unfold rangeV
    have h0:=h 0 v rfl
    rw [Nat.add_zero] at h0
    simp only [List.length_cons]
    rw [h0,rangeV_of cs (o+1) (fun j u hu=>by have:=h (j+1) u hu;rwa [show o+(j+1)=o+1+j by omega] at this)]
    rfl
theorem vop_sound {op:BinOp} {T T':TypeId} {x y:Operand} {v:Value} (h:vop op (a.eval x) (a.eval y)=some v):∀ p:Oper,p.op=.binOp op T x y T'→(execOp a.eval p).run P w=.ok (.value v) w:=by
  intro p hp
  unfold vop at h
  split at h <;> try (simp at h;done)
  rename_i k m k' n hx hy
  unfold iop at h
  split at h <;> try (simp at h;done)
  all_goals
    split at h <;> try (simp at h;done)
  case h_10 =>
    rename_i hn
    simp at h
    subst h
    have e:m.fdiv (2 ^ n.toNat:Int)=m / (2 ^ n.toNat:Int):=Int.fdiv_eq_ediv_of_nonneg _ (Int.le_of_lt (Int.pow_pos (by decide)))
    have e2:min n.toNat k.bits=n.toNat:=Nat.min_eq_left hn.2
    have e3:¬ (n < 0):=by omega
    simp [execOp,hp,hx,hy,eqGuard,binOp,Op.shift,e,e2,e3]
  case h_11 =>
    rename_i hn
    simp at h
    subst h
    have e2:min n.toNat k.bits=n.toNat:=Nat.min_eq_left hn.2
    have e3:¬ (n < 0):=by omega
    simp [execOp,hp,hx,hy,eqGuard,binOp,Op.shift,e2,e3]
  case h_14 =>
    rename_i hk
    obtain ⟨rfl,hk0⟩:=hk
    simp at h
    subst h
    simp [execOp,hp,hx,hy,run_eqGuard_int,binOp,Op.intDiv,hk0]
  all_goals
    rename_i hk
    subst hk
    simp at h
    subst h
    simp [execOp,hp,hx,hy,run_eqGuard_int,binOp,Op.intArith,Op.intCmp,Op.intBits]
theorem qv_sound {ok:Nat→Bool} {w0:World} (hS:∀ b o,ok b=true→w.cell? ⟨b,o,none⟩=w0.cell? ⟨b,o,none⟩) {op:Op} {v:Value} (h:qv ok P w0 a op=some v):∀ p:Oper,stripOp p.op=op→(execOp a.eval p).run P w=.ok (.value v) w:=by
  intro p hp0
  have hne:∀ f args t,op ≠ .call ⟨.value f,args,t⟩:=by
    intro f args t he
    subst he
    simp [qv,qcall] at h
  have hp:=stripOp_eq hne hp0
  clear hp0
  unfold qv at h
  split at h <;> try (simp at h;done)
  · simp at h;subst h;simp [execOp,hp]
  · simp at h;subst h;simp [execOp,hp]
  · split at h <;> try (simp at h;done)
    rename_i hx
    simp at h;subst h;simp [execOp,hp,hx]
  · split at h <;> try (simp at h;done)
    rename_i b o off hx hf
    simp at h;subst h
    simp [execOp,hp,hx,run_field (fieldB_of hf)]
  · split at h <;> try (simp at h;done)
    rename_i b o hx
    split at h <;> try (simp at h;done)
    rename_i hok
    split at h
    · rename_i hT
      rw [← hS b o hok] at h
      simp [execOp,hp,hx,run_load_one hT h]
    · split at h <;> try (simp at h;done)
      rename_i n hn
      obtain ⟨cs,hcs,rfl⟩:=Option.map_eq_some_iff.1 h
      obtain ⟨h1,h2⟩:=rangeV_get _ _ _ hcs
      have h2:∀ j v,cs[j]?=some v→w.cell? ⟨b,o+j,none⟩=some v:=fun j v hj=>by rw [hS b _ hok];exact h2 j v hj
      subst h1
      simp [execOp,hp,hx,run_load_agg (aggB_of hn) h2]
  · split at h <;> try (simp at h;done)
    rename_i b o len cap k j n hx hy hn
    split at h <;> try (simp at h;done)
    rename_i hj
    simp at h
    subst h
    obtain ⟨E,hE⟩:=sliceB_of hn
    obtain ⟨hu,i,hi,hs⟩:=slice_of hE
    simp [execOp,hp,hx,hy,Instr.indexAt,asIntOf,run_underlying hu,hj,sizeOf,typeInfo,hi,hs,add_none]
  · exact vop_sound h p hp
  · split at h <;> try (simp at h;done)
    rename_i b hx
    simp at h;subst h;simp [execOp,hp,hx,Op.unary]
  · split at h <;> try (simp at h;done)
    rename_i b hx
    simp at h;subst h;simp [execOp,hp,hx,asBool]
  · split at h <;> try (simp at h;done)
    rename_i k k' k2 n hS hT hx
    split at h <;> try (simp at h;done)
    rename_i hk
    subst hk
    simp at h
    subst h
    have h1:=intB_of hS
    have h2:=intB_of hT
    unfold intB at h1 h2
    split at h1 <;> try (simp at h1;done)
    split at h2 <;> try (simp at h2;done)
    rename_i q1 _ _ q2
    simp at h1 h2
    subst h1;subst h2
    simp [execOp,hp,hx,convert,run_underlying q1,run_underlying q2,Conv.intToInt]
  · split at h <;> try (simp at h;done)
    rename_i base len cap k hh n hx hy hn
    split at h <;> try (simp at h;done)
    rename_i hb0
    simp at h
    subst h
    obtain ⟨E,hE⟩:=sliceB_of hn
    obtain ⟨hu,i,hi,hs⟩:=slice_of hE
    have hb:(Instr.sliceBounds true len cap none (some (.int k hh)) none).run P w=.ok (0,hh.toNat,cap) w:=by
      simp [Instr.sliceBounds,run_sliceBound,hb0]
    simp [execOp,hp,hx,hy,Instr.sliceAt,Instr.slice,run_underlying hu,hb,sizeOf,typeInfo,hi,add_none]
    intro hc
    cases base with
    | none=>rfl
    | some ad=>simp [Addr.add]
  · split at h <;> try (simp at h;done)
    rename_i b n hx hn
    simp at h
    subst h
    obtain ⟨E,hE,i,hi⟩:=arrN_of hn
    simp [execOp,hp,hx,Instr.sliceAt,run_underlying hE,Instr.sliceBounds,Instr.sureAddr,asAddr,sizeOf,typeInfo,hi,Addr.add]
  · split at h <;> try (simp at h;done)
    rename_i vs hx
    simp [execOp,hp,hx,Instr.extract,h]
  · clear hne
    rename_i f args ts
    obtain ⟨args⟩:=args
    obtain ⟨ts⟩:=ts
    simp only at h
    unfold qcall at h
    split at h <;> try (simp at h;done)
    · split at h <;> try (simp at h;done)
      · rename_i base len cap hx
        split at h <;> try (simp at h;done)
        rename_i hn
        simp at h
        subst h
        obtain ⟨n,hn⟩:=Option.isSome_iff_exists.1 hn
        obtain ⟨E,hE⟩:=sliceB_of hn
        obtain ⟨hu,_⟩:=slice_of hE
        simp [execOp,hp,hx,resolve,invoke,builtin,Builtin.len_,run_underlying hu,goInt]
      · rename_i s hx
        split at h <;> try (simp at h;done)
        rename_i hT
        have hu:=str_of hT
        simp at h
        subst h
        simp [execOp,hp,hx,resolve,invoke,builtin,Builtin.len_,run_underlying hu,goInt]
    · split at h <;> try (simp at h;done)
      rename_i k m _ n hx hy
      simp at h
      subst h
      simp [execOp,hp,hx,hy,resolve,invoke,builtin,Builtin.min_,Builtin.min2]
    · split at h <;> try (simp at h;done)
      rename_i k m _ n hx hy
      simp at h
      subst h
      simp [execOp,hp,hx,hy,resolve,invoke,builtin,Builtin.max_,Builtin.max2]
theorem ops_1 {all r:List SOp} {d:Nat} {op:Op} {v:Value} (h:qv (fun _=>true) P w a op=some v) (hk:opsw P all r K (a.put (some d) v) w):opsw P all (⟨some d,op,none⟩ :: r) K a w :=
  oNo rfl (opw_of fun o next Q hd ho hn=>by
    rw [qv_sound (fun _ _ _=>rfl) h o ho,Oper.upon_value,hd]
    exact hn _ _ hk)
theorem ops_y {all r:List SOp} {d j dj:Nat} {want:Bool} {op:Op} {v:Value} (hj:(all[j]?).bind (·.dst)=some dj) (hlt:dj < a.tmps.size) (hb:getT a dj=.bool want) (h:qv (fun _=>true) P w a op=some v) (hk:opsw P all r K (a.put (some d) v) w) :
    opsw P all (⟨some d,op,some (j,want)⟩ :: r) K a w :=
  opsw_yes rfl hj hlt hb (opw_of fun o next Q hd ho hn=>by
    rw [qv_sound (fun _ _ _=>rfl) h o ho,Oper.upon_value,hd]
    exact hn _ _ hk)
theorem ops_n {all r:List SOp} {d j dj:Nat} {want:Bool} {op:Op} (hj:(all[j]?).bind (·.dst)=some dj) (hlt:dj < a.tmps.size) (hb:getT a dj=.bool !want∨getT a dj=undef) (hk:opsw P all r K (a.put (some d) undef) w) :
    opsw P all (⟨some d,op,some (j,want)⟩ :: r) K a w:=opsw_no rfl hj hlt hb hk
theorem opq_of {w0:World} {B:Nat} {s:SOp} {v:Value} (h:qv (fun b=>decide (b < B)) P w0 a s.op=some v):opq P (Below B w0) s a v:=fun o ho w' hS' =>
  qv_sound (w0:=w0) (fun b o hb=>hS'.cell (by simpa using hb)) h o (congrArg SOp.op ho)
theorem dr_1 {w0:World} {B i d:Nat} {op:Op} {ops:List SOp} {v:Value} {r:List (Nat × Bool)} (hs:ops[i]?=some ⟨some d,op,none⟩) (h:qv (fun b=>decide (b < B)) P w0 a op=some v)
    (hk:dregw P (Below B w0) ops r K (a.put (some d) v) w):dregw P (Below B w0) ops ((i,true) :: r) K a w:=by
  unfold dregw
  exact ⟨_,hs,by simpa only [if_true] using ⟨v,opq_of (s:=⟨some d,op,none⟩) h,hk⟩⟩
theorem dr_y {w0:World} {B i d j dj:Nat} {want:Bool} {op:Op} {ops:List SOp} {v:Value} {r:List (Nat × Bool)} (hs:ops[i]?=some ⟨some d,op,some (j,want)⟩) (hj:(ops[j]?).bind (·.dst)=some dj) (hlt:dj < a.tmps.size) (hb:getT a dj=.bool want) (h:qv (fun b=>decide (b < B)) P w0 a op=some v)
    (hk:dregw P (Below B w0) ops r K (a.put (some d) v) w):dregw P (Below B w0) ops ((i,true) :: r) K a w:=by
  unfold dregw
  exact ⟨_,hs,dj,want,hj,hlt,.inl hb,by simpa only [if_true] using ⟨v,opq_of (s:=⟨some d,op,some (j,want)⟩) h,hk⟩⟩
theorem dr_n {w0:World} {B i d j dj:Nat} {q want:Bool} {op:Op} {ops:List SOp} {r:List (Nat × Bool)} (hs:ops[i]?=some ⟨some d,op,some (j,want)⟩) (hj:(ops[j]?).bind (·.dst)=some dj) (hlt:dj < a.tmps.size) (hb:getT a dj=.bool !want∨getT a dj=undef)
    (hk:dregw P (Below B w0) ops r K (a.put (some d) undef) w):dregw P (Below B w0) ops ((i,q) :: r) K a w:=by
  unfold dregw
  exact ⟨_,hs,dj,!want,hj,hlt,hb.imp id (fun h=>⟨h,rfl⟩),by rw [if_neg (by cases want <;> simp)];exact hk⟩
theorem dreg_n {S:World→Prop} {ops:List SOp} {i:Nat} {s:SOp} {r:List (Nat × Bool)} (hs:ops[i]?=some s) (hg:s.guard=none) (h:opw P s a w (fun a' w'=>S w'∧dregw P S ops r K a' w')) :
    dregw P S ops ((i,false) :: r) K a w:=by
  unfold dregw
  refine ⟨s,hs,?_⟩
  rw [hg]
  exact h
theorem dreg_yes {S:World→Prop} {ops:List SOp} {i j dj:Nat} {want:Bool} {s:SOp} {r:List (Nat × Bool)} (hs:ops[i]?=some s) (hg:s.guard=some (j,want)) (hj:(ops[j]?).bind (·.dst)=some dj) (hlt:dj < a.tmps.size) (hb:getT a dj=.bool want)
    (h:opw P s a w (fun a' w'=>S w'∧dregw P S ops r K a' w')):dregw P S ops ((i,false) :: r) K a w:=by
  unfold dregw
  refine ⟨s,hs,?_⟩
  rw [hg]
  exact ⟨dj,want,hj,hlt,.inl hb,by rw [if_pos rfl];exact h⟩
theorem dreg_nil {S:World→Prop} {ops:List SOp} (h:K a w):dregw P S ops [] K a w:=h
end
end Go.Proofs.YtecdefhecaeclaaDoor.K
namespace Go.Proofs.YtecdefhecaeclaaDoor.T
set_option linter.unusedVariables false
set_option linter.unusedSimpArgs false
abbrev Rd (α:Type):=Bytes→Option (α × Bytes)
def rOk {α:Type} (x:α):Rd α:=fun b=>some (x,b)
def rNo {α:Type}:Rd α:=fun _=>none
def rThen {α β:Type} (p:Rd α) (f:α→Rd β):Rd β:=fun b=>(p b).bind fun x=>f x.1 x.2
def unfix:Bytes→Nat
  | []=>0
  | u :: r=>u.toNat * 256 ^ r.length+unfix r
def sgn (k n:Nat):Int:=if n < 256 ^ k / 2 then (n:Int) else (n:Int) - (256 ^ k:Nat)
def pFix (k:Nat):Rd Nat:=fun b=>if b.length < k then none else some (unfix (b.take k),b.drop k)
def pInt (k:Nat):Rd Int:=rThen (pFix k) fun n=>rOk (sgn k n)
def pSpan (l:Int):Rd Bytes:=fun b=>if (b.length:Int) < l∨l < 0 then none else some (b.take l.toNat,b.drop l.toNat)
def pUvGo:Nat→Nat→Rd Nat
  | _,_,[]=>none
  | 0,m,u :: r=>if u.toNat≤15 then some (u.toNat * m,r) else none
  | k+1,m,u :: r=>if u.toNat < 128 then some (u.toNat * m,r) else (pUvGo k (m * 128) r).map fun x=>(u.toNat % 128 * m+x.1,x.2)
def pUv:Rd Nat:=pUvGo 4 1
def pLen (flex:Bool):Rd Int :=
  rThen (if flex then rThen pUv fun n=>rOk (if n=2147483648 then 2147483647 else (if n < 2147483648 then (n:Int) else (n:Int) - 4294967296) - 1) else pInt 4)
    fun l b=>if (b.length:Int) < l then none else some (l,b)
def tN (n:Int):Tree:=.mk n [] false [] []
def tS (s:Bytes):Tree:=.mk 0 s false [] []
def tNull:Tree:=.mk 0 [] true [] []
def tL (l:List Tree):Tree:=.mk 0 [] false l []
def pCount (flex:Bool) (size:Nat):Rd Int:=if flex then rThen pUv fun n=>rOk ((n:Int) - 1) else pInt size
def pPrim (flex nul:Bool):PK→Rd Tree
  | .bool=>rThen (pFix 1) fun n=>rOk (tN (if n=0 then 0 else 1))
  | .u16=>rThen (pFix 2) fun n=>rOk (tN n)
  | .uuid=>rThen (pSpan 16) fun s=>rOk (tS s)
  | .str=>rThen (pCount flex 2) fun l=>if nul && decide (l < 0) then rOk tNull else rThen (pSpan l) fun s=>rOk (tS s)
  | .bytes=>rThen (pCount flex 4) fun l=>if nul && decide (l < 0) then rOk tNull else if !nul && decide (l=-1) then rOk (tS []) else rThen (pSpan l) fun s=>rOk (tS s)
  | k=>rThen (pInt k.width) fun n=>rOk (tN n)
def pMany {α:Type} (p:Rd α):Nat→Rd (List α)
  | 0=>rOk []
  | n+1=>rThen p fun x=>rThen (pMany p n) fun xs=>rOk (x :: xs)
def setTag (t:Nat × Bytes):List (Nat × Bytes)→List (Nat × Bytes)
  | []=>[t]
  | x :: r=>if x.1 < t.1 then x :: setTag t r else if x.1=t.1 then t :: r else t :: x :: r
def pTagN:Nat→List (Nat × Bytes)→Rd (List (Nat × Bytes))
  | 0,acc=>rOk acc
  | n+1,acc=>rThen pUv fun k=>rThen pUv fun s=>rThen (pSpan s) fun v=>pTagN n (setTag (k,v) acc)
def pTags (flex:Bool):Rd (List (Nat × Bytes)):=if flex then rThen pUv fun n=>pTagN n [] else rOk []
def nulAt (ver:Int) (h:Hd):Ty→Bool
  | .struct _ _ _ _ _=>decide (0≤h.null)
  | _=>decide (0≤h.null) && decide (h.null≤ver)
mutual
def pTy (ver:Int) (flex:Bool):Ty→Bool→Rd Tree
  | .prim k,nul=>pPrim flex nul k
  | .list _ _ _ of,nul=>rThen (pLen flex) fun l=>if nul && decide (l < 0) then rOk tNull else rThen (pMany (pTy ver flex of false) l.toNat) fun xs=>rOk (tL xs)
  | .struct _ _ _ _ fs,nul =>
    rThen (if nul then pInt 1 else rOk 0) fun p=>if nul && decide (p=-1) then rOk tNull else
      rThen (pFs ver flex fs) fun xs=>rThen (pTags flex) fun u=>rOk (.mk 0 [] false xs u)
def pFs (ver:Int) (flex:Bool):Fs→Rd (List Tree)
  | .nil=>rOk []
  | .cons h ty r=>rThen (if h.has ver then pTy ver flex ty (nulAt ver h ty) else rOk Tree.zero) fun x=>rThen (pFs ver flex r) fun xs=>rOk (x :: xs)
end
def Ext {α:Type} (p:Rd α):Prop:=∀ b x r c,p b=some (x,r)→p (b ++ c)=some (x,r ++ c)
section
variable {α β:Type}
theorem rThen_some {p:Rd α} {f:α→Rd β} {b r:Bytes} {y:β} (h:rThen p f b=some (y,r)):∃ x r1,p b=some (x,r1)∧f x r1=some (y,r):=by
  unfold rThen at h
  cases hp:p b with
  | none=>rw [hp] at h;simp at h
  | some z=>rw [hp] at h;exact ⟨z.1,z.2,rfl,h⟩
theorem rThen_of {p:Rd α} {f:α→Rd β} {b r1:Bytes} {x:α} (h:p b=some (x,r1)):rThen p f b=f x r1:=by simp [rThen,h]
theorem Ext.ok (x:α):Ext (rOk x):=fun b y r c h=>by simp only [rOk,Option.some.injEq,Prod.mk.injEq] at h ⊢;obtain ⟨rfl,rfl⟩:=h;simp
theorem Ext.then {p:Rd α} {f:α→Rd β} (hp:Ext p) (hf:∀ x,Ext (f x)):Ext (rThen p f):=by
  intro b y r c h
  obtain ⟨x,r1,h1,h2⟩:=rThen_some h
  rw [rThen_of (hp _ _ _ _ h1)]
  exact hf x _ _ _ _ h2
theorem ext_fix (k:Nat):Ext (pFix k):=by
  intro b x r c h
  unfold pFix at h ⊢
  split at h
  · simp at h
  · rename_i hl
    simp only [Option.some.injEq,Prod.mk.injEq] at h
    obtain ⟨rfl,rfl⟩:=h
    rw [if_neg (by simp;omega),List.take_append_of_le_length (by omega),List.drop_append_of_le_length (by omega)]
theorem ext_int (k:Nat):Ext (pInt k):=(ext_fix k).then fun _=>Ext.ok _
theorem ext_span (l:Int):Ext (pSpan l):=by
  intro b x r c h
  unfold pSpan at h ⊢
  split at h
  · simp at h
  · rename_i hl
    simp only [Option.some.injEq,Prod.mk.injEq] at h
    obtain ⟨rfl,rfl⟩:=h
    rw [if_neg (by simp;omega),List.take_append_of_le_length (by omega),List.drop_append_of_le_length (by omega)]
theorem ext_uvGo:∀ k m,Ext (pUvGo k m)
  | k,m,[],x,r,c,h=>by simp [pUvGo] at h
  | 0,m,u :: b,x,r,c,h=>by
    simp only [pUvGo,List.cons_append] at h ⊢
    split at h
    · rename_i hu
      simp only [Option.some.injEq,Prod.mk.injEq] at h
      rw [if_pos hu,h.1,h.2]
    · simp at h
  | k+1,m,u :: b,x,r,c,h=>by
    simp only [pUvGo,List.cons_append] at h ⊢
    split at h
    · rename_i hu
      simp only [Option.some.injEq,Prod.mk.injEq] at h
      rw [if_pos hu,h.1,h.2]
    · rename_i hu
      rw [if_neg hu]
      cases hp:pUvGo k (m * 128) b with
      | none=>rw [hp] at h;simp at h
      | some z =>
        rw [hp] at h
        rw [ext_uvGo k (m * 128) b z.1 z.2 c hp]
        simp at h ⊢
        exact ⟨h.1,by rw [h.2]⟩
theorem ext_uv:Ext pUv:=ext_uvGo 4 1
theorem ext_len (flex:Bool):Ext (pLen flex):=by
  unfold pLen
  refine Ext.then ?_ ?_
  · cases flex
    · exact ext_int 4
    · rw [if_pos rfl]
      exact ext_uv.then fun _=>Ext.ok _
  · intro l b x r c h
    simp only at h ⊢
    split at h
    · simp at h
    · rename_i hl
      simp only [Option.some.injEq,Prod.mk.injEq] at h
      obtain ⟨rfl,rfl⟩:=h
      rw [if_neg (by simp;omega)]
theorem ext_count (flex:Bool) (k:Nat):Ext (pCount flex k):=by
  unfold pCount
  cases flex
  · exact ext_int k
  · rw [if_pos rfl]
    exact ext_uv.then fun _=>Ext.ok _
theorem ext_prim (flex nul:Bool) (k:PK):Ext (pPrim flex nul k):=by
  cases k <;> simp only [pPrim]
  case bool=>exact (ext_fix 1).then fun _=>Ext.ok _
  case u16=>exact (ext_fix 2).then fun _=>Ext.ok _
  case uuid=>exact (ext_span _).then fun _=>Ext.ok _
  case str =>
    refine (ext_count flex 2).then fun l=>?_
    split
    · exact Ext.ok _
    · exact (ext_span _).then fun _=>Ext.ok _
  case bytes =>
    refine (ext_count flex 4).then fun l=>?_
    split
    · exact Ext.ok _
    · split
      · exact Ext.ok _
      · exact (ext_span _).then fun _=>Ext.ok _
  all_goals exact (ext_int _).then fun _=>Ext.ok _
theorem ext_many {p:Rd α} (hp:Ext p):∀ n,Ext (pMany p n)
  | 0=>Ext.ok _
  | n+1=>hp.then fun _=>(ext_many hp n).then fun _=>Ext.ok _
theorem ext_tagN:∀ n acc,Ext (pTagN n acc)
  | 0,_=>Ext.ok _
  | n+1,_=>ext_uv.then fun _=>ext_uv.then fun _=>(ext_span _).then fun _=>ext_tagN n _
theorem ext_tags (flex:Bool):Ext (pTags flex):=by
  unfold pTags
  cases flex
  · exact Ext.ok _
  · rw [if_pos rfl]
    exact ext_uv.then fun _=>ext_tagN _ _
end
mutual
theorem ext_ty (ver:Int) (flex:Bool):∀ (ty:Ty) (nul:Bool),Ext (pTy ver flex ty nul)
  | .prim k,nul=>by simp only [pTy];exact ext_prim _ _ _
  | .list _ _ _ of,nul=>by
    simp only [pTy]
    refine (ext_len flex).then fun l=>?_
    split
    · exact Ext.ok _
    · exact (ext_many (ext_ty ver flex of false) _).then fun _=>Ext.ok _
  | .struct _ _ _ _ fs,nul=>by
    simp only [pTy]
    refine Ext.then ?_ fun p=>?_
    · cases nul
      · exact Ext.ok _
      · exact ext_int 1
    · split
      · exact Ext.ok _
      · exact (ext_fs ver flex fs).then fun _=>(ext_tags flex).then fun _=>Ext.ok _
theorem ext_fs (ver:Int) (flex:Bool):∀ fs:Fs,Ext (pFs ver flex fs)
  | .nil=>by simp only [pFs];exact Ext.ok _
  | .cons h ty r=>by
    simp only [pFs]
    refine Ext.then ?_ fun x=>(ext_fs ver flex r).then fun _=>Ext.ok _
    split
    · exact ext_ty ver flex ty _
    · exact Ext.ok _
end
theorem Ext.cut {α:Type} {p:Rd α} (h:Ext p) {b:Bytes} {x:α} (hb:p b=some (x,[])) {k:Nat} (hk:k < b.length):p (b.take k)=none:=by
  cases hp:p (b.take k) with
  | none=>rfl
  | some z =>
    have:=h _ z.1 z.2 (b.drop k) hp
    rw [List.take_append_drop,hb] at this
    simp at this
    omega
end Go.Proofs.YtecdefhecaeclaaDoor.T
namespace Go.Proofs.YtecdefhecaeclaaDoor.T
set_option linter.unusedVariables false
set_option linter.unusedSimpArgs false
theorem fixed_length (n:Int):∀ k,(fixed n k).length=k
  | 0=>rfl
  | k+1=>by simp [fixed,fixed_length n k]
theorem byteOf_nat (n:Int):(byteOf n).toNat=(n % 256).toNat:=by
  have h0:0≤n % 256:=Int.emod_nonneg _ (by decide)
  have h1:n % 256 < 256:=Int.emod_lt_of_pos _ (by decide)
  simp [byteOf]
  omega
theorem pow_pos256 (k:Nat):0 < (256:Int) ^ k:=Int.pow_pos (by decide)
theorem div_mod_pow (n:Int) (k:Nat):n / 256 ^ k % 256=n % 256 ^ (k+1) / 256 ^ k:=by
  have hp:=pow_pos256 k
  have e:(256:Int) ^ (k+1)=256 ^ k * 256:=Int.pow_succ _ _
  have h1:n % 256 ^ (k+1)=n+256 ^ k * (-(256 * (n / 256 ^ (k+1)))):=by
    have:=Int.mul_ediv_add_emod n (256 ^ (k+1))
    rw [e] at this ⊢
    have e2:(256:Int) ^ k * -(256 * (n / (256 ^ k * 256)))=-(256 ^ k * 256 * (n / (256 ^ k * 256))):=by
      rw [Int.mul_neg,Int.mul_assoc]
    omega
  rw [h1,Int.add_mul_ediv_left _ _ (by omega)]
  have h2:n / 256 ^ (k+1)=n / 256 ^ k / 256:=by rw [e,Int.ediv_ediv_of_nonneg (by omega)]
  rw [h2]
  omega
theorem fixed_mod {n m:Int}:∀ {k:Nat},n % 256 ^ k=m % 256 ^ k→fixed n k=fixed m k
  | 0,_=>rfl
  | k+1,h=>by
    have hd:n % 256 ^ k=m % 256 ^ k:=by
      have e:(256:Int) ^ (k+1)=256 ^ k * 256:=Int.pow_succ _ _
      have d:(256:Int) ^ k ∣ 256 ^ (k+1):=⟨256,e⟩
      rw [← Int.emod_emod_of_dvd n d,← Int.emod_emod_of_dvd m d,h]
    have hb:byteOf (n / 256 ^ k)=byteOf (m / 256 ^ k):=by
      unfold byteOf
      rw [div_mod_pow,div_mod_pow,h]
    simp [fixed,hb,fixed_mod hd]
theorem unfix_fixed (n:Int):∀ k,((unfix (fixed n k):Nat):Int)=n % 256 ^ k
  | 0=>by simp [fixed,unfix,Int.emod_one]
  | k+1=>by
    have hp:=pow_pos256 k
    have h0:0≤n / 256 ^ k % 256:=Int.emod_nonneg _ (by decide)
    simp only [fixed,unfix,fixed_length,byteOf_nat]
    rw [Int.natCast_add,Int.natCast_mul,unfix_fixed n k,Int.toNat_of_nonneg h0,div_mod_pow]
    have e:(256:Int) ^ (k+1)=256 ^ k * 256:=Int.pow_succ _ _
    have d:(256:Int) ^ k ∣ 256 ^ (k+1):=⟨256,e⟩
    rw [← Int.emod_emod_of_dvd n d]
    have:=Int.mul_ediv_add_emod (n % 256 ^ (k+1)) (256 ^ k)
    have ec:((256 ^ k:Nat):Int)=(256:Int) ^ k:=by rw [Int.natCast_pow];rfl
    rw [ec,Int.mul_comm]
    exact this
theorem pFix_fixed (n:Int) (k:Nat) (rest:Bytes):pFix k (fixed n k ++ rest)=some ((n % 256 ^ k).toNat,rest):=by
  have hl:=fixed_length n k
  unfold pFix
  rw [if_neg (by rw [List.length_append];omega),List.take_append_of_le_length (by omega),List.drop_append_of_le_length (by omega)]
  have h:=unfix_fixed n k
  have e1:(fixed n k).take k=fixed n k:=List.take_of_length_le (by omega)
  have e2:(fixed n k).drop k=[]:=List.drop_of_length_le (by omega)
  rw [e1,e2,← h]
  simp
theorem sgn_mod (k:Nat) (n:Nat):sgn k n % 256 ^ k=(n:Int) % 256 ^ k:=by
  unfold sgn
  split
  · rfl
  · have:((256 ^ k:Nat):Int)=(256:Int) ^ k:=by simp
    rw [this,Int.sub_emod_right]
theorem fixed_sgn (n:Int) (k:Nat):fixed (sgn k (n % 256 ^ k).toNat) k=fixed n k:=by
  refine fixed_mod ?_
  rw [sgn_mod,Int.toNat_of_nonneg (Int.emod_nonneg _ (by have:=pow_pos256 k;omega)),Int.emod_emod]
theorem pInt_fixed (n:Int) (k:Nat) (rest:Bytes):pInt k (fixed n k ++ rest)=some (sgn k (n % 256 ^ k).toNat,rest):=by
  unfold pInt
  rw [rThen_of (pFix_fixed n k rest)]
  rfl
theorem pInt_small {n:Nat} (k:Nat) (h:n < 256 ^ k / 2) (rest:Bytes):pInt k (fixed n k ++ rest)=some ((n:Int),rest):=by
  rw [pInt_fixed]
  have h2:(n:Int) % 256 ^ k=n:=by
    refine Int.emod_eq_of_lt (by omega) ?_
    have:((256 ^ k:Nat):Int)=(256:Int) ^ k:=by simp
    rw [← this]
    omega
  rw [h2]
  simp only [Int.toNat_natCast,sgn,if_pos h]
theorem uvarint_le {n:Nat} (h:n≤127):uvarint n=[UInt8.ofNat n]:=by unfold uvarint;simp [h]
theorem uvarint_gt {n:Nat} (h:¬ n≤127):uvarint n=UInt8.ofNat (n % 128+128) :: uvarint (n / 128):=by rw [uvarint];simp [h]
theorem pUvGo_uvarint:∀ (k m n:Nat) (rest:Bytes),n < 16 * 128 ^ k→pUvGo k m (uvarint n ++ rest)=some (n * m,rest)
  | 0,m,n,rest,h=>by
    have hn:n < 16:=by simpa using h
    rw [uvarint_le (by omega)]
    simp only [List.cons_append,List.nil_append,pUvGo]
    rw [if_pos (by simp;omega)]
    have:(UInt8.ofNat n).toNat=n:=by simp;omega
    rw [this]
  | k+1,m,n,rest,h=>by
    by_cases hn:n≤127
    · rw [uvarint_le hn]
      have:(UInt8.ofNat n).toNat=n:=by simp;omega
      simp only [List.cons_append,List.nil_append,pUvGo,this]
      rw [if_pos (by omega)]
    · rw [uvarint_gt hn]
      have e:(UInt8.ofNat (n % 128+128)).toNat=n % 128+128:=by simp;omega
      simp only [List.cons_append,pUvGo,e]
      rw [if_neg (by omega)]
      have hlt:n / 128 < 16 * 128 ^ k:=by
        rw [Nat.div_lt_iff_lt_mul (by decide)]
        have:16 * 128 ^ (k+1)=16 * 128 ^ k * 128:=by rw [Nat.pow_succ,Nat.mul_assoc]
        omega
      rw [pUvGo_uvarint k (m * 128) (n / 128) rest hlt]
      simp only [Option.map_some,Option.some.injEq,Prod.mk.injEq,and_true]
      have e1:(n % 128+128) % 128=n % 128:=by omega
      have e2:n / 128 * (m * 128)=n / 128 * 128 * m:=by
        rw [Nat.mul_comm m 128,Nat.mul_assoc]
      rw [e1,e2,← Nat.add_mul]
      congr 1
      omega
theorem pUv_uvarint {n:Nat} (h:n < 4294967296) (rest:Bytes):pUv (uvarint n ++ rest)=some (n,rest):=by
  unfold pUv
  rw [pUvGo_uvarint 4 1 n rest (by omega),Nat.mul_one]
theorem uvarint_pos (n:Nat):1≤(uvarint n).length:=by
  by_cases h:n≤127
  · simp [uvarint_le h]
  · simp [uvarint_gt h]
theorem pSpan_append (s rest:Bytes):pSpan (s.length:Int) (s ++ rest)=some (s,rest):=by
  unfold pSpan
  rw [if_neg (by simp;omega)]
  simp
theorem pCount_of {flex:Bool} {n size:Nat} (hn:n≤most) (hs:size=2∨size=4) (rest:Bytes):pCount flex size (counted flex false n size ++ rest)=some ((n:Int),rest):=by
  have hn':n≤32767:=hn
  cases flex
  · simp only [pCount,counted,Bool.false_eq_true,if_false]
    exact pInt_small size (by rcases hs with rfl | rfl <;> simp <;> omega) rest
  · simp only [pCount,counted,Bool.false_eq_true,if_false,if_true]
    rw [rThen_of (pUv_uvarint (by omega) rest)]
    simp only [rOk,Option.some.injEq,Prod.mk.injEq,and_true]
    omega
theorem pCount_null {flex:Bool} {n size:Nat} (hs:size=2∨size=4) (rest:Bytes):pCount flex size (counted flex true n size ++ rest)=some (-1,rest):=by
  cases flex
  · simp only [pCount,counted,Bool.false_eq_true,if_false,if_true]
    rw [pInt_fixed]
    rcases hs with rfl | rfl <;> rfl
  · simp only [pCount,counted,if_true]
    have:pUv ([0] ++ rest)=some (0,rest):=by simp [pUv,pUvGo]
    rw [rThen_of this]
    rfl
theorem pLen_of {flex:Bool} {n:Nat} (hn:n≤most) (rest:Bytes) (hr:n≤rest.length):pLen flex (counted flex false n 4 ++ rest)=some ((n:Int),rest):=by
  have hn':n≤32767:=hn
  unfold pLen
  have:(if flex then rThen pUv fun n=>rOk (if n=2147483648 then (2147483647:Int) else (if n < 2147483648 then (n:Int) else (n:Int) - 4294967296) - 1) else pInt 4) (counted flex false n 4 ++ rest)=some ((n:Int),rest):=by
    cases flex
    · simp only [counted,Bool.false_eq_true,if_false]
      exact pInt_small 4 (by omega) rest
    · simp only [counted,Bool.false_eq_true,if_false,if_true]
      rw [rThen_of (pUv_uvarint (by omega) rest),if_neg (by omega),if_pos (by omega)]
      simp only [rOk,Option.some.injEq,Prod.mk.injEq,and_true]
      omega
  rw [rThen_of this,if_neg (by omega)]
theorem pLen_null {flex:Bool} {n:Nat} (rest:Bytes):pLen flex (counted flex true n 4 ++ rest)=some (-1,rest):=by
  unfold pLen
  have:(if flex then rThen pUv fun n=>rOk (if n=2147483648 then (2147483647:Int) else (if n < 2147483648 then (n:Int) else (n:Int) - 4294967296) - 1) else pInt 4) (counted flex true n 4 ++ rest)=some (-1,rest):=by
    cases flex
    · simp only [counted,Bool.false_eq_true,if_false,if_true]
      rw [pInt_fixed]
      rfl
    · simp only [counted,if_true]
      have:pUv ([0] ++ rest)=some (0,rest):=by simp [pUv,pUvGo]
      rw [rThen_of this]
      rfl
  rw [rThen_of this,if_neg (by omega)]
theorem counted_pos (flex null:Bool) (n size:Nat) (hs:1≤size):1≤(counted flex null n size).length:=by
  unfold counted
  cases flex <;> cases null <;> simp [fixed_length,hs]
  exact uvarint_pos _
theorem whole_length (b:Bytes):(whole b).length≤most:=by simp [whole];omega
theorem whole_whole (b:Bytes):whole (whole b)=whole b:=by unfold whole;rw [List.take_take,Nat.min_self]
theorem whole_of {b:Bytes} (h:b.length≤most):whole b=b:=by simp [whole,List.take_of_length_le h]
def Sorted (l:List (Nat × Bytes)):Prop:=l.Pairwise fun a b=>a.1 < b.1
theorem insTag_mem {t x:Nat × Bytes}:∀ {l:List (Nat × Bytes)},x ∈ insTag t l→x=t∨x ∈ l
  | [],h=>by simp [insTag] at h;exact .inl h
  | y :: l,h=>by
    simp only [insTag] at h
    split at h
    · rcases List.mem_cons.1 h with rfl | h
      · exact .inr (by simp)
      · exact (insTag_mem h).imp id fun h=>List.mem_cons_of_mem _ h
    · split at h
      · exact .inr h
      · rcases List.mem_cons.1 h with rfl | h
        · exact .inl rfl
        · exact .inr h
theorem insTag_sorted {t:Nat × Bytes}:∀ {l:List (Nat × Bytes)},Sorted l→Sorted (insTag t l)
  | [],_=>by simp [insTag,Sorted]
  | y :: l,h=>by
    have h':=List.pairwise_cons.1 h
    simp only [insTag]
    split
    · rename_i hy
      refine List.pairwise_cons.2 ⟨fun a ha=>?_,insTag_sorted h'.2⟩
      rcases insTag_mem ha with rfl | ha
      · exact hy
      · exact h'.1 _ ha
    · split
      · exact h
      · refine List.pairwise_cons.2 ⟨fun a ha=>?_,h⟩
        rcases List.mem_cons.1 ha with rfl | ha
        · omega
        · have:=h'.1 _ ha
          omega
theorem insTag_length (t:Nat × Bytes):∀ l:List (Nat × Bytes),(insTag t l).length≤l.length+1
  | []=>by simp [insTag]
  | y :: l=>by
    have:=insTag_length t l
    simp only [insTag]
    split
    · simp;omega
    · split <;> simp
theorem insTag_end {t:Nat × Bytes}:∀ {l:List (Nat × Bytes)},(∀ x ∈ l,x.1 < t.1)→insTag t l=l ++ [t]
  | [],_=>rfl
  | y :: l,h=>by
    simp only [insTag,List.cons_append]
    rw [if_pos (h y (by simp)),insTag_end fun x hx=>h x (List.mem_cons_of_mem _ hx)]
theorem setTag_end {t:Nat × Bytes}:∀ {l:List (Nat × Bytes)},(∀ x ∈ l,x.1 < t.1)→setTag t l=l ++ [t]
  | [],_=>rfl
  | y :: l,h=>by
    simp only [setTag,List.cons_append]
    rw [if_pos (h y (by simp)),setTag_end fun x hx=>h x (List.mem_cons_of_mem _ hx)]
theorem foldl_ins {u:List (Nat × Bytes)}:∀ (l:List (Nat × Bytes)),Sorted l→(∀ x ∈ l,x ∈ u)→∀ v:List (Nat × Bytes),(∀ x ∈ v,x ∈ u) →
    Sorted (v.foldl (fun acc t=>insTag t acc) l)∧(∀ x ∈ v.foldl (fun acc t=>insTag t acc) l,x ∈ u)∧(v.foldl (fun acc t=>insTag t acc) l).length≤l.length+v.length:=by
  intro l hl hm v
  induction v generalizing l with
  | nil=>intro _;exact ⟨hl,hm,by simp⟩
  | cons t v ih =>
    intro hv
    have:=ih (insTag t l) (insTag_sorted hl) (fun x hx=>by
      rcases insTag_mem hx with rfl | hx
      · exact hv _ (by simp)
      · exact hm _ hx) (fun x hx=>hv x (List.mem_cons_of_mem _ hx))
    refine ⟨this.1,this.2.1,?_⟩
    have h1:=insTag_length t l
    have h2:=this.2.2
    simp only [List.foldl_cons,List.length_cons]
    omega
theorem unknown_facts (u:List (Nat × Bytes)):Sorted (unknown u)∧(∀ x ∈ unknown u,x ∈ u)∧(unknown u).length≤most:=by
  have h:=foldl_ins (u:=u) [] (by simp [Sorted]) (by simp) (u.take most) (fun x hx=>List.mem_of_mem_take hx)
  refine ⟨h.1,h.2.1,?_⟩
  have:=h.2.2
  have h2:(u.take most).length≤most:=by simp;omega
  unfold unknown
  simp only [List.length_nil] at this
  omega
theorem foldl_sorted:∀ (v acc:List (Nat × Bytes)),Sorted (acc ++ v)→v.foldl (fun acc t=>insTag t acc) acc=acc ++ v
  | [],acc,_=>by simp
  | t :: v,acc,h=>by
    have h':=List.pairwise_append.1 h
    simp only [List.foldl_cons]
    rw [insTag_end fun x hx=>h'.2.2 x hx t (by simp),foldl_sorted v (acc ++ [t]) (by simpa [Sorted] using h)]
    simp
theorem unknown_id {u:List (Nat × Bytes)} (h:Sorted u) (hl:u.length≤most):unknown u=u:=by
  unfold unknown
  rw [List.take_of_length_le hl]
  exact foldl_sorted u [] h
def FitTags (u:List (Nat × Bytes)):Prop:=unknown u=u∧u.length≤most∧∀ x ∈ u,x.1 < 4294967296∧x.2.length≤most
theorem pTagN_of:∀ (l acc:List (Nat × Bytes)) (rest:Bytes),(∀ x ∈ l,x.1 < 4294967296)→Sorted (acc ++ l) →
    pTagN l.length acc (l.flatMap wTag ++ rest)=some (acc ++ l.map fun x=>(x.1,whole x.2),rest)
  | [],acc,rest,_,_=>by simp [pTagN,rOk]
  | t :: l,acc,rest,hk,hs=>by
    have h':=List.pairwise_append.1 hs
    have hw:=whole_length t.2
    have hw':(whole t.2).length≤32767:=hw
    simp only [List.flatMap_cons,List.length_cons,pTagN,wTag,List.append_assoc]
    rw [rThen_of (pUv_uvarint (hk t (by simp)) _),rThen_of (pUv_uvarint (by omega) _),rThen_of (pSpan_append _ _),setTag_end (t:=(t.1,whole t.2)) fun x hx=>h'.2.2 x hx t (by simp)]
    rw [pTagN_of l (acc ++ [(t.1,whole t.2)]) rest (fun x hx=>hk x (List.mem_cons_of_mem _ hx)) ?_]
    · simp
    · have h2:=(List.pairwise_cons.1 h'.2.1)
      rw [List.append_assoc]
      refine List.pairwise_append.2 ⟨h'.1,List.pairwise_cons.2 ⟨fun a ha=>h2.1 a ha,h2.2⟩,fun a ha b hb=>?_⟩
      rcases List.mem_cons.1 hb with rfl | hb
      · exact h'.2.2 a ha t (by simp)
      · exact h'.2.2 a ha b (List.mem_cons_of_mem _ hb)
theorem pTags_of (flex:Bool) (u:List (Nat × Bytes)) (rest:Bytes) (hk:∀ x ∈ u,x.1 < 4294967296) :
    ∃ u',pTags flex (wTags flex u ++ rest)=some (u',rest)∧FitTags u'∧wTags flex u'=wTags flex u:=by
  cases flex
  · exact ⟨[],rfl,⟨rfl,by simp,by simp⟩,rfl⟩
  · obtain ⟨h1,h2,h3⟩:=unknown_facts u
    have hl:((unknown u).map fun x=>(x.1,whole x.2)).length=(unknown u).length:=by simp
    have hs:Sorted ((unknown u).map fun x=>(x.1,whole x.2)):=by
      unfold Sorted
      rw [List.pairwise_map]
      exact h1
    have hid:=unknown_id hs (by omega)
    have h3':(unknown u).length≤32767:=h3
    refine ⟨(unknown u).map fun x=>(x.1,whole x.2),?_,⟨hid,by omega,?_⟩,?_⟩
    · simp only [pTags,wTags,if_true,List.append_assoc]
      rw [rThen_of (pUv_uvarint (by omega) _),pTagN_of _ [] rest (fun x hx=>hk x (h2 x hx)) (by simpa using h1)]
      simp
    · intro x hx
      obtain ⟨y,hy,rfl⟩:=List.mem_map.1 hx
      exact ⟨hk y (h2 y hy),whole_length _⟩
    · simp only [wTags,if_true,hid,hl]
      congr 1
      rw [List.flatMap_map]
      congr 1
      funext x
      simp only [wTag,whole_whole]
theorem pPrim_of (flex nul:Bool) (t:Tree) (k:PK) (rest:Bytes):∃ t',pPrim flex nul k (wPrim flex false t k ++ rest)=some (t',rest)∧t'.s.length≤most∧t'.null=false∧wPrim flex false t' k=wPrim flex false t k:=by
  have hm:(16:Nat)≤most:=by decide
  have hint:∀ w:Nat,∃ t',(rThen (pInt w) fun n=>rOk (tN n)) (fixed t.n w ++ rest)=some (t',rest)∧t'.s.length≤most∧t'.null=false∧fixed t'.n w=fixed t.n w:=by
    intro w
    refine ⟨tN (sgn w (t.n % 256 ^ w).toNat),?_,by simp [tN,Tree.s],rfl,fixed_sgn t.n w⟩
    rw [rThen_of (pInt_fixed t.n w rest)]
    rfl
  cases k
  case bool =>
    have hb:t.n % 2=0∨t.n % 2=1:=by omega
    rcases hb with hb | hb
    · refine ⟨tN 0,?_,by simp [tN,Tree.s],rfl,?_⟩
      · simp only [pPrim,wPrim,hb]
        rfl
      · show [byteOf (0 % 2)]=[byteOf (t.n % 2)]
        rw [hb]
        rfl
    · refine ⟨tN 1,?_,by simp [tN,Tree.s],rfl,?_⟩
      · simp only [pPrim,wPrim,hb]
        rfl
      · show [byteOf (1 % 2)]=[byteOf (t.n % 2)]
        rw [hb]
        rfl
  case u16 =>
    refine ⟨tN (t.n % 256 ^ 2).toNat,?_,by simp [tN,Tree.s],rfl,?_⟩
    · simp only [pPrim,wPrim,PK.width]
      rw [rThen_of (pFix_fixed t.n 2 rest)]
      rfl
    · simp only [wPrim,PK.width,tN,Tree.n]
      refine fixed_mod ?_
      rw [Int.toNat_of_nonneg (Int.emod_nonneg _ (by decide)),Int.emod_emod]
  case uuid =>
    have hl:((t.s ++ List.replicate 16 0).take 16).length=16:=by simp
    refine ⟨tS ((t.s ++ List.replicate 16 0).take 16),?_,by show List.length (List.take 16 (t.s ++ List.replicate 16 0))≤most;omega,rfl,?_⟩
    · simp only [pPrim,wPrim]
      have:=pSpan_append ((t.s ++ List.replicate 16 0).take 16) rest
      rw [hl] at this
      rw [rThen_of (p:=pSpan 16) this]
      rfl
    · show List.take 16 (List.take 16 (t.s ++ List.replicate 16 0) ++ List.replicate 16 0)=List.take 16 (t.s ++ List.replicate 16 0)
      rw [List.take_append_of_le_length (by omega),List.take_take,Nat.min_self]
  case str =>
    refine ⟨tS (whole t.s),?_,whole_length _,rfl,?_⟩
    · simp only [pPrim,wPrim,Bool.false_eq_true,if_false,List.append_assoc]
      rw [rThen_of (pCount_of (whole_length t.s) (.inl rfl) _),if_neg (by simp),rThen_of (pSpan_append _ _)]
      rfl
    · simp [wPrim,tS,Tree.s,whole_whole]
  case bytes =>
    refine ⟨tS (whole t.s),?_,whole_length _,rfl,?_⟩
    · simp only [pPrim,wPrim,Bool.false_eq_true,if_false,List.append_assoc]
      rw [rThen_of (pCount_of (whole_length t.s) (.inr rfl) _),if_neg (by simp),if_neg (by simp),rThen_of (pSpan_append _ _)]
      rfl
    · simp [wPrim,tS,Tree.s,whole_whole]
  all_goals exact hint _
theorem wPrim_pos (flex null:Bool) (t:Tree) (k:PK):1≤(wPrim flex null t k).length:=by
  cases k <;> simp [wPrim,fixed_length,PK.width]
  case str=>have:=counted_pos flex null (if null then ([]:Bytes) else whole t.s).length 2 (by decide);cases null <;> simp at this ⊢ <;> omega
  case bytes=>have:=counted_pos flex null (if null then ([]:Bytes) else whole t.s).length 4 (by decide);cases null <;> simp at this ⊢ <;> omega
mutual
def neTy (ver:Int) (flex:Bool):Ty→Bool
  | .prim _=>true
  | .list _ _ _ _=>true
  | .struct _ _ _ _ fs=>flex || neFs ver flex fs
def neFs (ver:Int) (flex:Bool):Fs→Bool
  | .nil=>false
  | .cons h ty r=>(h.has ver && (decide (0≤h.null) || neTy ver flex ty)) || neFs ver flex r
end
def canNull:Ty→Bool
  | .prim k=>k == .str || k == .bytes
  | _=>true
mutual
def okTy (ver:Int) (flex:Bool):Ty→Bool
  | .prim _=>true
  | .list _ _ _ of=>neTy ver flex of && okTy ver flex of
  | .struct _ _ _ _ fs=>okFsR ver flex fs
def okFsR (ver:Int) (flex:Bool):Fs→Bool
  | .nil=>true
  | .cons h ty r=>(!h.has ver || (okTy ver flex ty && (decide (h.null < 0) || canNull ty))) && okFsR ver flex r
end
mutual
theorem ne_ty (ver:Int) (flex:Bool):∀ (ty:Ty) (t:Tree),neTy ver flex ty=true→1≤(wTy ver flex ty false t).length
  | .prim k,t,_=>by simp only [wTy];exact wPrim_pos _ _ _ _
  | .list _ _ _ of,t,_=>by
    simp only [wTy,Bool.false_eq_true,if_false,List.length_append]
    have:=counted_pos flex false (t.l.take most).length 4 (by decide)
    omega
  | .struct _ _ _ _ fs,t,h=>by
    simp only [wTy,List.length_append]
    simp only [neTy,Bool.or_eq_true] at h
    rcases h with rfl | h
    · simp only [wTags,if_true,List.length_append]
      have:=uvarint_pos (unknown t.u).length
      omega
    · have:=ne_fs ver flex fs t.l h
      omega
theorem ne_fs (ver:Int) (flex:Bool):∀ (fs:Fs) (ts:List Tree),neFs ver flex fs=true→1≤(wFs ver flex fs ts).length
  | .nil,_,h=>by simp [neFs] at h
  | .cons hd ty r,ts,h=>by
    rw [wFs_cons]
    simp only [neFs,Bool.or_eq_true,Bool.and_eq_true] at h
    simp only [List.length_append]
    rcases h with ⟨h1,h2⟩ | h
    · rw [if_pos h1]
      have ih:=ne_ty ver flex ty (ts.headD Tree.zero)
      have:1≤(wField ver flex hd ty (ts.headD Tree.zero)).length:=by
        cases ty with
        | prim k=>simp only [wField,wTy];exact wPrim_pos _ _ _ _
        | list a b c of =>
          simp only [wField,wTy,List.length_append]
          have:=counted_pos flex (hd.isNull ver (ts.headD Tree.zero)) (if hd.isNull ver (ts.headD Tree.zero) then ([]:List Tree) else (ts.headD Tree.zero).l.take most).length 4 (by decide)
          omega
        | struct a b c d fs' =>
          simp only [wField]
          by_cases hn:0≤hd.null
          · rw [if_pos hn]
            split <;> simp
          · rw [if_neg hn]
            exact ih (by simpa [hn] using h2)
      omega
    · have:=ne_fs ver flex r ts.tail h
      omega
end
mutual
def KTy (ver:Int):Ty→Tree→Prop
  | .prim _,_=>True
  | .list _ _ _ of,t=>∀ x ∈ t.l,KTy ver of x
  | .struct _ _ _ _ fs,t=>KFs ver fs t.l∧∀ x ∈ t.u,x.1 < 4294967296
def KFs (ver:Int):Fs→List Tree→Prop
  | .nil,_=>True
  | .cons h ty r,ts=>(h.has ver=true→KTy ver ty (ts.headD Tree.zero))∧KFs ver r ts.tail
end
mutual
def FitTy (ver:Int):Ty→Tree→Prop
  | .prim _,t=>t.s.length≤most
  | .list _ _ _ of,t=>t.l.length≤most∧∀ x ∈ t.l,FitTy ver of x
  | .struct _ _ _ _ fs,t=>t=tNull∨(FitFs ver fs t.l∧FitTags t.u)
def FitFs (ver:Int):Fs→List Tree→Prop
  | .nil,_=>True
  | .cons h ty r,ts=>(h.has ver=true→FitTy ver ty (ts.headD Tree.zero))∧FitFs ver r ts.tail
end
theorem pMany_of {p:Rd Tree} {w:Tree→Bytes} {R:Tree→Prop} (hp:∀ t rest,R t→∃ t',p (w t ++ rest)=some (t',rest)∧w t'=w t) {Fit:Tree→Prop} (hp':∀ t rest t' ,R t→p (w t ++ rest)=some (t',rest)→Fit t') :
    ∀ (l:List Tree) (rest:Bytes),(∀ x ∈ l,R x)→∃ l',pMany p l.length (l.flatMap w ++ rest)=some (l',rest)∧l'.length=l.length∧(∀ x ∈ l',Fit x)∧l'.flatMap w=l.flatMap w
  | [],rest,_=>⟨[],by simp [pMany,rOk]⟩
  | t :: l,rest,hR=>by
    obtain ⟨t',h1,h2⟩:=hp t (l.flatMap w ++ rest) (hR t (by simp))
    obtain ⟨l',q1,q2,q3,q4⟩:=pMany_of hp hp' l rest fun x hx=>hR x (List.mem_cons_of_mem _ hx)
    refine ⟨t' :: l',?_,by simp [q2],?_,by simp [h2,q4]⟩
    · simp only [List.flatMap_cons,List.length_cons,pMany,List.append_assoc]
      rw [rThen_of h1,rThen_of q1]
      rfl
    · intro x hx
      rcases List.mem_cons.1 hx with rfl | hx
      · exact hp' t _ _ (hR t (by simp)) h1
      · exact q3 x hx
theorem flatMap_len {w:Tree→Bytes} (h:∀ t,1≤(w t).length):∀ l:List Tree,l.length≤(l.flatMap w).length
  | []=>by simp
  | t :: l=>by
    have:=flatMap_len h l
    have:=h t
    simp only [List.flatMap_cons,List.length_cons,List.length_append]
    omega
def wN (ver:Int) (flex:Bool) (ty:Ty) (nul:Bool) (t:Tree):Bytes :=
  match ty with
  | .struct _ _ _ _ _=>if nul then 1 :: wTy ver flex ty false t else wTy ver flex ty false t
  | _=>wTy ver flex ty false t
theorem isNull_false {h:Hd} {ver:Int} {t:Tree} (ht:t.null=false):h.isNull ver t=false:=by simp [Hd.isNull,ht]
mutual
theorem rt_ty (ver:Int) (flex:Bool):∀ (ty:Ty) (nul:Bool) (t:Tree) (rest:Bytes),okTy ver flex ty=true→KTy ver ty t →
    ∃ t',pTy ver flex ty nul (wN ver flex ty nul t ++ rest)=some (t',rest)∧FitTy ver ty t'∧t'.null=false∧wTy ver flex ty false t'=wTy ver flex ty false t
  | .prim k,nul,t,rest,_,_=>by
    obtain ⟨t',h1,h2,h3,h4⟩:=pPrim_of flex nul t k rest
    exact ⟨t',by simpa [pTy,wTy,wN] using h1,by simpa [FitTy] using h2,h3,by simpa [wTy] using h4⟩
  | .list a b c of,nul,t,rest,hok,hk=>by
    simp only [okTy,Bool.and_eq_true] at hok
    simp only [KTy] at hk
    have hne:=fun t=>ne_ty ver flex of t hok.1
    have hml:(t.l.take most).length≤most:=by simp;omega
    have e:∀ x r,wN ver flex of false x ++ r=wTy ver flex of false x ++ r:=by intro x r;cases of <;> simp [wN]
    obtain ⟨l',h1,h2,h3,h4⟩:=pMany_of (p:=pTy ver flex of false) (w:=fun x=>wTy ver flex of false x) (R:=fun x=>KTy ver of x)
      (fun x r hx=>by
        obtain ⟨t',q1,q2,q3,q4⟩:=rt_ty ver flex of false x r hok.2 hx
        exact ⟨t',by rw [← e];exact q1,q4⟩) (Fit:=FitTy ver of)
      (fun x r t' hx hp=>by
        obtain ⟨t2,q1,q2,q3,q4⟩:=rt_ty ver flex of false x r hok.2 hx
        rw [e,hp] at q1
        simp only [Option.some.injEq,Prod.mk.injEq,and_true] at q1
        rw [q1]
        exact q2)
      (t.l.take most) rest (fun x hx=>hk x (List.mem_of_mem_take hx))
    refine ⟨tL l',?_,⟨by simp only [tL,Tree.l];omega,by simpa [tL,Tree.l] using h3⟩,rfl,?_⟩
    · simp only [pTy,wN,wTy,Bool.false_eq_true,if_false,List.append_assoc]
      have hfl:=flatMap_len (w:=fun x=>wTy ver flex of false x) hne (t.l.take most)
      rw [rThen_of (pLen_of hml _ (by rw [List.length_append];omega)),if_neg (by simp)]
      simp only [Int.toNat_natCast]
      rw [rThen_of h1]
      rfl
    · simp only [wTy,Bool.false_eq_true,if_false]
      rw [show (tL l').l=l' from rfl,List.take_of_length_le (by omega),h2,h4]
  | .struct a b c d fs,nul,t,rest,hok,hk=>by
    simp only [okTy] at hok
    simp only [KTy] at hk
    obtain ⟨u',q1,q2,q3⟩:=pTags_of flex t.u rest hk.2
    obtain ⟨ts',h1,h2,h3⟩:=rt_fs ver flex fs t.l (wTags flex t.u ++ rest) hok hk.1
    refine ⟨.mk 0 [] false ts' u',?_,by simp only [FitTy];exact .inr ⟨h2,q2⟩,rfl,?_⟩
    · simp only [pTy,wN,wTy]
      have e:(if nul then pInt 1 else rOk 0) ((if nul then 1 :: (wFs ver flex fs t.l ++ wTags flex t.u) else wFs ver flex fs t.l ++ wTags flex t.u) ++ rest)=some ((if nul then 1 else 0:Int),wFs ver flex fs t.l ++ (wTags flex t.u ++ rest)):=by
        cases nul
        · simp [rOk]
        · simp only [if_true,List.cons_append,List.append_assoc]
          exact pInt_small (n:=1) 1 (by decide) (wFs ver flex fs t.l ++ (wTags flex t.u ++ rest))
      rw [rThen_of e,if_neg (by cases nul <;> simp),rThen_of h1,rThen_of q1]
      rfl
    · simp only [wTy,Tree.l,Tree.u,h3,q3]
theorem rt_fs (ver:Int) (flex:Bool):∀ (fs:Fs) (ts:List Tree) (rest:Bytes),okFsR ver flex fs=true→KFs ver fs ts →
    ∃ ts',pFs ver flex fs (wFs ver flex fs ts ++ rest)=some (ts',rest)∧FitFs ver fs ts'∧wFs ver flex fs ts'=wFs ver flex fs ts
  | .nil,ts,rest,_,_=>⟨[],by simp [pFs,wFs,rOk],by simp [FitFs],rfl⟩
  | .cons h ty r,ts,rest,hok,hk=>by
    simp only [okFsR,Bool.and_eq_true,Bool.or_eq_true,Bool.not_eq_true'] at hok
    simp only [KFs] at hk
    obtain ⟨xs,h1,h2,h3⟩:=rt_fs ver flex r ts.tail rest hok.2 hk.2
    by_cases hh:h.has ver=true
    · obtain ⟨ho1,ho2⟩:okTy ver flex ty=true∧(decide (h.null < 0)=true∨canNull ty=true):=by
        rcases hok.1 with h0 | h0
        · rw [hh] at h0;simp at h0
        · exact h0
      have key:∃ t',pTy ver flex ty (nulAt ver h ty) (wField ver flex h ty (ts.headD Tree.zero) ++ (wFs ver flex r ts.tail ++ rest))=some (t',wFs ver flex r ts.tail ++ rest)∧FitTy ver ty t'∧wField ver flex h ty t'=wField ver flex h ty (ts.headD Tree.zero):=by
        have hk1:=hk.1 hh
        generalize ts.headD Tree.zero=t at hk1
        generalize wFs ver flex r ts.tail ++ rest=rest'
        cases hn:h.isNull ver t with
        | true =>
          have hn':(0≤h.null)∧h.null≤ver:=by
            simp only [Hd.isNull,Bool.and_eq_true,decide_eq_true_eq] at hn
            exact hn.2
          have hn2:h.isNull ver tNull=true:=by simp [Hd.isNull,tNull,Tree.null,hn']
          have hcan:canNull ty=true:=by
            rcases ho2 with h0 | h0
            · simp at h0;omega
            · exact h0
          refine ⟨tNull,?_,?_,?_⟩
          · cases ty with
            | prim k =>
              simp only [wField,hn,pTy,nulAt,wTy]
              cases k <;> simp [canNull] at hcan
              · simp only [pPrim,wPrim,if_true,List.length_nil,List.append_nil,hn',decide_true,Bool.and_self]
                rw [rThen_of (pCount_null (.inl rfl) _),if_pos (by simp)]
                rfl
              · simp only [pPrim,wPrim,if_true,List.length_nil,List.append_nil,hn',decide_true,Bool.and_self]
                rw [rThen_of (pCount_null (.inr rfl) _),if_pos (by simp)]
                rfl
            | list a b c of =>
              simp only [wField,hn,pTy,nulAt,wTy,if_true,List.length_nil,List.flatMap_nil,List.append_nil,hn',decide_true,Bool.and_self]
              rw [rThen_of (pLen_null _),if_pos (by simp)]
              rfl
            | struct a b c d fs =>
              simp only [wField,hn,pTy,nulAt,if_pos hn'.1,if_true,decide_eq_true hn'.1]
              have:pInt 1 ([255] ++ rest')=some (-1,rest'):=by
                simp [pInt,pFix,rThen,rOk,unfix,sgn]
              rw [rThen_of this,if_pos (by simp)]
              rfl
          · cases ty with
            | prim k=>simp [FitTy,tNull,Tree.s]
            | list a b c of=>simp [FitTy,tNull,Tree.l]
            | struct a b c d fs=>simp only [FitTy];exact .inl trivial
          · cases ty with
            | prim k =>
              simp only [wField,hn,hn2,wTy]
              cases k <;> simp [canNull] at hcan <;> simp [wPrim]
            | list a b c of=>simp [wField,hn,hn2,wTy]
            | struct a b c d fs=>simp only [wField,hn,hn2,if_pos hn'.1,if_true]
        | false =>
          obtain ⟨t',q1,q2,q3,q4⟩:=rt_ty ver flex ty (nulAt ver h ty) t rest' ho1 hk1
          refine ⟨t',?_,q2,?_⟩
          · have e:wField ver flex h ty t=wN ver flex ty (nulAt ver h ty) t:=by
              cases ty <;> simp only [wField,wN,hn,nulAt,decide_eq_true_eq,Bool.false_eq_true,if_false]
            rw [e]
            exact q1
          · have hn2:h.isNull ver t'=false:=isNull_false q3
            cases ty <;> simp only [wField,hn,hn2,Bool.false_eq_true,if_false,q4]
      obtain ⟨t',k1,k2,k3⟩:=key
      refine ⟨t' :: xs,?_,?_,?_⟩
      · simp only [pFs]
        rw [wFs_cons,if_pos hh,if_pos hh,List.append_assoc,rThen_of k1,rThen_of h1]
        rfl
      · simp only [FitFs,List.headD_cons,List.tail_cons]
        exact ⟨fun _=>k2,h2⟩
      · rw [wFs_cons,wFs_cons,if_pos hh,if_pos hh]
        simp only [List.headD_cons,List.tail_cons,k3,h3]
    · refine ⟨Tree.zero :: xs,?_,?_,?_⟩
      · simp only [pFs]
        rw [wFs_cons,if_neg hh,if_neg hh,List.nil_append,rThen_of (show rOk Tree.zero _=some (Tree.zero,_) from rfl),rThen_of h1]
        rfl
      · simp only [FitFs,List.tail_cons]
        exact ⟨fun h=>absurd h hh,h2⟩
      · rw [wFs_cons,wFs_cons,if_neg hh,if_neg hh]
        simp only [List.tail_cons,h3]
end
end Go.Proofs.YtecdefhecaeclaaDoor.T
namespace Go.Proofs.YtecdefhecaeclaaDoor.T
set_option linter.unusedVariables false
set_option linter.unusedSimpArgs false
theorem setTag_mem {t x:Nat × Bytes}:∀ {l:List (Nat × Bytes)},x ∈ setTag t l→x=t∨x ∈ l
  | [],h=>by simp [setTag] at h;exact .inl h
  | y :: l,h=>by
    simp only [setTag] at h
    split at h
    · rcases List.mem_cons.1 h with rfl | h
      · exact .inr (by simp)
      · exact (setTag_mem h).imp id fun h=>List.mem_cons_of_mem _ h
    · split at h
      · exact (List.mem_cons.1 h).imp id fun h=>List.mem_cons_of_mem _ h
      · exact (List.mem_cons.1 h).imp id fun h=>h
theorem setTag_sorted {t:Nat × Bytes}:∀ {l:List (Nat × Bytes)},Sorted l→Sorted (setTag t l)
  | [],_=>by simp [setTag,Sorted]
  | y :: l,h=>by
    have h':=List.pairwise_cons.1 h
    simp only [setTag]
    split
    · rename_i hy
      refine List.pairwise_cons.2 ⟨fun a ha=>?_,setTag_sorted h'.2⟩
      rcases setTag_mem ha with rfl | ha
      · exact hy
      · exact h'.1 _ ha
    · split
      · rename_i he
        exact List.pairwise_cons.2 ⟨fun a ha=>by have:=h'.1 a ha;omega,h'.2⟩
      · refine List.pairwise_cons.2 ⟨fun a ha=>?_,h⟩
        rcases List.mem_cons.1 ha with rfl | ha
        · omega
        · have:=h'.1 _ ha
          omega
theorem setTag_length (t:Nat × Bytes):∀ l:List (Nat × Bytes),(setTag t l).length≤l.length+1
  | []=>by simp [setTag]
  | y :: l=>by
    have:=setTag_length t l
    simp only [setTag]
    split
    · simp;omega
    · split <;> simp
theorem pUvGo_facts:∀ (k m:Nat) (b r:Bytes) (n:Nat),0 < m→pUvGo k m b=some (n,r)→n < 16 * 128 ^ k * m∧r.length+1≤b.length
  | k,m,[],r,n,_,h=>by simp [pUvGo] at h
  | 0,m,u :: b,r,n,hm,h=>by
    simp only [pUvGo] at h
    split at h
    · simp only [Option.some.injEq,Prod.mk.injEq] at h
      obtain ⟨rfl,rfl⟩:=h
      refine ⟨?_,by simp⟩
      have:u.toNat * m≤15 * m:=Nat.mul_le_mul_right _ (by assumption)
      simp only [Nat.pow_zero,Nat.mul_one]
      omega
    · simp at h
  | k+1,m,u :: b,r,n,hm,h=>by
    have h128:1≤128 ^ k:=Nat.pow_pos (by decide)
    have e:16 * 128 ^ (k+1) * m=128 * (16 * 128 ^ k * m):=by
      rw [Nat.pow_succ]
      simp only [Nat.mul_comm,Nat.mul_left_comm]
    have hge:16 * m≤16 * 128 ^ k * m:=Nat.mul_le_mul_right _ (by omega)
    simp only [pUvGo] at h
    split at h
    · simp only [Option.some.injEq,Prod.mk.injEq] at h
      obtain ⟨rfl,rfl⟩:=h
      refine ⟨?_,by simp⟩
      have:u.toNat * m≤127 * m:=Nat.mul_le_mul_right _ (by omega)
      omega
    · cases hp:pUvGo k (m * 128) b with
      | none=>rw [hp] at h;simp at h
      | some z =>
        rw [hp] at h
        simp only [Option.map_some,Option.some.injEq,Prod.mk.injEq] at h
        obtain ⟨h1,h2⟩:=pUvGo_facts k (m * 128) b z.2 z.1 (by omega) hp
        obtain ⟨rfl,rfl⟩:=h
        refine ⟨?_,by simp;omega⟩
        have hd:=pUvGo_dvd k (m * 128) b z.2 z.1 hp
        obtain ⟨q,hq⟩:=hd
        have hq1:q < 16 * 128 ^ k:=by
          rw [hq,Nat.mul_comm (16 * 128 ^ k)] at h1
          exact Nat.lt_of_mul_lt_mul_left h1
        have hu:u.toNat % 128 * m≤127 * m:=Nat.mul_le_mul_right _ (by omega)
        have hq2:m * 128 * q≤m * 128 * (16 * 128 ^ k - 1):=Nat.mul_le_mul_left _ (by omega)
        have e2:m * 128 * (16 * 128 ^ k - 1)+m * 128=128 * (16 * 128 ^ k * m):=by
          rw [← Nat.mul_succ,Nat.succ_eq_add_one,Nat.sub_add_cancel (by omega)]
          simp only [Nat.mul_assoc,Nat.mul_comm,Nat.mul_left_comm]
        rw [e,hq]
        omega
where pUvGo_dvd:∀ (k m:Nat) (b r:Bytes) (n:Nat),pUvGo k m b=some (n,r)→m ∣ n
  | k,m,[],r,n,h=>by simp [pUvGo] at h
  | 0,m,u :: b,r,n,h=>by
    simp only [pUvGo] at h
    split at h
    · simp only [Option.some.injEq,Prod.mk.injEq] at h
      rw [← h.1]
      exact Nat.dvd_mul_left _ _
    · simp at h
  | k+1,m,u :: b,r,n,h=>by
    simp only [pUvGo] at h
    split at h
    · simp only [Option.some.injEq,Prod.mk.injEq] at h
      rw [← h.1]
      exact Nat.dvd_mul_left _ _
    · cases hp:pUvGo k (m * 128) b with
      | none=>rw [hp] at h;simp at h
      | some z =>
        rw [hp] at h
        simp only [Option.map_some,Option.some.injEq,Prod.mk.injEq] at h
        rw [← h.1]
        exact Nat.dvd_add (Nat.dvd_mul_left _ _) (Nat.dvd_trans (Nat.dvd_mul_right m 128) (pUvGo_dvd k (m * 128) b z.2 z.1 hp))
theorem pUv_facts {b r:Bytes} {n:Nat} (h:pUv b=some (n,r)):n < 4294967296∧r.length+1≤b.length:=by
  have:=pUvGo_facts 4 1 b r n (by decide) h
  simpa using this
theorem pSpan_facts {l:Int} {b r s:Bytes} (h:pSpan l b=some (s,r)):0≤l∧(s.length:Int)=l∧s.length+r.length=b.length∧b=s ++ r:=by
  unfold pSpan at h
  split at h
  · simp at h
  · simp only [Option.some.injEq,Prod.mk.injEq] at h
    obtain ⟨rfl,rfl⟩:=h
    refine ⟨by omega,by simp;omega,by simp;omega,by simp⟩
theorem pFix_facts {k n:Nat} {b r:Bytes} (h:pFix k b=some (n,r)):r.length+k=b.length∧n=unfix (b.take k)∧r=b.drop k:=by
  unfold pFix at h
  split at h
  · simp at h
  · simp only [Option.some.injEq,Prod.mk.injEq] at h
    obtain ⟨rfl,rfl⟩:=h
    exact ⟨by simp;omega,rfl,rfl⟩
theorem pInt_facts {k:Nat} {n:Int} {b r:Bytes} (h:pInt k b=some (n,r)):r.length+k=b.length:=by
  obtain ⟨x,r1,h1,h2⟩:=rThen_some h
  simp only [rOk,Option.some.injEq,Prod.mk.injEq] at h2
  rw [← h2.2]
  exact (pFix_facts h1).1
theorem pLen_facts {flex:Bool} {l:Int} {b r:Bytes} (h:pLen flex b=some (l,r)):r.length≤b.length∧l≤r.length:=by
  obtain ⟨x,r1,h1,h2⟩:=rThen_some h
  split at h2
  · simp at h2
  · simp only [Option.some.injEq,Prod.mk.injEq] at h2
    obtain ⟨rfl,rfl⟩:=h2
    refine ⟨?_,by omega⟩
    cases flex
    · have:=pInt_facts h1
      omega
    · rw [if_pos rfl] at h1
      obtain ⟨y,r2,q1,q2⟩:=rThen_some h1
      simp only [rOk,Option.some.injEq,Prod.mk.injEq] at q2
      have:=(pUv_facts q1).2
      rw [← q2.2]
      omega
theorem pCount_facts {flex:Bool} {k:Nat} {l:Int} {b r:Bytes} (h:pCount flex k b=some (l,r)):r.length≤b.length:=by
  unfold pCount at h
  cases flex
  · have:=pInt_facts h
    omega
  · rw [if_pos rfl] at h
    obtain ⟨y,r2,q1,q2⟩:=rThen_some h
    simp only [rOk,Option.some.injEq,Prod.mk.injEq] at q2
    have:=(pUv_facts q1).2
    rw [← q2.2]
    omega
theorem rOk_some {α:Type} {x y:α} {b r:Bytes} (h:rOk x b=some (y,r)):x=y∧b=r:=by simpa [rOk] using h
theorem fit_tagN:∀ (n:Nat) (acc:List (Nat × Bytes)) (b r:Bytes) (u:List (Nat × Bytes)),pTagN n acc b=some (u,r)→Sorted acc→(∀ x ∈ acc,x.1 < 4294967296∧x.2.length≤most)→b.length≤most →
    Sorted u∧(∀ x ∈ u,x.1 < 4294967296∧x.2.length≤most)∧u.length+r.length≤acc.length+b.length
  | 0,acc,b,r,u,h,hs,hm,_=>by
    obtain ⟨rfl,rfl⟩:=rOk_some h
    exact ⟨hs,hm,Nat.le_refl _⟩
  | n+1,acc,b,r,u,h,hs,hm,hb=>by
    obtain ⟨k,r1,h1,h⟩:=rThen_some h
    obtain ⟨s,r2,h2,h⟩:=rThen_some h
    obtain ⟨v,r3,h3,h⟩:=rThen_some h
    have f1:=pUv_facts h1
    have f2:=pUv_facts h2
    have f3:=pSpan_facts h3
    have fl:=setTag_length (k,v) acc
    have:=fit_tagN n (setTag (k,v) acc) r3 r u h (setTag_sorted hs) (fun x hx=>by
      rcases setTag_mem hx with rfl | hx
      · exact ⟨f1.1,by simp only;omega⟩
      · exact hm x hx) (by omega)
    exact ⟨this.1,this.2.1,by omega⟩
theorem fit_tags {flex:Bool} {b r:Bytes} {u:List (Nat × Bytes)} (h:pTags flex b=some (u,r)) (hb:b.length≤most):FitTags u∧r.length≤b.length:=by
  cases flex
  · obtain ⟨rfl,rfl⟩:=rOk_some h
    exact ⟨⟨rfl,by simp,by simp⟩,Nat.le_refl _⟩
  · unfold pTags at h
    rw [if_pos rfl] at h
    obtain ⟨n,r1,h1,h⟩:=rThen_some h
    have f1:=pUv_facts h1
    have:=fit_tagN n [] r1 r u h (by simp [Sorted]) (by simp) (by omega)
    have hl:u.length≤most:=by have:=this.2.2;simp at this;omega
    refine ⟨⟨unknown_id this.1 hl,hl,this.2.1⟩,?_⟩
    have:=this.2.2
    simp at this
    omega
theorem pTagN_shrinks:∀ (n:Nat) (acc:List (Nat × Bytes)) (b r:Bytes) (u:List (Nat × Bytes)),pTagN n acc b=some (u,r)→r.length≤b.length
  | 0,acc,b,r,u,h=>by
    obtain ⟨rfl,rfl⟩:=rOk_some h
    exact Nat.le_refl _
  | n+1,acc,b,r,u,h=>by
    obtain ⟨k,r1,h1,h⟩:=rThen_some h
    obtain ⟨s,r2,h2,h⟩:=rThen_some h
    obtain ⟨v,r3,h3,h⟩:=rThen_some h
    have f1:=pUv_facts h1
    have f2:=pUv_facts h2
    have f3:=pSpan_facts h3
    have:=pTagN_shrinks n _ r3 r u h
    omega
theorem fit_prim {flex nul:Bool} {k:PK} {b r:Bytes} {t:Tree} (h:pPrim flex nul k b=some (t,r)) (hb:b.length≤most):t.s.length≤most∧r.length≤b.length:=by
  have hint:∀ w,(rThen (pInt w) fun n=>rOk (tN n)) b=some (t,r)→t.s.length≤most∧r.length≤b.length:=by
    intro w h
    obtain ⟨x,r1,h1,h2⟩:=rThen_some h
    obtain ⟨rfl,rfl⟩:=rOk_some h2
    exact ⟨by simp [tN,Tree.s],by have:=pInt_facts h1;omega⟩
  cases k <;> simp only [pPrim] at h
  case bool =>
    obtain ⟨x,r1,h1,h2⟩:=rThen_some h
    obtain ⟨rfl,rfl⟩:=rOk_some h2
    exact ⟨by simp [tN,Tree.s],by have:=(pFix_facts h1).1;omega⟩
  case u16 =>
    obtain ⟨x,r1,h1,h2⟩:=rThen_some h
    obtain ⟨rfl,rfl⟩:=rOk_some h2
    exact ⟨by simp [tN,Tree.s],by have:=(pFix_facts h1).1;omega⟩
  case uuid =>
    obtain ⟨x,r1,h1,h2⟩:=rThen_some h
    obtain ⟨rfl,rfl⟩:=rOk_some h2
    have:=pSpan_facts h1
    exact ⟨by simp only [tS,Tree.s];omega,by omega⟩
  case str =>
    obtain ⟨x,r1,h1,h2⟩:=rThen_some h
    have f1:=pCount_facts h1
    split at h2
    · obtain ⟨rfl,rfl⟩:=rOk_some h2
      exact ⟨by simp [tNull,Tree.s],f1⟩
    · obtain ⟨s,r2,h3,h4⟩:=rThen_some h2
      obtain ⟨rfl,rfl⟩:=rOk_some h4
      have:=pSpan_facts h3
      exact ⟨by simp only [tS,Tree.s];omega,by omega⟩
  case bytes =>
    obtain ⟨x,r1,h1,h2⟩:=rThen_some h
    have f1:=pCount_facts h1
    split at h2
    · obtain ⟨rfl,rfl⟩:=rOk_some h2
      exact ⟨by simp [tNull,Tree.s],f1⟩
    · split at h2
      · obtain ⟨rfl,rfl⟩:=rOk_some h2
        exact ⟨by simp [tS,Tree.s],f1⟩
      · obtain ⟨s,r2,h3,h4⟩:=rThen_some h2
        obtain ⟨rfl,rfl⟩:=rOk_some h4
        have:=pSpan_facts h3
        exact ⟨by simp only [tS,Tree.s];omega,by omega⟩
  all_goals exact hint _ h
theorem fit_many {p:Rd Tree} {Fit:Tree→Prop} (hp:∀ b r t,b.length≤most→p b=some (t,r)→Fit t∧r.length≤b.length) :
    ∀ (n:Nat) (b r:Bytes) (l:List Tree),b.length≤most→pMany p n b=some (l,r)→l.length=n∧(∀ x ∈ l,Fit x)∧r.length≤b.length
  | 0,b,r,l,_,h=>by
    obtain ⟨rfl,rfl⟩:=rOk_some h
    exact ⟨rfl,by simp,Nat.le_refl _⟩
  | n+1,b,r,l,hb,h=>by
    obtain ⟨x,r1,h1,h⟩:=rThen_some h
    obtain ⟨xs,r2,h2,h⟩:=rThen_some h
    obtain ⟨rfl,rfl⟩:=rOk_some h
    have f1:=hp b r1 x hb h1
    have f2:=fit_many hp n r1 r2 xs (by omega) h2
    refine ⟨by simp [f2.1],fun y hy=>?_,by omega⟩
    rcases List.mem_cons.1 hy with rfl | hy
    · exact f1.1
    · exact f2.2.1 y hy
mutual
theorem fit_ty (ver:Int) (flex:Bool):∀ (ty:Ty) (nul:Bool) (b r:Bytes) (t:Tree),b.length≤most→pTy ver flex ty nul b=some (t,r)→FitTy ver ty t∧r.length≤b.length
  | .prim k,nul,b,r,t,hb,h=>by
    simp only [pTy] at h
    have:=fit_prim h hb
    exact ⟨by simpa [FitTy] using this.1,this.2⟩
  | .list _ _ _ of,nul,b,r,t,hb,h=>by
    simp only [pTy] at h
    obtain ⟨l,r1,h1,h⟩:=rThen_some h
    have f1:=pLen_facts h1
    split at h
    · obtain ⟨rfl,rfl⟩:=rOk_some h
      exact ⟨by simp [FitTy,tNull,Tree.l],f1.1⟩
    · obtain ⟨xs,r2,h2,h⟩:=rThen_some h
      obtain ⟨rfl,rfl⟩:=rOk_some h
      have f2:=fit_many (fun b r t hb h=>fit_ty ver flex of false b r t hb h) l.toNat r1 r2 xs (by omega) h2
      exact ⟨by simp only [FitTy];exact ⟨by show xs.length≤most;omega,f2.2.1⟩,by omega⟩
  | .struct _ _ _ _ fs,nul,b,r,t,hb,h=>by
    simp only [pTy] at h
    obtain ⟨p,r1,h1,h⟩:=rThen_some h
    have f1:r1.length≤b.length:=by
      cases nul
      · obtain ⟨rfl,rfl⟩:=rOk_some h1
        exact Nat.le_refl _
      · have:=pInt_facts h1
        omega
    split at h
    · obtain ⟨rfl,rfl⟩:=rOk_some h
      exact ⟨by simp [FitTy],f1⟩
    · obtain ⟨xs,r2,h2,h⟩:=rThen_some h
      obtain ⟨u,r3,h3,h⟩:=rThen_some h
      obtain ⟨rfl,rfl⟩:=rOk_some h
      have f2:=fit_fs ver flex fs r1 r2 xs (by omega) h2
      have f3:=fit_tags h3 (by omega)
      exact ⟨by simp only [FitTy];exact .inr ⟨f2.1,f3.1⟩,by omega⟩
theorem fit_fs (ver:Int) (flex:Bool):∀ (fs:Fs) (b r:Bytes) (ts:List Tree),b.length≤most→pFs ver flex fs b=some (ts,r)→FitFs ver fs ts∧r.length≤b.length
  | .nil,b,r,ts,_,h=>by
    simp only [pFs] at h
    obtain ⟨rfl,rfl⟩:=rOk_some h
    exact ⟨by simp [FitFs],Nat.le_refl _⟩
  | .cons hd ty rr,b,r,ts,hb,h=>by
    simp only [pFs] at h
    obtain ⟨x,r1,h1,h⟩:=rThen_some h
    obtain ⟨xs,r2,h2,h⟩:=rThen_some h
    obtain ⟨rfl,rfl⟩:=rOk_some h
    by_cases hh:hd.has ver=true
    · rw [if_pos hh] at h1
      have f1:=fit_ty ver flex ty _ b r1 x hb h1
      have f2:=fit_fs ver flex rr r1 r2 xs (by omega) h2
      exact ⟨by simp only [FitFs,List.headD_cons,List.tail_cons];exact ⟨fun _=>f1.1,f2.1⟩,by omega⟩
    · rw [if_neg hh] at h1
      obtain ⟨rfl,rfl⟩:=rOk_some h1
      have f2:=fit_fs ver flex rr b r2 xs hb h2
      exact ⟨by simp only [FitFs,List.headD_cons,List.tail_cons];exact ⟨fun h=>absurd h hh,f2.1⟩,f2.2⟩
end
mutual
theorem k_zero (ver:Int):∀ ty:Ty,KTy ver ty Tree.zero
  | .prim _=>by simp [KTy]
  | .list _ _ _ _=>by simp [KTy,Tree.zero,Tree.l]
  | .struct _ _ _ _ fs=>by simp only [KTy];exact ⟨kFs_nil ver fs,by simp [Tree.zero,Tree.u]⟩
theorem kFs_nil (ver:Int):∀ fs:Fs,KFs ver fs []
  | .nil=>by simp [KFs]
  | .cons _ ty r=>by simp only [KFs,List.headD_nil,List.tail_nil];exact ⟨fun _=>k_zero ver ty,kFs_nil ver r⟩
end
mutual
theorem fit_k (ver:Int):∀ (ty:Ty) (t:Tree),FitTy ver ty t→KTy ver ty t
  | .prim _,_,_=>by simp [KTy]
  | .list _ _ _ of,t,h=>by
    simp only [FitTy] at h
    simp only [KTy]
    exact fun x hx=>fit_k ver of x (h.2 x hx)
  | .struct _ _ _ _ fs,t,h=>by
    simp only [FitTy] at h
    simp only [KTy]
    rcases h with rfl | ⟨h1,h2⟩
    · exact ⟨kFs_nil ver fs,by simp [tNull,Tree.u]⟩
    · exact ⟨fitFs_k ver fs t.l h1,fun x hx=>(h2.2.2 x hx).1⟩
theorem fitFs_k (ver:Int):∀ (fs:Fs) (ts:List Tree),FitFs ver fs ts→KFs ver fs ts
  | .nil,_,_=>by simp [KFs]
  | .cons _ ty r,ts,h=>by
    simp only [FitFs] at h
    simp only [KFs]
    exact ⟨fun hh=>fit_k ver ty _ (h.1 hh),fitFs_k ver r _ h.2⟩
end
def pMsg (ver:Int) (flex:Bool) (fs:Fs):Rd (List Tree × List (Nat × Bytes)):=rThen (pFs ver flex fs) fun xs=>rThen (pTags flex) fun u=>rOk (xs,u)
def wMsg (ver:Int) (flex:Bool) (fs:Fs) (ts:List Tree) (u:List (Nat × Bytes)):Bytes:=wFs ver flex fs ts ++ wTags flex u
theorem ext_msg (ver:Int) (flex:Bool) (fs:Fs):Ext (pMsg ver flex fs):=(ext_fs ver flex fs).then fun _=>(ext_tags flex).then fun _=>Ext.ok _
theorem msg_again {ver:Int} {flex:Bool} {fs:Fs} {ts:List Tree} {u:List (Nat × Bytes)} (hok:okFsR ver flex fs=true) (hk:KFs ver fs ts) (hu:∀ x ∈ u,x.1 < 4294967296) :
    ∃ ts' u',pMsg ver flex fs (wMsg ver flex fs ts u)=some ((ts',u'),[])∧FitFs ver fs ts'∧FitTags u'∧wMsg ver flex fs ts' u'=wMsg ver flex fs ts u:=by
  obtain ⟨ts',h1,h2,h3⟩:=rt_fs ver flex fs ts (wTags flex u) hok hk
  obtain ⟨u',q1,q2,q3⟩:=pTags_of flex u [] hu
  rw [List.append_nil] at q1
  refine ⟨ts',u',?_,h2,q2,by simp only [wMsg,h3,q3]⟩
  unfold pMsg wMsg
  rw [rThen_of h1,rThen_of q1]
  rfl
theorem msg_cut {ver:Int} {flex:Bool} {fs:Fs} {ts:List Tree} {u:List (Nat × Bytes)} (hok:okFsR ver flex fs=true) (hk:KFs ver fs ts) (hu:∀ x ∈ u,x.1 < 4294967296) {k:Nat} (h:k < (wMsg ver flex fs ts u).length) :
    pMsg ver flex fs ((wMsg ver flex fs ts u).take k)=none:=by
  obtain ⟨ts',u',h1,_⟩:=msg_again hok hk hu
  exact (ext_msg ver flex fs).cut h1 h
theorem msg_fit {ver:Int} {flex:Bool} {fs:Fs} {ts:List Tree} {u:List (Nat × Bytes)} {b r:Bytes} (hb:b.length≤most) (h:pMsg ver flex fs b=some ((ts,u),r)):FitFs ver fs ts∧FitTags u:=by
  obtain ⟨xs,r1,h1,h⟩:=rThen_some h
  obtain ⟨u',r2,h2,h⟩:=rThen_some h
  obtain ⟨h3,rfl⟩:=rOk_some h
  simp only [Prod.mk.injEq] at h3
  obtain ⟨rfl,rfl⟩:=h3
  have f1:=fit_fs ver flex fs b r1 xs hb h1
  have f2:=fit_tags h2 (by omega)
  exact ⟨f1.1,f2.1⟩
end Go.Proofs.YtecdefhecaeclaaDoor.T
namespace Go.Proofs.YtecdefhecaeclaaDoor.K
open Go Go.RowKit Go.Proofs.YtecdefhecaeclaaDoor.T
set_option linter.unusedSimpArgs false
set_option linter.unusedVariables false
def RdAt (TR:Nat) (w:World) (S:Option Nat) (rb:Nat):Option Bytes→Prop
  | none=>w.heap[rb]?=some (.cells #[.slice none 0 0,.bool true] TR (0,0))
  | some rest=>∃ base cap,w.heap[rb]?=some (.cells #[.slice base rest.length cap,.bool false] TR (0,0))∧rest.length≤cap ∧
      match S with
      | none=>base=none∧rest=[]
      | some sb=>∃ o,base=some ⟨sb,o,none⟩∧∀ j u,rest[j]?=some u→w.cell? ⟨sb,o+j,none⟩=some (cell u)
structure Only (rb:Nat) (w w':World):Prop where
  os:w'.os=w.os
  tape:w'.tape=w.tape
  output:w'.output=w.output
  size:w.heap.size≤w'.heap.size
  block:∀ k,k < w.heap.size→k ≠ rb→w'.heap[k]?=w.heap[k]?
theorem Only.refl (rb:Nat) (w:World):Only rb w w:=⟨rfl,rfl,rfl,Nat.le_refl _,fun _ _ _=>rfl⟩
theorem Only.trans {rb:Nat} {a b c:World} (h:Only rb a b) (k:Only rb b c):Only rb a c :=
  ⟨k.os.trans h.os,k.tape.trans h.tape,k.output.trans h.output,Nat.le_trans h.size k.size,fun i hi hn=>(k.block i (Nat.lt_of_lt_of_le hi h.size) hn).trans (h.block i hi hn)⟩
theorem Only.alloc {rb:Nat} {a w:World} (h:Only rb a w) (o:Obj):Only rb a (w.alloc o) :=
  h.trans ⟨rfl,rfl,rfl,by simp,fun k hk _=>Below.heap_alloc _ _ _ hk⟩
theorem Only.drew {rb:Nat} {a w:World} (h:Only rb a w):Only rb a w.drew:=⟨h.os,h.tape,h.output,h.size,h.block⟩
theorem Only.setRow {rb:Nat} {a w:World} (h:Only rb a w) (cs:Array Value):Only rb a (w.setRow rb cs) :=
  h.trans ⟨rfl,rfl,rfl,by simp,fun k _ hn=>setRow_other _ _ _ _ hn⟩
theorem Only.own {rb b:Nat} {a w:World} (h:Only rb a w) (hb:a.heap.size≤b) (cs:Array Value):Only rb a (w.setRow b cs) :=
  ⟨h.os,h.tape,h.output,by simpa using h.size,fun k hk hn=>(setRow_other _ _ _ _ (by omega)).trans (h.block k hk hn)⟩
theorem Only.below {rb B:Nat} {w w':World} (h:Only rb w w') (hB:B≤rb) (hs:B≤w.heap.size):Below B w w' :=
  ⟨h.os,h.tape,h.output,h.size,fun k hk=>h.block k (by omega) (by omega)⟩
theorem Only.cell {rb:Nat} {w w':World} (h:Only rb w w') {a:Addr} (hk:a.block < w.heap.size) (hn:a.block ≠ rb):w'.cell? a=w.cell? a:=World.cell?_of_block (h.block _ hk hn)
def after {α:Type} (st:Option Bytes) (p:Rd α):Option Bytes:=st.bind fun b=>(p b).map (·.2)
theorem after_ok {α:Type} {b r:Bytes} {x:α} {p:Rd α} (h:p b=some (x,r)):after (some b) p=some r:=by simp [after,h]
theorem after_no {α:Type} {b:Bytes} {p:Rd α} (h:p b=none):after (some b) p=none:=by simp [after,h]
theorem after_bad {α:Type} {p:Rd α}:after none p=none:=rfl
theorem after_rOk {α:Type} (st:Option Bytes) (x:α):after st (rOk x)=st:=by cases st <;> rfl
theorem after_then {α β:Type} (st:Option Bytes) (p:Rd α) (f:α→Rd β) {x:α} {b r:Bytes} (hs:st=some b) (h:p b=some (x,r)):after st (rThen p f)=after (some r) (f x):=by
  subst hs
  simp [after,rThen_of h]
theorem after_then_none {α β:Type} {st:Option Bytes} {p:Rd α} {f:α→Rd β} (h:after st p=none):after st (rThen p f)=none:=by
  cases st with
  | none=>rfl
  | some b =>
    cases hp:p b with
    | none=>simp [after,rThen,hp]
    | some z=>simp [after,hp] at h
def NewF (S:Option Nat) (w w':World):Nat→Prop:=fun k=>S=some k∨(w.heap.size≤k∧k < w'.heap.size)
def RC {α:Type} (P:Program) (TR gb:Nat) (f:FuncId) (p:Rd α) (ty:Value→Prop) (ok:World→(Nat→Prop)→α→Value→Prop):Prop :=
  FnOK P f∧∀ (w:World) (S:Option Nat) (rb:Nat) (st:Option Bytes),gb < w.heap.size→RdAt TR w S rb st→(∀ sb,S=some sb→sb ≠ rb∧sb < w.heap.size) →
    Calls P f #[.pointer (some ⟨rb,0,none⟩)] w fun e w'=>∃ v,e=.returned v∧RdAt TR w' S rb (after st p)∧Only rb w w'∧ty v ∧
      ∀ b x r,st=some b→p b=some (x,r)→ok w' (NewF S w w') x v
def tyP (nul:Bool):PK→Value→Prop
  | .bool,v=>∃ x,v=.bool x
  | .i8,v=>∃ n,v=.int .i8 n
  | .i16,v=>∃ n,v=.int .i16 n
  | .i32,v=>∃ n,v=.int .i32 n
  | .i64,v=>∃ n,v=.int .i64 n
  | .u16,v=>∃ n,v=.int .u16 n
  | .uuid,v=>∃ bs:Bytes,bs.length=16∧v=.agg (cellsOf bs).toArray
  | .str,v=>if nul then ∃ q,v=.pointer q else ∃ s,v=.string s
  | .bytes,v=>∃ b l c,v=.slice b l c
theorem tyP_one {nul:Bool} {k:PK} {v:Value} (hk:k ≠ .uuid) (h:tyP nul k v):v.oneCell'=true:=by
  cases k <;> simp only [tyP] at h
  case uuid=>exact absurd rfl hk
  case str =>
    split at h <;> obtain ⟨x,rfl⟩:=h <;> rfl
  case bytes=>obtain ⟨b,l,c,rfl⟩:=h;rfl
  all_goals obtain ⟨x,rfl⟩:=h;rfl
def okP (nul:Bool) (k:PK) (w:World) (F:Nat→Prop) (t:Tree) (v:Value):Prop:=t.s.length≤most→(if k=.uuid then v=.agg (cellsOf (uuidOf t)).toArray else PVal w F nul t k v)
def PK.num:PK→Bool
  | .bool=>true | .i8=>true | .i16=>true | .i32=>true | .i64=>true | .u16=>true | _=>false
def TagsV (w:World) (F:Nat→Prop) (u:List (Nat × Bytes)) (m:Value):Prop :=
  (m=.map none∧u=[])∨∃ r es clock,m=.map (some r)∧F r∧w.heap[r]?=some (.map es clock)∧TagsEs w F es clock u
structure KR (P:Program) (I:RIds) (TR gb:Nat) (err:Value) (Gl:World→Prop):Prop where
  num:∀ k,PK.num k=true→rNum I k ≠ 0→RC P TR gb (rNum I k) (pPrim false false k) (tyP false k) (okP false k)
  uuid:I.rUuid ≠ 0→RC P TR gb I.rUuid (pPrim false false .uuid) (tyP false .uuid) (okP false .uuid)
  str:I.rStr ≠ 0→RC P TR gb I.rStr (pPrim false false .str) (tyP false .str) (okP false .str)
  cstr:I.rCStr ≠ 0→RC P TR gb I.rCStr (pPrim true false .str) (tyP false .str) (okP false .str)
  nstr:I.rNStr ≠ 0→RC P TR gb I.rNStr (pPrim false true .str) (tyP true .str) (okP true .str)
  cnstr:I.rCNStr ≠ 0→RC P TR gb I.rCNStr (pPrim true true .str) (tyP true .str) (okP true .str)
  bytes:I.rBytes ≠ 0→RC P TR gb I.rBytes (pPrim false false .bytes) (tyP false .bytes) (okP false .bytes)
  cbytes:I.rCBytes ≠ 0→RC P TR gb I.rCBytes (pPrim true false .bytes) (tyP false .bytes) (okP false .bytes)
  nbytes:I.rNBytes ≠ 0→RC P TR gb I.rNBytes (pPrim false true .bytes) (tyP true .bytes) (okP true .bytes)
  arr:I.rArr ≠ 0→RC P TR gb I.rArr (pLen false) (fun v=>∃ n,v=.int .i32 n) (fun _ _ n v=>v=.int .i32 n)
  carr:I.rCArr ≠ 0→RC P TR gb I.rCArr (pLen true) (fun v=>∃ n,v=.int .i32 n) (fun _ _ n v=>v=.int .i32 n)
  tags:I.rTags ≠ 0→RC P TR gb I.rTags (pTags true) (fun v=>∃ m,v=.agg #[m]∧m.oneCell'=true) (fun w F u v=>∃ m,v=.agg #[m]∧TagsV w F u m)
  okF:I.rOk ≠ 0→FnOK P I.rOk
  ok:I.rOk ≠ 0→∀ (w:World) (S:Option Nat) (rb:Nat) (st:Option Bytes),RdAt TR w S rb st→Calls P I.rOk #[.pointer (some ⟨rb,0,none⟩)] w fun e w'=>e=.returned (.bool st.isSome)∧w'=w
  complF:FnOK P I.rCompl
  compl:∀ (w:World) (S:Option Nat) (rb:Nat) (st:Option Bytes),Gl w→RdAt TR w S rb st→Calls P I.rCompl #[.pointer (some ⟨rb,0,none⟩)] w fun e w'=>e=.returned (if st.isSome then .nilIface else err)∧w'=w
end Go.Proofs.YtecdefhecaeclaaDoor.K
namespace Go.Proofs.YtecdefhecaeclaaDoor.K
open Go Go.RowKit Go.Proofs.YtecdefhecaeclaaDoor.T
set_option linter.unusedSimpArgs false
set_option linter.unusedVariables false
structure DSt where
  at_:List (Nat × Nat)
  out:List (Nat × Value)
def DSt.look (s:DSt) (t:Nat):Option Nat:=(s.at_.find? fun x=>x.1 == t).map (·.2)
def DSt.put (s:DSt) (t x:Nat):DSt:=⟨(t,x) :: s.at_,s.out⟩
def dOp (P:Program) (N n:Nat) (s:DSt):SOp→Option DSt
  | ⟨some t,.move (.tmp x),none⟩=>if t < N then (s.look x).map (s.put t) else none
  | ⟨some t,.assign (.tmp x),none⟩=>if t < N then (s.look x).map (s.put t) else none
  | ⟨some t,.nilCheck (.tmp x),none⟩=>if t < N then (s.look x).map (s.put t) else none
  | ⟨some t,.fieldAddr S (.tmp x) f,none⟩=>if t < N then (s.look x).bind fun o=>(fieldOff P S f).map fun off=>s.put t (o+off) else none
  | ⟨none,.store T (.tmp x) (.const v),none⟩=>if oneB P T && v.oneCell' then (s.look x).bind fun o=>if o < n then some ⟨s.at_,s.out ++ [(o,v)]⟩ else none else none
  | _=>none
def dOps (P:Program) (N n:Nat):DSt→List SOp→Option DSt
  | s,[]=>some s
  | s,o :: r=>(dOp P N n s o).bind fun s'=>dOps P N n s' r
def dRun (P:Program) (N n:Nat):DSt→SC→Option DSt
  | s,.skip=>some s
  | s,.reg l=>dOps P N n s l
  | s,.seq a b=>(dRun P N n s a).bind fun s'=>dRun P N n s' b
  | _,_=>none
def dSetAll (o:Nat):List (Nat × Value)→Array Value→Array Value
  | [],cs=>cs
  | x :: r,cs=>dSetAll o r (cs.setIfInBounds (o+x.1) x.2)
theorem dSetAll_append (o:Nat):∀ (l r:List (Nat × Value)) (cs:Array Value),dSetAll o (l ++ r) cs=dSetAll o r (dSetAll o l cs)
  | [],_,_=>rfl
  | x :: l,r,cs=>dSetAll_append o l r _
theorem dSetAll_size (o:Nat):∀ (l:List (Nat × Value)) (cs:Array Value),(dSetAll o l cs).size=cs.size
  | [],_=>rfl
  | x :: l,cs=>by simp [dSetAll,dSetAll_size o l]
structure DInv (N:Nat) (w0:World) (b o:Nat) (cs:Array Value) (T:TypeId) (s:DSt) (a:Act) (w:World):Prop where
  size:a.tmps.size=N
  defers:a.defers=[]
  slots:∀ t x,s.look t=some x→getT a t=.pointer (some ⟨b,o+x,none⟩)
  world:w=w0.setRow b (dSetAll o s.out cs)
  row:w.heap[b]?=some (.cells (dSetAll o s.out cs) T (0,0))
theorem dPut {N:Nat} {w0 w:World} {b o x t:Nat} {cs:Array Value} {T:TypeId} {s:DSt} {a:Act} {v:Value} (h:DInv N w0 b o cs T s a w) (ht:t < N) (hv:v=.pointer (some ⟨b,o+x,none⟩)):DInv N w0 b o cs T (s.put t x) (a.put (some t) v) w:=by
  subst hv
  refine ⟨by rw [sPu];exact h.size,by rw [dPu];exact h.defers,fun t' x' hx=>?_,h.world,h.row⟩
  have hsz:=h.size
  simp only [DSt.put,DSt.look,List.find?_cons] at hx
  by_cases e:t=t'
  · subst e
    simp at hx
    subst hx
    rw [gTp (by omega)]
  · rw [gTn (Ne.symm e)]
    have:(t == t')=false:=by simpa using e
    simp only [this] at hx
    exact h.slots t' x' hx
theorem dOps_ok {P:Program} {N n:Nat} {w0:World} {b o:Nat} {cs:Array Value} {T:TypeId} (hn:o+n≤cs.size) {all:List SOp} {K:Act→World→Prop} {s':DSt} (hK:∀ a w,DInv N w0 b o cs T s' a w→K a w) :
    ∀ (l:List SOp) (s:DSt) (a:Act) (w:World),dOps P N n s l=some s'→DInv N w0 b o cs T s a w→opsw P all l K a w
  | [],s,a,w,h,hi=>by
    simp only [dOps,Option.some.injEq] at h
    subst h
    exact hK a w hi
  | op :: r,s,a,w,h,hi=>by
    simp only [dOps] at h
    obtain ⟨s1,h1,h2⟩:=Option.bind_eq_some_iff.1 h
    have ih:=fun a w=>dOps_ok hn (all:=all) hK r s1 a w h2
    unfold dOp at h1
    split at h1 <;> try (simp at h1;done)
    · rename_i t x
      split at h1 <;> try (simp at h1;done)
      rename_i ht
      obtain ⟨y,hy,rfl⟩:=Option.map_eq_some_iff.1 h1
      have hs:=hi.slots _ _ hy
      exact oNo rfl (opw_move (ih _ _ (dPut hi ht (by rw [eTm];exact hs))))
    · rename_i t x
      split at h1 <;> try (simp at h1;done)
      rename_i ht
      obtain ⟨y,hy,rfl⟩:=Option.map_eq_some_iff.1 h1
      have hs:=hi.slots _ _ hy
      exact oNo rfl (opw_assign (ih _ _ (dPut hi ht (by rw [eTm];exact hs))))
    · rename_i t x
      split at h1 <;> try (simp at h1;done)
      rename_i ht
      obtain ⟨y,hy,rfl⟩:=Option.map_eq_some_iff.1 h1
      have hs:=hi.slots _ _ hy
      exact oNo rfl (opw_nilCheck (by rw [eTm];exact hs) (ih _ _ (dPut hi ht rfl)))
    · rename_i t S x f
      split at h1 <;> try (simp at h1;done)
      rename_i ht
      obtain ⟨y,hy,h1⟩:=Option.bind_eq_some_iff.1 h1
      obtain ⟨off,hoff,rfl⟩:=Option.map_eq_some_iff.1 h1
      have hs:=hi.slots _ _ hy
      exact oNo rfl (opw_field (fieldB_of hoff) (by rw [eTm];exact hs) (ih _ _ (dPut hi ht (by rw [Nat.add_assoc]))))
    · rename_i T' x v
      split at h1 <;> try (simp at h1;done)
      rename_i hT
      simp only [Bool.and_eq_true] at hT
      obtain ⟨y,hy,h1⟩:=Option.bind_eq_some_iff.1 h1
      split at h1 <;> try (simp at h1;done)
      rename_i hyn
      simp only [Option.some.injEq] at h1
      subst h1
      have hs:=hi.slots _ _ hy
      have hsz:=dSetAll_size o s.out cs
      have hlt:o+y < (dSetAll o s.out cs).size:=by omega
      refine oNo rfl (opw_store_one (ad:=⟨b,o+y,none⟩) (v:=v) (v0:=(dSetAll o s.out cs)[o+y]) hT.1 (by rw [eTm];exact hs) rfl hT.2 (by rw [cell_of_row _ _ _ _ _ _ hi.row];exact Array.getElem?_eq_getElem hlt) (by simp [World.frozen?,hi.row]) ?_)
      rw [pNo]
      refine ih _ _ ⟨hi.size,hi.defers,hi.slots,?_,?_⟩
      · rw [setCell_eq_setRow _ _ _ _ _ _ _ hi.row,dSetAll_append,hi.world,setRow_setRow]
        rfl
      · rw [setCell_eq_setRow _ _ _ _ _ _ _ hi.row,dSetAll_append]
        exact setRow_heap _ _ _ _ _ _ hi.row
theorem dRun_ok {P:Program} {N n:Nat} {w0:World} {b o:Nat} {cs:Array Value} {T:TypeId} (hn:o+n≤cs.size):∀ (c:SC) (s s':DSt) (a:Act) (w:World) (Q:Exit→Act→World→Prop),dRun P N n s c=some s'→DInv N w0 b o cs T s a w →
    (∀ a w,DInv N w0 b o cs T s' a w→Q .normal a w)→c.wp P Q a w
  | .skip,s,s',a,w,Q,h,hi,hQ=>by
    simp only [dRun,Option.some.injEq] at h
    subst h
    exact SC.wp_skip (hQ a w hi)
  | .reg l,s,s',a,w,Q,h,hi,hQ=>by
    simp only [dRun] at h
    exact SC.wp_reg (dOps_ok hn hQ l s a w h hi)
  | .seq x y,s,s',a,w,Q,h,hi,hQ=>by
    simp only [dRun] at h
    obtain ⟨s1,h1,h2⟩:=Option.bind_eq_some_iff.1 h
    refine SC.wp_seq (dRun_ok hn x s s1 a w _ h1 hi fun a' w' hi'=>?_)
    exact dRun_ok hn y s1 s' a' w' Q h2 hi' hQ
  | .dreg _ _,_,_,_,_,_,h,_,_=>by simp [dRun] at h
  | .cond _ _ _,_,_,_,_,_,h,_,_=>by simp [dRun] at h
  | .block _ _,_,_,_,_,_,h,_,_=>by simp [dRun] at h
  | .loop _,_,_,_,_,_,h,_,_=>by simp [dRun] at h
  | .exit _,_,_,_,_,_,h,_,_=>by simp [dRun] at h
  | .ret,_,_,_,_,_,h,_,_=>by simp [dRun] at h
  | .label _,_,_,_,_,_,h,_,_=>by simp [dRun] at h
  | .goto _,_,_,_,_,_,h,_,_=>by simp [dRun] at h
  | .scope _,_,_,_,_,_,h,_,_=>by simp [dRun] at h
  | .other,_,_,_,_,_,h,_,_=>by simp [dRun] at h
def DefAt (P:Program) (f n:Nat) (out:List (Nat × Value)):Prop :=
  FnOK P f∧∀ (w:World) (b o:Nat) (cs:Array Value) (T:TypeId),w.heap[b]?=some (.cells cs T (0,0))→o+n≤cs.size →
    Calls P f #[.pointer (some ⟨b,o,none⟩)] w fun e w'=>e=.returned (.tuple #[])∧w'=w.setRow b (dSetAll o out cs)
def dOut (P:Program) (N n:Nat) (c:SC):Option (List (Nat × Value)):=(dRun P N n ⟨[(0,0)],[]⟩ c).map (·.out)
theorem defAt_ok {P : Program} {f n N : Nat} {fn : Func} {c : SC} {out : List (Nat × Value)} (hf : P.funcs[f]? = some fn) (hb : fn.body.map strip = some c) (hnm : (fn.name == "runtime.NumGoroutine") = false) (hN : fn.ntmps = N) (h1 : 1 ≤ N) (hr : fn.results = #[])
    (hd:dOut P N n c=some out):DefAt P f n out:=by
  refine ⟨fnOK_of hf hb hnm,fun w b o cs T hc hn=>?_⟩
  obtain ⟨s,hs,rfl⟩:=Option.map_eq_some_iff.1 hd
  refine fCa hf hb hN (by simpa using h1) fun a0 hsz hdf ha=>?_
  have h0:=ha 0 _ rfl
  refine dRun_ok (w0:=w) hn c _ s a0 w _ hs ⟨hsz,hdf,fun t x hx=>?_,?_,hc⟩ fun a w' hi=>?_
  · simp only [DSt.look,List.find?_cons,List.find?_nil] at hx
    by_cases e:0=t
    · subst e
      simp at hx
      subst hx
      simpa using h0
    · have:(0 == t)=false:=by simpa using e
      simp [this] at hx
  · exact (setRow_self _ _ _ _ _ hc).symm
  · refine ⟨hi.defers,.tuple #[],by simp [results,hr],rfl,hi.world⟩
end Go.Proofs.YtecdefhecaeclaaDoor.K
