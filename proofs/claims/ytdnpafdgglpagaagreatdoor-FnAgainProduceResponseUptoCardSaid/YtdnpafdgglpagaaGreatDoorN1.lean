/- Generic texts: K11 K12 S1 S2 K13. No condition. -/
import Derived.Test.YtdnpafdgglpagaaGreatDoorN0
import Derived.Deep.AppendSrc
import Derived.OrdersHeld
import Derived.Laws.IdiomCopy
import Derived.Laws.OwnMore
namespace Go.Proofs.YtdnpafdgglpagaaGreatDoor.K
open Go Go.RowKit Go.Proofs.YtdnpafdgglpagaaGreatDoor.T
attribute [local simp] eTm eCo pNo gTp gTn
set_option linter.unusedVariables false
set_option linter.unusedSimpArgs false
theorem fCa {P:Program} {f:FuncId} {fn:Func} {s:SC} {args:Array Value} {w:World} {R:Ending->World->Prop} {N:Nat} (hf:P.funcs[f]?=some fn) (hb:fn.body.map strip=some s) (hn:fn.ntmps=N)
  (hN:args.size<=N) (h:∀ a0:Act,a0.tmps.size=N->a0.defers=[]->(∀ i v,args[i]?=some v->getT a0 i=v)->s.wp P (bodyPost P fn R) a0 w):Calls P f args w R:=by
 obtain ⟨c,hc,hs⟩:∃ c,fn.body=some c/\strip c=s:=by
  cases hc:fn.body with
  | none=>simp [hc] at hb
  | some c=>exact ⟨c,rfl,by simpa [hc] using hb⟩
 refine calls_of_wp hf hc (h _ ?_ rfl ?_ c hs)
 ·simp;omega
 ·intro i v hv
  have hlt:i < args.size:=(Array.getElem?_eq_some_iff.1 hv).1
  simp only [getT,Array.getD_eq_getD_getElem?]
  rw [Array.getElem?_append_left hlt,hv]
  rfl
theorem fnOK_of {P : Program} {f : FuncId} {fn : Func} {s : SC} (hf : P.funcs[f]? = some fn) (hb : fn.body.map strip = some s) (hnm : (fn.name == "runtime.NumGoroutine") = false) : FnOK P f := by
 refine ⟨fn,hf,?_,hnm⟩
 cases hc:fn.body with
 | none=>simp [hc] at hb
 | some c=>rfl
theorem ret_tmp {P:Program} {fn:Func} {R:Ending->World->Prop} {a:Act} {w:World} {r:Nat} (hr:fn.results=#[.tmp r]) (hd:a.defers=[]) (hR:R (.returned (getT a r)) w):bodyPost P fn R .ret a w :=
 bodyPost_ret (results_tmp hr _ _ _) hd hR
theorem run_append_bytes {P:Program} {T tU8:Nat} {w:World} {B m c:Nat} {dv:Value} {xs bs:Bytes} {ad:Addr} (ty:TypeId) (hT:u8sB P T tU8=true) (ho:Own tU8 w B dv xs) (hB:B<=w.heap.size) (hm:bs.length=m)
  (hc:∀ j u,bs[j]?=some u->w.cell? (ad.add j)=some (cell u)) (hlen:xs.length+bs.length<=lim) :
  ∃ dv' w',(Builtin.append_ #[T,T] ty #[dv,.slice (some ad) m c]).run P w=.ok dv' w'/\Own tU8 w' B dv' (xs ++ bs)/\BelG B dv dv' w w'/\B<=w'.heap.size:=by
 obtain ⟨hu,i,hi,hz,hs,hby⟩:=u8s_of hT
 subst hm
 have hlim:lim=4294967295:=rfl
 obtain ⟨v',w',hr,h2,h3,h4⟩:=run_append_src2 (P:=P) w B T T ty tU8 i (.int .u8 0) 1 1 hu hi hz hs hby rfl (by decide) dv xs.length (cellsOf xs) ho (.slice (some ad) bs.length c) bs.length (cellsOf bs)
  (Src.ofSlice w hu ad bs.length c (cellsOf bs) (by rw [cLen];omega)
   (fun j v hv=>by
    simp only [cellsOf,List.getElem?_map,Option.map_eq_some_iff] at hv
    obtain ⟨u,hu,rfl⟩:=hv
    exact hc j u hu)
   (fun v hv=>by
    simp only [cellsOf,List.mem_map] at hv
    obtain ⟨u,_,rfl⟩:=hv
    rfl)) (by simp only [maxLen];omega) (by omega) hB
 refine ⟨v',w',hr,?_,⟨(Below.refl B w).grown h3 hB (fun k hk=>own_u8 ho k hk),h3.block,h4⟩,Nat.le_trans hB h3.size⟩
 unfold Own
 rw [cellsOf_append,List.length_append]
 exact h2
theorem fill_seq:∀ (vs pre rest:List Value),vs.length=rest.length->(∀ v ∈ vs,v.cells=#[v]) ->
  Instr.fill (fun i=>some (i,1)) (pre ++ rest).toArray ((List.range' pre.length vs.length).zip vs)=some (pre ++ vs).toArray
 | [],pre,rest,hl,_=>by
  cases rest with
  | nil=>simp [Instr.fill]
  | cons x r=>simp at hl
 | v :: vs,pre,rest,hl,hc=>by
  cases rest with
  | nil=>simp at hl
  | cons x r =>
   have hv:=hc v (by simp)
   have ih:=fill_seq vs (pre ++ [v]) r (by simpa using hl) (fun u hu=>hc u (by simp [hu]))
   simp only [List.length_append,List.length_cons,List.length_nil,Nat.zero_add,List.append_assoc,List.cons_append,List.nil_append] at ih
   simp only [List.length_cons,List.range'_succ,List.zip_cons_cons,Instr.fill,hv]
   simp
   exact ih
theorem opw_buildU8s {P:Program} {a:Act} {w:World} {K:Act->World->Prop} {d:Option Tmp} {g:Option (Nat × Bool)} {T tU8 n:Nat} {parts:Array (Nat × Operand)} {bs:Bytes} (hT:u8sB P T tU8=true) (hn:n=bs.length) (hs:n<=16777216) (hn0:0 < n)
  (hp:(parts.map fun x=>(x.1,a.eval x.2)).toList=(List.range' 0 bs.length).zip (cellsOf bs))
  (h:K (a.put d (.slice (some ⟨w.heap.size,0,none⟩) bs.length bs.length)) (w.alloc (.cells (cellsOf bs).toArray tU8))) :
  opw P ⟨d,.buildSlice T n parts,g⟩ a w K:=by
 subst hn
 obtain ⟨hu,i,hi,hz,hsz,_⟩:=u8s_of hT
 refine oVa (w':=w.alloc (.cells (cellsOf bs).toArray tU8)) (by simp) (fun p hp2=>?_) h
 have hzero:(Array.range bs.length).map (fun j=>#[Value.int .u8 0][j % 1]!)=(List.replicate bs.length (Value.int .u8 0)).toArray:=by
  apply Array.ext
  ·simp
  ·intro j h1 h2
   simp [Nat.mod_one]
 have hfill:=fill_seq (cellsOf bs) [] (List.replicate bs.length (Value.int .u8 0)) (by simp [cLen]) (by
  intro v hv
  simp only [cellsOf,List.mem_map] at hv
  obtain ⟨u,_,rfl⟩:=hv
  rfl)
 simp only [List.nil_append,List.length_nil,cLen] at hfill
 have hne:¬ bs.length=0:=by omega
 have hparts:(parts.map fun x=>(x.1,a.eval x.2)).toList=(List.range' 0 bs.length).zip (cellsOf bs):=hp
 simp only [execOp,hp2,Instr.buildSlice,sizeOf,typeInfo,zeroValue]
 simp [run_underlying hu,hi,hz,hsz,Value.cells,newRow,hne]
 rw [if_neg (by omega)]
 simp only [Array.toList_map] at hparts
 simp at hzero hfill
 simp [hzero,hparts,hfill]
theorem byteOf_cell (m:Int):cell (T.byteOf m)=.int .u8 (m % 256):=by
 unfold cell T.byteOf
 congr 1
 have h1:0<=m % 256:=Int.emod_nonneg _ (by decide)
 have h2:m % 256 < 256:=Int.emod_lt_of_pos _ (by decide)
 rw [UInt8.toNat_ofNat_of_lt' (by show (m % 256).toNat < 256;omega)]
 omega
theorem wrap_u8 (m:Int):IntKind.u8.wrap m=m % 256:=by
 simp only [IntKind.wrap,IntKind.bits,IntKind.signed,Bool.false_and]
 rfl
theorem wrap_u16 (m:Int):IntKind.u16.wrap m=m % 65536:=by
 simp only [IntKind.wrap,IntKind.bits,IntKind.signed,Bool.false_and]
 rfl
theorem wrap_u32 (m:Int):IntKind.u32.wrap m=m % 4294967296:=by
 simp only [IntKind.wrap,IntKind.bits,IntKind.signed,Bool.false_and]
 rfl
theorem wrap_u64 (m:Int):IntKind.u64.wrap m=m % 18446744073709551616:=by
 simp only [IntKind.wrap,IntKind.bits,IntKind.signed,Bool.false_and]
 rfl
theorem opw_shr {P:Program} {a:Act} {w:World} {K:Act->World->Prop} {d:Option Tmp} {g:Option (Nat × Bool)} {T T' n:Nat} {k yk:IntKind} {x:Operand} {m:Int} (hx:a.eval x=.int k m) (hn:n<=k.bits)
  (h:K (a.put d (.int k (m / (2 ^ n:Int)))) w):opw P ⟨d,.binOp .shr T x (.const (.int yk (n:Int))) T',g⟩ a w K:=by
 refine oVa (by simp) (fun p hp=>?_) h
 have e:m.fdiv (2 ^ n:Int)=m / (2 ^ n:Int):=Int.fdiv_eq_ediv_of_nonneg _ (Int.le_of_lt (Int.pow_pos (by decide)))
 have e2:min n k.bits=n:=Nat.min_eq_left hn
 have e3:¬ ((n:Int) < 0):=by omega
 simp [execOp,hp,hx,eCo,eqGuard,binOp,Op.shift,e,e2,e3]
def sc_AppendInt16 (T0 T1 F0:Nat):SC:=.seq (.reg [⟨some 4,.assign (.const (.slice none 0 0)),none⟩]) (.seq (.reg [mv 5 0,mv 6 1,⟨some 7,.convert T0 T1 (.tmp 6),none⟩,cal 8 F0 [5,7],asg 4 8]) (.ret))
def sc_AppendUint16 (T0 T1 T2 T3:Nat):SC:=.seq (.reg [⟨some 4,.assign (.const (.slice none 0 0)),none⟩]) (.seq (.reg [mv 5 0,mv 6 1,⟨some 7,.binOp .shr T0 (.tmp 6) (.const (.int .u64 8)) T1,none⟩,⟨some 8,.convert T0 T2 (.tmp 7),none⟩,mv 9 1,⟨some 10,.convert T0 T2 (.tmp 9),none⟩,⟨some 11,.buildSlice T3 2 #[(0,(.tmp 8)),(1,(.tmp 10))],none⟩,⟨some 12,.call ⟨.builtin .append,#[(.tmp 5),(.tmp 11)],#[T3,T3]⟩,none⟩,asg 4 12]) (.ret))
def sc_AppendInt32 (T0 T1 F0:Nat):SC:=.seq (.reg [⟨some 4,.assign (.const (.slice none 0 0)),none⟩]) (.seq (.reg [mv 5 0,mv 6 1,⟨some 7,.convert T0 T1 (.tmp 6),none⟩,cal 8 F0 [5,7],asg 4 8]) (.ret))
def sc_AppendUint32 (T0 T1 T2 T3:Nat):SC:=.seq (.reg [⟨some 4,.assign (.const (.slice none 0 0)),none⟩]) (.seq (.reg [mv 5 0,mv 6 1,⟨some 7,.binOp .shr T0 (.tmp 6) (.const (.int .u64 24)) T1,none⟩,⟨some 8,.convert T0 T2 (.tmp 7),none⟩,mv 9 1,⟨some 10,.binOp .shr T0 (.tmp 9) (.const (.int .u64 16)) T1,none⟩,⟨some 11,.convert T0 T2 (.tmp 10),none⟩,mv 12 1,⟨some 13,.binOp .shr T0 (.tmp 12) (.const (.int .u64 8)) T1,none⟩,⟨some 14,.convert T0 T2 (.tmp 13),none⟩,mv 15 1,⟨some 16,.convert T0 T2 (.tmp 15),none⟩,⟨some 17,.buildSlice T3 4 #[(0,(.tmp 8)),(1,(.tmp 11)),(2,(.tmp 14)),(3,(.tmp 16))],none⟩,⟨some 18,.call ⟨.builtin .append,#[(.tmp 5),(.tmp 17)],#[T3,T3]⟩,none⟩,asg 4 18]) (.ret))
def sc_AppendInt64 (T0 T1 F0:Nat):SC:=.seq (.reg [⟨some 4,.assign (.const (.slice none 0 0)),none⟩]) (.seq (.reg [mv 5 0,mv 6 1,⟨some 7,.convert T0 T1 (.tmp 6),none⟩,cal 8 F0 [5,7],asg 4 8]) (.ret))
def sc_appendUint64 (T0 T1 T2 T3:Nat):SC:=.seq (.reg [⟨some 4,.assign (.const (.slice none 0 0)),none⟩]) (.seq (.reg [mv 5 0,mv 6 1,⟨some 7,.binOp .shr T0 (.tmp 6) (.const (.int .u64 56)) T1,none⟩,⟨some 8,.convert T0 T2 (.tmp 7),none⟩,mv 9 1,⟨some 10,.binOp .shr T0 (.tmp 9) (.const (.int .u64 48)) T1,none⟩,⟨some 11,.convert T0 T2 (.tmp 10),none⟩,mv 12 1,⟨some 13,.binOp .shr T0 (.tmp 12) (.const (.int .u64 40)) T1,none⟩,⟨some 14,.convert T0 T2 (.tmp 13),none⟩,mv 15 1,⟨some 16,.binOp .shr T0 (.tmp 15) (.const (.int .u64 32)) T1,none⟩,⟨some 17,.convert T0 T2 (.tmp 16),none⟩,mv 18 1,⟨some 19,.binOp .shr T0 (.tmp 18) (.const (.int .u64 24)) T1,none⟩,⟨some 20,.convert T0 T2 (.tmp 19),none⟩,mv 21 1,⟨some 22,.binOp .shr T0 (.tmp 21) (.const (.int .u64 16)) T1,none⟩,⟨some 23,.convert T0 T2 (.tmp 22),none⟩,mv 24 1,⟨some 25,.binOp .shr T0 (.tmp 24) (.const (.int .u64 8)) T1,none⟩,⟨some 26,.convert T0 T2 (.tmp 25),none⟩,mv 27 1,⟨some 28,.convert T0 T2 (.tmp 27),none⟩,⟨some 29,.buildSlice T3 8 #[(0,(.tmp 8)),(1,(.tmp 11)),(2,(.tmp 14)),(3,(.tmp 17)),(4,(.tmp 20)),(5,(.tmp 23)),(6,(.tmp 26)),(7,(.tmp 28))],none⟩,⟨some 30,.call ⟨.builtin .append,#[(.tmp 5),(.tmp 29)],#[T3,T3]⟩,none⟩,asg 4 30]) (.ret))
section
variable {P:Program} {tU8:Nat}
theorem AP_of {f : FuncId} {fn : Func} {s : SC} {args : Array Value} {pre : World -> Nat -> Prop} {out : Bytes} {N : Nat} (hf : P.funcs[f]? = some fn) (hb : fn.body.map strip = some s) (hnm : (fn.name == "runtime.NumGoroutine") = false) (hn : fn.ntmps = N) (hN : args.size + 1 <= N)
  (h:∀ (w:World) (B:Nat) (dv:Value) (xs:Bytes) (a0:Act),Own tU8 w B dv xs->B<=w.heap.size->xs.length+out.length<=lim->pre w B->a0.tmps.size=N->a0.defers=[]->getT a0 0=dv->(∀ i v,args[i]?=some v->getT a0 (i+1)=v) ->
   s.wp P (bodyPost P fn fun e w'=>∃ dv',e=.returned dv'/\Own tU8 w' B dv' (xs ++ out)/\Below B w w'/\B<=w'.heap.size) a0 w):AP P tU8 f args pre out:=by
 refine ⟨fnOK_of hf hb hnm,fun w B dv xs ho hB hl hp=>?_⟩
 refine fCa hf hb hn (by rw [Array.size_append,Nat.add_comm];exact hN) fun a0 hs hd ha=>?_
 refine h w B dv xs a0 ho hB hl hp hs hd (ha 0 dv (by rw [Array.getElem?_append_left (Nat.lt_succ_self 0)];rfl)) (fun i v hv=>ha (i+1) v ?_)
 rw [Array.getElem?_append_right (Nat.le_add_left 1 i)]
 exact hv
theorem AP_of2 {f : FuncId} {fn : Func} {s : SC} {args : Array Value} {out : Bytes} {N : Nat} (hf : P.funcs[f]? = some fn) (hb : fn.body.map strip = some s) (hnm : (fn.name == "runtime.NumGoroutine") = false) (hn : fn.ntmps = N) (hN : args.size + 1 <= N)
  (h:∀ (w:World) (B:Nat) (dv:Value) (xs:Bytes) (a0:Act),Own tU8 w B dv xs->B<=w.heap.size->xs.length+out.length<=lim->a0.tmps.size=N->a0.defers=[]->getT a0 0=dv->(∀ i v,args[i]?=some v->getT a0 (i+1)=v) ->
   s.wp P (bodyPost P fn fun e w'=>∃ dv',e=.returned dv'/\Own tU8 w' B dv' (xs ++ out)/\BelG B dv dv' w w'/\B<=w'.heap.size) a0 w):AP2 P tU8 f args out:=by
 refine ⟨fnOK_of hf hb hnm,fun w B dv xs ho hB hl=>?_⟩
 refine fCa hf hb hn (by rw [Array.size_append,Nat.add_comm];exact hN) fun a0 hs hd ha=>?_
 refine h w B dv xs a0 ho hB hl hs hd (ha 0 dv (by rw [Array.getElem?_append_left (Nat.lt_succ_self 0)];rfl)) (fun i v hv=>ha (i+1) v ?_)
 rw [Array.getElem?_append_right (Nat.le_add_left 1 i)]
 exact hv
theorem ops_retBytes {all:List SOp} {a:Act} {w:World} {B T td ts tr r n:Nat} {dv:Value} {xs bs:Bytes} {parts:Array (Nat × Operand)} {Q:Exit->Act->World->Prop} (hT:u8sB P T tU8=true) (hn:n=bs.length) (hs:n<=100) (hn0:0 < n)
  (hp:(parts.map fun x=>(x.1,a.eval x.2)).toList=(List.range' 0 bs.length).zip (cellsOf bs)) (ho:Own tU8 w B dv xs) (hB:B<=w.heap.size) (hlen:xs.length+bs.length<=lim) (hdv:getT a td=dv) (hne:td ≠ ts) (hsz:ts < a.tmps.size/\tr < a.tmps.size)
  (hK:∀ dv' w' (a':Act),Own tU8 w' B dv' (xs ++ bs)->BelG B dv dv' w w'->B<=w'.heap.size->a'.tmps.size=a.tmps.size->a'.defers=a.defers->getT a' r=dv'->Q .normal a' w') (hr:r < a.tmps.size) :
  opsw P all [⟨some ts,.buildSlice T n parts,none⟩,⟨some tr,.call ⟨.builtin .append,#[.tmp td,.tmp ts],#[T,T]⟩,none⟩,asg r tr] (Q .normal) a w:=by
 refine oNo rfl (opw_buildU8s hT hn (by omega) hn0 hp (oNo rfl ?_))
 have hown:Own tU8 (w.alloc (.cells (cellsOf bs).toArray tU8)) B dv xs:=ho.alloc _
 obtain ⟨dv',w',hrun,h1,h2,h3⟩:=run_append_bytes (P:=P) (T:=T) (tU8:=tU8) (B:=B) (c:=bs.length) (m:=bs.length) (ad:=⟨w.heap.size,0,none⟩) (bs:=bs) T hT hown (by simp;omega) rfl
  (fun j u hu=>by
   rw [add_none,cell_of_row _ _ _ _ _ _ (heap_alloc_new w _)]
   simp [cellsOf,hu]) hlen
 refine oVa (v:=dv') (w':=w') (by simp) ?_ (ops_asg (oNi ?_))
 ·intro o hop
  have e1:getT (a.put (some ts) (.slice (some ⟨w.heap.size,0,none⟩) bs.length bs.length)) td=dv:=by rw [gTn hne];exact hdv
  have e2:getT (a.put (some ts) (.slice (some ⟨w.heap.size,0,none⟩) bs.length bs.length)) ts=.slice (some ⟨w.heap.size,0,none⟩) bs.length bs.length:=gTp hsz.1
  have hrun':(Builtin.append_ #[T,T] o.type #[dv,.slice (some ⟨w.heap.size,0,none⟩) bs.length bs.length]).run P (w.alloc (.cells (cellsOf bs).toArray tU8))=.ok dv' w':=hrun
  simp [execOp,hop,resolve,invoke,builtin,eTm,e1,e2,hrun']
 ·refine hK dv' w' _ h1 (h2.alloc hB) h3 (by simp [sPu]) (by simp [dPu]) ?_
  rw [gTp (by simp only [sPu];omega),gTp (by simp only [sPu];omega)]
theorem appendU16_ok {f : FuncId} {fn : Func} {T0 T1 T2 T3 : Nat} (hf : P.funcs[f]? = some fn) (hb : fn.body.map strip = some (sc_AppendUint16 T0 T1 T2 T3)) (hnm : (fn.name == "runtime.NumGoroutine") = false) (hn : fn.ntmps = 13) (hr : fn.results = #[.tmp 4]) (hT : u8sB P T3 tU8 = true)
  (h0:intB P T0 .u16=true) (h1:intB P T2 .u8=true) (n:Int):AP P tU8 f #[.int .u16 n] (fun _ _=>True) (fixed n 2):=by
 refine AP_of hf hb hnm hn (by simp) fun w B dv xs a0 ho hB hl _ hs hd hh0 ha=>?_
 have hx:=ha 0 (.int .u16 n) rfl
 refine wSq (wRg (oNo rfl (opw_assign (oNi ?_))))
 refine wSq (wRg (ops_mv (ops_mv (oNo rfl (opw_shr (n:=8) (k:=.u16) (m:=n) ?_ (by decide) (oNo rfl (opw_convert h0 h1 (n:=n / (2 ^ 8:Int)) ?_ (ops_mv (oNo rfl (opw_convert h0 h1 (n:=n) ?_
  (ops_retBytes (B:=B) (dv:=dv) (xs:=xs) (bs:=fixed n 2) hT rfl (by decide) (by decide) ?_ ho hB hl ?_ (by decide) (by simp only [sPu];omega) ?_ (by simp only [sPu];omega))))))))))))
 ·simp (disch:=(try simp only [sPu]);omega) [eTm,gTp,gTn]
  exact hx
 ·simp (disch:=(try simp only [sPu]);omega) [eTm,gTp]
 ·simp (disch:=(try simp only [sPu]);omega) [eTm,gTp,gTn]
  exact hx
 ·simp (disch:=(try simp only [sPu]);omega) [fixed,cellsOf,byteOf_cell,wrap_u8,eTm,gTp,gTn,List.range']
 ·simp (disch:=(try simp only [sPu]);omega) [gTp,gTn,hh0]
 ·intro dv' w' a' q1 q2 q3 q4 q5 q6
  refine wRt ?_
  try simp only [Exit.then]
  exact ret_tmp hr (by rw [q5];simp [dPu,hd]) ⟨dv',by rw [q6],q1,q2.1,q3⟩
theorem appendU32_ok {f : FuncId} {fn : Func} {T0 T1 T2 T3 : Nat} (hf : P.funcs[f]? = some fn) (hb : fn.body.map strip = some (sc_AppendUint32 T0 T1 T2 T3)) (hnm : (fn.name == "runtime.NumGoroutine") = false) (hn : fn.ntmps = 19) (hr : fn.results = #[.tmp 4]) (hT : u8sB P T3 tU8 = true)
  (h0:intB P T0 .u32=true) (h1:intB P T2 .u8=true) (n:Int):AP P tU8 f #[.int .u32 n] (fun _ _=>True) (fixed n 4):=by
 refine AP_of hf hb hnm hn (by simp) fun w B dv xs a0 ho hB hl _ hs hd hh0 ha=>?_
 have hx:=ha 0 (.int .u32 n) rfl
 refine wSq (wRg (oNo rfl (opw_assign (oNi ?_))))
 refine wSq (wRg (ops_mv (ops_mv (oNo rfl (opw_shr (n:=24) (k:=.u32) (m:=n) ?_ (by decide) (oNo rfl (opw_convert h0 h1 (n:=n / (2 ^ 24:Int)) ?_ (ops_mv (oNo rfl (opw_shr (n:=16) (k:=.u32) (m:=n) ?_ (by decide) (oNo rfl (opw_convert h0 h1 (n:=n / (2 ^ 16:Int)) ?_ (ops_mv (oNo rfl (opw_shr (n:=8) (k:=.u32) (m:=n) ?_ (by decide) (oNo rfl (opw_convert h0 h1 (n:=n / (2 ^ 8:Int)) ?_ (ops_mv (oNo rfl (opw_convert h0 h1 (n:=n) ?_
  (ops_retBytes (B:=B) (dv:=dv) (xs:=xs) (bs:=fixed n 4) hT rfl (by decide) (by decide) ?_ ho hB hl ?_ (by decide) (by simp only [sPu];omega) ?_ (by simp only [sPu];omega))))))))))))))))))))))
 ·simp (disch:=(try simp only [sPu]);omega) [eTm,gTp,gTn]
  exact hx
 ·simp (disch:=(try simp only [sPu]);omega) [eTm,gTp]
 ·simp (disch:=(try simp only [sPu]);omega) [eTm,gTp,gTn]
  exact hx
 ·simp (disch:=(try simp only [sPu]);omega) [eTm,gTp]
 ·simp (disch:=(try simp only [sPu]);omega) [eTm,gTp,gTn]
  exact hx
 ·simp (disch:=(try simp only [sPu]);omega) [eTm,gTp]
 ·simp (disch:=(try simp only [sPu]);omega) [eTm,gTp,gTn]
  exact hx
 ·simp (disch:=(try simp only [sPu]);omega) [fixed,cellsOf,byteOf_cell,wrap_u8,eTm,gTp,gTn,List.range']
 ·simp (disch:=(try simp only [sPu]);omega) [gTp,gTn,hh0]
 ·intro dv' w' a' q1 q2 q3 q4 q5 q6
  refine wRt ?_
  try simp only [Exit.then]
  exact ret_tmp hr (by rw [q5];simp [dPu,hd]) ⟨dv',by rw [q6],q1,q2.1,q3⟩
theorem appendU64_ok {f : FuncId} {fn : Func} {T0 T1 T2 T3 : Nat} (hf : P.funcs[f]? = some fn) (hb : fn.body.map strip = some (sc_appendUint64 T0 T1 T2 T3)) (hnm : (fn.name == "runtime.NumGoroutine") = false) (hn : fn.ntmps = 31) (hr : fn.results = #[.tmp 4]) (hT : u8sB P T3 tU8 = true)
  (h0:intB P T0 .u64=true) (h1:intB P T2 .u8=true) (n:Int):AP P tU8 f #[.int .u64 n] (fun _ _=>True) (fixed n 8):=by
 refine AP_of hf hb hnm hn (by simp) fun w B dv xs a0 ho hB hl _ hs hd hh0 ha=>?_
 have hx:=ha 0 (.int .u64 n) rfl
 refine wSq (wRg (oNo rfl (opw_assign (oNi ?_))))
 refine wSq (wRg (ops_mv (ops_mv (oNo rfl (opw_shr (n:=56) (k:=.u64) (m:=n) ?_ (by decide) (oNo rfl (opw_convert h0 h1 (n:=n / (2 ^ 56:Int)) ?_ (ops_mv (oNo rfl (opw_shr (n:=48) (k:=.u64) (m:=n) ?_ (by decide) (oNo rfl (opw_convert h0 h1 (n:=n / (2 ^ 48:Int)) ?_ (ops_mv (oNo rfl (opw_shr (n:=40) (k:=.u64) (m:=n) ?_ (by decide) (oNo rfl (opw_convert h0 h1 (n:=n / (2 ^ 40:Int)) ?_ (ops_mv (oNo rfl (opw_shr (n:=32) (k:=.u64) (m:=n) ?_ (by decide) (oNo rfl (opw_convert h0 h1 (n:=n / (2 ^ 32:Int)) ?_ (ops_mv (oNo rfl (opw_shr (n:=24) (k:=.u64) (m:=n) ?_ (by decide) (oNo rfl (opw_convert h0 h1 (n:=n / (2 ^ 24:Int)) ?_ (ops_mv (oNo rfl (opw_shr (n:=16) (k:=.u64) (m:=n) ?_ (by decide) (oNo rfl (opw_convert h0 h1 (n:=n / (2 ^ 16:Int)) ?_ (ops_mv (oNo rfl (opw_shr (n:=8) (k:=.u64) (m:=n) ?_ (by decide) (oNo rfl (opw_convert h0 h1 (n:=n / (2 ^ 8:Int)) ?_ (ops_mv (oNo rfl (opw_convert h0 h1 (n:=n) ?_
  (ops_retBytes (B:=B) (dv:=dv) (xs:=xs) (bs:=fixed n 8) hT rfl (by decide) (by decide) ?_ ho hB hl ?_ (by decide) (by simp only [sPu];omega) ?_ (by simp only [sPu];omega))))))))))))))))))))))))))))))))))))))))))
 ·simp (disch:=(try simp only [sPu]);omega) [eTm,gTp,gTn]
  exact hx
 ·simp (disch:=(try simp only [sPu]);omega) [eTm,gTp]
 ·simp (disch:=(try simp only [sPu]);omega) [eTm,gTp,gTn]
  exact hx
 ·simp (disch:=(try simp only [sPu]);omega) [eTm,gTp]
 ·simp (disch:=(try simp only [sPu]);omega) [eTm,gTp,gTn]
  exact hx
 ·simp (disch:=(try simp only [sPu]);omega) [eTm,gTp]
 ·simp (disch:=(try simp only [sPu]);omega) [eTm,gTp,gTn]
  exact hx
 ·simp (disch:=(try simp only [sPu]);omega) [eTm,gTp]
 ·simp (disch:=(try simp only [sPu]);omega) [eTm,gTp,gTn]
  exact hx
 ·simp (disch:=(try simp only [sPu]);omega) [eTm,gTp]
 ·simp (disch:=(try simp only [sPu]);omega) [eTm,gTp,gTn]
  exact hx
 ·simp (disch:=(try simp only [sPu]);omega) [eTm,gTp]
 ·simp (disch:=(try simp only [sPu]);omega) [eTm,gTp,gTn]
  exact hx
 ·simp (disch:=(try simp only [sPu]);omega) [eTm,gTp]
 ·simp (disch:=(try simp only [sPu]);omega) [eTm,gTp,gTn]
  exact hx
 ·simp (disch:=(try simp only [sPu]);omega) [fixed,cellsOf,byteOf_cell,wrap_u8,eTm,gTp,gTn,List.range']
 ·simp (disch:=(try simp only [sPu]);omega) [gTp,gTn,hh0]
 ·intro dv' w' a' q1 q2 q3 q4 q5 q6
  refine wRt ?_
  try simp only [Exit.then]
  exact ret_tmp hr (by rw [q5];simp [dPu,hd]) ⟨dv',by rw [q6],q1,q2.1,q3⟩
theorem fixed_wrap_u16 (n:Int):fixed (IntKind.u16.wrap n) 2=fixed n 2:=by
 have e1:n % 65536 / 256 % 256=n / 256 % 256:=by omega
 have e2:n % 65536 % 256=n % 256:=by omega
 simp [fixed,wrap_u16,T.byteOf,e1,e2]
theorem fixed_wrap_u32 (n:Int):fixed (IntKind.u32.wrap n) 4=fixed n 4:=by
 have e1:n % 4294967296 / 256 % 256=n / 256 % 256:=by omega
 have e2:n % 4294967296 % 256=n % 256:=by omega
 have e3:n % 4294967296 / 65536 % 256=n / 65536 % 256:=by omega
 have e4:n % 4294967296 / 16777216 % 256=n / 16777216 % 256:=by omega
 simp [fixed,wrap_u32,T.byteOf,e1,e2,e3,e4]
theorem fixed_wrap_u64 (n:Int):fixed (IntKind.u64.wrap n) 8=fixed n 8:=by
 have e1:n % 18446744073709551616 / 256 % 256=n / 256 % 256:=by omega
 have e2:n % 18446744073709551616 % 256=n % 256:=by omega
 have e3:n % 18446744073709551616 / 65536 % 256=n / 65536 % 256:=by omega
 have e4:n % 18446744073709551616 / 16777216 % 256=n / 16777216 % 256:=by omega
 have e5:n % 18446744073709551616 / 4294967296 % 256=n / 4294967296 % 256:=by omega
 have e6:n % 18446744073709551616 / 1099511627776 % 256=n / 1099511627776 % 256:=by omega
 have e7:n % 18446744073709551616 / 281474976710656 % 256=n / 281474976710656 % 256:=by omega
 have e8:n % 18446744073709551616 / 72057594037927936 % 256=n / 72057594037927936 % 256:=by omega
 simp [fixed,wrap_u64,T.byteOf,e1,e2,e3,e4,e5,e6,e7,e8]
theorem appendI16_ok {f g : FuncId} {fn : Func} {T0 T1 : Nat} (hf : P.funcs[f]? = some fn) (hb : fn.body.map strip = some (sc_AppendInt16 T0 T1 g)) (hnm : (fn.name == "runtime.NumGoroutine") = false) (hn : fn.ntmps = 9) (hr : fn.results = #[.tmp 4])
  (h0:intB P T0 .i16=true) (h1:intB P T1 .u16=true) (hg:∀ m,AP P tU8 g #[.int .u16 m] (fun _ _=>True) (fixed m 2)) (n:Int):AP P tU8 f #[.int .i16 n] (fun _ _=>True) (fixed n 2):=by
 refine AP_of hf hb hnm hn (by simp) fun w B dv xs a0 ho hB hl _ hs hd hh0 ha=>?_
 have hx:=ha 0 (.int .i16 n) rfl
 have hfx:fixed (IntKind.u16.wrap n) 2=fixed n 2:=fixed_wrap_u16 n
 refine wSq (wRg (oNo rfl (opw_assign (oNi ?_))))
 refine wSq (wRg (ops_mv (ops_mv (oNo rfl (opw_convert h0 h1 (n:=n) ?_ ?_)))))
 ·simp (disch:=(try simp only [sPu]);omega) [eTm,gTp,gTn]
  exact hx
 refine ops_cal (hg (IntKind.u16.wrap n)).1 (R:=fun e w'=>∃ dv',e=.returned dv'/\Own tU8 w' B dv' (xs ++ fixed n 2)/\Below B w w'/\B<=w'.heap.size) ?_ ?_
 ·have hc:=(hg (IntKind.u16.wrap n)).2 w B dv xs ho hB (by rw [hfx];exact hl) trivial
  rw [hfx] at hc
  refine Eq.mp (congrArg (fun z=>Calls P g z w _) ?_) hc
  simp (disch:=(try simp only [sPu]);omega) [gTp,gTn,hh0]
 ·rintro e w' ⟨dv',rfl,q1,q2,q3⟩
  refine ⟨dv',rfl,ops_asg (oNi ?_)⟩
  refine wRt ?_
  try simp only [Exit.then]
  refine ret_tmp hr (by simp [dPu,hd]) ⟨dv',?_,q1,q2,q3⟩
  simp (disch:=(try simp only [sPu]);omega) [gTp]
theorem appendI32_ok {f g : FuncId} {fn : Func} {T0 T1 : Nat} (hf : P.funcs[f]? = some fn) (hb : fn.body.map strip = some (sc_AppendInt32 T0 T1 g)) (hnm : (fn.name == "runtime.NumGoroutine") = false) (hn : fn.ntmps = 9) (hr : fn.results = #[.tmp 4])
  (h0:intB P T0 .i32=true) (h1:intB P T1 .u32=true) (hg:∀ m,AP P tU8 g #[.int .u32 m] (fun _ _=>True) (fixed m 4)) (n:Int):AP P tU8 f #[.int .i32 n] (fun _ _=>True) (fixed n 4):=by
 refine AP_of hf hb hnm hn (by simp) fun w B dv xs a0 ho hB hl _ hs hd hh0 ha=>?_
 have hx:=ha 0 (.int .i32 n) rfl
 have hfx:fixed (IntKind.u32.wrap n) 4=fixed n 4:=fixed_wrap_u32 n
 refine wSq (wRg (oNo rfl (opw_assign (oNi ?_))))
 refine wSq (wRg (ops_mv (ops_mv (oNo rfl (opw_convert h0 h1 (n:=n) ?_ ?_)))))
 ·simp (disch:=(try simp only [sPu]);omega) [eTm,gTp,gTn]
  exact hx
 refine ops_cal (hg (IntKind.u32.wrap n)).1 (R:=fun e w'=>∃ dv',e=.returned dv'/\Own tU8 w' B dv' (xs ++ fixed n 4)/\Below B w w'/\B<=w'.heap.size) ?_ ?_
 ·have hc:=(hg (IntKind.u32.wrap n)).2 w B dv xs ho hB (by rw [hfx];exact hl) trivial
  rw [hfx] at hc
  refine Eq.mp (congrArg (fun z=>Calls P g z w _) ?_) hc
  simp (disch:=(try simp only [sPu]);omega) [gTp,gTn,hh0]
 ·rintro e w' ⟨dv',rfl,q1,q2,q3⟩
  refine ⟨dv',rfl,ops_asg (oNi ?_)⟩
  refine wRt ?_
  try simp only [Exit.then]
  refine ret_tmp hr (by simp [dPu,hd]) ⟨dv',?_,q1,q2,q3⟩
  simp (disch:=(try simp only [sPu]);omega) [gTp]
theorem appendI64_ok {f g : FuncId} {fn : Func} {T0 T1 : Nat} (hf : P.funcs[f]? = some fn) (hb : fn.body.map strip = some (sc_AppendInt64 T0 T1 g)) (hnm : (fn.name == "runtime.NumGoroutine") = false) (hn : fn.ntmps = 9) (hr : fn.results = #[.tmp 4])
  (h0:intB P T0 .i64=true) (h1:intB P T1 .u64=true) (hg:∀ m,AP P tU8 g #[.int .u64 m] (fun _ _=>True) (fixed m 8)) (n:Int):AP P tU8 f #[.int .i64 n] (fun _ _=>True) (fixed n 8):=by
 refine AP_of hf hb hnm hn (by simp) fun w B dv xs a0 ho hB hl _ hs hd hh0 ha=>?_
 have hx:=ha 0 (.int .i64 n) rfl
 have hfx:fixed (IntKind.u64.wrap n) 8=fixed n 8:=fixed_wrap_u64 n
 refine wSq (wRg (oNo rfl (opw_assign (oNi ?_))))
 refine wSq (wRg (ops_mv (ops_mv (oNo rfl (opw_convert h0 h1 (n:=n) ?_ ?_)))))
 ·simp (disch:=(try simp only [sPu]);omega) [eTm,gTp,gTn]
  exact hx
 refine ops_cal (hg (IntKind.u64.wrap n)).1 (R:=fun e w'=>∃ dv',e=.returned dv'/\Own tU8 w' B dv' (xs ++ fixed n 8)/\Below B w w'/\B<=w'.heap.size) ?_ ?_
 ·have hc:=(hg (IntKind.u64.wrap n)).2 w B dv xs ho hB (by rw [hfx];exact hl) trivial
  rw [hfx] at hc
  refine Eq.mp (congrArg (fun z=>Calls P g z w _) ?_) hc
  simp (disch:=(try simp only [sPu]);omega) [gTp,gTn,hh0]
 ·rintro e w' ⟨dv',rfl,q1,q2,q3⟩
  refine ⟨dv',rfl,ops_asg (oNi ?_)⟩
  refine wRt ?_
  try simp only [Exit.then]
  refine ret_tmp hr (by simp [dPu,hd]) ⟨dv',?_,q1,q2,q3⟩
  simp (disch:=(try simp only [sPu]);omega) [gTp]
theorem appendU32b_ok {f : FuncId} {fn : Func} {T0 T1 T2 T3 : Nat} (hf : P.funcs[f]? = some fn) (hb : fn.body.map strip = some (sc_AppendUint32 T0 T1 T2 T3)) (hnm : (fn.name == "runtime.NumGoroutine") = false) (hn : fn.ntmps = 19) (hr : fn.results = #[.tmp 4]) (hT : u8sB P T3 tU8 = true)
  (h0:intB P T0 .u32=true) (h1:intB P T2 .u8=true) (n:Int):AP2 P tU8 f #[.int .u32 n] (fixed n 4):=by
 refine AP_of2 hf hb hnm hn (by simp) fun w B dv xs a0 ho hB hl hs hd hh0 ha=>?_
 have hx:=ha 0 (.int .u32 n) rfl
 refine wSq (wRg (oNo rfl (opw_assign (oNi ?_))))
 refine wSq (wRg (ops_mv (ops_mv (oNo rfl (opw_shr (n:=24) (k:=.u32) (m:=n) ?_ (by decide) (oNo rfl (opw_convert h0 h1 (n:=n / (2 ^ 24:Int)) ?_ (ops_mv (oNo rfl (opw_shr (n:=16) (k:=.u32) (m:=n) ?_ (by decide) (oNo rfl (opw_convert h0 h1 (n:=n / (2 ^ 16:Int)) ?_ (ops_mv (oNo rfl (opw_shr (n:=8) (k:=.u32) (m:=n) ?_ (by decide) (oNo rfl (opw_convert h0 h1 (n:=n / (2 ^ 8:Int)) ?_ (ops_mv (oNo rfl (opw_convert h0 h1 (n:=n) ?_
  (ops_retBytes (B:=B) (dv:=dv) (xs:=xs) (bs:=fixed n 4) hT rfl (by decide) (by decide) ?_ ho hB hl ?_ (by decide) (by simp only [sPu];omega) ?_ (by simp only [sPu];omega))))))))))))))))))))))
 ·simp (disch:=(try simp only [sPu]);omega) [eTm,gTp,gTn]
  exact hx
 ·simp (disch:=(try simp only [sPu]);omega) [eTm,gTp]
 ·simp (disch:=(try simp only [sPu]);omega) [eTm,gTp,gTn]
  exact hx
 ·simp (disch:=(try simp only [sPu]);omega) [eTm,gTp]
 ·simp (disch:=(try simp only [sPu]);omega) [eTm,gTp,gTn]
  exact hx
 ·simp (disch:=(try simp only [sPu]);omega) [eTm,gTp]
 ·simp (disch:=(try simp only [sPu]);omega) [eTm,gTp,gTn]
  exact hx
 ·simp (disch:=(try simp only [sPu]);omega) [fixed,cellsOf,byteOf_cell,wrap_u8,eTm,gTp,gTn,List.range']
 ·simp (disch:=(try simp only [sPu]);omega) [gTp,gTn,hh0]
 ·intro dv' w' a' q1 q2 q3 q4 q5 q6
  refine wRt ?_
  try simp only [Exit.then]
  exact ret_tmp hr (by rw [q5];simp [dPu,hd]) ⟨dv',by rw [q6],q1,q2,q3⟩
theorem appendI32b_ok {f g : FuncId} {fn : Func} {T0 T1 : Nat} (hf : P.funcs[f]? = some fn) (hb : fn.body.map strip = some (sc_AppendInt32 T0 T1 g)) (hnm : (fn.name == "runtime.NumGoroutine") = false) (hn : fn.ntmps = 9) (hr : fn.results = #[.tmp 4])
  (h0:intB P T0 .i32=true) (h1:intB P T1 .u32=true) (hg:∀ m,AP2 P tU8 g #[.int .u32 m] (fixed m 4)) (n:Int):AP2 P tU8 f #[.int .i32 n] (fixed n 4):=by
 refine AP_of2 hf hb hnm hn (by simp) fun w B dv xs a0 ho hB hl hs hd hh0 ha=>?_
 have hx:=ha 0 (.int .i32 n) rfl
 have hfx:fixed (IntKind.u32.wrap n) 4=fixed n 4:=fixed_wrap_u32 n
 refine wSq (wRg (oNo rfl (opw_assign (oNi ?_))))
 refine wSq (wRg (ops_mv (ops_mv (oNo rfl (opw_convert h0 h1 (n:=n) ?_ ?_)))))
 ·simp (disch:=(try simp only [sPu]);omega) [eTm,gTp,gTn]
  exact hx
 refine ops_cal (hg (IntKind.u32.wrap n)).1 (R:=fun e w'=>∃ dv',e=.returned dv'/\Own tU8 w' B dv' (xs ++ fixed n 4)/\BelG B dv dv' w w'/\B<=w'.heap.size) ?_ ?_
 ·have hc:=(hg (IntKind.u32.wrap n)).2 w B dv xs ho hB (by rw [hfx];exact hl)
  rw [hfx] at hc
  refine Eq.mp (congrArg (fun z=>Calls P g z w _) ?_) hc
  simp (disch:=(try simp only [sPu]);omega) [gTp,gTn,hh0]
 ·rintro e w' ⟨dv',rfl,q1,q2,q3⟩
  refine ⟨dv',rfl,ops_asg (oNi ?_)⟩
  refine wRt ?_
  try simp only [Exit.then]
  refine ret_tmp hr (by simp [dPu,hd]) ⟨dv',?_,q1,q2,q3⟩
  simp (disch:=(try simp only [sPu]);omega) [gTp]
end
set_option maxHeartbeats 200000
def sc_uvTab:ByteArray:=⟨#[1,1,1,1,1,1,1,1,2,2,2,2,2,2,2,3,3,3,3,3,3,3,4,4,4,4,4,4,4,5,5,5,5,5,5,5,6,6,6,6,6,6,6,7,7,7,7,7,7,7,8,8,8,8,8,8,8,9,9,9,9,9,9,9,10,0,0,0,0,0,0,0,0,0,0,0,0,0,0,0,0,0,0,0,0,0,0,0,0,0,0,0,0,0,0,0,0,0,0,0,0,0,0,0,0,0,0,0,0,0,0,0,0,0,0,0,0,0,0,0,0,0,0,0,0,0,0,0,0,0,0,0,0,0,0,0,0,0,0,0,0,0,0,0,0,0,0,0,0,0,0,0,0,0,0,0,0,0,0,0,0,0,0,0,0,0,0,0,0,0,0,0,0,0,0,0,0,0,0,0,0,0,0,0,0,0,0,0,0,0,0,0,0,0,0,0,0,0,0,0,0,0,0,0,0,0,0,0,0,0,0,0,0,0,0,0,0,0,0,0,0,0,0,0,0,0,0,0,0,0,0,0,0,0,0,0,0,0,0,0,0,0,0,0,0,0,0,0,0,0,0,0,0,0,0,0]⟩
def sc_lenTab:ByteArray:=⟨#[0,1,2,2,3,3,3,3,4,4,4,4,4,4,4,4,5,5,5,5,5,5,5,5,5,5,5,5,5,5,5,5,6,6,6,6,6,6,6,6,6,6,6,6,6,6,6,6,6,6,6,6,6,6,6,6,6,6,6,6,6,6,6,6,7,7,7,7,7,7,7,7,7,7,7,7,7,7,7,7,7,7,7,7,7,7,7,7,7,7,7,7,7,7,7,7,7,7,7,7,7,7,7,7,7,7,7,7,7,7,7,7,7,7,7,7,7,7,7,7,7,7,7,7,7,7,7,7,8,8,8,8,8,8,8,8,8,8,8,8,8,8,8,8,8,8,8,8,8,8,8,8,8,8,8,8,8,8,8,8,8,8,8,8,8,8,8,8,8,8,8,8,8,8,8,8,8,8,8,8,8,8,8,8,8,8,8,8,8,8,8,8,8,8,8,8,8,8,8,8,8,8,8,8,8,8,8,8,8,8,8,8,8,8,8,8,8,8,8,8,8,8,8,8,8,8,8,8,8,8,8,8,8,8,8,8,8,8,8,8,8,8,8,8,8,8,8,8,8,8,8,8,8,8,8,8]⟩
def sc_UvarintLen (T0 T1 T2 F0:Nat):SC:=.seq (.reg [⟨some 2,.assign (.const (.int .i64 0)),none⟩]) (.seq (.reg [mv 3 0,cal 4 F0 [3],⟨some 5,.convert T0 T1 (.tmp 4),none⟩,⟨some 6,.index T2 (.const (.string sc_uvTab)) (.tmp 5),none⟩,⟨some 7,.convert T1 T0 (.tmp 6),none⟩,asg 2 7]) (.ret))
def sc_AppendUvarint (T0 T1 T2 T3 T4 F0:Nat):SC:=.seq (.reg [⟨some 4,.assign (.const (.slice none 0 0)),none⟩]) (.seq (.seq (.reg [mv 5 1,cal 6 F0 [5]]) (.block 0 (.seq (.reg [⟨some 8,.binOp .eql T0 (.tmp 6) (.const (.int .i64 5)) T0,none⟩,asg 7 8]) (.cond (.tmp 7) (.seq (.reg [mv 9 0,mv 10 1,⟨some 11,.binOp .and T1 (.tmp 10) (.const (.int .u32 127)) T1,none⟩,⟨some 12,.binOp .or T1 (.tmp 11) (.const (.int .u32 128)) T1,none⟩,⟨some 13,.convert T1 T2 (.tmp 12),none⟩,mv 14 1,⟨some 15,.binOp .shr T1 (.tmp 14) (.const (.int .u64 7)) T3,none⟩,⟨some 16,.binOp .and T1 (.tmp 15) (.const (.int .u32 127)) T1,none⟩,⟨some 17,.binOp .or T1 (.tmp 16) (.const (.int .u32 128)) T1,none⟩,⟨some 18,.convert T1 T2 (.tmp 17),none⟩,mv 19 1,⟨some 20,.binOp .shr T1 (.tmp 19) (.const (.int .u64 14)) T3,none⟩,⟨some 21,.binOp .and T1 (.tmp 20) (.const (.int .u32 127)) T1,none⟩,⟨some 22,.binOp .or T1 (.tmp 21) (.const (.int .u32 128)) T1,none⟩,⟨some 23,.convert T1 T2 (.tmp 22),none⟩,mv 24 1,⟨some 25,.binOp .shr T1 (.tmp 24) (.const (.int .u64 21)) T3,none⟩,⟨some 26,.binOp .and T1 (.tmp 25) (.const (.int .u32 127)) T1,none⟩,⟨some 27,.binOp .or T1 (.tmp 26) (.const (.int .u32 128)) T1,none⟩,⟨some 28,.convert T1 T2 (.tmp 27),none⟩,mv 29 1,⟨some 30,.binOp .shr T1 (.tmp 29) (.const (.int .u64 28)) T3,none⟩,⟨some 31,.convert T1 T2 (.tmp 30),none⟩,⟨some 32,.buildSlice T4 5 #[(0,(.tmp 13)),(1,(.tmp 18)),(2,(.tmp 23)),(3,(.tmp 28)),(4,(.tmp 31))],none⟩,⟨some 33,.call ⟨.builtin .append,#[(.tmp 9),(.tmp 32)],#[T4,T4]⟩,none⟩,asg 4 33]) (.ret)) (.seq (.reg [⟨some 35,.binOp .eql T0 (.tmp 6) (.const (.int .i64 4)) T0,none⟩,asg 34 35]) (.cond (.tmp 34) (.seq (.reg [mv 36 0,mv 37 1,⟨some 38,.binOp .and T1 (.tmp 37) (.const (.int .u32 127)) T1,none⟩,⟨some 39,.binOp .or T1 (.tmp 38) (.const (.int .u32 128)) T1,none⟩,⟨some 40,.convert T1 T2 (.tmp 39),none⟩,mv 41 1,⟨some 42,.binOp .shr T1 (.tmp 41) (.const (.int .u64 7)) T3,none⟩,⟨some 43,.binOp .and T1 (.tmp 42) (.const (.int .u32 127)) T1,none⟩,⟨some 44,.binOp .or T1 (.tmp 43) (.const (.int .u32 128)) T1,none⟩,⟨some 45,.convert T1 T2 (.tmp 44),none⟩,mv 46 1,⟨some 47,.binOp .shr T1 (.tmp 46) (.const (.int .u64 14)) T3,none⟩,⟨some 48,.binOp .and T1 (.tmp 47) (.const (.int .u32 127)) T1,none⟩,⟨some 49,.binOp .or T1 (.tmp 48) (.const (.int .u32 128)) T1,none⟩,⟨some 50,.convert T1 T2 (.tmp 49),none⟩,mv 51 1,⟨some 52,.binOp .shr T1 (.tmp 51) (.const (.int .u64 21)) T3,none⟩,⟨some 53,.convert T1 T2 (.tmp 52),none⟩,⟨some 54,.buildSlice T4 4 #[(0,(.tmp 40)),(1,(.tmp 45)),(2,(.tmp 50)),(3,(.tmp 53))],none⟩,⟨some 55,.call ⟨.builtin .append,#[(.tmp 36),(.tmp 54)],#[T4,T4]⟩,none⟩,asg 4 55]) (.ret)) (.seq (.reg [⟨some 57,.binOp .eql T0 (.tmp 6) (.const (.int .i64 3)) T0,none⟩,asg 56 57]) (.cond (.tmp 56) (.seq (.reg [mv 58 0,mv 59 1,⟨some 60,.binOp .and T1 (.tmp 59) (.const (.int .u32 127)) T1,none⟩,⟨some 61,.binOp .or T1 (.tmp 60) (.const (.int .u32 128)) T1,none⟩,⟨some 62,.convert T1 T2 (.tmp 61),none⟩,mv 63 1,⟨some 64,.binOp .shr T1 (.tmp 63) (.const (.int .u64 7)) T3,none⟩,⟨some 65,.binOp .and T1 (.tmp 64) (.const (.int .u32 127)) T1,none⟩,⟨some 66,.binOp .or T1 (.tmp 65) (.const (.int .u32 128)) T1,none⟩,⟨some 67,.convert T1 T2 (.tmp 66),none⟩,mv 68 1,⟨some 69,.binOp .shr T1 (.tmp 68) (.const (.int .u64 14)) T3,none⟩,⟨some 70,.convert T1 T2 (.tmp 69),none⟩,⟨some 71,.buildSlice T4 3 #[(0,(.tmp 62)),(1,(.tmp 67)),(2,(.tmp 70))],none⟩,⟨some 72,.call ⟨.builtin .append,#[(.tmp 58),(.tmp 71)],#[T4,T4]⟩,none⟩,asg 4 72]) (.ret)) (.seq (.reg [⟨some 74,.binOp .eql T0 (.tmp 6) (.const (.int .i64 2)) T0,none⟩,asg 73 74]) (.cond (.tmp 73) (.seq (.reg [mv 75 0,mv 76 1,⟨some 77,.binOp .and T1 (.tmp 76) (.const (.int .u32 127)) T1,none⟩,⟨some 78,.binOp .or T1 (.tmp 77) (.const (.int .u32 128)) T1,none⟩,⟨some 79,.convert T1 T2 (.tmp 78),none⟩,mv 80 1,⟨some 81,.binOp .shr T1 (.tmp 80) (.const (.int .u64 7)) T3,none⟩,⟨some 82,.convert T1 T2 (.tmp 81),none⟩,⟨some 83,.buildSlice T4 2 #[(0,(.tmp 79)),(1,(.tmp 82))],none⟩,⟨some 84,.call ⟨.builtin .append,#[(.tmp 75),(.tmp 83)],#[T4,T4]⟩,none⟩,asg 4 84]) (.ret)) (.seq (.reg [⟨some 86,.binOp .eql T0 (.tmp 6) (.const (.int .i64 1)) T0,none⟩,asg 85 86]) (.cond (.tmp 85) (.seq (.reg [mv 87 0,mv 88 1,⟨some 89,.convert T1 T2 (.tmp 88),none⟩,⟨some 90,.buildSlice T4 1 #[(0,(.tmp 89))],none⟩,⟨some 91,.call ⟨.builtin .append,#[(.tmp 87),(.tmp 90)],#[T4,T4]⟩,none⟩,asg 4 91]) (.ret)) (.skip))))))))))))) (.seq (.reg [mv 92 0,asg 4 92]) (.ret)))
def sc_AppendString (T0 T1 T2 T3 F0:Nat):SC:=.seq (.reg [⟨some 4,.assign (.const (.slice none 0 0)),none⟩]) (.seq (.reg [mv 5 0,mv 6 1,lenOp 7 T0 6,⟨some 8,.convert T1 T2 (.tmp 7),none⟩,cal 9 F0 [5,8],asg 0 9]) (.seq (.reg [mv 10 0,mv 11 1,⟨some 12,.call ⟨.builtin .append,#[(.tmp 10),(.tmp 11)],#[T3,T0]⟩,none⟩,asg 4 12]) (.ret)))
def sc_AppendCompactString (T0 T1 T2 T3 F0:Nat):SC:=.seq (.reg [⟨some 4,.assign (.const (.slice none 0 0)),none⟩]) (.seq (.reg [mv 5 0,mv 6 1,lenOp 7 T0 6,⟨some 8,.convert T1 T2 (.tmp 7),none⟩,⟨some 9,.binOp .add T2 (.const (.int .u32 1)) (.tmp 8) T2,none⟩,cal 10 F0 [5,9],asg 0 10]) (.seq (.reg [mv 11 0,mv 12 1,⟨some 13,.call ⟨.builtin .append,#[(.tmp 11),(.tmp 12)],#[T3,T0]⟩,none⟩,asg 4 13]) (.ret)))
def sc_AppendNullableString (T0 T1 F0 F1:Nat):SC:=.seq (.reg [⟨some 4,.assign (.const (.slice none 0 0)),none⟩]) (.seq (.seq (.reg [mv 5 1,⟨some 6,.binOp .eql T0 (.tmp 5) (.const (.pointer none)) T0,none⟩]) (.cond (.tmp 6) (.seq (.reg [mv 7 0,⟨some 8,.call ⟨.value (.func F0),#[(.tmp 7),(.const (.int .i16 (-1)))],#[]⟩,none⟩,asg 4 8]) (.ret)) (.skip))) (.seq (.reg [mv 9 0,mv 10 1,nilc 11 10,ld 12 T1 11,cal 13 F1 [9,12],asg 4 13]) (.ret)))
def sc_AppendCompactNullableString (T0 T1 F0 F1:Nat):SC:=.seq (.reg [⟨some 4,.assign (.const (.slice none 0 0)),none⟩]) (.seq (.seq (.reg [mv 5 1,⟨some 6,.binOp .eql T0 (.tmp 5) (.const (.pointer none)) T0,none⟩]) (.cond (.tmp 6) (.seq (.reg [mv 7 0,⟨some 8,.call ⟨.value (.func F0),#[(.tmp 7),(.const (.int .u32 0))],#[]⟩,none⟩,asg 4 8]) (.ret)) (.skip))) (.seq (.reg [mv 9 0,mv 10 1,nilc 11 10,ld 12 T1 11,cal 13 F1 [9,12],asg 4 13]) (.ret)))
def sc_AppendArrayLen (T0 T1 F0:Nat):SC:=.seq (.reg [⟨some 4,.assign (.const (.slice none 0 0)),none⟩]) (.seq (.reg [mv 5 0,mv 6 1,⟨some 7,.convert T0 T1 (.tmp 6),none⟩,cal 8 F0 [5,7],asg 4 8]) (.ret))
def sc_AppendCompactArrayLen (T0 T1 F0:Nat):SC:=.seq (.reg [⟨some 4,.assign (.const (.slice none 0 0)),none⟩]) (.seq (.reg [mv 5 0,mv 6 1,⟨some 7,.convert T0 T1 (.tmp 6),none⟩,⟨some 8,.binOp .add T1 (.const (.int .u32 1)) (.tmp 7) T1,none⟩,cal 9 F0 [5,8],asg 4 9]) (.ret))
def sc_AppendUuid (T0 T1:Nat):SC:=.seq (.reg [⟨some 3,.box T0 (.tmp 1),none⟩,⟨some 4,.assign (.const (.slice none 0 0)),none⟩]) (.seq (.reg [mv 5 0,⟨some 6,.slice T0 (.tmp 3) none none none,none⟩,⟨some 7,.call ⟨.builtin .append,#[(.tmp 5),(.tmp 6)],#[T1,T1]⟩,none⟩,asg 4 7]) (.ret))
def sc_Len32 (T0 T1 T2 T3 T4:Nat):SC:=.seq (.reg [⟨some 2,.assign (.const (.int .i64 0)),none⟩]) (.seq (.seq (.reg [mv 3 0,⟨some 4,.binOp .geq T0 (.tmp 3) (.const (.int .u32 65536)) T0,none⟩]) (.cond (.tmp 4) (.seq (.reg [mv 5 0,⟨some 6,.binOp .shr T0 (.tmp 5) (.const (.int .u64 16)) T1,none⟩,asg 0 6]) (.reg [⟨some 2,.assign (.const (.int .i64 16)),none⟩])) (.skip))) (.seq (.seq (.reg [mv 7 0,⟨some 8,.binOp .geq T0 (.tmp 7) (.const (.int .u32 256)) T0,none⟩]) (.cond (.tmp 8) (.seq (.reg [mv 9 0,⟨some 10,.binOp .shr T0 (.tmp 9) (.const (.int .u64 8)) T1,none⟩,asg 0 10]) (.reg [mv 11 2,⟨some 12,.binOp .add T2 (.tmp 11) (.const (.int .i64 8)) T2,none⟩,asg 2 12])) (.skip))) (.seq (.reg [mv 13 2,mv 14 0,⟨some 15,.convert T0 T3 (.tmp 14),none⟩,⟨some 16,.index T4 (.const (.string sc_lenTab)) (.tmp 15),none⟩,⟨some 17,.convert T3 T2 (.tmp 16),none⟩,⟨some 18,.binOp .add T2 (.tmp 13) (.tmp 17) T2,none⟩,asg 2 18]) (.ret))))
def IsLen (n L:Nat):Prop:=∀ k,L<=k ↔ n < 2 ^ k
theorem IsLen.shift {n L m:Nat} (h:IsLen (n / 2 ^ m) L) (hn:2 ^ m<=n):IsLen n (m+L):=by
 intro k
 have hpos:0 < 2 ^ m:=Nat.pow_pos (by decide)
 constructor
 ·intro hk
  have h1:=(h (k - m)).1 (by omega)
  rw [Nat.div_lt_iff_lt_mul hpos,<- Nat.pow_add] at h1
  rwa [show k - m+m=k by omega] at h1
 ·intro hk
  by_cases hm:m<=k
  ·have:n / 2 ^ m < 2 ^ (k - m):=by
    rw [Nat.div_lt_iff_lt_mul hpos,<- Nat.pow_add,show k - m+m=k by omega]
    exact hk
   have:=(h (k - m)).2 this
   omega
  ·have:2 ^ k<=2 ^ m:=Nat.pow_le_pow_right (by decide) (by omega)
   omega
def len8 (n:Nat):Nat:=if n=0 then 0 else n.log2+1
theorem len8_ok (n:Nat):IsLen n (len8 n):=by
 intro k
 unfold len8
 split
 ·rename_i h
  subst h
  simp [Nat.pow_pos]
 ·rename_i h
  rw [<- Nat.log2_lt h]
  omega
theorem opw_indexStr {P:Program} {a:Act} {w:World} {K:Act->World->Prop} {d:Option Tmp} {g:Option (Nat × Bool)} {T:TypeId} {s:ByteArray} {x:Operand} {k:IntKind} {i:Nat} (hT:P.underlying T=some .string) (hx:a.eval x=.int k (i:Int)) (hi:i < s.size)
  (h:K (a.put d (.int .u8 ((s.data.getD i 0).toNat:Int))) w):opw P ⟨d,.index T (.const (.string s)) x,g⟩ a w K:=by
 refine oVa (by simp) (fun p hp=>?_) h
 simp [execOp,hp,hx,eCo,Instr.index,asIntOf,run_underlying hT,hi]
 rfl
def strB (P:Program) (T:TypeId):Bool :=
 match P.underlying T with
 | some .string=>true
 | _=>false
theorem str_of {P:Program} {T:TypeId} (h:strB P T=true):P.underlying T=some .string:=by
 unfold strB at h
 split at h <;> simp_all
theorem lenTab_size:sc_lenTab.size=256:=by decide +kernel
theorem uvTab_size:sc_uvTab.size=256:=by decide +kernel
theorem lenTab_ok:∀ i,i < 256->((sc_lenTab.data.getD i 0).toNat=len8 i):=by decide +kernel
theorem uvTab_ok:∀ i,i<=32->((sc_uvTab.data.getD i 0).toNat=max 1 ((i+6) / 7)):=by decide +kernel
section
variable {P:Program} {tU8:Nat}
theorem len32_ok {f:FuncId} {fn:Func} {T0 T1 T2 T3 T4:Nat} (hf:P.funcs[f]?=some fn) (hb:fn.body.map strip=some (sc_Len32 T0 T1 T2 T3 T4)) (hn:fn.ntmps=19) (hr:fn.results=#[.tmp 2])
  (h0:intB P T0 .u32=true) (h3:intB P T3 .u8=true) (h4:strB P T4=true) (h2:intB P T2 .i64=true) (n:Nat) (hn32:n < 4294967296) (w:World) :
  Calls P f #[.int .u32 (n:Int)] w fun e w'=>(∃ L:Nat,IsLen n L/\e=.returned (.int .i64 (L:Int)))/\w=w':=by
 refine fCa hf hb hn (by simp) fun a0 hs hd ha=>?_
 have hx:=ha 0 _ rfl
 generalize hR:bodyPost P fn _=Q
 have hQ:∀ (a:Act) (L:Nat),a.defers=[]->getT a 2=.int .i64 (L:Int)->IsLen n L->Q .ret a w:=by
  intro a L h1 h2 h3
  subst hR
  exact ret_tmp hr h1 ⟨⟨L,h3,by rw [h2]⟩,rfl⟩
 clear hR
 have last:∀ (a:Act) (m c:Nat),a.tmps.size=19->a.defers=[]->getT a 0=.int .u32 (m:Int)->getT a 2=.int .i64 (c:Int)->m < 256->c<=24->(∀ L,IsLen m L->IsLen n (c+L)) ->
   (SC.seq (.reg [mv 13 2,mv 14 0,⟨some 15,.convert T0 T3 (.tmp 14),none⟩,⟨some 16,.index T4 (.const (.string sc_lenTab)) (.tmp 15),none⟩,⟨some 17,.convert T3 T2 (.tmp 16),none⟩,⟨some 18,.binOp .add T2 (.tmp 13) (.tmp 17) T2,none⟩,asg 2 18]) .ret).wp P Q a w:=by
  intro a m c hs hd hm hc hm256 hc24 hL
  have hl8:len8 m<=8:=(len8_ok m 8).2 (by omega)
  refine wSq (wRg (ops_mv (ops_mv (oNo rfl (opw_convert h0 h3 (n:=(m:Int)) ?_ (oNo rfl (opw_indexStr (str_of h4) (k:=.u8) (i:=m) ?_ ?_ (oNo rfl (opw_convert h3 h2 (n:=(len8 m:Int)) ?_ (oNo rfl (opw_arith (op:=.add) (k:=.i64) (m:=(c:Int)) (n:=(len8 m:Int)) (r:=((c+len8 m:Nat):Int)) ?_ ?_ (.inl ⟨rfl,?_⟩) (ops_asg (oNi ?_)))))))))))))
  ·simp (disch:=(try simp only [sPu]);omega) [eTm,gTp,gTn]
   exact hm
  ·rw [eTm,gTp (by (try simp only [sPu]);omega),wrap_u8]
   congr 1
   omega
  ·rw [lenTab_size]
   exact hm256
  ·rw [eTm,gTp (by (try simp only [sPu]);omega),lenTab_ok m hm256]
  ·simp (disch:=(try simp only [sPu]);omega) [eTm,gTp,gTn]
   exact hc
  ·rw [eTm,gTp (by (try simp only [sPu]);omega),IntWalk.i64_in _ (by omega)]
  ·rw [IntWalk.i64_in _ (by omega)]
   simp
  ·refine wRt (hQ _ (c+len8 m) ?_ ?_ (hL _ (len8_ok m)))
   ·simp [dPu,hd]
   ·simp (disch:=(try simp only [sPu]);omega) [gTp]
 have second:∀ (a:Act) (m c:Nat),a.tmps.size=19->a.defers=[]->getT a 0=.int .u32 (m:Int)->getT a 2=.int .i64 (c:Int)->m < 65536->c<=16->(∀ L,IsLen m L->IsLen n (c+L)) ->
   (SC.seq (.seq (.reg [mv 7 0,⟨some 8,.binOp .geq T0 (.tmp 7) (.const (.int .u32 256)) T0,none⟩]) (.cond (.tmp 8) (.seq (.reg [mv 9 0,⟨some 10,.binOp .shr T0 (.tmp 9) (.const (.int .u64 8)) T1,none⟩,asg 0 10]) (.reg [mv 11 2,⟨some 12,.binOp .add T2 (.tmp 11) (.const (.int .i64 8)) T2,none⟩,asg 2 12])) .skip))
    (.seq (.reg [mv 13 2,mv 14 0,⟨some 15,.convert T0 T3 (.tmp 14),none⟩,⟨some 16,.index T4 (.const (.string sc_lenTab)) (.tmp 15),none⟩,⟨some 17,.convert T3 T2 (.tmp 16),none⟩,⟨some 18,.binOp .add T2 (.tmp 13) (.tmp 17) T2,none⟩,asg 2 18]) .ret)).wp P Q a w:=by
  intro a m c hs hd hm hc hmlt hc16 hL
  refine wSq (wSq (wRg (ops_mv (oNo rfl (opw_cmp (op:=.geq) (k:=.u32) (m:=(m:Int)) (n:=256) (r:=decide (256<=m)) ?_ rfl (by simp;omega) (oNi ?_))))))
  ·rw [eTm,gTp (by (try simp only [sPu]);omega)]
   exact hm
  refine wCd (t:=decide (256<=m)) (by rw [eTm,gTp (by (try simp only [sPu]);omega)]) ?_
  by_cases h:256<=m
  ·rw [if_pos (by simpa using h)]
   refine wSq (wRg (ops_mv (oNo rfl (opw_shr (n:=8) (k:=.u32) (m:=(m:Int)) ?_ (by decide) (ops_asg (oNi ?_))))))
   ·simp (disch:=(try simp only [sPu]);omega) [eTm,gTp,gTn]
    exact hm
   refine wRg (ops_mv (oNo rfl (opw_arith (op:=.add) (k:=.i64) (m:=(c:Int)) (n:=8) (r:=((c+8:Nat):Int)) ?_ rfl (.inl ⟨rfl,?_⟩) (ops_asg (oNi ?_)))))
   ·simp (disch:=(try simp only [sPu]);omega) [eTm,gTp,gTn]
    exact hc
   ·rw [IntWalk.i64_in _ (by omega)]
    simp
   refine last _ (m / 256) (c+8) (by simp [sPu,hs]) (by simp [dPu,hd]) ?_ ?_ (by omega) (by omega) ?_
   ·simp (disch:=(try simp only [sPu]);omega) [gTp,gTn]
   ·simp (disch:=(try simp only [sPu]);omega) [gTp,gTn]
   ·intro L hLm
    have:=hL _ (IsLen.shift (m:=8) hLm (by omega))
    rwa [<- Nat.add_assoc] at this
  ·rw [if_neg (by simpa using h)]
   refine wSk (last _ m c (by simp [sPu,hs]) (by simp [dPu,hd]) ?_ ?_ (by omega) (by omega) hL)
   ·simp (disch:=omega) [gTn]
    exact hm
   ·simp (disch:=omega) [gTn]
    exact hc
 refine wSq (wRg (oNo rfl (opw_assign (oNi ?_))))
 rw [eCo]
 refine wSq (wSq (wRg (ops_mv (oNo rfl (opw_cmp (op:=.geq) (k:=.u32) (m:=(n:Int)) (n:=65536) (r:=decide (65536<=n)) ?_ rfl (by simp;omega) (oNi ?_))))))
 ·simp (disch:=(try simp only [sPu]);omega) [eTm,gTp,gTn]
  exact hx
 refine wCd (t:=decide (65536<=n)) (by rw [eTm,gTp (by (try simp only [sPu]);omega)]) ?_
 by_cases h:65536<=n
 ·rw [if_pos (by simpa using h)]
  refine wSq (wRg (ops_mv (oNo rfl (opw_shr (n:=16) (k:=.u32) (m:=(n:Int)) ?_ (by decide) (ops_asg (oNi ?_))))))
  ·simp (disch:=(try simp only [sPu]);omega) [eTm,gTp,gTn]
   exact hx
  refine wRg (oNo rfl (opw_assign (oNi ?_)))
  rw [eCo]
  refine second _ (n / 65536) 16 (by simp [sPu,hs]) (by simp [dPu,hd]) ?_ ?_ (by omega) (by omega) ?_
  ·simp (disch:=(try simp only [sPu]);omega) [gTp,gTn]
  ·simp (disch:=(try simp only [sPu]);omega) [gTp]
  ·intro L hLm
   exact IsLen.shift (m:=16) hLm (by omega)
 ·rw [if_neg (by simpa using h)]
  refine wSk (second _ n 0 (by simp [sPu,hs]) (by simp [dPu,hd]) ?_ ?_ (by omega) (by omega) (fun L hL=>by rwa [Nat.zero_add]))
  ·simp (disch:=omega) [gTn]
   exact hx
  ·simp (disch:=(try simp only [sPu]);omega) [gTp,gTn]
theorem uvarintLen_ok {f g:FuncId} {fn:Func} {T0 T1 T2:Nat} (hf:P.funcs[f]?=some fn) (hb:fn.body.map strip=some (sc_UvarintLen T0 T1 T2 g)) (hn:fn.ntmps=8) (hr:fn.results=#[.tmp 2])
  (h0:intB P T0 .i64=true) (h1:intB P T1 .u8=true) (h2:strB P T2=true) (hok:FnOK P g)
  (hg:∀ (n:Nat) (w:World),n < 4294967296->Calls P g #[.int .u32 (n:Int)] w fun e w'=>(∃ L:Nat,IsLen n L/\e=.returned (.int .i64 (L:Int)))/\w=w') (n:Nat) (hn32:n < 4294967296) (w:World) :
  Calls P f #[.int .u32 (n:Int)] w fun e w'=>(∃ L:Nat,IsLen n L/\e=.returned (.int .i64 ((max 1 ((L+6) / 7):Nat):Int)))/\w=w':=by
 refine fCa hf hb hn (by simp) fun a0 hs hd ha=>?_
 have hx:=ha 0 _ rfl
 refine wSq (wRg (oNo rfl (opw_assign (oNi ?_))))
 refine wSq (wRg (ops_mv ?_))
 refine ops_cal hok (R:=fun e w'=>(∃ L:Nat,IsLen n L/\e=.returned (.int .i64 (L:Int)))/\w=w') ?_ ?_
 ·refine Eq.mp (congrArg (fun z=>Calls P g z w _) ?_) (hg n w hn32)
  simp (disch:=(try simp only [sPu]);omega) [gTp,gTn]
  exact hx.symm
 rintro e w' ⟨⟨L,hL,rfl⟩,rfl⟩
 have hL32:L<=32:=(hL 32).2 (by omega)
 refine ⟨_,rfl,oNo rfl (opw_convert h0 h1 (n:=(L:Int)) ?_ (oNo rfl (opw_indexStr (str_of h2) (k:=.u8) (i:=L) ?_ ?_ (oNo rfl (opw_convert h1 h0 (n:=((max 1 ((L+6) / 7):Nat):Int)) ?_ (ops_asg (oNi ?_)))))))⟩
 ·rw [eTm,gTp (by (try simp only [sPu]);omega)]
 ·rw [eTm,gTp (by (try simp only [sPu]);omega),wrap_u8]
  congr 1
  omega
 ·rw [uvTab_size]
  omega
 ·rw [eTm,gTp (by (try simp only [sPu]);omega),uvTab_ok L hL32]
 refine wRt ?_
 try simp only [Exit.then]
 refine ret_tmp hr (by simp [dPu,hd]) ⟨⟨L,hL,?_⟩,rfl⟩
 rw [gTp (by (try simp only [sPu]);omega),gTp (by (try simp only [sPu]);omega),IntWalk.i64_in _ (by omega)]
end
theorem uvarint_lt {n:Nat} (h:n<=127):uvarint n=[UInt8.ofNat n]:=by
 rw [uvarint,dif_pos h]
theorem uvarint_ge {n:Nat} (h:127 < n):uvarint n=UInt8.ofNat (n % 128+128) :: uvarint (n / 128):=by
 rw [uvarint,dif_neg (by omega)]
theorem cell_ofNat {m:Nat} (h:m < 256):cell (UInt8.ofNat m)=.int .u8 (m:Int):=by
 unfold cell
 rw [UInt8.toNat_ofNat_of_lt' h]
section
variable {P:Program} {a:Act} {w:World} {K:Act->World->Prop} {d:Option Tmp} {g:Option (Nat × Bool)}
theorem opw_and7 {T T':TypeId} {x:Operand} {m:Nat} (hx:a.eval x=.int .u32 (m:Int)) (h:K (a.put d (.int .u32 ((m % 128:Nat):Int))) w):opw P ⟨d,.binOp .and T x (.const (.int .u32 127)) T',g⟩ a w K:=by
 refine oVa (by simp) (fun p hp=>?_) h
 have e:IntKind.u32.wrap (((BitVec.ofInt IntKind.u32.bits (m:Int)) &&& (BitVec.ofInt IntKind.u32.bits 127)).toNat:Int)=((m % 128:Nat):Int):=by
  have h1:((BitVec.ofInt 32 (m:Int)) &&& (BitVec.ofInt 32 127)).toNat=(m % 4294967296) % 128:=by
   rw [BitVec.toNat_and]
   have e1:(BitVec.ofInt 32 (m:Int)).toNat=m % 4294967296:=by simp [BitVec.toNat_ofInt]
   have e2:(BitVec.ofInt 32 127).toNat=2 ^ 7 - 1:=by decide
   rw [e1,e2,Nat.and_two_pow_sub_one_eq_mod]
  show IntKind.u32.wrap (((BitVec.ofInt 32 (m:Int)) &&& (BitVec.ofInt 32 127)).toNat:Int)=_
  rw [h1,wrap_u32]
  omega
 simp only [execOp,hp,hx,eCo]
 simp [run_eqGuard_int,binOp,Op.intBits]
 exact e
theorem opw_or7 {T T':TypeId} {x:Operand} {m:Nat} (hx:a.eval x=.int .u32 (m:Int)) (hm:m < 128) (h:K (a.put d (.int .u32 ((m+128:Nat):Int))) w):opw P ⟨d,.binOp .or T x (.const (.int .u32 128)) T',g⟩ a w K:=by
 refine oVa (by simp) (fun p hp=>?_) h
 have e:IntKind.u32.wrap (((BitVec.ofInt IntKind.u32.bits (m:Int)) ||| (BitVec.ofInt IntKind.u32.bits 128)).toNat:Int)=((m+128:Nat):Int):=by
  have h1:((BitVec.ofInt 32 (m:Int)) ||| (BitVec.ofInt 32 128)).toNat=m+128:=by
   rw [BitVec.toNat_or]
   have e1:(BitVec.ofInt 32 (m:Int)).toNat=m:=by simp [BitVec.toNat_ofInt];omega
   have e2:(BitVec.ofInt 32 128).toNat=2 ^ 7 * 1:=by decide
   rw [e1,e2,Nat.or_comm,<- Nat.two_pow_add_eq_or_of_lt (by omega) 1]
   omega
  show IntKind.u32.wrap (((BitVec.ofInt 32 (m:Int)) ||| (BitVec.ofInt 32 128)).toNat:Int)=_
  rw [h1,wrap_u32]
  omega
 simp only [execOp,hp,hx,eCo]
 simp [run_eqGuard_int,binOp,Op.intBits]
 exact e
theorem opw_shrN {T T' n:Nat} {yk:IntKind} {x:Operand} {m:Nat} (hx:a.eval x=.int .u32 (m:Int)) (hn:n<=32) (h:K (a.put d (.int .u32 ((m / 2 ^ n:Nat):Int))) w):opw P ⟨d,.binOp .shr T x (.const (.int yk (n:Int))) T',g⟩ a w K:=by
 refine opw_shr hx hn ?_
 have e:(m:Int) / (2 ^ n:Int)=((m / 2 ^ n:Nat):Int):=by norm_cast
 rw [e]
 exact h
theorem opw_conv8 {S T:TypeId} {x:Operand} {m:Nat} (hS:intB P S .u32=true) (hT:intB P T .u8=true) (hx:a.eval x=.int .u32 (m:Int)) (hm:m < 256) (h:K (a.put d (.int .u8 (m:Int))) w):opw P ⟨d,.convert S T x,g⟩ a w K:=by
 refine opw_convert hS hT hx ?_
 rw [wrap_u8,show (m:Int) % 256=(m:Int) by omega]
 exact h
end
section
variable {P:Program} {tU8:Nat}
set_option maxHeartbeats 1000000 in
theorem appendUvarint2_ok {f g : FuncId} {fn : Func} {T0 T1 T2 T3 T4 : Nat} (hf : P.funcs[f]? = some fn) (hb : fn.body.map strip = some (sc_AppendUvarint T0 T1 T2 T3 T4 g)) (hnm : (fn.name == "runtime.NumGoroutine") = false) (hn : fn.ntmps = 93) (hr : fn.results = #[.tmp 4])
  (hT:u8sB P T4 tU8=true) (hU:intB P T1 .u32=true) (hU8:intB P T2 .u8=true) (hok:FnOK P g)
  (hg:∀ (n:Nat) (w:World),n < 4294967296->Calls P g #[.int .u32 (n:Int)] w fun e w'=>(∃ L:Nat,IsLen n L/\e=.returned (.int .i64 ((max 1 ((L+6) / 7):Nat):Int)))/\w=w') (n:Nat) (hn32:n < 4294967296) :
  AP2 P tU8 f #[.int .u32 (n:Int)] (uvarint n):=by
 refine AP_of2 hf hb hnm hn (by simp) fun w B dv xs a0 ho hB hl hs hd hh0 ha=>?_
 have hx0:=ha 0 (.int .u32 n) rfl
 generalize hR:bodyPost P fn _=Q
 have hfin:∀ (dv':Value) (w2:World) (a':Act),Own tU8 w2 B dv' (xs ++ uvarint n)->BelG B dv dv' w w2->B<=w2.heap.size->a'.defers=[]->getT a' 4=dv'->Q .ret a' w2:=by
  intro dv' w2 a' q1 q2 q3 q4 q5
  subst hR
  exact ret_tmp hr q4 ⟨dv',by rw [q5],q1,q2,q3⟩
 clear hR
 refine wSq (wRg (oNo rfl (opw_assign (oNi ?_))))
 refine wSq (wSq (wRg (ops_mv ?_)))
 refine ops_cal hok (R:=fun e w'=>(∃ L:Nat,IsLen n L/\e=.returned (.int .i64 ((max 1 ((L+6) / 7):Nat):Int)))/\w=w') ?_ ?_
 ·refine Eq.mp (congrArg (fun z=>Calls P g z w _) ?_) (hg n w hn32)
  simp (disch:=(try simp only [sPu]);omega) [gTp,gTn]
  exact hx0.symm
 rintro e w' ⟨⟨L,hL,rfl⟩,rfl⟩
 refine ⟨_,rfl,oNi ?_⟩
 have hL32:L<=32:=(hL 32).2 (by omega)
 have l7:=hL 7
 have l14:=hL 14
 have l21:=hL 21
 have l28:=hL 28
 generalize ha1:((a0.put (some 4) (a0.eval (.const (.slice none 0 0)))).put (some 5) (getT (a0.put (some 4) (a0.eval (.const (.slice none 0 0)))) 1)).put (some 6) (.int .i64 ((max 1 ((L+6) / 7):Nat):Int))=a1
 have h6:getT a1 6=.int .i64 ((max 1 ((L+6) / 7):Nat):Int):=by rw [<- ha1];simp (disch:=(try simp only [sPu]);omega) [gTp]
 have hd0:getT a1 0=dv:=by rw [<- ha1];simp (disch:=omega) [gTn,hh0]
 have hx:getT a1 1=.int .u32 (n:Int):=by rw [<- ha1];simp (disch:=omega) [gTn];exact hx0
 have hs':a1.tmps.size=93:=by rw [<- ha1];simp [sPu,hs]
 have hd':a1.defers=[]:=by rw [<- ha1];simp [dPu,hd]
 clear ha1 hs hd
 have hs:=hs'
 have hd:=hd'
 obtain hk | hk | hk | hk | hk:max 1 ((L+6) / 7)=1∨max 1 ((L+6) / 7)=2∨max 1 ((L+6) / 7)=3∨max 1 ((L+6) / 7)=4∨max 1 ((L+6) / 7)=5:=by omega
 ·rw [hk] at h6
  have huv:uvarint n=[UInt8.ofNat n]:=by
    rw [uvarint_lt (by omega)]
  have hcell:cellsOf (uvarint n)=[.int .u8 (n:Int)]:=by
   rw [huv]
   simp only [cellsOf,List.map_cons,List.map_nil]
   rw [cell_ofNat (by omega)]
  have hulen:(uvarint n).length=1:=by rw [huv];rfl
  refine wBk (wSq (wRg (oNo rfl (opw_cmp (op:=.eql) (k:=.i64) (m:=1) (n:=5) (r:=false) ?_ rfl (by decide) (ops_asg (oNi ?_))))))
  ·simp (disch:=(try simp only [sPu]);omega) [eTm,gTp,gTn,h6]
  refine wCd (t:=false) (by simp (disch:=(try simp only [sPu]);omega) [eTm,gTp]) ?_
  rw [if_neg (by decide)]
  refine wSq (wRg (oNo rfl (opw_cmp (op:=.eql) (k:=.i64) (m:=1) (n:=4) (r:=false) ?_ rfl (by decide) (ops_asg (oNi ?_)))))
  ·simp (disch:=(try simp only [sPu]);omega) [eTm,gTp,gTn,h6]
  refine wCd (t:=false) (by simp (disch:=(try simp only [sPu]);omega) [eTm,gTp]) ?_
  rw [if_neg (by decide)]
  refine wSq (wRg (oNo rfl (opw_cmp (op:=.eql) (k:=.i64) (m:=1) (n:=3) (r:=false) ?_ rfl (by decide) (ops_asg (oNi ?_)))))
  ·simp (disch:=(try simp only [sPu]);omega) [eTm,gTp,gTn,h6]
  refine wCd (t:=false) (by simp (disch:=(try simp only [sPu]);omega) [eTm,gTp]) ?_
  rw [if_neg (by decide)]
  refine wSq (wRg (oNo rfl (opw_cmp (op:=.eql) (k:=.i64) (m:=1) (n:=2) (r:=false) ?_ rfl (by decide) (ops_asg (oNi ?_)))))
  ·simp (disch:=(try simp only [sPu]);omega) [eTm,gTp,gTn,h6]
  refine wCd (t:=false) (by simp (disch:=(try simp only [sPu]);omega) [eTm,gTp]) ?_
  rw [if_neg (by decide)]
  refine wSq (wRg (oNo rfl (opw_cmp (op:=.eql) (k:=.i64) (m:=1) (n:=1) (r:=true) ?_ rfl (by decide) (ops_asg (oNi ?_)))))
  ·simp (disch:=(try simp only [sPu]);omega) [eTm,gTp,gTn,h6]
  refine wCd (t:=true) (by simp (disch:=(try simp only [sPu]);omega) [eTm,gTp]) ?_
  rw [if_pos rfl]
  refine wSq (wRg (ops_mv (ops_mv (oNo rfl (opw_conv8 hU hU8 (m:=n) ?_ ?_ (ops_retBytes (B:=B) (dv:=dv) (xs:=xs) (bs:=uvarint n) hT ?_ (by decide) (by decide) ?_ ho hB hl ?_ (by decide) (by simp only [sPu];omega) ?_ (by simp only [sPu];omega)))))))
  ·simp (disch:=(try simp only [sPu]);omega) [eTm,gTp,gTn]
   exact hx
  ·omega
  ·rw [huv];rfl
  ·rw [hcell,hulen]
   simp (disch:=(try simp only [sPu]);omega) [eTm,gTp,gTn,List.range']
  ·simp (disch:=(try simp only [sPu]);omega) [gTp,gTn,hd0]
  ·intro dv' w2 a' q1 q2 q3 q4 q5 q6
   refine wRt ?_
   simp only [Exit.then,Exit.inBlock]
   exact hfin dv' w2 a' q1 q2 q3 (by rw [q5];simp [dPu,hd]) q6
 ·rw [hk] at h6
  have huv:uvarint n=[UInt8.ofNat (n % 128+128),UInt8.ofNat (n / 2 ^ 7)]:=by
    rw [uvarint_ge (by omega),uvarint_lt (by omega)]
    try simp [Nat.div_div_eq_div_mul]
  have hcell:cellsOf (uvarint n)=[.int .u8 ((n % 128+128:Nat):Int),.int .u8 ((n / 2 ^ 7:Nat):Int)]:=by
   rw [huv]
   simp only [cellsOf,List.map_cons,List.map_nil]
   rw [cell_ofNat (by omega),cell_ofNat (by omega)]
  have hulen:(uvarint n).length=2:=by rw [huv];rfl
  refine wBk (wSq (wRg (oNo rfl (opw_cmp (op:=.eql) (k:=.i64) (m:=2) (n:=5) (r:=false) ?_ rfl (by decide) (ops_asg (oNi ?_))))))
  ·simp (disch:=(try simp only [sPu]);omega) [eTm,gTp,gTn,h6]
  refine wCd (t:=false) (by simp (disch:=(try simp only [sPu]);omega) [eTm,gTp]) ?_
  rw [if_neg (by decide)]
  refine wSq (wRg (oNo rfl (opw_cmp (op:=.eql) (k:=.i64) (m:=2) (n:=4) (r:=false) ?_ rfl (by decide) (ops_asg (oNi ?_)))))
  ·simp (disch:=(try simp only [sPu]);omega) [eTm,gTp,gTn,h6]
  refine wCd (t:=false) (by simp (disch:=(try simp only [sPu]);omega) [eTm,gTp]) ?_
  rw [if_neg (by decide)]
  refine wSq (wRg (oNo rfl (opw_cmp (op:=.eql) (k:=.i64) (m:=2) (n:=3) (r:=false) ?_ rfl (by decide) (ops_asg (oNi ?_)))))
  ·simp (disch:=(try simp only [sPu]);omega) [eTm,gTp,gTn,h6]
  refine wCd (t:=false) (by simp (disch:=(try simp only [sPu]);omega) [eTm,gTp]) ?_
  rw [if_neg (by decide)]
  refine wSq (wRg (oNo rfl (opw_cmp (op:=.eql) (k:=.i64) (m:=2) (n:=2) (r:=true) ?_ rfl (by decide) (ops_asg (oNi ?_)))))
  ·simp (disch:=(try simp only [sPu]);omega) [eTm,gTp,gTn,h6]
  refine wCd (t:=true) (by simp (disch:=(try simp only [sPu]);omega) [eTm,gTp]) ?_
  rw [if_pos rfl]
  refine wSq (wRg (ops_mv (ops_mv (oNo rfl (opw_and7 (m:=n) ?_ (oNo rfl (opw_or7 (m:=(n) % 128) ?_ ?_ (oNo rfl (opw_conv8 hU hU8 (m:=(n) % 128+128) ?_ ?_ (ops_mv (oNo rfl (opw_shrN (n:=7) (m:=n) ?_ (by decide) (oNo rfl (opw_conv8 hU hU8 (m:=n / 2 ^ 7) ?_ ?_ (ops_retBytes (B:=B) (dv:=dv) (xs:=xs) (bs:=uvarint n) hT ?_ (by decide) (by decide) ?_ ho hB hl ?_ (by decide) (by simp only [sPu];omega) ?_ (by simp only [sPu];omega))))))))))))))))
  ·simp (disch:=(try simp only [sPu]);omega) [eTm,gTp,gTn]
   exact hx
  ·simp (disch:=(try simp only [sPu]);omega) [eTm,gTp,gTn]
  ·omega
  ·simp (disch:=(try simp only [sPu]);omega) [eTm,gTp,gTn]
  ·omega
  ·simp (disch:=(try simp only [sPu]);omega) [eTm,gTp,gTn]
   exact hx
  ·simp (disch:=(try simp only [sPu]);omega) [eTm,gTp,gTn]
  ·omega
  ·rw [huv];rfl
  ·rw [hcell,hulen]
   simp (disch:=(try simp only [sPu]);omega) [eTm,gTp,gTn,List.range']
  ·simp (disch:=(try simp only [sPu]);omega) [gTp,gTn,hd0]
  ·intro dv' w2 a' q1 q2 q3 q4 q5 q6
   refine wRt ?_
   simp only [Exit.then,Exit.inBlock]
   exact hfin dv' w2 a' q1 q2 q3 (by rw [q5];simp [dPu,hd]) q6
 ·rw [hk] at h6
  have huv:uvarint n=[UInt8.ofNat (n % 128+128),UInt8.ofNat ((n / 2 ^ 7) % 128+128),UInt8.ofNat (n / 2 ^ 14)]:=by
    rw [uvarint_ge (by omega),uvarint_ge (by omega),uvarint_lt (by omega)]
    try simp [Nat.div_div_eq_div_mul]
  have hcell:cellsOf (uvarint n)=[.int .u8 ((n % 128+128:Nat):Int),.int .u8 (((n / 2 ^ 7) % 128+128:Nat):Int),.int .u8 ((n / 2 ^ 14:Nat):Int)]:=by
   rw [huv]
   simp only [cellsOf,List.map_cons,List.map_nil]
   rw [cell_ofNat (by omega),cell_ofNat (by omega),cell_ofNat (by omega)]
  have hulen:(uvarint n).length=3:=by rw [huv];rfl
  refine wBk (wSq (wRg (oNo rfl (opw_cmp (op:=.eql) (k:=.i64) (m:=3) (n:=5) (r:=false) ?_ rfl (by decide) (ops_asg (oNi ?_))))))
  ·simp (disch:=(try simp only [sPu]);omega) [eTm,gTp,gTn,h6]
  refine wCd (t:=false) (by simp (disch:=(try simp only [sPu]);omega) [eTm,gTp]) ?_
  rw [if_neg (by decide)]
  refine wSq (wRg (oNo rfl (opw_cmp (op:=.eql) (k:=.i64) (m:=3) (n:=4) (r:=false) ?_ rfl (by decide) (ops_asg (oNi ?_)))))
  ·simp (disch:=(try simp only [sPu]);omega) [eTm,gTp,gTn,h6]
  refine wCd (t:=false) (by simp (disch:=(try simp only [sPu]);omega) [eTm,gTp]) ?_
  rw [if_neg (by decide)]
  refine wSq (wRg (oNo rfl (opw_cmp (op:=.eql) (k:=.i64) (m:=3) (n:=3) (r:=true) ?_ rfl (by decide) (ops_asg (oNi ?_)))))
  ·simp (disch:=(try simp only [sPu]);omega) [eTm,gTp,gTn,h6]
  refine wCd (t:=true) (by simp (disch:=(try simp only [sPu]);omega) [eTm,gTp]) ?_
  rw [if_pos rfl]
  refine wSq (wRg (ops_mv (ops_mv (oNo rfl (opw_and7 (m:=n) ?_ (oNo rfl (opw_or7 (m:=(n) % 128) ?_ ?_ (oNo rfl (opw_conv8 hU hU8 (m:=(n) % 128+128) ?_ ?_ (ops_mv (oNo rfl (opw_shrN (n:=7) (m:=n) ?_ (by decide) (oNo rfl (opw_and7 (m:=n / 2 ^ 7) ?_ (oNo rfl (opw_or7 (m:=(n / 2 ^ 7) % 128) ?_ ?_ (oNo rfl (opw_conv8 hU hU8 (m:=(n / 2 ^ 7) % 128+128) ?_ ?_ (ops_mv (oNo rfl (opw_shrN (n:=14) (m:=n) ?_ (by decide) (oNo rfl (opw_conv8 hU hU8 (m:=n / 2 ^ 14) ?_ ?_ (ops_retBytes (B:=B) (dv:=dv) (xs:=xs) (bs:=uvarint n) hT ?_ (by decide) (by decide) ?_ ho hB hl ?_ (by decide) (by simp only [sPu];omega) ?_ (by simp only [sPu];omega)))))))))))))))))))))))))
  ·simp (disch:=(try simp only [sPu]);omega) [eTm,gTp,gTn]
   exact hx
  ·simp (disch:=(try simp only [sPu]);omega) [eTm,gTp,gTn]
  ·omega
  ·simp (disch:=(try simp only [sPu]);omega) [eTm,gTp,gTn]
  ·omega
  ·simp (disch:=(try simp only [sPu]);omega) [eTm,gTp,gTn]
   exact hx
  ·simp (disch:=(try simp only [sPu]);omega) [eTm,gTp,gTn]
  ·simp (disch:=(try simp only [sPu]);omega) [eTm,gTp,gTn]
  ·omega
  ·simp (disch:=(try simp only [sPu]);omega) [eTm,gTp,gTn]
  ·omega
  ·simp (disch:=(try simp only [sPu]);omega) [eTm,gTp,gTn]
   exact hx
  ·simp (disch:=(try simp only [sPu]);omega) [eTm,gTp,gTn]
  ·omega
  ·rw [huv];rfl
  ·rw [hcell,hulen]
   simp (disch:=(try simp only [sPu]);omega) [eTm,gTp,gTn,List.range']
  ·simp (disch:=(try simp only [sPu]);omega) [gTp,gTn,hd0]
  ·intro dv' w2 a' q1 q2 q3 q4 q5 q6
   refine wRt ?_
   simp only [Exit.then,Exit.inBlock]
   exact hfin dv' w2 a' q1 q2 q3 (by rw [q5];simp [dPu,hd]) q6
 ·rw [hk] at h6
  have huv:uvarint n=[UInt8.ofNat (n % 128+128),UInt8.ofNat ((n / 2 ^ 7) % 128+128),UInt8.ofNat ((n / 2 ^ 14) % 128+128),UInt8.ofNat (n / 2 ^ 21)]:=by
    rw [uvarint_ge (by omega),uvarint_ge (by omega),uvarint_ge (by omega),uvarint_lt (by omega)]
    try simp [Nat.div_div_eq_div_mul]
  have hcell:cellsOf (uvarint n)=[.int .u8 ((n % 128+128:Nat):Int),.int .u8 (((n / 2 ^ 7) % 128+128:Nat):Int),.int .u8 (((n / 2 ^ 14) % 128+128:Nat):Int),.int .u8 ((n / 2 ^ 21:Nat):Int)]:=by
   rw [huv]
   simp only [cellsOf,List.map_cons,List.map_nil]
   rw [cell_ofNat (by omega),cell_ofNat (by omega),cell_ofNat (by omega),cell_ofNat (by omega)]
  have hulen:(uvarint n).length=4:=by rw [huv];rfl
  refine wBk (wSq (wRg (oNo rfl (opw_cmp (op:=.eql) (k:=.i64) (m:=4) (n:=5) (r:=false) ?_ rfl (by decide) (ops_asg (oNi ?_))))))
  ·simp (disch:=(try simp only [sPu]);omega) [eTm,gTp,gTn,h6]
  refine wCd (t:=false) (by simp (disch:=(try simp only [sPu]);omega) [eTm,gTp]) ?_
  rw [if_neg (by decide)]
  refine wSq (wRg (oNo rfl (opw_cmp (op:=.eql) (k:=.i64) (m:=4) (n:=4) (r:=true) ?_ rfl (by decide) (ops_asg (oNi ?_)))))
  ·simp (disch:=(try simp only [sPu]);omega) [eTm,gTp,gTn,h6]
  refine wCd (t:=true) (by simp (disch:=(try simp only [sPu]);omega) [eTm,gTp]) ?_
  rw [if_pos rfl]
  refine wSq (wRg (ops_mv (ops_mv (oNo rfl (opw_and7 (m:=n) ?_ (oNo rfl (opw_or7 (m:=(n) % 128) ?_ ?_ (oNo rfl (opw_conv8 hU hU8 (m:=(n) % 128+128) ?_ ?_ (ops_mv (oNo rfl (opw_shrN (n:=7) (m:=n) ?_ (by decide) (oNo rfl (opw_and7 (m:=n / 2 ^ 7) ?_ (oNo rfl (opw_or7 (m:=(n / 2 ^ 7) % 128) ?_ ?_ (oNo rfl (opw_conv8 hU hU8 (m:=(n / 2 ^ 7) % 128+128) ?_ ?_ (ops_mv (oNo rfl (opw_shrN (n:=14) (m:=n) ?_ (by decide) (oNo rfl (opw_and7 (m:=n / 2 ^ 14) ?_ (oNo rfl (opw_or7 (m:=(n / 2 ^ 14) % 128) ?_ ?_ (oNo rfl (opw_conv8 hU hU8 (m:=(n / 2 ^ 14) % 128+128) ?_ ?_ (ops_mv (oNo rfl (opw_shrN (n:=21) (m:=n) ?_ (by decide) (oNo rfl (opw_conv8 hU hU8 (m:=n / 2 ^ 21) ?_ ?_ (ops_retBytes (B:=B) (dv:=dv) (xs:=xs) (bs:=uvarint n) hT ?_ (by decide) (by decide) ?_ ho hB hl ?_ (by decide) (by simp only [sPu];omega) ?_ (by simp only [sPu];omega))))))))))))))))))))))))))))))))))
  ·simp (disch:=(try simp only [sPu]);omega) [eTm,gTp,gTn]
   exact hx
  ·simp (disch:=(try simp only [sPu]);omega) [eTm,gTp,gTn]
  ·omega
  ·simp (disch:=(try simp only [sPu]);omega) [eTm,gTp,gTn]
  ·omega
  ·simp (disch:=(try simp only [sPu]);omega) [eTm,gTp,gTn]
   exact hx
  ·simp (disch:=(try simp only [sPu]);omega) [eTm,gTp,gTn]
  ·simp (disch:=(try simp only [sPu]);omega) [eTm,gTp,gTn]
  ·omega
  ·simp (disch:=(try simp only [sPu]);omega) [eTm,gTp,gTn]
  ·omega
  ·simp (disch:=(try simp only [sPu]);omega) [eTm,gTp,gTn]
   exact hx
  ·simp (disch:=(try simp only [sPu]);omega) [eTm,gTp,gTn]
  ·simp (disch:=(try simp only [sPu]);omega) [eTm,gTp,gTn]
  ·omega
  ·simp (disch:=(try simp only [sPu]);omega) [eTm,gTp,gTn]
  ·omega
  ·simp (disch:=(try simp only [sPu]);omega) [eTm,gTp,gTn]
   exact hx
  ·simp (disch:=(try simp only [sPu]);omega) [eTm,gTp,gTn]
  ·omega
  ·rw [huv];rfl
  ·rw [hcell,hulen]
   simp (disch:=(try simp only [sPu]);omega) [eTm,gTp,gTn,List.range']
  ·simp (disch:=(try simp only [sPu]);omega) [gTp,gTn,hd0]
  ·intro dv' w2 a' q1 q2 q3 q4 q5 q6
   refine wRt ?_
   simp only [Exit.then,Exit.inBlock]
   exact hfin dv' w2 a' q1 q2 q3 (by rw [q5];simp [dPu,hd]) q6
 ·rw [hk] at h6
  have huv:uvarint n=[UInt8.ofNat (n % 128+128),UInt8.ofNat ((n / 2 ^ 7) % 128+128),UInt8.ofNat ((n / 2 ^ 14) % 128+128),UInt8.ofNat ((n / 2 ^ 21) % 128+128),UInt8.ofNat (n / 2 ^ 28)]:=by
    rw [uvarint_ge (by omega),uvarint_ge (by omega),uvarint_ge (by omega),uvarint_ge (by omega),uvarint_lt (by omega)]
    try simp [Nat.div_div_eq_div_mul]
  have hcell:cellsOf (uvarint n)=[.int .u8 ((n % 128+128:Nat):Int),.int .u8 (((n / 2 ^ 7) % 128+128:Nat):Int),.int .u8 (((n / 2 ^ 14) % 128+128:Nat):Int),.int .u8 (((n / 2 ^ 21) % 128+128:Nat):Int),.int .u8 ((n / 2 ^ 28:Nat):Int)]:=by
   rw [huv]
   simp only [cellsOf,List.map_cons,List.map_nil]
   rw [cell_ofNat (by omega),cell_ofNat (by omega),cell_ofNat (by omega),cell_ofNat (by omega),cell_ofNat (by omega)]
  have hulen:(uvarint n).length=5:=by rw [huv];rfl
  refine wBk (wSq (wRg (oNo rfl (opw_cmp (op:=.eql) (k:=.i64) (m:=5) (n:=5) (r:=true) ?_ rfl (by decide) (ops_asg (oNi ?_))))))
  ·simp (disch:=(try simp only [sPu]);omega) [eTm,gTp,gTn,h6]
  refine wCd (t:=true) (by simp (disch:=(try simp only [sPu]);omega) [eTm,gTp]) ?_
  rw [if_pos rfl]
  refine wSq (wRg (ops_mv (ops_mv (oNo rfl (opw_and7 (m:=n) ?_ (oNo rfl (opw_or7 (m:=(n) % 128) ?_ ?_ (oNo rfl (opw_conv8 hU hU8 (m:=(n) % 128+128) ?_ ?_ (ops_mv (oNo rfl (opw_shrN (n:=7) (m:=n) ?_ (by decide) (oNo rfl (opw_and7 (m:=n / 2 ^ 7) ?_ (oNo rfl (opw_or7 (m:=(n / 2 ^ 7) % 128) ?_ ?_ (oNo rfl (opw_conv8 hU hU8 (m:=(n / 2 ^ 7) % 128+128) ?_ ?_ (ops_mv (oNo rfl (opw_shrN (n:=14) (m:=n) ?_ (by decide) (oNo rfl (opw_and7 (m:=n / 2 ^ 14) ?_ (oNo rfl (opw_or7 (m:=(n / 2 ^ 14) % 128) ?_ ?_ (oNo rfl (opw_conv8 hU hU8 (m:=(n / 2 ^ 14) % 128+128) ?_ ?_ (ops_mv (oNo rfl (opw_shrN (n:=21) (m:=n) ?_ (by decide) (oNo rfl (opw_and7 (m:=n / 2 ^ 21) ?_ (oNo rfl (opw_or7 (m:=(n / 2 ^ 21) % 128) ?_ ?_ (oNo rfl (opw_conv8 hU hU8 (m:=(n / 2 ^ 21) % 128+128) ?_ ?_ (ops_mv (oNo rfl (opw_shrN (n:=28) (m:=n) ?_ (by decide) (oNo rfl (opw_conv8 hU hU8 (m:=n / 2 ^ 28) ?_ ?_ (ops_retBytes (B:=B) (dv:=dv) (xs:=xs) (bs:=uvarint n) hT ?_ (by decide) (by decide) ?_ ho hB hl ?_ (by decide) (by simp only [sPu];omega) ?_ (by simp only [sPu];omega)))))))))))))))))))))))))))))))))))))))))))
  ·simp (disch:=(try simp only [sPu]);omega) [eTm,gTp,gTn]
   exact hx
  ·simp (disch:=(try simp only [sPu]);omega) [eTm,gTp,gTn]
  ·omega
  ·simp (disch:=(try simp only [sPu]);omega) [eTm,gTp,gTn]
  ·omega
  ·simp (disch:=(try simp only [sPu]);omega) [eTm,gTp,gTn]
   exact hx
  ·simp (disch:=(try simp only [sPu]);omega) [eTm,gTp,gTn]
  ·simp (disch:=(try simp only [sPu]);omega) [eTm,gTp,gTn]
  ·omega
  ·simp (disch:=(try simp only [sPu]);omega) [eTm,gTp,gTn]
  ·omega
  ·simp (disch:=(try simp only [sPu]);omega) [eTm,gTp,gTn]
   exact hx
  ·simp (disch:=(try simp only [sPu]);omega) [eTm,gTp,gTn]
  ·simp (disch:=(try simp only [sPu]);omega) [eTm,gTp,gTn]
  ·omega
  ·simp (disch:=(try simp only [sPu]);omega) [eTm,gTp,gTn]
  ·omega
  ·simp (disch:=(try simp only [sPu]);omega) [eTm,gTp,gTn]
   exact hx
  ·simp (disch:=(try simp only [sPu]);omega) [eTm,gTp,gTn]
  ·simp (disch:=(try simp only [sPu]);omega) [eTm,gTp,gTn]
  ·omega
  ·simp (disch:=(try simp only [sPu]);omega) [eTm,gTp,gTn]
  ·omega
  ·simp (disch:=(try simp only [sPu]);omega) [eTm,gTp,gTn]
   exact hx
  ·simp (disch:=(try simp only [sPu]);omega) [eTm,gTp,gTn]
  ·omega
  ·rw [huv];rfl
  ·rw [hcell,hulen]
   simp (disch:=(try simp only [sPu]);omega) [eTm,gTp,gTn,List.range']
  ·simp (disch:=(try simp only [sPu]);omega) [gTp,gTn,hd0]
  ·intro dv' w2 a' q1 q2 q3 q4 q5 q6
   refine wRt ?_
   simp only [Exit.then,Exit.inBlock]
   exact hfin dv' w2 a' q1 q2 q3 (by rw [q5];simp [dPu,hd]) q6
theorem appendUvarint_ok {f g : FuncId} {fn : Func} {T0 T1 T2 T3 T4 : Nat} (hf : P.funcs[f]? = some fn) (hb : fn.body.map strip = some (sc_AppendUvarint T0 T1 T2 T3 T4 g)) (hnm : (fn.name == "runtime.NumGoroutine") = false) (hn : fn.ntmps = 93) (hr : fn.results = #[.tmp 4])
  (hT:u8sB P T4 tU8=true) (hU:intB P T1 .u32=true) (hU8:intB P T2 .u8=true) (hok:FnOK P g)
  (hg:∀ (n:Nat) (w:World),n < 4294967296->Calls P g #[.int .u32 (n:Int)] w fun e w'=>(∃ L:Nat,IsLen n L/\e=.returned (.int .i64 ((max 1 ((L+6) / 7):Nat):Int)))/\w=w') (n:Nat) (hn32:n < 4294967296) :
  AP P tU8 f #[.int .u32 (n:Int)] (fun _ _=>True) (uvarint n) :=
 (appendUvarint2_ok hf hb hnm hn hr hT hU hU8 hok hg n hn32).ap
end
end Go.Proofs.YtdnpafdgglpagaaGreatDoor.K
namespace Go.Proofs.YtdnpafdgglpagaaGreatDoor.K
open Go
set_option linter.unusedSimpArgs false
set_option linter.unusedVariables false
def sLooks (ops:List SOp) (o:SOp):List Tmp :=
 (o.op.operands.toList.filterMap fun | .tmp t=>some t | _=>none) ++
 (match o.guard with
  | some (g,_)=>((ops[g]?).bind (·.dst)).toList
  | none=>[])
def sApart (ops:List SOp) (x y:SOp):Bool :=
 (match x.dst with
  | some d=>!(sLooks ops y).contains d && y.dst != some d
  | none=>true) &&
 (match y.dst with
  | some d=>!(sLooks ops x).contains d
  | none=>true)
def sReady (after:List (List Nat)) (listed:Array Bool):List Nat :=
 (List.range after.length).filter fun i =>
  !listed.getD i true && ((after[i]?).map (·.all fun j=>listed.getD j false)).getD false
def sFree (ops:List SOp) (after:List (List Nat)) (listed:Array Bool) (i:Nat):Bool :=
 match ops[i]? with
 | none=>false
 | some oi=>(List.range after.length).all fun j=>j == i || listed.getD j true || match ops[j]?,after[j]? with
   | some oj,some l=>l.contains i || sApart ops oi oj
   | _,_=>true
def sNoSel (ops:List SOp):Bool:=ops.all fun o=>match o.op with | .select ..=>false | _=>true
theorem operands_strip (o:Op):(stripOp o).operands=o.operands:=by
 unfold stripOp
 split <;> rfl
section
variable {P:Program} {ops:Array Oper}
def aft (o:Oper):List Nat:=(o.after.toList.filter (Region.binds .any)).map (·.on)
theorem looks_strip (o:Oper):sLooks (ops.toList.map sop) (sop o)=o.looksAt ops:=by
 unfold sLooks Oper.looksAt
 show List.filterMap _ (stripOp o.op).operands.toList ++ _=_
 rw [operands_strip]
 congr 1
 show (match o.guard with | some (g,_)=>(((ops.toList.map sop)[g]?).bind (·.dst)).toList | none=>[])=_
 cases o.guard with
 | none=>rfl
 | some g =>
  simp only [List.getElem?_map,Array.getElem?_toList]
  cases ops[g.1]? <;> rfl
theorem apart_strip (x y:Oper):sApart (ops.toList.map sop) (sop x) (sop y)=x.apart ops y:=by
 unfold sApart Oper.apart
 rw [looks_strip,looks_strip]
 rfl
theorem all_filter_on (l:List Edge) (listed:Array Bool):(l.filter (Region.binds .any)).all (fun e=>listed.getD e.on false)=l.all fun e=>!Region.binds .any e || listed.getD e.on false:=by
 induction l with
 | nil=>rfl
 | cons e l ih =>
  simp only [List.filter_cons,List.all_cons]
  cases h:Region.binds .any e <;> simp [ih]
theorem ready_strip (listed:Array Bool):sReady (ops.toList.map aft) listed=Region.ready .any ops listed:=by
 unfold sReady Region.ready
 rw [List.length_map,Array.length_toList]
 congr 1
 funext i
 congr 1
 simp only [List.getElem?_map,Array.getElem?_toList]
 cases ops[i]? with
 | none=>rfl
 | some o =>
  simp only [Option.map_some,Option.getD_some,aft,List.all_map]
  rw [<- Array.all_toList]
  exact all_filter_on _ _
theorem any_filter_on (l:List Edge) (i:Nat):((l.filter (Region.binds .any)).map (·.on)).contains i=l.any fun e=>Region.binds .any e && e.on == i:=by
 induction l with
 | nil=>rfl
 | cons e l ih =>
  simp only [List.filter_cons,List.any_cons]
  cases h:Region.binds .any e
  ·simpa using ih
  ·simp only [if_true,List.map_cons,List.contains_cons,ih,Bool.true_and]
   congr 1
   exact Bool.beq_comm
theorem free_strip (listed:Array Bool) (i:Nat):sFree (ops.toList.map sop) (ops.toList.map aft) listed i=Region.free .any ops listed i:=by
 unfold sFree Region.free
 rw [List.length_map,Array.length_toList]
 simp only [List.getElem?_map,Array.getElem?_toList]
 cases hi:ops[i]? with
 | none=>rfl
 | some oi =>
  simp only [Option.map_some]
  congr 1
  funext j
  congr 1
  cases hj:ops[j]? with
  | none=>rfl
  | some oj =>
   simp only [Option.map_some]
   rw [apart_strip]
   congr 1
   rw [<- Array.any_toList]
   exact any_filter_on _ _
theorem noSel_strip:sNoSel (ops.toList.map sop)=Region.noSelect ops:=by
 unfold sNoSel Region.noSelect
 rw [List.all_map,<- Array.all_toList]
 congr 1
 funext o
 show (match stripOp o.op with | .select ..=>false | _=>true)=_
 unfold stripOp
 cases o.op <;> try rfl
 rename_i c
 obtain ⟨f,x,y⟩:=c
 cases f <;> rfl
def opq (P:Program) (S:World->Prop) (s:SOp) (a:Act) (v:Value):Prop :=
 ∀ o:Oper,sop o=s->∀ w,S w->(execOp a.eval o).run P w=.ok (.value v) w
def dregw (P:Program) (S:World->Prop) (ops:List SOp):List (Nat × Bool)->(Act->World->Prop)->Act->World->Prop
 | [],K,a,w=>K a w
 | (i,q) :: r,K,a,w=>∃ s,ops[i]?=some s /\
  match s.guard with
  | none=>if q then ∃ v,opq P S s a v/\dregw P S ops r K (a.put s.dst v) w else opw P s a w (fun a' w'=>S w'/\dregw P S ops r K a' w')
  | some (j,want)=>∃ (dj:Nat) (b:Bool),(ops[j]?).bind (·.dst)=some dj/\dj < a.tmps.size/\gv (getT a dj) want b /\
    if b=want then (if q then ∃ v,opq P S s a v/\dregw P S ops r K (a.put s.dst v) w else opw P s a w (fun a' w'=>S w'/\dregw P S ops r K a' w'))
    else dregw P S ops r K (a.put s.dst undef) w
def chk (ops:List SOp) (after:List (List Nat)):List (Nat × Bool)->Array Bool->Bool
 | [],listed=>(sReady after listed).isEmpty
 | (i,q) :: r,listed=>(if q then sFree ops after listed i && (sReady after listed).contains i else decide (sReady after listed=[i])) && chk ops after r (listed.setIfInBounds i true)
theorem dreg_sound {S:World->Prop} {Q:Exit->Act->World->Prop} {K:Act->World->Prop} (hQ:∀ c a w,¬ Q (.panic c) a w) (hK:∀ a w,K a w->Q .normal a w) (hns:Region.noSelect ops=true) :
  ∀ (π:List (Nat × Bool)) (fuel:Nat) (listed:Array Bool) (a:Act) (w:World),π.length<=fuel->chk (ops.toList.map sop) (ops.toList.map aft) π listed=true->S w ->
   dregw P S (ops.toList.map sop) π K a w->wpAnyH P .any ops Q S fuel listed a w
 | [],fuel,listed,a,w,_,hc,_,h=>by
  simp only [chk,ready_strip,List.isEmpty_iff] at hc
  exact wpAnyH_done hc (hK _ _ h) fuel
 | (i,q) :: r,fuel,listed,a,w,hl,hc,hS,h=>by
  obtain ⟨fuel,rfl⟩:∃ f,fuel=f+1:=⟨fuel - 1,by simp at hl;omega⟩
  have hl':r.length<=fuel:=by simp at hl;omega
  simp only [chk,Bool.and_eq_true,ready_strip,free_strip] at hc
  obtain ⟨hc1,hc2⟩:=hc
  unfold dregw at h
  obtain ⟨s,hs,h⟩:=h
  simp only [List.getElem?_map,Array.getElem?_toList] at hs
  obtain ⟨o,ho,rfl⟩:=Option.map_eq_some_iff.1 hs
  have act:Region.wanted o (yielded ops a.tmps)=true->(if q=true then ∃ v,opq P S (sop o) a v/\dregw P S (ops.toList.map sop) r K (a.put (sop o).dst v) w else opw P (sop o) a w (fun a' w'=>S w'/\dregw P S (ops.toList.map sop) r K a' w'))->wpAnyH P .any ops Q S (fuel+1) listed a w:=by
   intro hw h
   cases q with
   | true =>
    simp only [if_true,Bool.and_eq_true] at hc1 h
    obtain ⟨v,hv,h⟩:=h
    exact wpAnyH_take ho hns hc1.1 hc1.2 (fun c a w hq=>absurd hq (hQ _ _ _)) (.inl ⟨hw,fun w hS=>hv o rfl w hS⟩) hS (dreg_sound hQ hK hns r fuel _ _ w hl' hc2 hS h)
   | false =>
    simp only [if_false,Bool.false_eq_true,decide_eq_true_eq] at hc1 h
    refine wpAnyH_all hc1 (by simp) ?_
    intro i' hi'
    simp at hi'
    subst hi'
    unfold wpOp
    simp only [ho]
    rw [if_pos hw]
    exact .inl (h o _ Q rfl fun a' w' hq=>⟨hq.1,dreg_sound hQ hK hns r fuel _ _ w' hl' hc2 hq.1 hq.2⟩)
  have hgo:(sop o).guard=o.guard:=rfl
  rw [hgo] at h
  cases hg:o.guard with
  | none =>
   rw [hg] at h
   exact act (by simp only [Region.wanted,hg]) h
  | some g =>
   obtain ⟨j,want⟩:=g
   rw [hg] at h
   obtain ⟨dj,b,hj,hlt,hb,h⟩:=h
   have hyj:=wanted_of_gv hg hj hlt hb
   by_cases hbw:b=want
   ·rw [if_pos hbw] at h
    exact act (by rw [hyj];subst hbw;simp) h
   ·rw [if_neg hbw] at h
    have hw:Region.wanted o (yielded ops a.tmps)=false:=by rw [hyj];simpa using hbw
    have hrest:=dreg_sound (Q:=Q) hQ hK hns r fuel _ _ w hl' hc2 hS h
    cases q with
    | true =>
     simp only [if_true,Bool.and_eq_true] at hc1
     exact wpAnyH_take ho hns hc1.1 hc1.2 (fun c a w hq=>absurd hq (hQ _ _ _)) (.inr ⟨hw,rfl⟩) hS hrest
    | false =>
     simp only [if_false,Bool.false_eq_true,decide_eq_true_eq] at hc1
     refine wpAnyH_all hc1 (by simp) ?_
     intro i' hi'
     simp at hi'
     subst hi'
     unfold wpOp
     simp only [ho]
     rw [if_neg (by simp [hw])]
     exact ⟨hS,hrest⟩
end
theorem wDr {P:Program} {Q:Exit->Act->World->Prop} {a:Act} {w:World} {l:List SOp} {after:List (List Nat)} (hm:P.follows .mixedOrders=true) (S:World->Prop) (π:List (Nat × Bool))
  (hns:sNoSel l=true) (hc:chk l after π (Array.replicate after.length false)=true) (hlen:π.length<=after.length) (hS:S w.drew)
  (h:dregw P S l π (Q .normal) a w.drew):(SC.dreg l after).wp P Q a w:=by
 intro c hcd
 cases c <;> simp [strip] at hcd
 rename_i id ops draw
 split at hcd
 ·rename_i hd
  subst hd
  simp only [SC.dreg.injEq] at hcd
  obtain ⟨rfl,rfl⟩:=hcd
  let Q':Exit->Act->World->Prop:=fun e a w=>match e with | .panic _=>False | _=>Q e a w
  have hQ':∀ e a w,Q' e a w->Q e a w:=by
   intro e a w h
   cases e <;> first | exact h | exact h.elim
  refine Go.wp_mono ?_ hQ'
  rw [noSel_strip] at hns
  have haft:(ops.toList.map fun o=>(o.after.toList.filter (Region.binds .any)).map (·.on))=ops.toList.map aft:=rfl
  rw [haft] at hc hlen
  have hsz:(ops.toList.map aft).length=ops.size:=by simp
  rw [hsz] at hc hlen
  exact wp_region_held hm (dreg_sound (S:=S) (K:=Q .normal) (Q:=Q') (fun c a w h=>h.elim) (fun a w h=>h) hns π ops.size _ a _ hlen hc hS h)
 ·simp at hcd
end Go.Proofs.YtdnpafdgglpagaaGreatDoor.K
namespace Go.Proofs.YtdnpafdgglpagaaGreatDoor.K
open Go Go.RowKit Go.Proofs.YtdnpafdgglpagaaGreatDoor.T
set_option linter.unusedSimpArgs false
set_option linter.unusedVariables false
theorem run_append_src {P:Program} (w:World) (base:Nat) (t tx ty e:TypeId) (i:TypeInfo) (z:Value) (size bytes:Nat) (ht:P.underlying t=some (.slice e)) (hi:P.info? e=some i) (hz:i.zero=some z)
  (hsize:i.size=size) (hby:i.bytes=bytes) (hzs:z.cells.size=size) (hsz:0 < size)
  (v:Value) (n:Nat) (xs:List Value) (hown:w.ownsRow base e size v n xs)
  (x:Value) (m:Nat) (news:List Value) (hs:Src P size tx x m news w)
  (h63:n+m<=maxLen) (hbytes:(n+m) * bytes<=140737488355328) (hbase:base<=w.heap.size) :
  ∃ v' w',(Builtin.append_ #[t,tx] ty #[v,x]).run P w=.ok v' w'/\w'.ownsRow base e size v' (n+m) (xs ++ news)/\w.grownBy w' v.ownBlock:=by
 obtain ⟨v',w',h1,h2,h3,_⟩:=run_append_src2 w base t tx ty e i z size bytes ht hi hz hsize hby hzs hsz v n xs hown x m news hs h63 hbytes hbase
 exact ⟨v',w',h1,h2,h3⟩
section
variable {P:Program} {a:Act} {w:World} {K:Act->World->Prop} {d:Option Tmp} {g:Option (Nat × Bool)}
theorem opw_appendU8 {T Tx tU8 B:Nat} {x y:Operand} {dv xv:Value} {xs bs:Bytes} {ts:Array TypeId} (hT:u8sB P T tU8=true) (hx:a.eval x=dv) (hy:a.eval y=xv) (hts:ts=#[T,Tx]) (ho:Own tU8 w B dv xs) (hB:B<=w.heap.size)
  (hs:Src P 1 Tx xv bs.length (cellsOf bs) w) (hlen:xs.length+bs.length<=lim)
  (h:∀ dv' w',Own tU8 w' B dv' (xs ++ bs)->Below B w w'->B<=w'.heap.size->w.grownBy w' dv.ownBlock->K (a.put d dv') w'):opw P ⟨d,.call ⟨.builtin .append,#[x,y],ts⟩,g⟩ a w K:=by
 subst hts
 obtain ⟨hu,i,hi,hz,hs1,hby⟩:=u8s_of hT
 have hlim:lim=4294967295:=rfl
 refine opw_of fun o next Q hd hop hn=>?_
 obtain ⟨v',w',hr,h2,h3⟩:=run_append_src (P:=P) w B T Tx o.type tU8 i (.int .u8 0) 1 1 hu hi hz hs1 hby rfl (by decide) dv xs.length (cellsOf xs) ho xv bs.length (cellsOf bs) hs (by simp only [maxLen];omega) (by omega) hB
 have hop':o.op=.call ⟨.builtin .append,#[x,y],#[T,Tx]⟩:=stripOp_eq (by simp) hop
 have hr':(execOp a.eval o).run P w=.ok (.value v') w':=by
  simp [execOp,hop',resolve,invoke,builtin,hx,hy,hr]
 rw [hr',Oper.upon_value,hd]
 refine hn _ _ (h v' w' ?_ ((Below.refl B w).grown h3 hB (fun k hk=>own_u8 ho k hk)) (Nat.le_trans hB h3.size) h3)
 unfold Own
 rw [cellsOf_append,List.length_append]
 exact h2
theorem opw_max {x y:Operand} {k:IntKind} {m n:Int} {ts:Array TypeId} (hx:a.eval x=.int k m) (hy:a.eval y=.int k n) (h:K (a.put d (.int k (if n > m then n else m))) w) :
  opw P ⟨d,.call ⟨.builtin .max,#[x,y],ts⟩,g⟩ a w K:=by
 refine oVa (by simp) (fun p hp=>?_) h
 simp [execOp,hp,hx,hy,resolve,invoke,builtin,Builtin.max_,Builtin.max2]
theorem opw_box {T:Nat} {x:Operand} {v:Value} (hx:a.eval x=v) (h:K (a.put d (.pointer (some ⟨w.heap.size,0,none⟩))) (w.alloc (.cells v.cells T))) :
  opw P ⟨d,.box T x,g⟩ a w K:=by
 refine oVa (w':=w.alloc (.cells v.cells T)) (by simp) (fun p hp=>?_) h
 simp [execOp,hp,Instr.box,hx,newVar,newRow]
theorem opsw_yes {all:List SOp} {s:SOp} {r:List SOp} {j dj:Nat} {want:Bool} (hg:s.guard=some (j,want)) (hj:(all[j]?).bind (·.dst)=some dj) (hlt:dj < a.tmps.size) (hb:getT a dj=.bool want)
  (h:opw P s a w (opsw P all r K)):opsw P all (s :: r) K a w:=by
 unfold opsw
 rw [hg]
 exact ⟨dj,want,hj,hlt,.inl hb,by rw [if_pos rfl];exact h⟩
theorem opsw_no {all:List SOp} {s:SOp} {r:List SOp} {j dj:Nat} {want:Bool} (hg:s.guard=some (j,want)) (hj:(all[j]?).bind (·.dst)=some dj) (hlt:dj < a.tmps.size) (hb:getT a dj=.bool !want∨getT a dj=undef)
  (h:opsw P all r K (a.put s.dst undef) w):opsw P all (s :: r) K a w:=by
 unfold opsw
 rw [hg]
 exact ⟨dj,!want,hj,hlt,hb.imp id (fun h=>⟨h,rfl⟩),by rw [if_neg (by cases want <;> simp)];exact h⟩
theorem opw_andOne {T T':TypeId} {x:Operand} {m:Int} (hx:a.eval x=.int .i64 m) (h:K (a.put d (.int .i64 (m % 2))) w):opw P ⟨d,.binOp .and T x (.const (.int .i64 1)) T',g⟩ a w K:=by
 refine oVa (by simp) (fun p hp=>?_) h
 have e:IntKind.i64.wrap (((BitVec.ofInt IntKind.i64.bits m) &&& (BitVec.ofInt IntKind.i64.bits 1)).toNat:Int)=m % 2:=by
  have h1:((BitVec.ofInt 64 m) &&& (BitVec.ofInt 64 1)).toNat=(m % 2).toNat:=by
   rw [BitVec.toNat_and]
   have e1:(BitVec.ofInt 64 m).toNat=(m % 18446744073709551616).toNat:=by simp [BitVec.toNat_ofInt]
   have e2:(BitVec.ofInt 64 1).toNat=2 ^ 1 - 1:=by decide
   rw [e1,e2,Nat.and_two_pow_sub_one_eq_mod]
   omega
  show IntKind.i64.wrap (((BitVec.ofInt 64 m) &&& (BitVec.ofInt 64 1)).toNat:Int)=_
  rw [h1]
  have h2:m % 2=0∨m % 2=1:=by omega
  rcases h2 with h2 | h2 <;> rw [h2] <;> decide
 simp only [execOp,hp,hx,eCo]
 simp [run_eqGuard_int,binOp,Op.intBits]
 exact e
theorem opw_mkU8s {T tU8 n:Nat} {x y:Operand} {k k':IntKind} (hT:u8sB P T tU8=true) (hx:a.eval x=.int k (n:Int)) (hy:a.eval y=.int k' (n:Int)) (hn:n<=1000)
  (h:∀ w':World,w'=w.alloc (.cells (madeCells #[.int .u8 0] (n * 1)) tU8)->K (a.put d (.slice (some ⟨w.heap.size,0,none⟩) n n)) w'):opw P ⟨d,.makeSlice T x y,g⟩ a w K:=by
 obtain ⟨hu,i,hi,hz,hs1,hby⟩:=u8s_of hT
 have hr:=run_make (P:=P) w T tU8 i (.int .u8 0) hu hi hz k k' n n (by omega) (Int.le_refl _) (by rw [hby];omega) (by omega)
 simp only [Int.toNat_natCast,hs1] at hr
 refine oVa (by simp) (fun p hp=>?_) (h _ rfl)
 simp only [execOp,hp,hx,hy]
 simp [hr,Value.cells]
end
end Go.Proofs.YtdnpafdgglpagaaGreatDoor.K
namespace Go.Proofs.YtdnpafdgglpagaaGreatDoor.K
open Go Go.RowKit Go.Proofs.YtdnpafdgglpagaaGreatDoor.T
attribute [local simp] eTm eCo pNo gTp gTn
set_option linter.unusedSimpArgs false
set_option linter.unusedVariables false
section
variable {P:Program} {tU8:Nat}
theorem opw_lenStr {a:Act} {w:World} {K:Act->World->Prop} {d:Option Tmp} {g:Option (Nat × Bool)} {T:TypeId} {x:Operand} {s:ByteArray} {ts:Array TypeId} (hT:strB P T=true) (hx:a.eval x=.string s) (ht:ts=#[T])
  (h:K (a.put d (.int .i64 (s.data.toList.length:Int))) w):opw P ⟨d,.call ⟨.builtin .len,#[x],ts⟩,g⟩ a w K:=by
 subst ht
 have hu:=str_of hT
 refine oVa (v:=.int .i64 (s.data.toList.length:Int)) (by simp) (fun p hp=>?_) h
 have e:s.size=s.data.toList.length:=by rw [Array.length_toList];rfl
 simp [execOp,hp,hx,resolve,invoke,builtin,Builtin.len_,run_underlying hu,goInt]
theorem ops_ap {all:List SOp} {a:Act} {w:World} {B t f:Nat} {args:List Nat} {argsV:Array Value} {pre:World->Nat->Prop} {dv:Value} {xs out:Bytes} {r:List SOp} {K:Act->World->Prop} (hAP:AP P tU8 f argsV pre out)
  (hargs:(args.map (getT a)).toArray=#[dv] ++ argsV) (ho:Own tU8 w B dv xs) (hB:B<=w.heap.size) (hlen:xs.length+out.length<=lim) (hpre:pre w B)
  (h:∀ dv' w',Own tU8 w' B dv' (xs ++ out)->Below B w w'->B<=w'.heap.size->opsw P all r K (a.put (some t) dv') w'):opsw P all (cal t f args :: r) K a w:=by
 have hc:=hAP.2 w B dv xs ho hB hlen hpre
 refine ops_cal hAP.1 (R:=fun e w'=>∃ dv',e=.returned dv'/\Own tU8 w' B dv' (xs ++ out)/\Below B w w'/\B<=w'.heap.size) ?_ ?_
 ·rw [hargs];exact hc
 ·rintro e w' ⟨dv',rfl,h1,h2,h3⟩
  exact ⟨dv',rfl,h dv' w' h1 h2 h3⟩
theorem opw_ap {a:Act} {w:World} {K:Act->World->Prop} {d:Option Tmp} {B f:Nat} {args:Array Operand} {argsV:Array Value} {pre:World->Nat->Prop} {dv:Value} {xs out:Bytes} (hAP:AP P tU8 f argsV pre out)
  (hargs:args.map a.eval=#[dv] ++ argsV) (ho:Own tU8 w B dv xs) (hB:B<=w.heap.size) (hlen:xs.length+out.length<=lim) (hpre:pre w B)
  (h:∀ dv' w',Own tU8 w' B dv' (xs ++ out)->Below B w w'->B<=w'.heap.size->K (a.put d dv') w'):opw P ⟨d,.call ⟨.value (.func f),args,#[]⟩,none⟩ a w K:=by
 have hc:=hAP.2 w B dv xs ho hB hlen hpre
 obtain ⟨fn,h1,h2,h3⟩:=hAP.1
 refine opw_call h1 h2 h3 (R:=fun e w'=>∃ dv',e=.returned dv'/\Own tU8 w' B dv' (xs ++ out)/\Below B w w'/\B<=w'.heap.size) ?_ ?_
 ·rw [hargs];exact hc
 ·rintro e w' ⟨dv',rfl,h1,h2,h3⟩
  exact ⟨dv',rfl,h dv' w' h1 h2 h3⟩
theorem src_str {T:TypeId} (hT:strB P T=true) (s:ByteArray) (w:World):Src P 1 T (.string s) s.data.toList.length (cellsOf s.data.toList) w:=by
 have h:=Src.ofString (P:=P) w (str_of hT) s
 have e:s.size=s.data.toList.length:=by rw [Array.length_toList];rfl
 rwa [e] at h
theorem wrap_i16' (m:Int):IntKind.i16.wrap m=if 32768<=m % 65536 then m % 65536 - 65536 else m % 65536:=by
 simp [IntKind.wrap,IntKind.bits,IntKind.signed]
theorem wrap_i32' (m:Int):IntKind.i32.wrap m=if 2147483648<=m % 4294967296 then m % 4294967296 - 4294967296 else m % 4294967296:=by
 simp [IntKind.wrap,IntKind.bits,IntKind.signed]
theorem wrap_i64' (m:Int):IntKind.i64.wrap m=if 9223372036854775808<=m % 18446744073709551616 then m % 18446744073709551616 - 18446744073709551616 else m % 18446744073709551616:=by
 simp [IntKind.wrap,IntKind.bits,IntKind.signed]
theorem wrap_i16_small {n:Nat} (h:n<=most):IntKind.i16.wrap (n:Int)=n:=by
 have hm:most=32767:=rfl
 rw [wrap_i16']
 omega
theorem wrap_i32_small {n:Nat} (h:n<=most):IntKind.i32.wrap (n:Int)=n:=by
 have hm:most=32767:=rfl
 rw [wrap_i32']
 omega
theorem wrap_u32_small {n:Nat} (h:n<=32768):IntKind.u32.wrap (n:Int)=n:=by
 rw [wrap_u32];omega
theorem appendString_ok {f g : FuncId} {fn : Func} {T0 T1 T2 T3 : Nat} (hf : P.funcs[f]? = some fn) (hb : fn.body.map strip = some (sc_AppendString T0 T1 T2 T3 g)) (hnm : (fn.name == "runtime.NumGoroutine") = false) (hn : fn.ntmps = 13) (hr : fn.results = #[.tmp 4])
  (hT:u8sB P T3 tU8=true) (hS:strB P T0=true) (h1:intB P T1 .i64=true) (h2:intB P T2 .i16=true) (hg:∀ n:Int,AP P tU8 g #[.int .i16 n] (fun _ _=>True) (fixed n 2)) (s:ByteArray) (hs:s.data.toList.length<=most) :
  AP P tU8 f #[.string s] (fun _ _=>True) (counted false false s.data.toList.length 2 ++ s.data.toList):=by
 refine AP_of hf hb hnm hn (by simp) fun w B dv xs a0 ho hB hl _ hsz hd hh0 ha=>?_
 have hx0:=ha 0 (.string s) rfl
 simp only [Nat.zero_add] at hx0
 generalize hbs:s.data.toList=bs at *
 rw [List.length_append] at hl
 refine wSq (wRg (oNo rfl (opw_assign (oNi ?_))))
 refine wSq (wRg (ops_mv (ops_mv (oNo rfl (opw_lenStr hS (s:=s) ?_ rfl (oNo rfl (opw_convert h1 h2 (n:=(bs.length:Int)) ?_ (ops_ap (B:=B) (dv:=dv) (xs:=xs) (hg (bs.length:Int)) ?_ ho hB ?_ trivial ?_))))))))
 ·simp (disch:=(try simp only [sPu]);omega) [hx0]
 ·simp (disch:=(try simp only [sPu]);omega) [hbs]
 ·simp (disch:=(try simp only [sPu]);omega) [hh0,wrap_i16_small hs]
 ·simp [counted] at hl;omega
 intro dv' w' q1 q2 q3
 refine ops_asg (oNi ?_)
 refine wSq (wRg (ops_mv (ops_mv (oNo rfl (opw_appendU8 (B:=B) (dv:=dv') (xv:=.string s) (xs:=xs ++ fixed bs.length 2) (bs:=bs) hT ?_ ?_ rfl q1 q3 ?_ ?_ ?_)))))
 ·simp (disch:=(try simp only [sPu]);omega)
 ·simp (disch:=(try simp only [sPu]);omega) [hx0]
 ·rw [<- hbs];exact src_str hS s w'
 ·simp [counted] at hl ⊢;omega
 intro dv2 w2 r1 r2 r3 _
 refine ops_asg (oNi (wRt ?_))
 try simp only [Exit.then,Exit.inBlock]
 refine ret_tmp hr (by simp [dPu,hd]) ⟨dv2,?_,?_,q2.trans r2,r3⟩
 ·simp (disch:=(try simp only [sPu]);omega)
 ·simpa [counted,List.append_assoc] using r1
theorem appendCompactString_ok {f g : FuncId} {fn : Func} {T0 T1 T2 T3 : Nat} (hf : P.funcs[f]? = some fn) (hb : fn.body.map strip = some (sc_AppendCompactString T0 T1 T2 T3 g)) (hnm : (fn.name == "runtime.NumGoroutine") = false) (hn : fn.ntmps = 14) (hr : fn.results = #[.tmp 4])
  (hT:u8sB P T3 tU8=true) (hS:strB P T0=true) (h1:intB P T1 .i64=true) (h2:intB P T2 .u32=true) (hg:∀ n:Nat,n < 4294967296->AP P tU8 g #[.int .u32 n] (fun _ _=>True) (uvarint n)) (s:ByteArray) (hs:s.data.toList.length<=most) :
  AP P tU8 f #[.string s] (fun _ _=>True) (counted true false s.data.toList.length 2 ++ s.data.toList):=by
 refine AP_of hf hb hnm hn (by simp) fun w B dv xs a0 ho hB hl _ hsz hd hh0 ha=>?_
 have hx0:=ha 0 (.string s) rfl
 simp only [Nat.zero_add] at hx0
 have hm:most=32767:=rfl
 generalize hbs:s.data.toList=bs at *
 rw [List.length_append] at hl
 have ew:IntKind.u32.wrap (1+(bs.length:Int))=((bs.length+1:Nat):Int):=by rw [wrap_u32];omega
 refine wSq (wRg (oNo rfl (opw_assign (oNi ?_))))
 refine wSq (wRg (ops_mv (ops_mv (oNo rfl (opw_lenStr hS (s:=s) ?_ rfl (oNo rfl (opw_convert h1 h2 (n:=(bs.length:Int)) ?_ (oNo rfl (opw_arith (op:=.add) (k:=.u32) (m:=1) (n:=(bs.length:Int)) ?_ ?_ (.inl ⟨rfl,rfl⟩) (ops_ap (B:=B) (dv:=dv) (xs:=xs) (hg (bs.length+1) (by omega)) ?_ ho hB ?_ trivial ?_))))))))))
 ·simp (disch:=(try simp only [sPu]);omega) [hx0]
 ·simp (disch:=(try simp only [sPu]);omega) [hbs]
 ·rfl
 ·simp (disch:=(try simp only [sPu]);omega) [wrap_u32_small (by omega:bs.length<=32768)]
 ·simp (disch:=(try simp only [sPu]);omega) [hh0,ew]
 ·simp [counted] at hl;omega
 intro dv' w' q1 q2 q3
 refine ops_asg (oNi ?_)
 refine wSq (wRg (ops_mv (ops_mv (oNo rfl (opw_appendU8 (B:=B) (dv:=dv') (xv:=.string s) (xs:=xs ++ uvarint (bs.length+1)) (bs:=bs) hT ?_ ?_ rfl q1 q3 ?_ ?_ ?_)))))
 ·simp (disch:=(try simp only [sPu]);omega)
 ·simp (disch:=(try simp only [sPu]);omega) [hx0]
 ·rw [<- hbs];exact src_str hS s w'
 ·simp [counted] at hl ⊢;omega
 intro dv2 w2 r1 r2 r3 _
 refine ops_asg (oNi (wRt ?_))
 try simp only [Exit.then,Exit.inBlock]
 refine ret_tmp hr (by simp [dPu,hd]) ⟨dv2,?_,?_,q2.trans r2,r3⟩
 ·simp (disch:=(try simp only [sPu]);omega)
 ·simpa [counted,List.append_assoc] using r1
theorem src_bytes {T tU8:TypeId} (hT:u8sB P T tU8=true) {w:World} {F:Nat->Prop} {base:Option Addr} {bs:Bytes} (h:BytesAt w F base bs) (cap:Nat):Src P 1 T (.slice base bs.length cap) bs.length (cellsOf bs) w:=by
 obtain ⟨hu,_⟩:=u8s_of hT
 rcases h with rfl | ⟨b,o,rfl,_,h⟩
 ·cases base with
  | none=>exact Src.ofNil w hu cap
  | some a0=>exact Src.ofSlice w hu a0 _ cap _ (by rw [cLen,Nat.mul_one]) (by intro j u hj;simp [cellsOf] at hj) (by intro u hu;simp [cellsOf] at hu)
 ·refine Src.ofSlice w hu ⟨b,o,none⟩ _ cap _ (by rw [cLen,Nat.mul_one]) ?_ ?_
  ·intro j u hj
   rw [add_none]
   exact cells_cell h j u hj
  ·intro u hu
   simp only [cellsOf,List.mem_map] at hu
   obtain ⟨c,_,rfl⟩:=hu
   rfl
theorem appendNullStr0_ok {f g g2 : FuncId} {fn : Func} {T0 T1 : Nat} {compact : Bool} (hf : P.funcs[f]? = some fn) (hb : fn.body.map strip = some (if compact then sc_AppendCompactNullableString T0 T1 g g2 else sc_AppendNullableString T0 T1 g g2)) (hnm : (fn.name == "runtime.NumGoroutine") = false) (hn : fn.ntmps = 14) (hr : fn.results = #[.tmp 4]) (hP : ptrB P T0 = true)
  (hg:AP P tU8 g #[if compact then .int .u32 0 else .int .i16 (-1)] (fun _ _=>True) (counted compact true 0 2)) :
  AP P tU8 f #[.pointer none] (fun _ _=>True) (counted compact true 0 2):=by
 refine AP_of hf hb hnm hn (by simp) fun w B dv xs a0 ho hB hl _ hsz hd hh0 ha=>?_
 have hx0:=ha 0 (.pointer none) rfl
 simp only [Nat.zero_add] at hx0
 have main:∀ c:Value,c=(if compact then Value.int .u32 0 else .int .i16 (-1))->SC.wp P (.seq (.reg [⟨some 4,.assign (.const (.slice none 0 0)),none⟩]) (.seq (.seq (.reg [mv 5 1,⟨some 6,.binOp .eql T0 (.tmp 5) (.const (.pointer none)) T0,none⟩]) (.cond (.tmp 6) (.seq (.reg [mv 7 0,⟨some 8,.call ⟨.value (.func g),#[(.tmp 7),(.const c)],#[]⟩,none⟩,asg 4 8]) (.ret)) (.skip))) (.seq (.reg [mv 9 0,mv 10 1,nilc 11 10,ld 12 T1 11,cal 13 g2 [9,12],asg 4 13]) (.ret)))) (bodyPost P fn fun e w'=>∃ dv',e=.returned dv'/\Own tU8 w' B dv' (xs ++ counted compact true 0 2)/\Below B w w'/\B<=w'.heap.size) a0 w:=by
  intro c hcv
  subst hcv
  refine wSq (wRg (oNo rfl (opw_assign (oNi ?_))))
  refine wSq (wSq (wRg (ops_mv (oNo rfl (opw_eqlnil_ptr (q:=none) hP ?_ (oNi ?_))))))
  ·simp (disch:=(try simp only [sPu]);omega) [hx0]
  refine wCd (t:=true) (by simp (disch:=(try simp only [sPu]);omega)) ?_
  rw [if_pos rfl]
  refine wSq (wRg (ops_mv (oNo rfl (opw_ap (B:=B) (dv:=dv) (xs:=xs) hg ?_ ho hB hl trivial ?_))))
  ·simp (disch:=(try simp only [sPu]);omega) [hh0,eCo]
  intro dv' w' q1 q2 q3
  refine ops_asg (oNi (wRt ?_))
  try simp only [Exit.then,Exit.inBlock]
  refine ret_tmp hr (by simp [dPu,hd]) ⟨dv',?_,q1,q2,q3⟩
  simp (disch:=(try simp only [sPu]);omega)
 cases compact
 ·exact main _ rfl
 ·exact main _ rfl
theorem appendNullStr_ok {f g g2 : FuncId} {fn : Func} {T0 T1 : Nat} {compact : Bool} (hf : P.funcs[f]? = some fn) (hb : fn.body.map strip = some (if compact then sc_AppendCompactNullableString T0 T1 g g2 else sc_AppendNullableString T0 T1 g g2)) (hnm : (fn.name == "runtime.NumGoroutine") = false) (hn : fn.ntmps = 14) (hr : fn.results = #[.tmp 4])
  (hP:ptrB P T0=true) (h1:oneB P T1=true) (s:ByteArray) (hg:AP P tU8 g2 #[.string s] (fun _ _=>True) (counted compact false s.data.toList.length 2 ++ s.data.toList)) (b o:Nat) :
  AP P tU8 f #[.pointer (some ⟨b,o,none⟩)] (fun w B=>b < B/\w.cell? ⟨b,o,none⟩=some (.string s)) (counted compact false s.data.toList.length 2 ++ s.data.toList):=by
 refine AP_of hf hb hnm hn (by simp) fun w B dv xs a0 ho hB hl hpre hsz hd hh0 ha=>?_
 have hx0:=ha 0 (.pointer (some ⟨b,o,none⟩)) rfl
 simp only [Nat.zero_add] at hx0
 have main:∀ c:Value,SC.wp P (.seq (.reg [⟨some 4,.assign (.const (.slice none 0 0)),none⟩]) (.seq (.seq (.reg [mv 5 1,⟨some 6,.binOp .eql T0 (.tmp 5) (.const (.pointer none)) T0,none⟩]) (.cond (.tmp 6) (.seq (.reg [mv 7 0,⟨some 8,.call ⟨.value (.func g),#[(.tmp 7),(.const c)],#[]⟩,none⟩,asg 4 8]) (.ret)) (.skip))) (.seq (.reg [mv 9 0,mv 10 1,nilc 11 10,ld 12 T1 11,cal 13 g2 [9,12],asg 4 13]) (.ret)))) (bodyPost P fn fun e w'=>∃ dv',e=.returned dv'/\Own tU8 w' B dv' (xs ++ (counted compact false s.data.toList.length 2 ++ s.data.toList))/\Below B w w'/\B<=w'.heap.size) a0 w:=by
  intro c
  refine wSq (wRg (oNo rfl (opw_assign (oNi ?_))))
  refine wSq (wSq (wRg (ops_mv (oNo rfl (opw_eqlnil_ptr (q:=some ⟨b,o,none⟩) hP ?_ (oNi ?_))))))
  ·simp (disch:=(try simp only [sPu]);omega) [hx0]
  refine wCd (t:=false) (by simp (disch:=(try simp only [sPu]);omega)) ?_
  rw [if_neg (by simp)]
  refine wSk ?_
  try simp only [Exit.then]
  refine wSq (wRg (ops_mv (ops_mv (ops_nilc (ad:=⟨b,o,none⟩) ?_ (ops_ld (ad:=⟨b,o,none⟩) (v:=.string s) h1 ?_ hpre.2 (ops_ap (B:=B) (dv:=dv) (xs:=xs) hg ?_ ho hB hl trivial ?_))))))
  ·simp (disch:=(try simp only [sPu]);omega) [hx0]
  ·simp (disch:=(try simp only [sPu]);omega)
  ·simp (disch:=(try simp only [sPu]);omega) [hh0]
  intro dv' w' q1 q2 q3
  refine ops_asg (oNi (wRt ?_))
  try simp only [Exit.then,Exit.inBlock]
  refine ret_tmp hr (by simp [dPu,hd]) ⟨dv',?_,q1,q2,q3⟩
  simp (disch:=(try simp only [sPu]);omega)
 cases compact
 ·exact main _
 ·exact main _
theorem appendArrayLen_ok {f g : FuncId} {fn : Func} {T0 T1 : Nat} (hf : P.funcs[f]? = some fn) (hb : fn.body.map strip = some (sc_AppendArrayLen T0 T1 g)) (hnm : (fn.name == "runtime.NumGoroutine") = false) (hn : fn.ntmps = 9) (hr : fn.results = #[.tmp 4])
  (h1:intB P T0 .i64=true) (h2:intB P T1 .i32=true) (hg:∀ n:Int,AP P tU8 g #[.int .i32 n] (fun _ _=>True) (fixed n 4)) (n:Nat) (hs:n<=most) :
  AP P tU8 f #[.int .i64 n] (fun _ _=>True) (counted false false n 4):=by
 refine AP_of hf hb hnm hn (by simp) fun w B dv xs a0 ho hB hl _ hsz hd hh0 ha=>?_
 have hx0:=ha 0 (.int .i64 n) rfl
 simp only [Nat.zero_add] at hx0
 refine wSq (wRg (oNo rfl (opw_assign (oNi ?_))))
 refine wSq (wRg (ops_mv (ops_mv (oNo rfl (opw_convert h1 h2 (n:=(n:Int)) ?_ (ops_ap (B:=B) (dv:=dv) (xs:=xs) (hg (n:Int)) ?_ ho hB ?_ trivial ?_))))))
 ·simp (disch:=(try simp only [sPu]);omega) [hx0]
 ·simp (disch:=(try simp only [sPu]);omega) [hh0,wrap_i32_small hs]
 ·simpa [counted] using hl
 intro dv' w' q1 q2 q3
 refine ops_asg (oNi (wRt ?_))
 try simp only [Exit.then,Exit.inBlock]
 refine ret_tmp hr (by simp [dPu,hd]) ⟨dv',?_,by simpa [counted] using q1,q2,q3⟩
 simp (disch:=(try simp only [sPu]);omega)
theorem appendCompactArrayLen_ok {f g : FuncId} {fn : Func} {T0 T1 : Nat} (hf : P.funcs[f]? = some fn) (hb : fn.body.map strip = some (sc_AppendCompactArrayLen T0 T1 g)) (hnm : (fn.name == "runtime.NumGoroutine") = false) (hn : fn.ntmps = 10) (hr : fn.results = #[.tmp 4])
  (h1:intB P T0 .i64=true) (h2:intB P T1 .u32=true) (hg:∀ n:Nat,n < 4294967296->AP P tU8 g #[.int .u32 n] (fun _ _=>True) (uvarint n)) (n:Nat) (hs:n<=most) :
  AP P tU8 f #[.int .i64 n] (fun _ _=>True) (counted true false n 4):=by
 refine AP_of hf hb hnm hn (by simp) fun w B dv xs a0 ho hB hl _ hsz hd hh0 ha=>?_
 have hx0:=ha 0 (.int .i64 n) rfl
 simp only [Nat.zero_add] at hx0
 have hm:most=32767:=rfl
 have ew:IntKind.u32.wrap (1+(n:Int))=((n+1:Nat):Int):=by rw [wrap_u32];omega
 refine wSq (wRg (oNo rfl (opw_assign (oNi ?_))))
 refine wSq (wRg (ops_mv (ops_mv (oNo rfl (opw_convert h1 h2 (n:=(n:Int)) ?_ (oNo rfl (opw_arith (op:=.add) (k:=.u32) (m:=1) (n:=(n:Int)) ?_ ?_ (.inl ⟨rfl,rfl⟩) (ops_ap (B:=B) (dv:=dv) (xs:=xs) (hg (n+1) (by omega)) ?_ ho hB ?_ trivial ?_))))))))
 ·simp (disch:=(try simp only [sPu]);omega) [hx0]
 ·rfl
 ·simp (disch:=(try simp only [sPu]);omega) [wrap_u32_small (by omega:n<=32768)]
 ·simp (disch:=(try simp only [sPu]);omega) [hh0,ew]
 ·simpa [counted] using hl
 intro dv' w' q1 q2 q3
 refine ops_asg (oNi (wRt ?_))
 try simp only [Exit.then,Exit.inBlock]
 refine ret_tmp hr (by simp [dPu,hd]) ⟨dv',?_,by simpa [counted] using q1,q2,q3⟩
 simp (disch:=(try simp only [sPu]);omega)
theorem opw_sliceArr {a:Act} {w:World} {K:Act->World->Prop} {d:Option Tmp} {g:Option (Nat × Bool)} {A E n b:Nat} {x:Operand} (hE:P.underlying A=some (.array n E)) (hs:∃ i,P.info? E=some i) (hx:a.eval x=.pointer (some ⟨b,0,none⟩))
  (h:K (a.put d (.slice (some ⟨b,0,none⟩) n n)) w):opw P ⟨d,.slice A x none none none,g⟩ a w K:=by
 obtain ⟨i,hi⟩:=hs
 refine oVa (by simp) (fun p hp=>?_) h
 simp [execOp,hp,hx,Instr.sliceAt,run_underlying hE,Instr.sliceBounds,Instr.sureAddr,asAddr,sizeOf,typeInfo,hi,Addr.add]
def arr16 (P:Program) (T tU8:TypeId):Bool :=
 match P.underlying T with
 | some (.array 16 e)=>e == tU8
 | _=>false
theorem appendUuid_ok {f : FuncId} {fn : Func} {T0 T1 : Nat} (hf : P.funcs[f]? = some fn) (hb : fn.body.map strip = some (sc_AppendUuid T0 T1)) (hnm : (fn.name == "runtime.NumGoroutine") = false) (hn : fn.ntmps = 8) (hr : fn.results = #[.tmp 4])
  (hT:u8sB P T1 tU8=true) (hA:arr16 P T0 tU8=true) (bs:Bytes) (hs:bs.length=16) :
  AP P tU8 f #[.agg (cellsOf bs).toArray] (fun _ _=>True) bs:=by
 refine AP_of hf hb hnm hn (by simp) fun w B dv xs a0 ho hB hl _ hsz hd hh0 ha=>?_
 have hx0:=ha 0 (.agg (cellsOf bs).toArray) rfl
 simp only [Nat.zero_add] at hx0
 obtain ⟨hu,i,hi,hz,hs1,hby⟩:=u8s_of hT
 have hE:P.underlying T0=some (.array 16 tU8):=by
  unfold arr16 at hA
  split at hA
  ·rename_i e he
   simp at hA
   subst hA
   exact he
  ·simp at hA
 refine wSq (wRg (oNo rfl (opw_box (v:=.agg (cellsOf bs).toArray) (by simp (disch:=(try simp only [sPu]);omega) [hx0]) (oNo rfl (opw_assign (oNi ?_))))))
 have hown:Own tU8 (w.alloc (.cells (Value.agg (cellsOf bs).toArray).cells T0)) B dv xs:=ho.alloc _
 refine wSq (wRg (ops_mv (oNo rfl (opw_sliceArr hE ⟨i,hi⟩ (b:=w.heap.size) ?_ (oNo rfl (opw_appendU8 (B:=B) (dv:=dv) (xv:=.slice (some ⟨w.heap.size,0,none⟩) bs.length 16) (xs:=xs) (bs:=bs) hT ?_ ?_ rfl hown ?_ ?_ hl ?_))))))
 ·simp (disch:=(try simp only [sPu]);omega)
 ·simp (disch:=(try simp only [sPu]);omega) [hh0]
 ·rw [hs];simp (disch:=(try simp only [sPu]);omega)
 ·simp;omega
 ·refine Src.ofSlice _ hu ⟨w.heap.size,0,none⟩ _ 16 _ (by rw [cLen,Nat.mul_one]) ?_ ?_
  ·intro j u hj
   rw [add_none,cell_of_row _ _ _ _ _ _ (heap_alloc_new w _)]
   simpa [Value.cells] using hj
  ·intro u hu
   simp only [cellsOf,List.mem_map] at hu
   obtain ⟨c,_,rfl⟩:=hu
   rfl
 intro dv2 w2 r1 r2 r3 _
 refine ops_asg (oNi (wRt ?_))
 try simp only [Exit.then,Exit.inBlock]
 refine ret_tmp hr (by simp [dPu,hd]) ⟨dv2,?_,r1,((Below.refl B w).alloc hB _).trans r2,r3⟩
 simp (disch:=(try simp only [sPu]);omega)
end
end Go.Proofs.YtdnpafdgglpagaaGreatDoor.K
