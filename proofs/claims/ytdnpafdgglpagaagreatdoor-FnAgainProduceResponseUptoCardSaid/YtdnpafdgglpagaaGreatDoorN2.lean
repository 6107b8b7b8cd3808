/- Generic texts: Q1 D1 S3 S4 S5 S6. No condition. -/
import Derived.Test.YtdnpafdgglpagaaGreatDoorN1
import Derived.Laws.CopyOwn
namespace Go.Proofs.YtdnpafdgglpagaaGreatDoor.K
open Go Go.RowKit Go.Proofs.YtdnpafdgglpagaaGreatDoor.T
set_option linter.unusedSimpArgs false
set_option linter.unusedVariables false
def intK (P:Program) (T:TypeId):Option IntKind :=
 match P.underlying T with
 | some (.int k)=>some k
 | _=>none
def fieldOff (P:Program) (S f:Nat):Option Nat :=
 match P.underlying S with
 | some (.struct fields)=>match fields.toList[f]? with
  | some fld=>match P.info? fld.type with
   | some i=>if i.size=0 then none else some fld.offset
   | none=>none
  | none=>none
 | _=>none
def sliceN (P:Program) (T:Nat):Option Nat :=
 match P.underlying T with
 | some (.slice e)=>(P.info? e).map (·.size)
 | _=>none
def aggN (P:Program) (T:TypeId):Option Nat :=
 match P.info? T,P.underlying T with
 | some i,some (.struct _)=>some i.size
 | some i,some (.array _ _)=>some i.size
 | _,_=>none
def rangeV (w:World) (b:Nat):Nat->Nat->Option (List Value)
 | _,0=>some []
 | o,n+1=>(w.cell? ⟨b,o,none⟩).bind fun v=>(rangeV w b (o+1) n).map (v :: ·)
def iop (op:BinOp) (k k':IntKind) (m n:Int):Option Value :=
 match op with
 | .add=>if k=k' then some (.int k (k.wrap (m+n))) else none
 | .sub=>if k=k' then some (.int k (k.wrap (m - n))) else none
 | .mul=>if k=k' then some (.int k (k.wrap (m * n))) else none
 | .lss=>if k=k' then some (.bool (decide (m < n))) else none
 | .leq=>if k=k' then some (.bool (decide (m<=n))) else none
 | .gtr=>if k=k' then some (.bool (decide (n < m))) else none
 | .geq=>if k=k' then some (.bool (decide (n<=m))) else none
 | .eql=>if k=k' then some (.bool (m == n)) else none
 | .neq=>if k=k' then some (.bool (m != n)) else none
 | .shr=>if 0<=n/\n.toNat<=k.bits then some (.int k (m / (2 ^ n.toNat:Int))) else none
 | .shl=>if 0<=n/\n.toNat<=k.bits then some (.int k (k.wrap (m * 2 ^ n.toNat))) else none
 | .and=>if k=k' then some (.int k (k.wrap ((BitVec.ofInt k.bits m &&& BitVec.ofInt k.bits n).toNat:Int))) else none
 | .or=>if k=k' then some (.int k (k.wrap ((BitVec.ofInt k.bits m ||| BitVec.ofInt k.bits n).toNat:Int))) else none
 | .rem=>if k=k'/\n ≠ 0 then some (.int k (m.tmod n)) else none
 | _=>none
def vop (op:BinOp):Value->Value->Option Value
 | .int k m,.int k' n=>iop op k k' m n
 | _,_=>none
def qcall (P:Program) (a:Act):Callee->List Operand->List TypeId->Option Value
 | .builtin .len,[x],[T]=>match a.eval x with
  | .slice _ len _=>if (sliceN P T).isSome then some (.int .i64 (len:Int)) else none
  | .string s=>if strB P T then some (.int .i64 (s.data.toList.length:Int)) else none
  | _=>none
 | .builtin .min,[x,y],_=>match a.eval x,a.eval y with
  | .int k m,.int _ n=>some (.int k (if n < m then n else m))
  | _,_=>none
 | .builtin .max,[x,y],_=>match a.eval x,a.eval y with
  | .int k m,.int _ n=>some (.int k (if n > m then n else m))
  | _,_=>none
 | _,_,_=>none
def arrN (P:Program) (T:TypeId):Option Nat :=
 match P.underlying T with
 | some (.array n e)=>if (P.info? e).isSome then some n else none
 | _=>none
theorem arrN_of {P:Program} {T n:Nat} (h:arrN P T=some n):∃ E,P.underlying T=some (.array n E)/\∃ i,P.info? E=some i:=by
 unfold arrN at h
 split at h <;> try (simp at h;done)
 rename_i m e hu
 split at h <;> try (simp at h;done)
 rename_i hi
 simp at h
 subst h
 exact ⟨e,hu,Option.isSome_iff_exists.1 hi⟩
def qv (ok:Nat->Bool) (P:Program) (w:World) (a:Act):Op->Option Value
 | .move x=>some (a.eval x)
 | .assign x=>some (a.eval x)
 | .nilCheck x=>match a.eval x with
  | .pointer (some ad)=>some (.pointer (some ad))
  | _=>none
 | .fieldAddr S x f=>match a.eval x,fieldOff P S f with
  | .pointer (some ⟨b,o,none⟩),some off=>some (.pointer (some ⟨b,o+off,none⟩))
  | _,_=>none
 | .load T x=>match a.eval x with
  | .pointer (some ⟨b,o,none⟩)=>if ok b then (if oneB P T then w.cell? ⟨b,o,none⟩ else match aggN P T with
   | some n=>(rangeV w b o n).map fun cs=>.agg cs.toArray
   | none=>none) else none
  | _=>none
 | .indexAddr T x y=>match a.eval x,a.eval y,sliceN P T with
  | .slice (some ⟨b,o,none⟩) len _,.int _ j,some n=>if 0<=j/\j < len then some (.pointer (some ⟨b,o+j.toNat * n,none⟩)) else none
  | _,_,_=>none
 | .binOp op _ x y _=>vop op (a.eval x) (a.eval y)
 | .unOp .not _ x=>match a.eval x with
  | .bool b=>some (.bool !b)
  | _=>none
 | .pick c x y=>match a.eval c with
  | .bool b=>some (if b then a.eval x else a.eval y)
  | _=>none
 | .convert S T x=>match intK P S,intK P T,a.eval x with
  | some k,some k',.int k2 n=>if k=k2 then some (.int k' (k'.wrap n)) else none
  | _,_,_=>none
 | .slice T x none (some y) none=>match a.eval x,a.eval y,sliceN P T with
  | .slice base _ cap,.int _ h,some _=>if 0<=h/\h<=cap then some (.slice base h.toNat cap) else none
  | _,_,_=>none
 | .slice T x none none none=>match a.eval x,arrN P T with
  | .pointer (some ⟨b,0,none⟩),some n=>some (.slice (some ⟨b,0,none⟩) n n)
  | _,_=>none
 | .extract x i=>match a.eval x with
  | .tuple vs=>vs[i]?
  | _=>none
 | .call ⟨f,args,ts⟩=>qcall P a f args.toList ts.toList
 | _=>none
section
variable {P:Program} {a:Act} {w:World} {K:Act->World->Prop} {d:Option Tmp} {g:Option (Nat × Bool)}
theorem fieldB_of {S f off:Nat} (h:fieldOff P S f=some off):fieldB P S f off=true:=by
 unfold fieldOff at h
 unfold fieldB
 split at h <;> try (simp at h;done)
 rename_i fields hu
 split at h <;> try (simp at h;done)
 rename_i fld hf
 split at h <;> try (simp at h;done)
 rename_i i hi
 split at h <;> try (simp at h;done)
 rename_i h0
 simp at h
 subst h
 simp [hu,hf,hi,h0]
theorem fieldOff_of {S f off:Nat} (h:fieldB P S f off=true):fieldOff P S f=some off:=by
 unfold fieldB at h
 unfold fieldOff
 split at h <;> try (simp at h;done)
 rename_i fields hu
 split at h <;> try (simp at h;done)
 rename_i fld hf
 simp at h
 obtain ⟨h1,h2⟩:=h
 split at h2 <;> try (simp at h2;done)
 rename_i i hi
 simp at h2
 simp [hu,hf,hi,h2,h1]
theorem sliceB_of {T n:Nat} (h:sliceN P T=some n):∃ E,sliceB P T E n=true:=by
 unfold sliceN at h
 split at h <;> try (simp at h;done)
 rename_i e hu
 obtain ⟨i,hi,hn⟩:=Option.map_eq_some_iff.1 h
 exact ⟨e,by simp [sliceB,hu,hi,hn]⟩
theorem sliceN_of {T E n:Nat} (h:sliceB P T E n=true):sliceN P T=some n:=by
 obtain ⟨hu,i,hi,hs⟩:=slice_of h
 simp [sliceN,hu,hi,hs]
theorem intB_of {T:Nat} {k:IntKind} (h:intK P T=some k):intB P T k=true:=by
 unfold intK at h
 split at h <;> try (simp at h;done)
 rename_i k' hu
 simp at h
 subst h
 simp [intB,hu]
theorem intK_of {T:Nat} {k:IntKind} (h:intB P T k=true):intK P T=some k:=by
 unfold intB at h
 split at h <;> try (simp at h;done)
 rename_i k' hu
 simp at h
 subst h
 simp [intK,hu]
theorem aggB_of {T n:Nat} (h:aggN P T=some n):aggB P T n=true:=by
 unfold aggN at h
 split at h <;> simp_all [aggB]
theorem rangeV_get {b:Nat}:∀ (n o:Nat) (cs:List Value),rangeV w b o n=some cs->cs.length=n/\∀ j v,cs[j]?=some v->w.cell? ⟨b,o+j,none⟩=some v
 | 0,o,cs,h=>by
  simp [rangeV] at h
  subst h
  simp
 | n+1,o,cs,h=>by
  unfold rangeV at h
  obtain ⟨v,hv,h⟩:=Option.bind_eq_some_iff.1 h
  obtain ⟨cs',hcs,rfl⟩:=Option.map_eq_some_iff.1 h
  obtain ⟨h1,h2⟩:=rangeV_get n (o+1) cs' hcs
  refine ⟨by simp [h1],fun j u hu=>?_⟩
  cases j with
  | zero=>simp at hu;subst hu;exact hv
  | succ j =>
   simp at hu
   have:=h2 j u hu
   rwa [show o+1+j=o+(j+1) by omega] at this
theorem rangeV_of {b:Nat}:∀ (cs:List Value) (o:Nat),(∀ j v,cs[j]?=some v->w.cell? ⟨b,o+j,none⟩=some v)->rangeV w b o cs.length=some cs
 | [],_,_=>rfl
 | v :: cs,o,h=>by
  unfold rangeV
  have h0:=h 0 v rfl
  rw [Nat.add_zero] at h0
  simp only [List.length_cons]
  rw [h0,rangeV_of cs (o+1) (fun j u hu=>by have:=h (j+1) u hu;rwa [show o+(j+1)=o+1+j by omega] at this)]
  rfl
theorem vop_sound {op:BinOp} {T T':TypeId} {x y:Operand} {v:Value} (h:vop op (a.eval x) (a.eval y)=some v):∀ p:Oper,p.op=.binOp op T x y T'->(execOp a.eval p).run P w=.ok (.value v) w:=by
 intro p hp
 unfold vop at h
 split at h <;> try (simp at h;done)
 rename_i k m k' n hx hy
 unfold iop at h
 split at h <;> try (simp at h;done)
 all_goals
  split at h <;> try (simp at h;done)
 case h_10 =>
  rename_i hn
  simp at h
  subst h
  have e:m.fdiv (2 ^ n.toNat:Int)=m / (2 ^ n.toNat:Int):=Int.fdiv_eq_ediv_of_nonneg _ (Int.le_of_lt (Int.pow_pos (by decide)))
  have e2:min n.toNat k.bits=n.toNat:=Nat.min_eq_left hn.2
  have e3:¬ (n < 0):=by omega
  simp [execOp,hp,hx,hy,eqGuard,binOp,Op.shift,e,e2,e3]
 case h_11 =>
  rename_i hn
  simp at h
  subst h
  have e2:min n.toNat k.bits=n.toNat:=Nat.min_eq_left hn.2
  have e3:¬ (n < 0):=by omega
  simp [execOp,hp,hx,hy,eqGuard,binOp,Op.shift,e2,e3]
 case h_14 =>
  rename_i hk
  obtain ⟨rfl,hk0⟩:=hk
  simp at h
  subst h
  simp [execOp,hp,hx,hy,run_eqGuard_int,binOp,Op.intDiv,hk0]
 all_goals
  rename_i hk
  subst hk
  simp at h
  subst h
  simp [execOp,hp,hx,hy,run_eqGuard_int,binOp,Op.intArith,Op.intCmp,Op.intBits]
theorem qv_sound {ok:Nat->Bool} {w0:World} (hS:∀ b o,ok b=true->w.cell? ⟨b,o,none⟩=w0.cell? ⟨b,o,none⟩) {op:Op} {v:Value} (h:qv ok P w0 a op=some v):∀ p:Oper,stripOp p.op=op->(execOp a.eval p).run P w=.ok (.value v) w:=by
 intro p hp0
 have hne:∀ f args t,op ≠ .call ⟨.value f,args,t⟩:=by
  intro f args t he
  subst he
  simp [qv,qcall] at h
 have hp:=stripOp_eq hne hp0
 clear hp0
 unfold qv at h
 split at h <;> try (simp at h;done)
 ·simp at h;subst h;simp [execOp,hp]
 ·simp at h;subst h;simp [execOp,hp]
 ·split at h <;> try (simp at h;done)
  rename_i hx
  simp at h;subst h;simp [execOp,hp,hx]
 ·split at h <;> try (simp at h;done)
  rename_i b o off hx hf
  simp at h;subst h
  simp [execOp,hp,hx,run_field (fieldB_of hf)]
 ·split at h <;> try (simp at h;done)
  rename_i b o hx
  split at h <;> try (simp at h;done)
  rename_i hok
  split at h
  ·rename_i hT
   rw [<- hS b o hok] at h
   simp [execOp,hp,hx,run_load_one hT h]
  ·split at h <;> try (simp at h;done)
   rename_i n hn
   obtain ⟨cs,hcs,rfl⟩:=Option.map_eq_some_iff.1 h
   obtain ⟨h1,h2⟩:=rangeV_get _ _ _ hcs
   have h2:∀ j v,cs[j]?=some v->w.cell? ⟨b,o+j,none⟩=some v:=fun j v hj=>by rw [hS b _ hok];exact h2 j v hj
   subst h1
   simp [execOp,hp,hx,run_load_agg (aggB_of hn) h2]
 ·split at h <;> try (simp at h;done)
  rename_i b o len cap k j n hx hy hn
  split at h <;> try (simp at h;done)
  rename_i hj
  simp at h
  subst h
  obtain ⟨E,hE⟩:=sliceB_of hn
  obtain ⟨hu,i,hi,hs⟩:=slice_of hE
  simp [execOp,hp,hx,hy,Instr.indexAt,asIntOf,run_underlying hu,hj,sizeOf,typeInfo,hi,hs,add_none]
 ·exact vop_sound h p hp
 ·split at h <;> try (simp at h;done)
  rename_i b hx
  simp at h;subst h;simp [execOp,hp,hx,Op.unary]
 ·split at h <;> try (simp at h;done)
  rename_i b hx
  simp at h;subst h;simp [execOp,hp,hx,asBool]
 ·split at h <;> try (simp at h;done)
  rename_i k k' k2 n hS hT hx
  split at h <;> try (simp at h;done)
  rename_i hk
  subst hk
  simp at h
  subst h
  have h1:=intB_of hS
  have h2:=intB_of hT
  unfold intB at h1 h2
  split at h1 <;> try (simp at h1;done)
  split at h2 <;> try (simp at h2;done)
  rename_i q1 _ _ q2
  simp at h1 h2
  subst h1;subst h2
  simp [execOp,hp,hx,convert,run_underlying q1,run_underlying q2,Conv.intToInt]
 ·split at h <;> try (simp at h;done)
  rename_i base len cap k hh n hx hy hn
  split at h <;> try (simp at h;done)
  rename_i hb0
  simp at h
  subst h
  obtain ⟨E,hE⟩:=sliceB_of hn
  obtain ⟨hu,i,hi,hs⟩:=slice_of hE
  have hb:(Instr.sliceBounds true len cap none (some (.int k hh)) none).run P w=.ok (0,hh.toNat,cap) w:=by
   simp [Instr.sliceBounds,run_sliceBound,hb0]
  simp [execOp,hp,hx,hy,Instr.sliceAt,Instr.slice,run_underlying hu,hb,sizeOf,typeInfo,hi,add_none]
  intro hc
  cases base with
  | none=>rfl
  | some ad=>simp [Addr.add]
 ·split at h <;> try (simp at h;done)
  rename_i b n hx hn
  simp at h
  subst h
  obtain ⟨E,hE,i,hi⟩:=arrN_of hn
  simp [execOp,hp,hx,Instr.sliceAt,run_underlying hE,Instr.sliceBounds,Instr.sureAddr,asAddr,sizeOf,typeInfo,hi,Addr.add]
 ·split at h <;> try (simp at h;done)
  rename_i vs hx
  simp [execOp,hp,hx,Instr.extract,h]
 ·clear hne
  rename_i f args ts
  obtain ⟨args⟩:=args
  obtain ⟨ts⟩:=ts
  simp only at h
  unfold qcall at h
  split at h <;> try (simp at h;done)
  ·split at h <;> try (simp at h;done)
   ·rename_i base len cap hx
    split at h <;> try (simp at h;done)
    rename_i hn
    simp at h
    subst h
    obtain ⟨n,hn⟩:=Option.isSome_iff_exists.1 hn
    obtain ⟨E,hE⟩:=sliceB_of hn
    obtain ⟨hu,_⟩:=slice_of hE
    simp [execOp,hp,hx,resolve,invoke,builtin,Builtin.len_,run_underlying hu,goInt]
   ·rename_i s hx
    split at h <;> try (simp at h;done)
    rename_i hT
    have hu:=str_of hT
    simp at h
    subst h
    simp [execOp,hp,hx,resolve,invoke,builtin,Builtin.len_,run_underlying hu,goInt]
  ·split at h <;> try (simp at h;done)
   rename_i k m _ n hx hy
   simp at h
   subst h
   simp [execOp,hp,hx,hy,resolve,invoke,builtin,Builtin.min_,Builtin.min2]
  ·split at h <;> try (simp at h;done)
   rename_i k m _ n hx hy
   simp at h
   subst h
   simp [execOp,hp,hx,hy,resolve,invoke,builtin,Builtin.max_,Builtin.max2]
theorem ops_1 {all r:List SOp} {d:Nat} {op:Op} {v:Value} (h:qv (fun _=>true) P w a op=some v) (hk:opsw P all r K (a.put (some d) v) w):opsw P all (⟨some d,op,none⟩ :: r) K a w :=
 oNo rfl (opw_of fun o next Q hd ho hn=>by
  rw [qv_sound (fun _ _ _=>rfl) h o ho,Oper.upon_value,hd]
  exact hn _ _ hk)
theorem ops_y {all r:List SOp} {d j dj:Nat} {want:Bool} {op:Op} {v:Value} (hj:(all[j]?).bind (·.dst)=some dj) (hlt:dj < a.tmps.size) (hb:getT a dj=.bool want) (h:qv (fun _=>true) P w a op=some v) (hk:opsw P all r K (a.put (some d) v) w) :
  opsw P all (⟨some d,op,some (j,want)⟩ :: r) K a w :=
 opsw_yes rfl hj hlt hb (opw_of fun o next Q hd ho hn=>by
  rw [qv_sound (fun _ _ _=>rfl) h o ho,Oper.upon_value,hd]
  exact hn _ _ hk)
theorem ops_n {all r:List SOp} {d j dj:Nat} {want:Bool} {op:Op} (hj:(all[j]?).bind (·.dst)=some dj) (hlt:dj < a.tmps.size) (hb:getT a dj=.bool !want∨getT a dj=undef) (hk:opsw P all r K (a.put (some d) undef) w) :
  opsw P all (⟨some d,op,some (j,want)⟩ :: r) K a w:=opsw_no rfl hj hlt hb hk
theorem opq_of {w0:World} {B:Nat} {s:SOp} {v:Value} (h:qv (fun b=>decide (b < B)) P w0 a s.op=some v):opq P (Below B w0) s a v:=fun o ho w' hS' =>
 qv_sound (w0:=w0) (fun b o hb=>hS'.cell (by simpa using hb)) h o (congrArg SOp.op ho)
theorem dr_1 {w0:World} {B i d:Nat} {op:Op} {ops:List SOp} {v:Value} {r:List (Nat × Bool)} (hs:ops[i]?=some ⟨some d,op,none⟩) (h:qv (fun b=>decide (b < B)) P w0 a op=some v)
  (hk:dregw P (Below B w0) ops r K (a.put (some d) v) w):dregw P (Below B w0) ops ((i,true) :: r) K a w:=by
 unfold dregw
 exact ⟨_,hs,by simpa only [if_true] using ⟨v,opq_of (s:=⟨some d,op,none⟩) h,hk⟩⟩
theorem dr_y {w0:World} {B i d j dj:Nat} {want:Bool} {op:Op} {ops:List SOp} {v:Value} {r:List (Nat × Bool)} (hs:ops[i]?=some ⟨some d,op,some (j,want)⟩) (hj:(ops[j]?).bind (·.dst)=some dj) (hlt:dj < a.tmps.size) (hb:getT a dj=.bool want) (h:qv (fun b=>decide (b < B)) P w0 a op=some v)
  (hk:dregw P (Below B w0) ops r K (a.put (some d) v) w):dregw P (Below B w0) ops ((i,true) :: r) K a w:=by
 unfold dregw
 exact ⟨_,hs,dj,want,hj,hlt,.inl hb,by simpa only [if_true] using ⟨v,opq_of (s:=⟨some d,op,some (j,want)⟩) h,hk⟩⟩
theorem dr_n {w0:World} {B i d j dj:Nat} {q want:Bool} {op:Op} {ops:List SOp} {r:List (Nat × Bool)} (hs:ops[i]?=some ⟨some d,op,some (j,want)⟩) (hj:(ops[j]?).bind (·.dst)=some dj) (hlt:dj < a.tmps.size) (hb:getT a dj=.bool !want∨getT a dj=undef)
  (hk:dregw P (Below B w0) ops r K (a.put (some d) undef) w):dregw P (Below B w0) ops ((i,q) :: r) K a w:=by
 unfold dregw
 exact ⟨_,hs,dj,!want,hj,hlt,hb.imp id (fun h=>⟨h,rfl⟩),by rw [if_neg (by cases want <;> simp)];exact hk⟩
theorem dreg_n {S:World->Prop} {ops:List SOp} {i:Nat} {s:SOp} {r:List (Nat × Bool)} (hs:ops[i]?=some s) (hg:s.guard=none) (h:opw P s a w (fun a' w'=>S w'/\dregw P S ops r K a' w')) :
  dregw P S ops ((i,false) :: r) K a w:=by
 unfold dregw
 refine ⟨s,hs,?_⟩
 rw [hg]
 exact h
theorem dreg_yes {S:World->Prop} {ops:List SOp} {i j dj:Nat} {want:Bool} {s:SOp} {r:List (Nat × Bool)} (hs:ops[i]?=some s) (hg:s.guard=some (j,want)) (hj:(ops[j]?).bind (·.dst)=some dj) (hlt:dj < a.tmps.size) (hb:getT a dj=.bool want)
  (h:opw P s a w (fun a' w'=>S w'/\dregw P S ops r K a' w')):dregw P S ops ((i,false) :: r) K a w:=by
 unfold dregw
 refine ⟨s,hs,?_⟩
 rw [hg]
 exact ⟨dj,want,hj,hlt,.inl hb,by rw [if_pos rfl];exact h⟩
theorem dreg_nil {S:World->Prop} {ops:List SOp} (h:K a w):dregw P S ops [] K a w:=h
end
set_option maxHeartbeats 200000
structure DSt where
 at_:List (Nat × Nat)
 out:List (Nat × Value)
def DSt.look (s:DSt) (t:Nat):Option Nat:=(s.at_.find? fun x=>x.1 == t).map (·.2)
def DSt.put (s:DSt) (t x:Nat):DSt:=⟨(t,x) :: s.at_,s.out⟩
def dOp (P:Program) (N n:Nat) (s:DSt):SOp->Option DSt
 | ⟨some t,.move (.tmp x),none⟩=>if t < N then (s.look x).map (s.put t) else none
 | ⟨some t,.assign (.tmp x),none⟩=>if t < N then (s.look x).map (s.put t) else none
 | ⟨some t,.nilCheck (.tmp x),none⟩=>if t < N then (s.look x).map (s.put t) else none
 | ⟨some t,.fieldAddr S (.tmp x) f,none⟩=>if t < N then (s.look x).bind fun o=>(fieldOff P S f).map fun off=>s.put t (o+off) else none
 | ⟨none,.store T (.tmp x) (.const v),none⟩=>if oneB P T && v.oneCell' then (s.look x).bind fun o=>if o < n then some ⟨s.at_,s.out ++ [(o,v)]⟩ else none else none
 | _=>none
def dOps (P:Program) (N n:Nat):DSt->List SOp->Option DSt
 | s,[]=>some s
 | s,o :: r=>(dOp P N n s o).bind fun s'=>dOps P N n s' r
def dRun (P:Program) (N n:Nat):DSt->SC->Option DSt
 | s,.skip=>some s
 | s,.reg l=>dOps P N n s l
 | s,.seq a b=>(dRun P N n s a).bind fun s'=>dRun P N n s' b
 | _,_=>none
def dSetAll (o:Nat):List (Nat × Value)->Array Value->Array Value
 | [],cs=>cs
 | x :: r,cs=>dSetAll o r (cs.setIfInBounds (o+x.1) x.2)
theorem dSetAll_append (o:Nat):∀ (l r:List (Nat × Value)) (cs:Array Value),dSetAll o (l ++ r) cs=dSetAll o r (dSetAll o l cs)
 | [],_,_=>rfl
 | x :: l,r,cs=>dSetAll_append o l r _
theorem dSetAll_size (o:Nat):∀ (l:List (Nat × Value)) (cs:Array Value),(dSetAll o l cs).size=cs.size
 | [],_=>rfl
 | x :: l,cs=>by simp [dSetAll,dSetAll_size o l]
structure DInv (N:Nat) (w0:World) (b o:Nat) (cs:Array Value) (T:TypeId) (s:DSt) (a:Act) (w:World):Prop where
 size:a.tmps.size=N
 defers:a.defers=[]
 slots:∀ t x,s.look t=some x->getT a t=.pointer (some ⟨b,o+x,none⟩)
 world:w=w0.setRow b (dSetAll o s.out cs)
 row:w.heap[b]?=some (.cells (dSetAll o s.out cs) T (0,0))
theorem dPut {N:Nat} {w0 w:World} {b o x t:Nat} {cs:Array Value} {T:TypeId} {s:DSt} {a:Act} {v:Value} (h:DInv N w0 b o cs T s a w) (ht:t < N) (hv:v=.pointer (some ⟨b,o+x,none⟩)):DInv N w0 b o cs T (s.put t x) (a.put (some t) v) w:=by
 subst hv
 refine ⟨by rw [sPu];exact h.size,by rw [dPu];exact h.defers,fun t' x' hx=>?_,h.world,h.row⟩
 have hsz:=h.size
 simp only [DSt.put,DSt.look,List.find?_cons] at hx
 by_cases e:t=t'
 ·subst e
  simp at hx
  subst hx
  rw [gTp (by omega)]
 ·rw [gTn (Ne.symm e)]
  have:(t == t')=false:=by simpa using e
  simp only [this] at hx
  exact h.slots t' x' hx
theorem dOps_ok {P:Program} {N n:Nat} {w0:World} {b o:Nat} {cs:Array Value} {T:TypeId} (hn:o+n<=cs.size) {all:List SOp} {K:Act->World->Prop} {s':DSt} (hK:∀ a w,DInv N w0 b o cs T s' a w->K a w) :
  ∀ (l:List SOp) (s:DSt) (a:Act) (w:World),dOps P N n s l=some s'->DInv N w0 b o cs T s a w->opsw P all l K a w
 | [],s,a,w,h,hi=>by
  simp only [dOps,Option.some.injEq] at h
  subst h
  exact hK a w hi
 | op :: r,s,a,w,h,hi=>by
  simp only [dOps] at h
  obtain ⟨s1,h1,h2⟩:=Option.bind_eq_some_iff.1 h
  have ih:=fun a w=>dOps_ok hn (all:=all) hK r s1 a w h2
  unfold dOp at h1
  split at h1 <;> try (simp at h1;done)
  ·rename_i t x
   split at h1 <;> try (simp at h1;done)
   rename_i ht
   obtain ⟨y,hy,rfl⟩:=Option.map_eq_some_iff.1 h1
   have hs:=hi.slots _ _ hy
   exact oNo rfl (opw_move (ih _ _ (dPut hi ht (by rw [eTm];exact hs))))
  ·rename_i t x
   split at h1 <;> try (simp at h1;done)
   rename_i ht
   obtain ⟨y,hy,rfl⟩:=Option.map_eq_some_iff.1 h1
   have hs:=hi.slots _ _ hy
   exact oNo rfl (opw_assign (ih _ _ (dPut hi ht (by rw [eTm];exact hs))))
  ·rename_i t x
   split at h1 <;> try (simp at h1;done)
   rename_i ht
   obtain ⟨y,hy,rfl⟩:=Option.map_eq_some_iff.1 h1
   have hs:=hi.slots _ _ hy
   exact oNo rfl (opw_nilCheck (by rw [eTm];exact hs) (ih _ _ (dPut hi ht rfl)))
  ·rename_i t S x f
   split at h1 <;> try (simp at h1;done)
   rename_i ht
   obtain ⟨y,hy,h1⟩:=Option.bind_eq_some_iff.1 h1
   obtain ⟨off,hoff,rfl⟩:=Option.map_eq_some_iff.1 h1
   have hs:=hi.slots _ _ hy
   exact oNo rfl (opw_field (fieldB_of hoff) (by rw [eTm];exact hs) (ih _ _ (dPut hi ht (by rw [Nat.add_assoc]))))
  ·rename_i T' x v
   split at h1 <;> try (simp at h1;done)
   rename_i hT
   simp only [Bool.and_eq_true] at hT
   obtain ⟨y,hy,h1⟩:=Option.bind_eq_some_iff.1 h1
   split at h1 <;> try (simp at h1;done)
   rename_i hyn
   simp only [Option.some.injEq] at h1
   subst h1
   have hs:=hi.slots _ _ hy
   have hsz:=dSetAll_size o s.out cs
   have hlt:o+y < (dSetAll o s.out cs).size:=by omega
   refine oNo rfl (opw_store_one (ad:=⟨b,o+y,none⟩) (v:=v) (v0:=(dSetAll o s.out cs)[o+y]) hT.1 (by rw [eTm];exact hs) rfl hT.2 (by rw [cell_of_row _ _ _ _ _ _ hi.row];exact Array.getElem?_eq_getElem hlt) (by simp [World.frozen?,hi.row]) ?_)
   rw [pNo]
   refine ih _ _ ⟨hi.size,hi.defers,hi.slots,?_,?_⟩
   ·rw [setCell_eq_setRow _ _ _ _ _ _ _ hi.row,dSetAll_append,hi.world,setRow_setRow]
    rfl
   ·rw [setCell_eq_setRow _ _ _ _ _ _ _ hi.row,dSetAll_append]
    exact setRow_heap _ _ _ _ _ _ hi.row
theorem dRun_ok {P:Program} {N n:Nat} {w0:World} {b o:Nat} {cs:Array Value} {T:TypeId} (hn:o+n<=cs.size):∀ (c:SC) (s s':DSt) (a:Act) (w:World) (Q:Exit->Act->World->Prop),dRun P N n s c=some s'->DInv N w0 b o cs T s a w ->
  (∀ a w,DInv N w0 b o cs T s' a w->Q .normal a w)->c.wp P Q a w
 | .skip,s,s',a,w,Q,h,hi,hQ=>by
  simp only [dRun,Option.some.injEq] at h
  subst h
  exact wSk (hQ a w hi)
 | .reg l,s,s',a,w,Q,h,hi,hQ=>by
  simp only [dRun] at h
  exact wRg (dOps_ok hn hQ l s a w h hi)
 | .seq x y,s,s',a,w,Q,h,hi,hQ=>by
  simp only [dRun] at h
  obtain ⟨s1,h1,h2⟩:=Option.bind_eq_some_iff.1 h
  refine wSq (dRun_ok hn x s s1 a w _ h1 hi fun a' w' hi'=>?_)
  exact dRun_ok hn y s1 s' a' w' Q h2 hi' hQ
 | .dreg _ _,_,_,_,_,_,h,_,_=>by simp [dRun] at h
 | .cond _ _ _,_,_,_,_,_,h,_,_=>by simp [dRun] at h
 | .block _ _,_,_,_,_,_,h,_,_=>by simp [dRun] at h
 | .loop _,_,_,_,_,_,h,_,_=>by simp [dRun] at h
 | .exit _,_,_,_,_,_,h,_,_=>by simp [dRun] at h
 | .ret,_,_,_,_,_,h,_,_=>by simp [dRun] at h
 | .label _,_,_,_,_,_,h,_,_=>by simp [dRun] at h
 | .goto _,_,_,_,_,_,h,_,_=>by simp [dRun] at h
 | .scope _,_,_,_,_,_,h,_,_=>by simp [dRun] at h
 | .other,_,_,_,_,_,h,_,_=>by simp [dRun] at h
def DefAt (P:Program) (f n:Nat) (out:List (Nat × Value)):Prop :=
 FnOK P f/\∀ (w:World) (b o:Nat) (cs:Array Value) (T:TypeId),w.heap[b]?=some (.cells cs T (0,0))->o+n<=cs.size ->
  Calls P f #[.pointer (some ⟨b,o,none⟩)] w fun e w'=>e=.returned (.tuple #[])/\w'=w.setRow b (dSetAll o out cs)
def dOut (P:Program) (N n:Nat) (c:SC):Option (List (Nat × Value)):=(dRun P N n ⟨[(0,0)],[]⟩ c).map (·.out)
theorem defAt_ok {P : Program} {f n N : Nat} {fn : Func} {c : SC} {out : List (Nat × Value)} (hf : P.funcs[f]? = some fn) (hb : fn.body.map strip = some c) (hnm : (fn.name == "runtime.NumGoroutine") = false) (hN : fn.ntmps = N) (h1 : 1 <= N) (hr : fn.results = #[])
  (hd:dOut P N n c=some out):DefAt P f n out:=by
 refine ⟨fnOK_of hf hb hnm,fun w b o cs T hc hn=>?_⟩
 obtain ⟨s,hs,rfl⟩:=Option.map_eq_some_iff.1 hd
 refine fCa hf hb hN (by simpa using h1) fun a0 hsz hdf ha=>?_
 have h0:=ha 0 _ rfl
 refine dRun_ok (w0:=w) hn c _ s a0 w _ hs ⟨hsz,hdf,fun t x hx=>?_,?_,hc⟩ fun a w' hi=>?_
 ·simp only [DSt.look,List.find?_cons,List.find?_nil] at hx
  by_cases e:0=t
  ·subst e
   simp at hx
   subst hx
   simpa using h0
  ·have:(0 == t)=false:=by simpa using e
   simp [this] at hx
 ·exact (setRow_self _ _ _ _ _ hc).symm
 ·refine ⟨hi.defers,.tuple #[],by simp [results,hr],rfl,hi.world⟩
end Go.Proofs.YtdnpafdgglpagaaGreatDoor.K
namespace Go.Proofs.YtdnpafdgglpagaaGreatDoor.K
open Go Go.RowKit Go.Proofs.YtdnpafdgglpagaaGreatDoor.T
attribute [local simp] eTm eCo pNo gTp gTn qv qcall vop iop
set_option linter.unusedSimpArgs false
set_option linter.unusedVariables false
def sc_has (T0 T1:Nat):SC:=.seq (.reg [⟨some 2,.box T0 (.tmp 0),none⟩,⟨some 4,.assign (.const (.bool false)),none⟩]) (.seq (.reg [fa 5 T0 2 1,ld 6 T1 5,mv 7 1,⟨some 8,.binOp .leq T1 (.tmp 6) (.tmp 7) T1,none⟩,mv 9 8,⟨some 10,.fieldAddr T0 (.tmp 2) 2,some (4,true)⟩,⟨some 11,.load T1 (.tmp 10),some (4,true)⟩,⟨some 12,.binOp .lss T1 (.tmp 11) (.const (.int .i64 0)) T1,some (4,true)⟩,⟨some 13,.move (.tmp 12),some (4,true)⟩,⟨some 14,.move (.tmp 1),some (8,false)⟩,⟨some 15,.fieldAddr T0 (.tmp 2) 2,some (8,false)⟩,⟨some 16,.load T1 (.tmp 15),some (8,false)⟩,⟨some 17,.binOp .leq T1 (.tmp 14) (.tmp 16) T1,some (8,false)⟩,⟨some 18,.pick (.tmp 13) (.const (.bool true)) (.tmp 17),some (4,true)⟩,⟨some 19,.pick (.tmp 9) (.tmp 18) (.const (.bool false)),none⟩,asg 4 19]) (.ret))
def sc_isnull (T0 T1 T2 T3:Nat):SC:=.seq (.reg [⟨some 3,.box T0 (.tmp 0),none⟩,⟨some 5,.box T1 (.tmp 2),none⟩,⟨some 6,.assign (.const (.bool false)),none⟩]) (.seq (.reg [fa 7 T1 5 2,ld 8 T2 7,mv 9 8,⟨some 10,.fieldAddr T0 (.tmp 3) 3,some (2,true)⟩,⟨some 11,.load T3 (.tmp 10),some (2,true)⟩,⟨some 12,.binOp .geq T3 (.tmp 11) (.const (.int .i64 0)) T3,some (2,true)⟩,⟨some 13,.pick (.tmp 9) (.tmp 12) (.const (.bool false)),none⟩,mv 14 13,⟨some 15,.move (.tmp 1),some (7,true)⟩,⟨some 16,.fieldAddr T0 (.tmp 3) 3,some (7,true)⟩,⟨some 17,.load T3 (.tmp 16),some (7,true)⟩,⟨some 18,.binOp .geq T3 (.tmp 15) (.tmp 17) T3,some (7,true)⟩,⟨some 19,.pick (.tmp 14) (.tmp 18) (.const (.bool false)),none⟩,asg 6 19]) (.ret))
def sc_whole (T0 T1:Nat):SC:=.seq (.reg [⟨some 2,.assign (.const (.slice none 0 0)),none⟩]) (.seq (.reg [mv 3 0,mv 4 0,lenOp 5 T0 4,⟨some 6,.call ⟨.builtin .min,#[(.tmp 5),(.const (.int .i64 32767))],#[T1,T1]⟩,none⟩,⟨some 7,.slice T0 (.tmp 3) none (some (.tmp 6)) none,none⟩,asg 2 7]) (.ret))
def sc_things (T0 T1:Nat):SC:=.seq (.reg [⟨some 2,.assign (.const (.slice none 0 0)),none⟩]) (.seq (.reg [mv 3 0,mv 4 0,lenOp 5 T0 4,⟨some 6,.call ⟨.builtin .min,#[(.tmp 5),(.const (.int .i64 32767))],#[T1,T1]⟩,none⟩,⟨some 7,.slice T0 (.tmp 3) none (some (.tmp 6)) none,none⟩,asg 2 7]) (.ret))
def sc_at (T0 T1 T2:Nat):SC:=.seq (.reg [⟨some 2,.box T0 (.tmp 0),none⟩,⟨some 4,.alloc T0,none⟩]) (.seq (.seq (.reg [mv 5 1,fa 6 T0 2 3,ld 7 T1 6,lenOp 8 T1 7,⟨some 9,.binOp .lss T2 (.tmp 5) (.tmp 8) T2,none⟩]) (.cond (.tmp 9) (.seq (.reg [fa 10 T0 2 3,ld 11 T1 10,mv 12 1,⟨some 13,.indexAddr T1 (.tmp 11) (.tmp 12),none⟩,ld 14 T0 13,⟨none,.store T0 (.tmp 4) (.tmp 14),none⟩]) (.ret)) (.skip))) (.seq (.reg [⟨some 15,.build T0 #[],none⟩,⟨none,.store T0 (.tmp 4) (.tmp 15),none⟩]) (.ret)))
def sc_Uvarint (T0 T1 T2 T3:Nat):SC:=.seq (.reg [⟨some 2,.assign (.const (.slice none 0 0)),none⟩]) (.seq (.reg [⟨some 3,.assign (.const (.slice none 0 0)),none⟩]) (.seq (.block 0 (.loop (.seq (.seq (.reg [mv 4 0,⟨some 5,.binOp .gtr T0 (.tmp 4) (.const (.int .u64 127)) T0,none⟩]) (.cond (.tmp 5) (.skip) (.exit 0))) (.block 1 (.seq (.reg [mv 6 3,mv 7 0,⟨some 8,.binOp .and T0 (.tmp 7) (.const (.int .u64 127)) T0,none⟩,⟨some 9,.convert T0 T1 (.tmp 8),none⟩,⟨some 10,.binOp .or T1 (.tmp 9) (.const (.int .u8 128)) T1,none⟩,⟨some 11,.buildSlice T2 1 #[(0,(.tmp 10))],none⟩,⟨some 12,.call ⟨.builtin .append,#[(.tmp 6),(.tmp 11)],#[T2,T2]⟩,none⟩,asg 3 12]) (.reg [mv 13 0,⟨some 14,.binOp .shr T0 (.tmp 13) (.const (.int .u64 7)) T3,none⟩,asg 0 14])))))) (.seq (.reg [mv 15 3,mv 16 0,⟨some 17,.convert T0 T1 (.tmp 16),none⟩,⟨some 18,.buildSlice T2 1 #[(0,(.tmp 17))],none⟩,⟨some 19,.call ⟨.builtin .append,#[(.tmp 15),(.tmp 18)],#[T2,T2]⟩,none⟩,asg 2 19]) (.ret))))
def sc_Fixed (T0 T1 T2 T3:Nat):SC:=.seq (.reg [⟨some 4,.assign (.const (.slice none 0 0)),none⟩]) (.seq (.reg [⟨some 5,.assign (.const (.slice none 0 0)),none⟩]) (.seq (.seq (.reg [mv 7 1,⟨some 8,.binOp .sub T0 (.tmp 7) (.const (.int .i64 1)) T0,none⟩,asg 6 8]) (.block 0 (.loop (.seq (.seq (.reg [mv 9 6,⟨some 10,.binOp .geq T0 (.tmp 9) (.const (.int .i64 0)) T0,none⟩]) (.cond (.tmp 10) (.skip) (.exit 0))) (.seq (.block 1 (.reg [mv 13 5,mv 14 0,mv 15 6,⟨some 16,.binOp .mul T0 (.const (.int .i64 8)) (.tmp 15) T0,none⟩,⟨some 17,.binOp .shr T1 (.tmp 14) (.tmp 16) T0,none⟩,⟨some 18,.convert T1 T2 (.tmp 17),none⟩,⟨some 19,.buildSlice T3 1 #[(0,(.tmp 18))],none⟩,⟨some 20,.call ⟨.builtin .append,#[(.tmp 13),(.tmp 19)],#[T3,T3]⟩,none⟩,asg 5 20])) (.reg [mv 11 6,⟨some 12,.binOp .sub T0 (.tmp 11) (.const (.int .i64 1)) T0,none⟩,asg 6 12])))))) (.seq (.reg [mv 21 5,asg 4 21]) (.ret))))
def sc_width (T0:Nat):SC:=.seq (.reg [⟨some 2,.assign (.const (.int .i64 0)),none⟩]) (.seq (.seq (.reg [mv 3 0]) (.block 0 (.seq (.reg [⟨some 5,.binOp .eql T0 (.tmp 3) (.const (.int .i64 1)) T0,none⟩,asg 4 5]) (.cond (.tmp 4) (.seq (.reg [⟨some 2,.assign (.const (.int .i64 1)),none⟩]) (.ret)) (.seq (.seq (.reg [⟨some 7,.binOp .eql T0 (.tmp 3) (.const (.int .i64 2)) T0,none⟩,asg 6 7]) (.cond (.tmp 6) (.skip) (.reg [⟨some 8,.binOp .eql T0 (.tmp 3) (.const (.int .i64 5)) T0,none⟩,asg 6 8]))) (.cond (.tmp 6) (.seq (.reg [⟨some 2,.assign (.const (.int .i64 2)),none⟩]) (.ret)) (.seq (.reg [⟨some 10,.binOp .eql T0 (.tmp 3) (.const (.int .i64 3)) T0,none⟩,asg 9 10]) (.cond (.tmp 9) (.seq (.reg [⟨some 2,.assign (.const (.int .i64 4)),none⟩]) (.ret)) (.skip))))))))) (.seq (.reg [⟨some 2,.assign (.const (.int .i64 8)),none⟩]) (.ret)))
def sc_counted (T0 T1 T2 F0 F1:Nat):SC:=.seq (.reg [⟨some 8,.assign (.const (.slice none 0 0)),none⟩]) (.seq (.block 0 (.seq (.reg [mv 10 0,mv 11 10,⟨some 12,.move (.tmp 1),some (1,true)⟩,⟨some 13,.pick (.tmp 11) (.tmp 12) (.const (.bool false)),none⟩,asg 9 13]) (.cond (.tmp 9) (.seq (.reg [⟨some 14,.buildSlice T0 1 #[(0,(.const (.int .u8 0)))],none⟩,asg 8 14]) (.ret)) (.seq (.reg [mv 16 0,asg 15 16]) (.cond (.tmp 15) (.seq (.reg [mv 17 2,⟨some 18,.convert T1 T2 (.tmp 17),none⟩,⟨some 19,.binOp .add T2 (.tmp 18) (.const (.int .u64 1)) T2,none⟩,cal 20 F0 [19],asg 8 20]) (.ret)) (.seq (.reg [mv 22 1,asg 21 22]) (.cond (.tmp 21) (.seq (.reg [mv 23 3,⟨some 24,.call ⟨.value (.func F1),#[(.const (.int .i64 (-1))),(.tmp 23)],#[]⟩,none⟩,asg 8 24]) (.ret)) (.skip)))))))) (.seq (.reg [mv 25 2,mv 26 3,cal 27 F1 [25,26],asg 8 27]) (.ret)))
def sc_value (T0 T1 T2 T3 T4 F0 F1 F2 F3 F4:Nat):SC:=.seq (.reg [⟨some 11,.box T0 (.tmp 5),none⟩,⟨some 12,.assign (.const (.slice none 0 0)),none⟩]) (.seq (.seq (.reg [mv 16 0]) (.block 0 (.seq (.reg [⟨some 18,.binOp .eql T1 (.tmp 16) (.const (.int .i64 0)) T1,none⟩,asg 17 18]) (.cond (.tmp 17) (.seq (.reg [fa 19 T0 11 0,ld 20 T2 19,⟨some 21,.binOp .and T2 (.tmp 20) (.const (.int .i64 1)) T2,none⟩,⟨some 22,.convert T2 T3 (.tmp 21),none⟩,⟨some 23,.buildSlice T4 1 #[(0,(.tmp 22))],none⟩,asg 12 23]) (.ret)) (.seq (.reg [⟨some 25,.binOp .eql T1 (.tmp 16) (.const (.int .i64 7)) T1,none⟩,asg 24 25]) (.cond (.tmp 24) (.seq (.reg [⟨some 26,.makeSlice T4 (.const (.int .i64 16)) (.const (.int .i64 16)),none⟩,asg 13 26]) (.seq (.reg [mv 27 13,fa 28 T0 11 1,ld 29 T4 28,⟨some 30,.call ⟨.builtin .copy,#[(.tmp 27),(.tmp 29)],#[T4,T4]⟩,none⟩]) (.seq (.reg [mv 31 13,asg 12 31]) (.ret)))) (.seq (.reg [⟨some 33,.binOp .eql T1 (.tmp 16) (.const (.int .i64 8)) T1,none⟩,asg 32 33]) (.cond (.tmp 32) (.seq (.reg [fa 34 T0 11 1,ld 35 T4 34,cal 36 F0 [35],asg 14 36]) (.seq (.seq (.reg [mv 37 2]) (.cond (.tmp 37) (.reg [⟨some 14,.assign (.const (.slice none 0 0)),none⟩]) (.skip))) (.seq (.reg [mv 38 4,mv 39 2,mv 40 14,lenOp 41 T4 40,⟨some 42,.call ⟨.value (.func F1),#[(.tmp 38),(.tmp 39),(.tmp 41),(.const (.int .i64 2))],#[]⟩,none⟩,mv 43 14,⟨some 44,.call ⟨.builtin .append,#[(.tmp 42),(.tmp 43)],#[T4,T4]⟩,none⟩,asg 12 44]) (.ret)))) (.seq (.reg [⟨some 46,.binOp .eql T1 (.tmp 16) (.const (.int .i64 9)) T1,none⟩,asg 45 46]) (.cond (.tmp 45) (.seq (.reg [fa 47 T0 11 1,ld 48 T4 47,cal 49 F0 [48],asg 15 49]) (.seq (.seq (.reg [mv 50 2]) (.cond (.tmp 50) (.reg [⟨some 15,.assign (.const (.slice none 0 0)),none⟩]) (.skip))) (.seq (.reg [mv 51 4,mv 52 2,mv 53 15,lenOp 54 T4 53,⟨some 55,.call ⟨.value (.func F1),#[(.tmp 51),(.tmp 52),(.tmp 54),(.const (.int .i64 4))],#[]⟩,none⟩,mv 56 15,⟨some 57,.call ⟨.builtin .append,#[(.tmp 55),(.tmp 56)],#[T4,T4]⟩,none⟩,asg 12 57]) (.ret)))) (.seq (.reg [⟨some 59,.binOp .eql T1 (.tmp 16) (.const (.int .i64 10)) T1,none⟩,asg 58 59]) (.cond (.tmp 58) (.seq (.reg [mv 60 1,mv 61 3,mv 62 4,ld 63 T0 11,cal 64 F2 [60,61,62,63],asg 12 64]) (.ret)) (.skip))))))))))))) (.seq (.dreg [fa 65 T0 11 0,ld 66 T2 65,mv 67 0,cal 68 F3 [67],cal 69 F4 [66,68],asg 12 69] [[],[0],[],[2],[1,3,3],[4,4,0,1,2,3,4]]) (.ret)))
def sc_sfield (T0 T1 T2 T3 T4 T5 F0 F1 F2 F3 F4 F5:Nat):SC:=.seq (.reg [⟨some 4,.box T0 (.tmp 0),none⟩,⟨some 7,.box T1 (.tmp 3),none⟩,⟨some 8,.assign (.const (.slice none 0 0)),none⟩]) (.seq (.reg [ld 13 T0 4,mv 14 1,ld 15 T1 7,cal 16 F0 [13,14,15],asg 9 16]) (.seq (.seq (.reg [fa 17 T0 4 0,ld 18 T2 17,⟨some 19,.binOp .eql T2 (.tmp 18) (.const (.int .i64 11)) T2,none⟩]) (.cond (.tmp 19) (.seq (.reg [fa 20 T1 7 3,ld 21 T3 20,cal 22 F1 [21],asg 10 22]) (.seq (.seq (.reg [mv 23 9]) (.cond (.tmp 23) (.reg [⟨some 10,.assign (.const (.slice none 0 0)),none⟩]) (.skip))) (.seq (.reg [mv 24 2,mv 25 9,mv 26 10,lenOp 27 T3 26,⟨some 28,.call ⟨.value (.func F2),#[(.tmp 24),(.tmp 25),(.tmp 27),(.const (.int .i64 4))],#[]⟩,none⟩,asg 11 28]) (.seq (.seq (.reg [mv 29 10,lenOp 30 T3 29,⟨some 31,.move (.const (.int .i64 0)),none⟩]) (.block 0 (.loop (.seq (.reg [⟨some 32,.binOp .lss T2 (.tmp 31) (.tmp 30) T2,none⟩]) (.seq (.cond (.tmp 32) (.skip) (.exit 0)) (.seq (.block 1 (.seq (.reg [mv 33 31,asg 12 33]) (.dreg [mv 34 11,fa 35 T0 4 6,ld 36 T2 35,fa 37 T0 4 7,ld 38 T4 37,mv 39 1,mv 40 2,mv 41 10,mv 42 12,⟨some 43,.indexAddr T3 (.tmp 41) (.tmp 42),none⟩,ld 44 T1 43,⟨some 45,.call ⟨.value (.func F3),#[(.tmp 36),(.tmp 38),(.const (.bool false)),(.tmp 39),(.tmp 40),(.tmp 44)],#[]⟩,none⟩,⟨some 46,.call ⟨.builtin .append,#[(.tmp 34),(.tmp 45)],#[T5,T5]⟩,none⟩,asg 11 46] [[],[],[1],[],[3],[],[],[],[],[7,8],[9],[2,4,5,6,10],[0,11,11],[12,12,0,1,2,3,4,5,6,7,8,9,10,11,12]]))) (.reg [⟨some 47,.binOp .add T2 (.tmp 31) (.const (.int .i64 1)) T2,none⟩,mv 31 47]))))))) (.seq (.reg [mv 48 11,asg 8 48]) (.ret)))))) (.skip))) (.seq (.seq (.reg [fa 49 T0 4 0,ld 50 T2 49,⟨some 51,.binOp .eql T2 (.tmp 50) (.const (.int .i64 10)) T2,none⟩,mv 52 51,⟨some 53,.fieldAddr T0 (.tmp 4) 3,some (3,true)⟩,⟨some 54,.load T2 (.tmp 53),some (3,true)⟩,⟨some 55,.binOp .geq T2 (.tmp 54) (.const (.int .i64 0)) T2,some (3,true)⟩,⟨some 56,.pick (.tmp 52) (.tmp 55) (.const (.bool false)),none⟩]) (.cond (.tmp 56) (.seq (.seq (.reg [mv 57 9]) (.cond (.tmp 57) (.seq (.reg [⟨some 58,.call ⟨.value (.func F4),#[(.const (.int .i64 (-1))),(.const (.int .i64 1))],#[]⟩,none⟩,asg 8 58]) (.ret)) (.skip))) (.seq (.dreg [⟨some 59,.call ⟨.value (.func F4),#[(.const (.int .i64 1)),(.const (.int .i64 1))],#[]⟩,none⟩,fa 60 T0 4 7,ld 61 T4 60,mv 62 1,mv 63 2,ld 64 T1 7,cal 65 F5 [61,62,63,64],⟨some 66,.call ⟨.builtin .append,#[(.tmp 59),(.tmp 65)],#[T5,T5]⟩,none⟩,asg 8 66] [[],[],[1],[],[],[],[2,3,4,5,0],[0,6,6],[7,7,0,1,2,3,4,5,6,7]]) (.ret))) (.skip))) (.seq (.reg [fa 67 T0 4 0,ld 68 T2 67,fa 69 T0 4 7,ld 70 T4 69,mv 71 9,mv 72 1,mv 73 2,ld 74 T1 7,cal 75 F3 [68,70,71,72,73,74],asg 8 75]) (.ret)))))
def sc_known (T0 T1 T2 T3:Nat):SC:=.seq (.reg [⟨some 2,.assign (.const (.int .u32 0)),none⟩]) (.seq (.reg [⟨some 3,.assign (.const (.int .u32 0)),none⟩]) (.seq (.seq (.reg [mv 6 0,lenOp 7 T0 6,⟨some 8,.move (.const (.int .i64 0)),none⟩]) (.block 0 (.loop (.seq (.reg [⟨some 9,.binOp .lss T1 (.tmp 8) (.tmp 7) T1,none⟩]) (.seq (.cond (.tmp 9) (.skip) (.exit 0)) (.seq (.block 1 (.seq (.reg [⟨some 10,.indexAddr T0 (.tmp 6) (.tmp 8),none⟩,ld 11 T2 10,⟨some 5,.alloc T2,none⟩,⟨none,.store T2 (.tmp 5) (.tmp 11),none⟩]) (.seq (.reg [fa 12 T2 5 4,ld 13 T1 12,⟨some 14,.binOp .geq T1 (.tmp 13) (.const (.int .i64 0)) T1,none⟩]) (.cond (.tmp 14) (.reg [mv 15 3,fa 16 T2 5 4,ld 17 T1 16,⟨some 18,.convert T1 T3 (.tmp 17),none⟩,⟨some 19,.binOp .add T3 (.tmp 18) (.const (.int .u32 1)) T3,none⟩,⟨some 20,.call ⟨.builtin .max,#[(.tmp 15),(.tmp 19)],#[T3,T3]⟩,none⟩,asg 3 20]) (.skip))))) (.reg [⟨some 21,.binOp .add T1 (.tmp 8) (.const (.int .i64 1)) T1,none⟩,mv 8 21]))))))) (.seq (.reg [mv 22 3,asg 2 22]) (.ret))))
def sc_part (T0 T1 T2 T3 T4 T5 T6 T7 T8 T9 F0 F1 F2 F3 F4 F5 F6 F7:Nat):SC:=.seq (.reg [⟨some 7,.box T0 (.tmp 3),none⟩,⟨some 8,.assign (.const (.slice none 0 0)),none⟩]) (.seq (.reg [⟨some 9,.assign (.const (.slice none 0 0)),none⟩,⟨some 10,.assign (.const (.slice none 0 0)),none⟩]) (.seq (.reg [⟨some 11,.assign (.const (.int .i64 0)),none⟩]) (.seq (.seq (.reg [mv 21 0,lenOp 22 T1 21,⟨some 23,.move (.const (.int .i64 0)),none⟩]) (.block 0 (.loop (.seq (.reg [⟨some 24,.binOp .lss T2 (.tmp 23) (.tmp 22) T2,none⟩]) (.seq (.cond (.tmp 24) (.skip) (.exit 0)) (.seq (.block 1 (.seq (.reg [mv 25 23,⟨some 26,.indexAddr T1 (.tmp 21) (.tmp 23),none⟩,ld 27 T3 26,⟨some 13,.alloc T3,none⟩,asg 12 25,⟨none,.store T3 (.tmp 13) (.tmp 27),none⟩]) (.seq (.reg [fa 28 T3 13 4,ld 29 T2 28,⟨some 30,.binOp .lss T2 (.tmp 29) (.const (.int .i64 0)) T2,none⟩,mv 31 30,⟨some 32,.load T3 (.tmp 13),some (3,true)⟩,⟨some 33,.move (.tmp 1),some (3,true)⟩,⟨some 34,.call ⟨.value (.func F0),#[(.tmp 32),(.tmp 33)],#[]⟩,some (3,true)⟩,⟨some 35,.pick (.tmp 31) (.tmp 34) (.const (.bool false)),none⟩]) (.cond (.tmp 35) (.dreg [mv 36 9,ld 37 T3 13,mv 38 1,mv 39 2,ld 40 T0 7,mv 41 12,cal 42 F1 [40,41],cal 43 F2 [37,38,39,42],⟨some 44,.call ⟨.builtin .append,#[(.tmp 36),(.tmp 43)],#[T4,T4]⟩,none⟩,asg 9 44] [[],[],[],[],[],[],[4,5],[1,2,3,6,6],[0,7,7],[8,8,0,1,2,3,4,5,6,7,8]]) (.skip))))) (.reg [⟨some 45,.binOp .add T2 (.tmp 23) (.const (.int .i64 1)) T2,none⟩,mv 23 45]))))))) (.seq (.seq (.reg [mv 46 2,⟨some 47,.unOp .not T5 (.tmp 46),none⟩]) (.cond (.tmp 47) (.seq (.reg [mv 48 9,asg 8 48]) (.ret)) (.skip))) (.seq (.seq (.reg [mv 49 0,cal 50 F3 [49],⟨some 51,.convert T6 T2 (.tmp 50),none⟩,⟨some 52,.move (.const (.int .i64 0)),none⟩]) (.block 2 (.loop (.seq (.reg [⟨some 53,.binOp .lss T2 (.tmp 52) (.tmp 51) T2,none⟩]) (.seq (.cond (.tmp 53) (.skip) (.exit 2)) (.seq (.block 3 (.seq (.reg [mv 54 52,asg 14 54]) (.seq (.reg [mv 55 0,lenOp 56 T1 55,⟨some 57,.move (.const (.int .i64 0)),none⟩]) (.block 4 (.loop (.seq (.reg [⟨some 58,.binOp .lss T2 (.tmp 57) (.tmp 56) T2,none⟩]) (.seq (.cond (.tmp 58) (.skip) (.exit 4)) (.seq (.block 5 (.seq (.reg [mv 59 57,⟨some 60,.indexAddr T1 (.tmp 55) (.tmp 57),none⟩,ld 61 T3 60,⟨some 16,.alloc T3,none⟩,asg 15 59,⟨none,.store T3 (.tmp 16) (.tmp 61),none⟩]) (.seq (.dreg [fa 62 T3 16 4,ld 63 T2 62,mv 64 14,⟨some 65,.binOp .eql T2 (.tmp 63) (.tmp 64) T2,none⟩,mv 66 65,⟨some 67,.load T3 (.tmp 16),some (4,true)⟩,⟨some 68,.load T0 (.tmp 7),some (4,true)⟩,⟨some 69,.move (.tmp 15),some (4,true)⟩,⟨some 70,.call ⟨.value (.func F1),#[(.tmp 68),(.tmp 69)],#[]⟩,some (4,true)⟩,⟨some 71,.call ⟨.value (.func F4),#[(.tmp 67),(.tmp 70)],#[]⟩,some (4,true)⟩,⟨some 72,.unOp .not T5 (.tmp 71),some (4,true)⟩,⟨some 73,.pick (.tmp 66) (.tmp 72) (.const (.bool false)),none⟩] [[],[0],[],[1,2],[3],[4],[4],[4],[6,7,4,4],[5,8,8,4],[9,4],[4,10]]) (.cond (.tmp 73) (.seq (.dreg [ld 74 T3 16,mv 75 1,mv 76 2,ld 77 T0 7,mv 78 15,cal 79 F1 [77,78],cal 80 F2 [74,75,76,79],asg 17 80] [[],[],[],[],[],[3,4],[0,1,2,5,5],[6,6,0,1,2,3,4,5,6]]) (.seq (.reg [mv 81 10,mv 82 14,⟨some 83,.convert T2 T7 (.tmp 82),none⟩,cal 84 F5 [83],⟨some 85,.call ⟨.builtin .append,#[(.tmp 81),(.tmp 84)],#[T4,T4]⟩,none⟩,mv 86 17,lenOp 87 T4 86,⟨some 88,.convert T2 T7 (.tmp 87),none⟩,cal 89 F5 [88],⟨some 90,.call ⟨.builtin .append,#[(.tmp 85),(.tmp 89)],#[T4,T4]⟩,none⟩,mv 91 17,⟨some 92,.call ⟨.builtin .append,#[(.tmp 90),(.tmp 91)],#[T4,T4]⟩,none⟩,asg 10 92]) (.reg [mv 93 11,⟨some 94,.binOp .add T2 (.tmp 93) (.const (.int .i64 1)) T2,none⟩,asg 11 94]))) (.skip))))) (.reg [⟨some 95,.binOp .add T2 (.tmp 57) (.const (.int .i64 1)) T2,none⟩,mv 57 95]))))))))) (.reg [⟨some 96,.binOp .add T2 (.tmp 52) (.const (.int .i64 1)) T2,none⟩,mv 52 96]))))))) (.seq (.seq (.reg [mv 97 0,fa 98 T0 7 4,ld 99 T8 98,cal 100 F6 [97,99],lenOp 101 T8 100,⟨some 102,.move (.const (.int .i64 0)),none⟩]) (.block 6 (.loop (.seq (.reg [⟨some 103,.binOp .lss T2 (.tmp 102) (.tmp 101) T2,none⟩]) (.seq (.cond (.tmp 103) (.skip) (.exit 6)) (.seq (.block 7 (.seq (.reg [⟨some 104,.indexAddr T8 (.tmp 100) (.tmp 102),none⟩,ld 105 T9 104,⟨some 19,.alloc T9,none⟩,⟨none,.store T9 (.tmp 19) (.tmp 105),none⟩]) (.seq (.reg [fa 106 T9 19 1,ld 107 T4 106,cal 108 F7 [107],asg 20 108]) (.seq (.reg [mv 109 10,fa 110 T9 19 0,ld 111 T6 110,⟨some 112,.convert T6 T7 (.tmp 111),none⟩,cal 113 F5 [112],⟨some 114,.call ⟨.builtin .append,#[(.tmp 109),(.tmp 113)],#[T4,T4]⟩,none⟩,mv 115 20,lenOp 116 T4 115,⟨some 117,.convert T2 T7 (.tmp 116),none⟩,cal 118 F5 [117],⟨some 119,.call ⟨.builtin .append,#[(.tmp 114),(.tmp 118)],#[T4,T4]⟩,none⟩,mv 120 20,⟨some 121,.call ⟨.builtin .append,#[(.tmp 119),(.tmp 120)],#[T4,T4]⟩,none⟩,asg 10 121]) (.reg [mv 122 11,⟨some 123,.binOp .add T2 (.tmp 122) (.const (.int .i64 1)) T2,none⟩,asg 11 123]))))) (.reg [⟨some 124,.binOp .add T2 (.tmp 102) (.const (.int .i64 1)) T2,none⟩,mv 102 124]))))))) (.seq (.reg [mv 125 9,mv 126 11,⟨some 127,.convert T2 T7 (.tmp 126),none⟩,cal 128 F5 [127],⟨some 129,.call ⟨.builtin .append,#[(.tmp 125),(.tmp 128)],#[T4,T4]⟩,none⟩,mv 130 10,⟨some 131,.call ⟨.builtin .append,#[(.tmp 129),(.tmp 130)],#[T4,T4]⟩,none⟩,asg 8 131]) (.ret))))))))
def sc_Write (T0 T1 T2 T3 F0:Nat):SC:=.seq (.reg [⟨some 3,.box T0 (.tmp 0),none⟩,⟨some 5,.box T1 (.tmp 2),none⟩,⟨some 6,.assign (.const (.slice none 0 0)),none⟩]) (.seq (.reg [fa 7 T0 3 0,ld 8 T2 7,mv 9 1,fa 10 T0 3 1,ld 11 T3 10,⟨some 12,.binOp .geq T3 (.tmp 11) (.const (.int .i64 0)) T3,none⟩,mv 13 12,⟨some 14,.move (.tmp 1),some (6,true)⟩,⟨some 15,.fieldAddr T0 (.tmp 3) 1,some (6,true)⟩,⟨some 16,.load T3 (.tmp 15),some (6,true)⟩,⟨some 17,.binOp .geq T3 (.tmp 14) (.tmp 16) T3,some (6,true)⟩,⟨some 18,.pick (.tmp 13) (.tmp 17) (.const (.bool false)),none⟩,ld 19 T1 5,cal 20 F0 [8,9,18,19],asg 6 20]) (.ret))
def sc_Same (T0 T1 T2:Nat):SC:=.seq (.reg [⟨some 4,.assign (.const (.bool false)),none⟩]) (.seq (.seq (.reg [mv 6 0,lenOp 7 T0 6,mv 8 1,lenOp 9 T0 8,⟨some 10,.binOp .neq T1 (.tmp 7) (.tmp 9) T1,none⟩]) (.cond (.tmp 10) (.seq (.reg [⟨some 4,.assign (.const (.bool false)),none⟩]) (.ret)) (.skip))) (.seq (.seq (.reg [mv 11 0,lenOp 12 T0 11,⟨some 13,.move (.const (.int .i64 0)),none⟩]) (.block 0 (.loop (.seq (.reg [⟨some 14,.binOp .lss T1 (.tmp 13) (.tmp 12) T1,none⟩]) (.seq (.cond (.tmp 14) (.skip) (.exit 0)) (.seq (.block 1 (.seq (.reg [mv 15 13,asg 5 15]) (.seq (.dreg [mv 16 0,mv 17 5,⟨some 18,.indexAddr T0 (.tmp 16) (.tmp 17),none⟩,ld 19 T2 18,mv 20 1,mv 21 5,⟨some 22,.indexAddr T0 (.tmp 20) (.tmp 21),none⟩,ld 23 T2 22,⟨some 24,.binOp .neq T2 (.tmp 19) (.tmp 23) T2,none⟩] [[],[],[0,1],[2],[],[],[4,5],[6],[3,7]]) (.cond (.tmp 24) (.seq (.reg [⟨some 4,.assign (.const (.bool false)),none⟩]) (.ret)) (.skip))))) (.reg [⟨some 25,.binOp .add T1 (.tmp 13) (.const (.int .i64 1)) T1,none⟩,mv 13 25]))))))) (.seq (.reg [⟨some 4,.assign (.const (.bool true)),none⟩]) (.ret))))
def sc_version (T0 T1:Nat):SC:=.seq (.reg [⟨some 4,.assign (.const (.int .i64 0)),none⟩]) (.seq (.reg [mv 5 0,⟨some 6,.convert T0 T1 (.tmp 5),none⟩,mv 7 1,⟨some 8,.binOp .add T1 (.tmp 7) (.const (.int .i64 1)) T1,none⟩,⟨some 9,.binOp .rem T1 (.tmp 6) (.tmp 8) T1,none⟩,asg 4 9]) (.ret))
def sc_unknown (T0 T1 T2 T3 F0:Nat):SC:=.seq (.reg [⟨some 4,.assign (.const (.slice none 0 0)),none⟩]) (.seq (.reg [mv 11 0,cal 12 F0 [11],asg 5 12]) (.seq (.reg [⟨some 6,.assign (.const (.slice none 0 0)),none⟩]) (.seq (.seq (.reg [mv 13 1,mv 14 1,lenOp 15 T0 14,⟨some 16,.call ⟨.builtin .min,#[(.tmp 15),(.const (.int .i64 32767))],#[T1,T1]⟩,none⟩,⟨some 17,.slice T0 (.tmp 13) none (some (.tmp 16)) none,none⟩,lenOp 18 T0 17,⟨some 19,.move (.const (.int .i64 0)),none⟩]) (.block 0 (.loop (.seq (.reg [⟨some 20,.binOp .lss T1 (.tmp 19) (.tmp 18) T1,none⟩]) (.seq (.cond (.tmp 20) (.skip) (.exit 0)) (.seq (.block 1 (.seq (.reg [⟨some 21,.indexAddr T0 (.tmp 17) (.tmp 19),none⟩,ld 22 T2 21,⟨some 8,.alloc T2,none⟩,⟨none,.store T2 (.tmp 8) (.tmp 22),none⟩]) (.seq (.reg [⟨some 9,.assign (.const (.int .i64 0)),none⟩]) (.seq (.block 2 (.loop (.seq (.seq (.dreg [mv 23 9,mv 24 6,lenOp 25 T0 24,⟨some 26,.binOp .lss T1 (.tmp 23) (.tmp 25) T1,none⟩,mv 27 26,⟨some 28,.move (.tmp 6),some (4,true)⟩,⟨some 29,.move (.tmp 9),some (4,true)⟩,⟨some 30,.indexAddr T0 (.tmp 28) (.tmp 29),some (4,true)⟩,⟨some 31,.fieldAddr T2 (.tmp 30) 0,some (4,true)⟩,⟨some 32,.load T3 (.tmp 31),some (4,true)⟩,⟨some 33,.fieldAddr T2 (.tmp 8) 0,some (4,true)⟩,⟨some 34,.load T3 (.tmp 33),some (4,true)⟩,⟨some 35,.binOp .lss T3 (.tmp 32) (.tmp 34) T3,some (4,true)⟩,⟨some 36,.pick (.tmp 27) (.tmp 35) (.const (.bool false)),none⟩] [[],[],[1],[0,2],[3],[4],[4],[5,6,4],[7,4],[8,4],[4],[10,4],[9,11,4],[4,12]]) (.cond (.tmp 36) (.skip) (.exit 2))) (.block 3 (.reg [mv 37 9,⟨some 38,.binOp .add T1 (.tmp 37) (.const (.int .i64 1)) T1,none⟩,asg 9 38]))))) (.seq (.seq (.dreg [fa 39 T2 8 0,ld 40 T3 39,mv 41 5,⟨some 42,.binOp .lss T3 (.tmp 40) (.tmp 41) T3,none⟩,mv 43 42,⟨some 44,.move (.tmp 9),some (4,false)⟩,⟨some 45,.move (.tmp 6),some (4,false)⟩,⟨some 46,.call ⟨.builtin .len,#[(.tmp 45)],#[T0]⟩,some (4,false)⟩,⟨some 47,.binOp .lss T1 (.tmp 44) (.tmp 46) T1,some (4,false)⟩,⟨some 48,.move (.tmp 47),some (4,false)⟩,⟨some 49,.move (.tmp 6),some (9,true)⟩,⟨some 50,.move (.tmp 9),some (9,true)⟩,⟨some 51,.indexAddr T0 (.tmp 49) (.tmp 50),some (9,true)⟩,⟨some 52,.fieldAddr T2 (.tmp 51) 0,some (9,true)⟩,⟨some 53,.load T3 (.tmp 52),some (9,true)⟩,⟨some 54,.fieldAddr T2 (.tmp 8) 0,some (9,true)⟩,⟨some 55,.load T3 (.tmp 54),some (9,true)⟩,⟨some 56,.binOp .eql T3 (.tmp 53) (.tmp 55) T3,some (9,true)⟩,⟨some 57,.pick (.tmp 48) (.tmp 56) (.const (.bool false)),some (4,false)⟩,⟨some 58,.pick (.tmp 43) (.const (.bool true)) (.tmp 57),none⟩] [[],[0],[],[1,2],[3],[4],[4],[6,4],[5,7,4],[8,4,4],[9],[9],[10,11,9],[12,9],[13,9],[9],[15,9],[14,16,9],[9,17,4],[4,18]]) (.cond (.tmp 58) (.exit 1) (.skip))) (.seq (.reg [mv 59 6,⟨some 60,.build T2 #[],none⟩,⟨some 61,.buildSlice T0 1 #[(0,(.tmp 60))],none⟩,⟨some 62,.call ⟨.builtin .append,#[(.tmp 59),(.tmp 61)],#[T0,T0]⟩,none⟩,asg 6 62]) (.seq (.seq (.reg [mv 63 6,lenOp 64 T0 63,⟨some 65,.binOp .sub T1 (.tmp 64) (.const (.int .i64 1)) T1,none⟩,asg 10 65]) (.block 4 (.loop (.seq (.seq (.reg [mv 66 10,mv 67 9,⟨some 68,.binOp .gtr T1 (.tmp 66) (.tmp 67) T1,none⟩]) (.cond (.tmp 68) (.skip) (.exit 4))) (.seq (.block 5 (.reg [mv 71 6,mv 72 10,mv 73 6,mv 74 10,⟨some 75,.binOp .sub T1 (.tmp 74) (.const (.int .i64 1)) T1,none⟩,⟨some 76,.indexAddr T0 (.tmp 73) (.tmp 75),none⟩,ld 77 T2 76,⟨some 78,.indexAddr T0 (.tmp 71) (.tmp 72),none⟩,⟨none,.store T2 (.tmp 78) (.tmp 77),none⟩])) (.reg [mv 69 10,⟨some 70,.binOp .sub T1 (.tmp 69) (.const (.int .i64 1)) T1,none⟩,asg 10 70])))))) (.reg [mv 79 6,mv 80 9,ld 81 T2 8,⟨some 82,.indexAddr T0 (.tmp 79) (.tmp 80),none⟩,⟨none,.store T2 (.tmp 82) (.tmp 81),none⟩])))))))) (.reg [⟨some 83,.binOp .add T1 (.tmp 19) (.const (.int .i64 1)) T1,none⟩,mv 19 83]))))))) (.seq (.reg [mv 84 6,asg 4 84]) (.ret)))))
structure STy where
 I:Nat
 B:Nat
 U8:Nat
 U32:Nat
 U64:Nat
 Bs:Nat
 F:Nat
 Fs:Nat
 T:Nat
 Ts:Nat
 Tg:Nat
 Tgs:Nat
 I64:Nat
 M:Nat
 U:Nat
def stOK (P:Program) (X:STy):Bool :=
 intK P X.I == some .i64 && intK P X.I64 == some .i64 && intK P X.U8 == some .u8 && intK P X.U32 == some .u32 && intK P X.U64 == some .u64 &&
 oneB P X.I && oneB P X.B && oneB P X.I64 && oneB P X.U8 && oneB P X.U32 && oneB P X.Bs && oneB P X.Fs && oneB P X.Ts && oneB P X.Tgs &&
 u8sB P X.Bs X.U8 && aggN P X.F == some 8 && aggN P X.T == some 5 && aggN P X.M == some 2 && aggN P X.Tg == some 2 &&
 sliceN P X.Bs == some 1 && sliceN P X.Fs == some 8 && sliceN P X.Ts == some 5 && sliceN P X.Tgs == some 2 &&
 fieldOff P X.F 0 == some 0 && fieldOff P X.F 1 == some 1 && fieldOff P X.F 2 == some 2 && fieldOff P X.F 3 == some 3 && fieldOff P X.F 4 == some 4 && fieldOff P X.F 5 == some 5 && fieldOff P X.F 6 == some 6 && fieldOff P X.F 7 == some 7 &&
 fieldOff P X.T 0 == some 0 && fieldOff P X.T 1 == some 1 && fieldOff P X.T 2 == some 2 && fieldOff P X.T 3 == some 3 && fieldOff P X.T 4 == some 4 &&
 fieldOff P X.M 0 == some 0 && fieldOff P X.M 1 == some 1 && fieldOff P X.Tg 0 == some 0 && fieldOff P X.Tg 1 == some 1 &&
 !oneB P X.F && !oneB P X.T && !oneB P X.M && !oneB P X.Tg
theorem st_facts {P:Program} {X:STy} (h:stOK P X=true) :
  (intK P X.I=some .i64/\intK P X.I64=some .i64/\intK P X.U8=some .u8/\intK P X.U32=some .u32/\intK P X.U64=some .u64) /\
  (oneB P X.I=true/\oneB P X.B=true/\oneB P X.I64=true/\oneB P X.U8=true/\oneB P X.U32=true/\oneB P X.Bs=true/\oneB P X.Fs=true/\oneB P X.Ts=true/\oneB P X.Tgs=true) /\
  (u8sB P X.Bs X.U8=true/\aggN P X.F=some 8/\aggN P X.T=some 5/\aggN P X.M=some 2/\aggN P X.Tg=some 2) /\
  (sliceN P X.Bs=some 1/\sliceN P X.Fs=some 8/\sliceN P X.Ts=some 5/\sliceN P X.Tgs=some 2) /\
  (fieldOff P X.F 0=some 0/\fieldOff P X.F 1=some 1/\fieldOff P X.F 2=some 2/\fieldOff P X.F 3=some 3/\fieldOff P X.F 4=some 4/\fieldOff P X.F 5=some 5/\fieldOff P X.F 6=some 6/\fieldOff P X.F 7=some 7) /\
  (fieldOff P X.T 0=some 0/\fieldOff P X.T 1=some 1/\fieldOff P X.T 2=some 2/\fieldOff P X.T 3=some 3/\fieldOff P X.T 4=some 4) /\
  (fieldOff P X.M 0=some 0/\fieldOff P X.M 1=some 1/\fieldOff P X.Tg 0=some 0/\fieldOff P X.Tg 1=some 1) /\
  (oneB P X.F=false/\oneB P X.T=false/\oneB P X.M=false/\oneB P X.Tg=false):=by
 simp only [stOK,Bool.and_eq_true,beq_iff_eq,Bool.not_eq_true'] at h
 simp only [h,and_self]
def fldV (k fr to nu tg df of_:Int) (sub:Value):Value:=.agg #[.int .i64 k,.int .i64 fr,.int .i64 to,.int .i64 nu,.int .i64 tg,.int .i64 df,.int .i64 of_,sub]
def treV (n:Int) (s:Value) (null:Bool) (l u:Value):Value:=.agg #[.int .i64 n,s,.bool null,l,u]
section
variable {P:Program} {X:STy} {f:FuncId} {fn:Func}
theorem ops_box {all:List SOp} {a:Act} {w w0:World} {K:Act->World->Prop} {T d B:Nat} {x:Operand} {cs:Array Value} {r:List SOp} (hx:a.eval x=.agg cs) (hB:B<=w.heap.size) (hb:Below B w0 w)
  (h:∀ w',Below w.heap.size w w'->Below B w0 w'->w'.heap.size=w.heap.size+1->(∀ j,w'.cell? ⟨w.heap.size,j,none⟩=cs[j]?)->w'.heap[w.heap.size]?=some (.cells cs T (0,0))->opsw P all r K (a.put (some d) (.pointer (some ⟨w.heap.size,0,none⟩))) w'):opsw P all (⟨some d,.box T x,none⟩ :: r) K a w :=
 oNo rfl (opw_box hx (h _ ((Below.refl _ w).alloc (Nat.le_refl _) _) (hb.alloc hB _) (by simp) (fun j=>cell_of_row _ _ _ _ _ _ (heap_alloc_new w _)) (heap_alloc_new w _)))
theorem has_ok (hX:stOK P X=true) (hf:P.funcs[f]?=some fn) (hb:fn.body.map strip=some (sc_has X.F X.I)) (hn:fn.ntmps=20) (hr:fn.results=#[.tmp 4])
  (w:World) (k fr to nu tg df of_:Int) (sub:Value) (ver:Int) :
  Calls P f #[fldV k fr to nu tg df of_ sub,.int .i64 ver] w fun e w'=>e=.returned (.bool (decide (fr<=ver) && (decide (to < 0) || decide (ver<=to))))/\Below w.heap.size w w':=by
 have hst:=st_facts hX
 refine fCa hf hb hn (by simp) fun a0 hs hd ha=>?_
 have h0:=ha 0 _ rfl
 have h1:=ha 1 _ rfl
 refine wSq (wRg (ops_box (B:=w.heap.size) (w0:=w) (by rw [eTm,h0];rfl) (Nat.le_refl _) (Below.refl _ _) fun w1 q1 q2 q3 hc q5=>?_))
 (apply ops_1;(focus (simp (disch:=(try simp only [sPu]);omega) [eTm,eCo,gTp,gTn];try rfl)))
 refine oNi ?_
 generalize w.heap.size=b0 at *
 simp only [List.getElem_toArray,List.getElem_cons_zero,List.getElem_cons_succ] at h0 h1
 cases e1:decide (fr<=ver)
 ·refine wSq (wRg ?_)
  repeat (first | (apply ops_1;(focus (simp (disch:=(try simp only [sPu]);omega) [eTm,eCo,gTp,gTn,hst,hc,e1,h0,h1];try rfl))) | (apply ops_y;(focus rfl);(focus ((try simp only [sPu]);omega));(focus (simp (disch:=(try simp only [sPu]);omega) [gTp,gTn,hst,hc,e1,h0,h1];done));(focus (simp (disch:=(try simp only [sPu]);omega) [eTm,eCo,gTp,gTn,hst,hc,e1,h0,h1];try rfl))) | (apply ops_n;(focus rfl);(focus ((try simp only [sPu]);omega));(focus (first | (left;simp (disch:=(try simp only [sPu]);omega) [gTp,gTn,hst,hc,e1,h0,h1];done) | (right;simp (disch:=(try simp only [sPu]);omega) [gTp,gTn];done)))))
  refine oNi (wRt (ret_tmp hr (by simp [dPu,hd]) ⟨?_,q2⟩))
  simp (disch:=(try simp only [sPu]);omega) [eTm,eCo,gTp,gTn,e1]
 ·cases e2:decide (to < 0)
  ·cases e3:decide (ver<=to)
   ·refine wSq (wRg ?_)
    repeat (first | (apply ops_1;(focus (simp (disch:=(try simp only [sPu]);omega) [eTm,eCo,gTp,gTn,hst,hc,e1,e2,e3,h0,h1];try rfl))) | (apply ops_y;(focus rfl);(focus ((try simp only [sPu]);omega));(focus (simp (disch:=(try simp only [sPu]);omega) [gTp,gTn,hst,hc,e1,e2,e3,h0,h1];done));(focus (simp (disch:=(try simp only [sPu]);omega) [eTm,eCo,gTp,gTn,hst,hc,e1,e2,e3,h0,h1];try rfl))) | (apply ops_n;(focus rfl);(focus ((try simp only [sPu]);omega));(focus (first | (left;simp (disch:=(try simp only [sPu]);omega) [gTp,gTn,hst,hc,e1,e2,e3,h0,h1];done) | (right;simp (disch:=(try simp only [sPu]);omega) [gTp,gTn];done)))))
    refine oNi (wRt (ret_tmp hr (by simp [dPu,hd]) ⟨?_,q2⟩))
    simp (disch:=(try simp only [sPu]);omega) [eTm,eCo,gTp,gTn,e1,e2,e3]
   ·refine wSq (wRg ?_)
    repeat (first | (apply ops_1;(focus (simp (disch:=(try simp only [sPu]);omega) [eTm,eCo,gTp,gTn,hst,hc,e1,e2,e3,h0,h1];try rfl))) | (apply ops_y;(focus rfl);(focus ((try simp only [sPu]);omega));(focus (simp (disch:=(try simp only [sPu]);omega) [gTp,gTn,hst,hc,e1,e2,e3,h0,h1];done));(focus (simp (disch:=(try simp only [sPu]);omega) [eTm,eCo,gTp,gTn,hst,hc,e1,e2,e3,h0,h1];try rfl))) | (apply ops_n;(focus rfl);(focus ((try simp only [sPu]);omega));(focus (first | (left;simp (disch:=(try simp only [sPu]);omega) [gTp,gTn,hst,hc,e1,e2,e3,h0,h1];done) | (right;simp (disch:=(try simp only [sPu]);omega) [gTp,gTn];done)))))
    refine oNi (wRt (ret_tmp hr (by simp [dPu,hd]) ⟨?_,q2⟩))
    simp (disch:=(try simp only [sPu]);omega) [eTm,eCo,gTp,gTn,e1,e2,e3]
  ·refine wSq (wRg ?_)
   repeat (first | (apply ops_1;(focus (simp (disch:=(try simp only [sPu]);omega) [eTm,eCo,gTp,gTn,hst,hc,e1,e2,h0,h1];try rfl))) | (apply ops_y;(focus rfl);(focus ((try simp only [sPu]);omega));(focus (simp (disch:=(try simp only [sPu]);omega) [gTp,gTn,hst,hc,e1,e2,h0,h1];done));(focus (simp (disch:=(try simp only [sPu]);omega) [eTm,eCo,gTp,gTn,hst,hc,e1,e2,h0,h1];try rfl))) | (apply ops_n;(focus rfl);(focus ((try simp only [sPu]);omega));(focus (first | (left;simp (disch:=(try simp only [sPu]);omega) [gTp,gTn,hst,hc,e1,e2,h0,h1];done) | (right;simp (disch:=(try simp only [sPu]);omega) [gTp,gTn];done)))))
   refine oNi (wRt (ret_tmp hr (by simp [dPu,hd]) ⟨?_,q2⟩))
   simp (disch:=(try simp only [sPu]);omega) [eTm,eCo,gTp,gTn,e1,e2]
theorem isnull_ok (hX:stOK P X=true) (hf:P.funcs[f]?=some fn) (hb:fn.body.map strip=some (sc_isnull X.F X.T X.B X.I)) (hn:fn.ntmps=20) (hr:fn.results=#[.tmp 6])
  (w:World) (k fr to nu tg df of_:Int) (sub:Value) (ver:Int) (n:Int) (s l u:Value) (null:Bool) :
  Calls P f #[fldV k fr to nu tg df of_ sub,.int .i64 ver,treV n s null l u] w fun e w'=>e=.returned (.bool (null && (decide (0<=nu) && decide (nu<=ver))))/\Below w.heap.size w w':=by
 have hst:=st_facts hX
 refine fCa hf hb hn (by simp) fun a0 hs hd ha=>?_
 have h0:=ha 0 _ rfl
 have h1:=ha 1 _ rfl
 have h2:=ha 2 _ rfl
 simp only [List.getElem_toArray,List.getElem_cons_zero,List.getElem_cons_succ] at h0 h1 h2
 refine wSq (wRg (ops_box (B:=w.heap.size) (w0:=w) (by rw [eTm,h0];rfl) (Nat.le_refl _) (Below.refl _ _) fun w1 q1 q2 q3 hc q5=>?_))
 refine ops_box (B:=w.heap.size) (w0:=w) (cs:=#[.int .i64 n,s,.bool null,l,u]) (by simp (disch:=(try simp only [sPu]);omega) [eTm,eCo,gTp,gTn,h2,treV]) (by omega) q2 fun w2 r1 r2 r3 hd2 r5=>?_
 repeat (apply ops_1;(focus (simp (disch:=(try simp only [sPu]);omega) [eTm,eCo,gTp,gTn];try rfl)))
 refine oNi ?_
 have hc2:∀ j,w2.cell? ⟨w.heap.size,j,none⟩=#[Value.int .i64 k,.int .i64 fr,.int .i64 to,.int .i64 nu,.int .i64 tg,.int .i64 df,.int .i64 of_,sub][j]?:=fun j=>by rw [r1.cell (by show w.heap.size < w1.heap.size;omega)];exact hc j
 clear hc
 generalize w.heap.size=b0 at *
 generalize w1.heap.size=b1 at *
 cases null
 ·refine wSq (wRg ?_)
  repeat (first | (apply ops_1;(focus (simp (disch:=(try simp only [sPu]);omega) [eTm,eCo,gTp,gTn,hst,hc2,hd2,h0,h1];try rfl))) | (apply ops_y;(focus rfl);(focus ((try simp only [sPu]);omega));(focus (simp (disch:=(try simp only [sPu]);omega) [gTp,gTn,hst,hc2,hd2,h0,h1];done));(focus (simp (disch:=(try simp only [sPu]);omega) [eTm,eCo,gTp,gTn,hst,hc2,hd2,h0,h1];try rfl))) | (apply ops_n;(focus rfl);(focus ((try simp only [sPu]);omega));(focus (first | (left;simp (disch:=(try simp only [sPu]);omega) [gTp,gTn,hst,hc2,hd2,h0,h1];done) | (right;simp (disch:=(try simp only [sPu]);omega) [gTp,gTn];done)))))
  refine oNi (wRt (ret_tmp hr (by simp [dPu,hd]) ⟨?_,r2⟩))
  simp (disch:=(try simp only [sPu]);omega) [eTm,eCo,gTp,gTn]
 cases e1:decide (0<=nu)
 ·refine wSq (wRg ?_)
  repeat (first | (apply ops_1;(focus (simp (disch:=(try simp only [sPu]);omega) [eTm,eCo,gTp,gTn,hst,hc2,hd2,e1,h0,h1];try rfl))) | (apply ops_y;(focus rfl);(focus ((try simp only [sPu]);omega));(focus (simp (disch:=(try simp only [sPu]);omega) [gTp,gTn,hst,hc2,hd2,e1,h0,h1];done));(focus (simp (disch:=(try simp only [sPu]);omega) [eTm,eCo,gTp,gTn,hst,hc2,hd2,e1,h0,h1];try rfl))) | (apply ops_n;(focus rfl);(focus ((try simp only [sPu]);omega));(focus (first | (left;simp (disch:=(try simp only [sPu]);omega) [gTp,gTn,hst,hc2,hd2,e1,h0,h1];done) | (right;simp (disch:=(try simp only [sPu]);omega) [gTp,gTn];done)))))
  refine oNi (wRt (ret_tmp hr (by simp [dPu,hd]) ⟨?_,r2⟩))
  simp (disch:=(try simp only [sPu]);omega) [eTm,eCo,gTp,gTn,e1]
 ·cases e2:decide (nu<=ver)
  ·refine wSq (wRg ?_)
   repeat (first | (apply ops_1;(focus (simp (disch:=(try simp only [sPu]);omega) [eTm,eCo,gTp,gTn,hst,hc2,hd2,e1,e2,h0,h1];try rfl))) | (apply ops_y;(focus rfl);(focus ((try simp only [sPu]);omega));(focus (simp (disch:=(try simp only [sPu]);omega) [gTp,gTn,hst,hc2,hd2,e1,e2,h0,h1];done));(focus (simp (disch:=(try simp only [sPu]);omega) [eTm,eCo,gTp,gTn,hst,hc2,hd2,e1,e2,h0,h1];try rfl))) | (apply ops_n;(focus rfl);(focus ((try simp only [sPu]);omega));(focus (first | (left;simp (disch:=(try simp only [sPu]);omega) [gTp,gTn,hst,hc2,hd2,e1,e2,h0,h1];done) | (right;simp (disch:=(try simp only [sPu]);omega) [gTp,gTn];done)))))
   refine oNi (wRt (ret_tmp hr (by simp [dPu,hd]) ⟨?_,r2⟩))
   simp (disch:=(try simp only [sPu]);omega) [eTm,eCo,gTp,gTn,e1,e2]
  ·refine wSq (wRg ?_)
   repeat (first | (apply ops_1;(focus (simp (disch:=(try simp only [sPu]);omega) [eTm,eCo,gTp,gTn,hst,hc2,hd2,e1,e2,h0,h1];try rfl))) | (apply ops_y;(focus rfl);(focus ((try simp only [sPu]);omega));(focus (simp (disch:=(try simp only [sPu]);omega) [gTp,gTn,hst,hc2,hd2,e1,e2,h0,h1];done));(focus (simp (disch:=(try simp only [sPu]);omega) [eTm,eCo,gTp,gTn,hst,hc2,hd2,e1,e2,h0,h1];try rfl))) | (apply ops_n;(focus rfl);(focus ((try simp only [sPu]);omega));(focus (first | (left;simp (disch:=(try simp only [sPu]);omega) [gTp,gTn,hst,hc2,hd2,e1,e2,h0,h1];done) | (right;simp (disch:=(try simp only [sPu]);omega) [gTp,gTn];done)))))
   refine oNi (wRt (ret_tmp hr (by simp [dPu,hd]) ⟨?_,r2⟩))
   simp (disch:=(try simp only [sPu]);omega) [eTm,eCo,gTp,gTn,e1,e2]
theorem whole_ok {T:Nat} {n:Nat} (hI:intK P X.I=some .i64) (hT:sliceN P T=some n) (hf:P.funcs[f]?=some fn) (hb:fn.body.map strip=some (sc_whole T X.I)) (hn:fn.ntmps=8) (hr:fn.results=#[.tmp 2])
  (w:World) (base:Option Addr) (len cap:Nat) (hlc:len<=cap) :
  Calls P f #[.slice base len cap] w fun e w'=>e=.returned (.slice base (min len most) cap)/\w=w':=by
 refine fCa hf hb hn (by simp) fun a0 hs hd ha=>?_
 have h0:=ha 0 _ rfl
 simp only [List.getElem_toArray,List.getElem_cons_zero,List.getElem_cons_succ] at h0
 refine wSq (wRg ?_)
 repeat (apply ops_1;(focus (simp (disch:=(try simp only [sPu]);omega) [eTm,eCo,gTp,gTn];try rfl)))
 refine oNi ?_
 have hm:most=32767:=rfl
 have e:(if (32767:Int) < (len:Int) then 32767 else (len:Int))=((min len most:Nat):Int):=by
  rw [hm];split <;> omega
 have e2:min len most<=cap:=by omega
 refine wSq (wRg ?_)
 iterate 4 (apply ops_1;(focus (simp (disch:=(try simp only [sPu]);omega) [eTm,eCo,gTp,gTn,hI,hT,h0,e];try rfl)))
 generalize min len most=m at *
 repeat (apply ops_1;(focus (simp (disch:=(try simp only [sPu]);omega) [eTm,eCo,gTp,gTn,hI,hT,h0,e2];try rfl)))
 refine oNi (wRt (ret_tmp hr (by simp [dPu,hd]) ⟨?_,rfl⟩))
 simp (disch:=(try simp only [sPu]);omega) [eTm,eCo,gTp,gTn]
end
set_option maxHeartbeats 1000000
def RetOwn (tU8:Nat) (w:World) (out:Bytes) (e:Ending) (w':World):Prop :=
 ∃ v,e=.returned v/\Own tU8 w' w.heap.size v out/\Below w.heap.size w w'
section
variable {P:Program} {X:STy} {f:FuncId} {fn:Func}
theorem ret_cell {T b p:Nat} {R:Ending->World->Prop} {a:Act} {w:World} {cs:Array Value} {E:TypeId} (hr:fn.results=#[.cell p T]) (hT:aggN P T=some cs.size) (hp:getT a p=.pointer (some ⟨b,0,none⟩)) (hg:w.heap[b]?=some (.cells cs E (0,0)))
  (hd:a.defers=[]) (hR:R (.returned (.agg cs)) w):bodyPost P fn R .ret a w:=by
 refine bodyPost_ret_by ?_ hd hR
 unfold aggN at hT
 split at hT <;> try (simp at hT;done)
 ·rename_i i f hi hu
  simp at hT
  exact results_cell_row hr a.tmps w b E cs (0,0) _ hp hg hu rfl (by rw [hi];simpa using hT)
 ·rename_i i f e hi hu
  simp at hT
  exact results_cell_row hr a.tmps w b E cs (0,0) _ hp hg hu rfl (by rw [hi];simpa using hT)
theorem ops_u8app {all:List SOp} {a:Act} {w:World} {B T tU8 td ts tr n:Nat} {dv:Value} {xs bs:Bytes} {parts:Array (Nat × Operand)} {r:List SOp} {K:Act->World->Prop} (hT:u8sB P T tU8=true) (hn:n=bs.length) (hs:n<=100) (hn0:0 < n)
  (hp:(parts.map fun x=>(x.1,a.eval x.2)).toList=(List.range' 0 bs.length).zip (cellsOf bs)) (ho:Own tU8 w B dv xs) (hB:B<=w.heap.size) (hlen:xs.length+bs.length<=lim) (hdv:getT a td=dv) (hne:td ≠ ts) (hsz:ts < a.tmps.size)
  (hK:∀ dv' w' v1,Own tU8 w' B dv' (xs ++ bs)->Below B w w'->B<=w'.heap.size->opsw P all r K ((a.put (some ts) v1).put (some tr) dv') w') :
  opsw P all (⟨some ts,.buildSlice T n parts,none⟩ :: ⟨some tr,.call ⟨.builtin .append,#[.tmp td,.tmp ts],#[T,T]⟩,none⟩ :: r) K a w:=by
 refine oNo rfl (opw_buildU8s hT hn (by omega) hn0 hp (oNo rfl ?_))
 have hown:Own tU8 (w.alloc (.cells (cellsOf bs).toArray tU8)) B dv xs:=ho.alloc _
 obtain ⟨hu,_⟩:=u8s_of hT
 refine opw_appendU8 (B:=B) (dv:=dv) (xv:=.slice (some ⟨w.heap.size,0,none⟩) bs.length bs.length) (xs:=xs) (bs:=bs) hT ?_ ?_ rfl hown (by simp;omega) ?_ hlen ?_
 ·rw [eTm,gTn hne];exact hdv
 ·rw [eTm,gTp hsz]
 ·refine Src.ofSlice _ hu ⟨w.heap.size,0,none⟩ _ _ _ (by rw [cLen,Nat.mul_one]) ?_ ?_
  ·intro j u hj
   rw [add_none,cell_of_row _ _ _ _ _ _ (heap_alloc_new w _)]
   simpa using hj
  ·intro u hu
   simp only [cellsOf,List.mem_map] at hu
   obtain ⟨c,_,rfl⟩:=hu
   rfl
 ·intro dv' w' q1 q2 q3 _
  exact hK dv' w' _ q1 (((Below.refl B w).alloc hB _).trans q2) q3
theorem ops_u8lit {all:List SOp} {a:Act} {w:World} {B T tU8 ts n:Nat} {bs:Bytes} {parts:Array (Nat × Operand)} {r:List SOp} {K:Act->World->Prop} (hT:u8sB P T tU8=true) (hn:n=bs.length) (hs:n<=100) (hn0:0 < n)
  (hp:(parts.map fun x=>(x.1,a.eval x.2)).toList=(List.range' 0 bs.length).zip (cellsOf bs)) (hB:B<=w.heap.size)
  (hK:∀ dv' w',Own tU8 w' B dv' bs->Below B w w'->opsw P all r K (a.put (some ts) dv') w') :
  opsw P all (⟨some ts,.buildSlice T n parts,none⟩ :: r) K a w:=by
 refine oNo rfl (opw_buildU8s hT hn (by omega) hn0 hp (hK _ _ ?_ ((Below.refl B w).alloc hB _)))
 have h:=World.ownsRow_lit (base:=B) (e:=tU8) (size:=1) w (cellsOf bs).toArray bs.length hB (by simp only [maxLen];omega) (by simp [cLen])
 simpa [Own] using h
theorem own_eq {tU8:Nat} {w:World} {B:Nat} {v v':Value} {xs:Bytes} (h:Own tU8 w B v xs) (e:v'=v):Own tU8 w B v' xs:=e ▸ h
theorem own_nil (tU8:Nat) (w:World) (B:Nat):Own tU8 w B (.slice none 0 0) []:=World.ownsRow_nil w B tU8 1
theorem opw_and127 {a:Act} {w:World} {K:Act->World->Prop} {d:Option Tmp} {g:Option (Nat × Bool)} {T T':TypeId} {x:Operand} {m:Nat} (hx:a.eval x=.int .u64 (m:Int)) (hm:m < 18446744073709551616) (h:K (a.put d (.int .u64 ((m % 128:Nat):Int))) w):opw P ⟨d,.binOp .and T x (.const (.int .u64 127)) T',g⟩ a w K:=by
 refine oVa (by simp) (fun p hp=>?_) h
 have e:IntKind.u64.wrap (((BitVec.ofInt IntKind.u64.bits (m:Int)) &&& (BitVec.ofInt IntKind.u64.bits 127)).toNat:Int)=((m % 128:Nat):Int):=by
  have h1:((BitVec.ofInt 64 (m:Int)) &&& (BitVec.ofInt 64 127)).toNat=m % 128:=by
   rw [BitVec.toNat_and]
   have e1:(BitVec.ofInt 64 (m:Int)).toNat=m:=by simp [BitVec.toNat_ofInt];omega
   have e2:(BitVec.ofInt 64 127).toNat=2 ^ 7 - 1:=by decide
   rw [e1,e2,Nat.and_two_pow_sub_one_eq_mod]
  show IntKind.u64.wrap (((BitVec.ofInt 64 (m:Int)) &&& (BitVec.ofInt 64 127)).toNat:Int)=_
  rw [h1,wrap_u64]
  omega
 simp only [execOp,hp,hx,eCo]
 simp [run_eqGuard_int,binOp,Op.intBits]
 exact e
theorem opw_or128 {a:Act} {w:World} {K:Act->World->Prop} {d:Option Tmp} {g:Option (Nat × Bool)} {T T':TypeId} {x:Operand} {m:Nat} (hx:a.eval x=.int .u8 (m:Int)) (hm:m < 128) (h:K (a.put d (.int .u8 ((m+128:Nat):Int))) w):opw P ⟨d,.binOp .or T x (.const (.int .u8 128)) T',g⟩ a w K:=by
 refine oVa (by simp) (fun p hp=>?_) h
 have e:IntKind.u8.wrap (((BitVec.ofInt IntKind.u8.bits (m:Int)) ||| (BitVec.ofInt IntKind.u8.bits 128)).toNat:Int)=((m+128:Nat):Int):=by
  have h1:((BitVec.ofInt 8 (m:Int)) ||| (BitVec.ofInt 8 128)).toNat=m+128:=by
   rw [BitVec.toNat_or]
   have e1:(BitVec.ofInt 8 (m:Int)).toNat=m:=by simp [BitVec.toNat_ofInt];omega
   have e2:(BitVec.ofInt 8 128).toNat=2 ^ 7 * 1:=by decide
   rw [e1,e2,Nat.or_comm,<- Nat.two_pow_add_eq_or_of_lt (by omega) 1]
   omega
  show IntKind.u8.wrap (((BitVec.ofInt 8 (m:Int)) ||| (BitVec.ofInt 8 128)).toNat:Int)=_
  rw [h1,wrap_u8]
  omega
 simp only [execOp,hp,hx,eCo]
 simp [run_eqGuard_int,binOp,Op.intBits]
 exact e
theorem uvarint_length (n:Nat):n < 18446744073709551616->(uvarint n).length<=10:=by
 intro h
 have aux:∀ k n:Nat,n < 128 ^ k->(uvarint n).length<=max k 1:=by
  intro k
  induction k with
  | zero =>
   intro n hn
   have h0:n=0:=by simpa using hn
   rw [h0,uvarint_lt (by decide)]
   exact Nat.le_refl 1
  | succ k ih =>
   intro n hn
   by_cases h:n<=127
   ·rw [uvarint_lt h]
    show 1<=_
    omega
   ·rw [uvarint_ge (by omega),List.length_cons]
    have h1:n / 128 < 128 ^ k:=by rw [Nat.pow_succ] at hn;omega
    have h2:=ih _ h1
    have:0 < k:=by
     cases k with
     | zero=>simp at h1;omega
     | succ k=>omega
    omega
 have := aux 10 n (by have:(128:Nat) ^ 10=1180591620717411303424:=by decide
                      omega)
 omega
theorem sUvarint_ok (hX:stOK P X=true) (hf:P.funcs[f]?=some fn) (hb:fn.body.map strip=some (sc_Uvarint X.U64 X.U8 X.Bs X.U)) (hn:fn.ntmps=20) (hr:fn.results=#[.tmp 2])
  (w:World) (n:Nat) (hn64:n < 18446744073709551616):Calls P f #[.int .u64 (n:Int)] w (RetOwn X.U8 w (uvarint n)):=by
 have hst:=st_facts hX
 have hU8s:=hst.2.2.1.1
 refine fCa hf hb hn (by simp) fun a0 hs hd ha=>?_
 have h0:=ha 0 _ rfl
 simp only [List.getElem_toArray,List.getElem_cons_zero,List.getElem_cons_succ] at h0
 have hlim:lim=4294967295:=rfl
 have hlen:=uvarint_length n hn64
 refine wSq (wRg ?_)
 repeat (apply ops_1;(focus (simp (disch:=(try simp only [sPu]);omega) ;try rfl)))
 refine oNi (wSq (wRg ?_))
 repeat (apply ops_1;(focus (simp (disch:=(try simp only [sPu]);omega) ;try rfl)))
 refine oNi (wSq (wBk ?_))
 refine wLp (fun a w1=>∃ (m:Nat) (xs:Bytes),a.tmps.size=20/\a.defers=[]/\getT a 0=.int .u64 (m:Int)/\Own X.U8 w1 w.heap.size (getT a 3) xs/\xs ++ uvarint m=uvarint n/\m<=n/\Below w.heap.size w w1/\w.heap.size<=w1.heap.size)
  (fun a _=>match getT a 0 with | .int _ m=>m.toNat | _=>0) ⟨n,[],by simp [sPu,hs],by simp [dPu,hd],by simp (disch:=(try simp only [sPu]);omega) [h0],by simp (disch:=(try simp only [sPu]);omega);exact own_nil _ _ _,by simp,Nat.le_refl _,Below.refl _ _,Nat.le_refl _⟩ ?_
 rintro a w1 ⟨m,xs,hs1,hd1,g0,ho,hx,hm,hbw,hsz⟩
 have hxl:xs.length+(uvarint m).length<=10:=by rw [<- List.length_append,hx];exact hlen
 refine wSq (wSq (wRg ?_))
 repeat (apply ops_1;(focus (simp (disch:=(try simp only [sPu]);omega) [hst,g0];try rfl)))
 refine oNi (wCd (t:=decide ((127:Int) < (m:Int))) (by simp (disch:=(try simp only [sPu]);omega)) ?_)
 cases e1:decide ((127:Int) < (m:Int))
 ·rw [if_neg (by simp)]
  have hm127:m<=127:=by simp at e1;omega
  rw [uvarint_lt hm127] at hx
  refine wXt ?_
  simp only [Exit.then,Exit.inBlock,if_true]
  refine wSq (wRg ?_)
  have e8:(m:Int) % 256=(m:Int):=by omega
  iterate 3 (apply ops_1;(focus (simp (disch:=(try simp only [sPu]);omega) [hst,g0,wrap_u8,e8];try rfl)))
  refine ops_u8app (B:=w.heap.size) (dv:=getT a 3) (xs:=xs) (bs:=[UInt8.ofNat m]) hU8s rfl (by decide) (by decide) ?_ ho hsz (by simp;omega) ?_ (by decide) (by simp only [sPu];omega) ?_
  ·simp only [cellsOf,List.map_cons,List.map_nil]
   rw [cell_ofNat (by omega)]
   simp (disch:=(try simp only [sPu]);omega) [List.range']
  ·simp (disch:=(try simp only [sPu]);omega)
  intro dv' w2 v1 q1 q2 q3
  repeat (apply ops_1;(focus (simp (disch:=(try simp only [sPu]);omega) ;try rfl)))
  refine oNi (wRt (ret_tmp hr (by simp [dPu,hd1]) ⟨dv',?_,?_,hbw.trans q2⟩))
  ·simp (disch:=(try simp only [sPu]);omega)
  ·rw [<- hx];exact q1
 ·rw [if_pos rfl]
  have hm127:127 < m:=by simp at e1;omega
  rw [uvarint_ge hm127] at hx hxl
  refine wSk ?_
  simp only [Exit.then]
  refine wBk (wSq (wRg ?_))
  iterate 2 (apply ops_1;(focus (simp (disch:=(try simp only [sPu]);omega) [g0];try rfl)))
  refine oNo rfl (opw_and127 (m:=m) (by simp (disch:=(try simp only [sPu]);omega) [g0]) (by omega) ?_)
  have e8:((m % 128:Nat):Int) % 256=((m % 128:Nat):Int):=by omega
  generalize hm8:m % 128=m8 at *
  iterate 1 (apply ops_1;(focus (simp (disch:=(try simp only [sPu]);omega) [hst,wrap_u8,e8];try rfl)))
  refine oNo rfl (opw_or128 (m:=m8) (by simp (disch:=(try simp only [sPu]);omega)) (by omega) ?_)
  refine ops_u8app (B:=w.heap.size) (dv:=getT a 3) (xs:=xs) (bs:=[UInt8.ofNat (m8+128)]) hU8s rfl (by decide) (by decide) ?_ ho hsz (by simp at hxl ⊢;omega) ?_ (by decide) (by simp only [sPu];omega) ?_
  ·simp only [cellsOf,List.map_cons,List.map_nil]
   rw [cell_ofNat (by omega)]
   simp (disch:=(try simp only [sPu]);omega) [List.range']
  ·simp (disch:=(try simp only [sPu]);omega)
  intro dv' w2 v1 q1 q2 q3
  repeat (apply ops_1;(focus (simp (disch:=(try simp only [sPu]);omega) ;try rfl)))
  refine oNi ?_
  simp only [Exit.then]
  refine wRg ?_
  repeat (apply ops_1;(focus (simp (disch:=(try simp only [sPu]);omega) [g0,IntKind.bits];try rfl)))
  refine oNi ?_
  simp only [Exit.inBlock,Exit.then]
  have e128:(m:Int) / 128=((m / 128:Nat):Int):=by omega
  refine ⟨⟨m / 128,xs ++ [UInt8.ofNat (m8+128)],by simp [sPu,hs1],by simp [dPu,hd1],?_,?_,?_,by omega,hbw.trans q2,q3⟩,?_⟩
  ·simp (disch:=(try simp only [sPu]);omega)
  ·refine own_eq q1 ?_
   simp (disch:=(try simp only [sPu]);omega)
  ·rw [List.append_assoc];exact hx
  ·simp (disch:=(try simp only [sPu]);omega) [g0];omega
end
section
variable {P:Program} {X:STy} {f:FuncId} {fn:Func}
theorem fixed_length (n:Int):∀ k,(fixed n k).length=k
 | 0=>rfl
 | k+1=>by rw [fixed,List.length_cons,fixed_length n k]
theorem sFixed_ok (hX:stOK P X=true) (hf:P.funcs[f]?=some fn) (hb:fn.body.map strip=some (sc_Fixed X.I X.I64 X.U8 X.Bs)) (hn:fn.ntmps=22) (hr:fn.results=#[.tmp 4])
  (w:World) (n:Int) (size:Nat) (hs8:size<=8):Calls P f #[.int .i64 n,.int .i64 (size:Int)] w (RetOwn X.U8 w (fixed n size)):=by
 have hst:=st_facts hX
 have hU8s:=hst.2.2.1.1
 refine fCa hf hb hn (by simp) fun a0 hs hd ha=>?_
 have h0:=ha 0 _ rfl
 have h1:=ha 1 _ rfl
 simp only [List.getElem_toArray,List.getElem_cons_zero,List.getElem_cons_succ] at h0 h1
 have hlim:lim=4294967295:=rfl
 have ew:IntKind.i64.wrap ((size:Int) - 1)=(size:Int) - 1:=by rw [wrap_i64'];split <;> omega
 refine wSq (wRg ?_)
 repeat (apply ops_1;(focus (simp (disch:=(try simp only [sPu]);omega) ;try rfl)))
 refine oNi (wSq (wRg ?_))
 repeat (apply ops_1;(focus (simp (disch:=(try simp only [sPu]);omega) ;try rfl)))
 refine oNi (wSq (wSq (wRg ?_)))
 repeat (apply ops_1;(focus (simp (disch:=(try simp only [sPu]);omega) [h1,ew];try rfl)))
 refine oNi (wBk ?_)
 refine wLp (fun a w1=>∃ (j:Nat) (xs:Bytes),a.tmps.size=22/\a.defers=[]/\getT a 0=.int .i64 n/\getT a 6=.int .i64 ((j:Int) - 1)/\j<=size/\Own X.U8 w1 w.heap.size (getT a 5) xs/\xs ++ fixed n j=fixed n size/\Below w.heap.size w w1/\w.heap.size<=w1.heap.size)
  (fun a _=>match getT a 6 with | .int _ m=>(m+1).toNat | _=>0) ⟨size,[],by simp [sPu,hs],by simp [dPu,hd],by simp (disch:=(try simp only [sPu]);omega) [h0],by simp (disch:=(try simp only [sPu]);omega),Nat.le_refl _,by simp (disch:=(try simp only [sPu]);omega);exact own_nil _ _ _,by simp,Below.refl _ _,Nat.le_refl _⟩ ?_
 rintro a w1 ⟨j,xs,hs1,hd1,g0,g6,hj,ho,hx,hbw,hsz⟩
 have hxl:xs.length+j<=8:=by
  have:=congrArg List.length hx
  rw [List.length_append,fixed_length,fixed_length] at this
  omega
 refine wSq (wSq (wRg ?_))
 repeat (apply ops_1;(focus (simp (disch:=(try simp only [sPu]);omega) [hst,g6];try rfl)))
 refine oNi (wCd (t:=decide ((0:Int)<=(j:Int) - 1)) (by simp (disch:=(try simp only [sPu]);omega)) ?_)
 cases j with
 | zero =>
  rw [if_neg (by simp)]
  refine wXt ?_
  simp only [Exit.then,Exit.inBlock,if_true]
  refine wSq (wRg ?_)
  repeat (apply ops_1;(focus (simp (disch:=(try simp only [sPu]);omega) ;try rfl)))
  refine oNi (wRt (ret_tmp hr (by simp [dPu,hd1]) ⟨_,rfl,?_,hbw⟩))
  rw [fixed,List.append_nil] at hx
  rw [<- hx]
  refine own_eq ho ?_
  simp (disch:=(try simp only [sPu]);omega)
 | succ i =>
  have ei:((i+1:Nat):Int) - 1=(i:Int):=by omega
  rw [ei] at g6
  rw [if_pos (by simp)]
  refine wSk ?_
  simp only [Exit.then]
  refine wSq (wBk (wRg ?_))
  have ew8:IntKind.i64.wrap (8 * (i:Int))=8 * (i:Int):=by rw [wrap_i64'];split <;> omega
  have h8b:(8 * (i:Int)).toNat=8 * i:=by omega
  have h8a:(0:Int)<=8 * (i:Int):=by omega
  have h8c:8 * i<=64:=by omega
  have e256:(2:Int) ^ (8 * i)=256 ^ i:=by rw [Int.pow_mul];rfl
  iterate 6 (apply ops_1;(focus (simp (disch:=(try simp only [sPu]);omega) [hst,g0,g6,ew8,h8b,h8a,h8c,e256,IntKind.bits,wrap_u8];try rfl)))
  refine ops_u8app (B:=w.heap.size) (dv:=getT a 5) (xs:=xs) (bs:=[T.byteOf (n / 256 ^ i)]) hU8s rfl (by decide) (by decide) ?_ ho hsz (by simp;omega) ?_ (by decide) (by simp only [sPu];omega) ?_
  ·simp only [cellsOf,List.map_cons,List.map_nil]
   rw [byteOf_cell]
   simp (disch:=(try simp only [sPu]);omega) [List.range']
  ·simp (disch:=(try simp only [sPu]);omega)
  intro dv' w2 v1 q1 q2 q3
  have ewi:IntKind.i64.wrap ((i:Int) - 1)=(i:Int) - 1:=by rw [wrap_i64'];split <;> omega
  repeat (apply ops_1;(focus (simp (disch:=(try simp only [sPu]);omega) ;try rfl)))
  refine oNi ?_
  simp only [Exit.inBlock,Exit.then]
  refine wRg ?_
  repeat (apply ops_1;(focus (simp (disch:=(try simp only [sPu]);omega) [g6,ewi];try rfl)))
  refine oNi ?_
  try simp only [Exit.then]
  refine ⟨⟨i,xs ++ [T.byteOf (n / 256 ^ i)],by simp [sPu,hs1],by simp [dPu,hd1],?_,?_,by omega,?_,?_,hbw.trans q2,q3⟩,?_⟩
  ·simp (disch:=(try simp only [sPu]);omega) [g0]
  ·simp (disch:=(try simp only [sPu]);omega)
  ·refine own_eq q1 ?_
   simp (disch:=(try simp only [sPu]);omega)
  ·rw [List.append_assoc];exact hx
  ·simp (disch:=(try simp only [sPu]);omega) [g6]
def widthOf (kind:Int):Nat:=if kind=1 then 1 else if kind=2∨kind=5 then 2 else if kind=3 then 4 else 8
theorem width_ok (hf:P.funcs[f]?=some fn) (hb:fn.body.map strip=some (sc_width X.I)) (hn:fn.ntmps=11) (hr:fn.results=#[.tmp 2])
  (w:World) (kind:Int):Calls P f #[.int .i64 kind] w fun e w'=>e=.returned (.int .i64 (widthOf kind:Int))/\w=w':=by
 refine fCa hf hb hn (by simp) fun a0 hs hd ha=>?_
 have h0:=ha 0 _ rfl
 simp only [List.getElem_toArray,List.getElem_cons_zero,List.getElem_cons_succ] at h0
 refine wSq (wRg ?_)
 repeat (apply ops_1;(focus (simp (disch:=(try simp only [sPu]);omega) ;try rfl)))
 refine oNi (wSq (wSq (wRg ?_)))
 repeat (apply ops_1;(focus (simp (disch:=(try simp only [sPu]);omega) [h0];try rfl)))
 refine oNi (wBk (wSq (wRg ?_)))
 repeat (apply ops_1;(focus (simp (disch:=(try simp only [sPu]);omega) ;try rfl)))
 refine oNi (wCd (t:=kind == 1) (by simp (disch:=(try simp only [sPu]);omega)) ?_)
 by_cases e1:kind=1
 ·subst e1
  rw [if_pos (by decide)]
  refine wSq (wRg ?_)
  repeat (apply ops_1;(focus (simp (disch:=(try simp only [sPu]);omega) ;try rfl)))
  refine oNi (wRt ?_)
  simp only [Exit.then,Exit.inBlock]
  refine ret_tmp hr (by simp [dPu,hd]) ⟨?_,rfl⟩
  simp (disch:=(try simp only [sPu]);omega) [widthOf]
 rw [if_neg (by simpa using e1)]
 refine wSq (wSq (wRg ?_))
 repeat (apply ops_1;(focus (simp (disch:=(try simp only [sPu]);omega) ;try rfl)))
 refine oNi (wCd (t:=kind == 2) (by simp (disch:=(try simp only [sPu]);omega)) ?_)
 by_cases e2:kind=2
 ·subst e2
  rw [if_pos (by decide)]
  refine wSk ?_
  simp only [Exit.then]
  refine wCd (t:=true) (by simp (disch:=(try simp only [sPu]);omega)) ?_
  rw [if_pos (by decide)]
  refine wSq (wRg ?_)
  repeat (apply ops_1;(focus (simp (disch:=(try simp only [sPu]);omega) ;try rfl)))
  refine oNi (wRt ?_)
  simp only [Exit.then,Exit.inBlock]
  refine ret_tmp hr (by simp [dPu,hd]) ⟨?_,rfl⟩
  simp (disch:=(try simp only [sPu]);omega) [widthOf]
 rw [if_neg (by simpa using e2)]
 refine wRg ?_
 repeat (apply ops_1;(focus (simp (disch:=(try simp only [sPu]);omega) ;try rfl)))
 refine oNi ?_
 simp only [Exit.then]
 refine wCd (t:=kind == 5) (by simp (disch:=(try simp only [sPu]);omega)) ?_
 by_cases e5:kind=5
 ·subst e5
  rw [if_pos (by decide)]
  refine wSq (wRg ?_)
  repeat (apply ops_1;(focus (simp (disch:=(try simp only [sPu]);omega) ;try rfl)))
  refine oNi (wRt ?_)
  simp only [Exit.then,Exit.inBlock]
  refine ret_tmp hr (by simp [dPu,hd]) ⟨?_,rfl⟩
  simp (disch:=(try simp only [sPu]);omega) [widthOf]
 rw [if_neg (by simpa using e5)]
 refine wSq (wRg ?_)
 repeat (apply ops_1;(focus (simp (disch:=(try simp only [sPu]);omega) ;try rfl)))
 refine oNi (wCd (t:=kind == 3) (by simp (disch:=(try simp only [sPu]);omega)) ?_)
 by_cases e3:kind=3
 ·subst e3
  rw [if_pos (by decide)]
  refine wSq (wRg ?_)
  repeat (apply ops_1;(focus (simp (disch:=(try simp only [sPu]);omega) ;try rfl)))
  refine oNi (wRt ?_)
  simp only [Exit.then,Exit.inBlock]
  refine ret_tmp hr (by simp [dPu,hd]) ⟨?_,rfl⟩
  simp (disch:=(try simp only [sPu]);omega) [widthOf]
 rw [if_neg (by simpa using e3)]
 refine wSk ?_
 simp only [Exit.then,Exit.inBlock]
 refine wSq (wRg ?_)
 repeat (apply ops_1;(focus (simp (disch:=(try simp only [sPu]);omega) ;try rfl)))
 refine oNi (wRt ?_)
 refine ret_tmp hr (by simp [dPu,hd]) ⟨?_,rfl⟩
 simp (disch:=(try simp only [sPu]);omega) [widthOf,e1,e2,e3,e5]
theorem ops_call {all:List SOp} {a:Act} {w:World} {t g:Nat} {args:Array Operand} {argsV:Array Value} {r:List SOp} {K:Act->World->Prop} {R:Ending->World->Prop} (hf:FnOK P g) (hc:Calls P g argsV w R) (hargs:args.map a.eval=argsV)
  (hR:∀ e w',R e w'->∃ v,e=.returned v/\opsw P all r K (a.put (some t) v) w'):opsw P all (⟨some t,.call ⟨.value (.func g),args,#[]⟩,none⟩ :: r) K a w:=by
 obtain ⟨fn,h1,h2,h3⟩:=hf
 exact oNo rfl (opw_call (R:=R) h1 h2 h3 (by rw [hargs];exact hc) hR)
theorem counted_ok {gU gF:FuncId} (hX:stOK P X=true) (hf:P.funcs[f]?=some fn) (hb:fn.body.map strip=some (sc_counted X.Bs X.I X.U64 gU gF)) (hn:fn.ntmps=28) (hr:fn.results=#[.tmp 8])
  (oU:FnOK P gU) (cU:∀ (w:World) (n:Nat),n < 18446744073709551616->Calls P gU #[.int .u64 (n:Int)] w (RetOwn X.U8 w (uvarint n)))
  (oF:FnOK P gF) (cF:∀ (w:World) (n:Int) (size:Nat),size<=8->Calls P gF #[.int .i64 n,.int .i64 (size:Int)] w (RetOwn X.U8 w (fixed n size)))
  (w:World) (flex null:Bool) (n size:Nat) (hn63:n < 9223372036854775807) (hs8:size<=8):Calls P f #[.bool flex,.bool null,.int .i64 (n:Int),.int .i64 (size:Int)] w (RetOwn X.U8 w (counted flex null n size)):=by
 have hst:=st_facts hX
 have hU8s:=hst.2.2.1.1
 refine fCa hf hb hn (by simp) fun a0 hs hd ha=>?_
 have h0:=ha 0 _ rfl
 have h1:=ha 1 _ rfl
 have h2:=ha 2 _ rfl
 have h3:=ha 3 _ rfl
 simp only [List.getElem_toArray,List.getElem_cons_zero,List.getElem_cons_succ] at h0 h1 h2 h3
 refine wSq (wRg ?_)
 repeat (apply ops_1;(focus (simp (disch:=(try simp only [sPu]);omega) ;try rfl)))
 refine oNi (wSq (wBk (wSq (wRg ?_))))
 have fin:∀ (out:Bytes) (a:Act) (w':World) (v:Value),a.tmps.size=28->a.defers=[]->getT a 8=v->Own X.U8 w' w.heap.size v out->Below w.heap.size w w'->out=counted flex null n size->bodyPost P fn (RetOwn X.U8 w (counted flex null n size)) .ret a w':=by
  intro out a w' v q1 q2 q3 q4 q5 q6
  subst q6
  exact ret_tmp hr q2 ⟨v,by rw [q3],q4,q5⟩
 cases flex
 ·repeat (first | (apply ops_1;(focus (simp (disch:=(try simp only [sPu]);omega) [h0,h1];try rfl))) | (apply ops_y;(focus rfl);(focus ((try simp only [sPu]);omega));(focus (simp (disch:=(try simp only [sPu]);omega) [h0,h1];done));(focus (simp (disch:=(try simp only [sPu]);omega) [h0,h1];try rfl))) | (apply ops_n;(focus rfl);(focus ((try simp only [sPu]);omega));(focus (first | (left;simp (disch:=(try simp only [sPu]);omega) [h0,h1];done) | (right;simp (disch:=(try simp only [sPu]);omega);done)))))
  refine oNi (wCd (t:=false) (by simp (disch:=(try simp only [sPu]);omega)) ?_)
  rw [if_neg (by simp)]
  refine wSq (wRg ?_)
  repeat (apply ops_1;(focus (simp (disch:=(try simp only [sPu]);omega) [h0];try rfl)))
  refine oNi (wCd (t:=false) (by simp (disch:=(try simp only [sPu]);omega)) ?_)
  rw [if_neg (by simp)]
  refine wSq (wRg ?_)
  repeat (apply ops_1;(focus (simp (disch:=(try simp only [sPu]);omega) [h1];try rfl)))
  refine oNi (wCd (t:=null) (by simp (disch:=(try simp only [sPu]);omega)) ?_)
  cases null
  ·rw [if_neg (by simp)]
   refine wSk ?_
   simp only [Exit.then,Exit.inBlock]
   refine wSq (wRg ?_)
   iterate 2 (apply ops_1;(focus (simp (disch:=(try simp only [sPu]);omega) [h2,h3];try rfl)))
   refine ops_call oF (cF w n size hs8) (by simp (disch:=(try simp only [sPu]);omega)) ?_
   rintro e w' ⟨v,rfl,q1,q2⟩
   refine ⟨v,rfl,?_⟩
   repeat (apply ops_1;(focus (simp (disch:=(try simp only [sPu]);omega) ;try rfl)))
   refine oNi (wRt ?_)
   refine fin _ _ _ v (by simp [sPu,hs]) (by simp [dPu,hd]) (by simp (disch:=(try simp only [sPu]);omega)) q1 q2 (by simp [counted])
  ·rw [if_pos rfl]
   refine wSq (wRg ?_)
   iterate 1 (apply ops_1;(focus (simp (disch:=(try simp only [sPu]);omega) [h3];try rfl)))
   refine ops_call oF (cF w (-1) size hs8) (by simp (disch:=(try simp only [sPu]);omega)) ?_
   rintro e w' ⟨v,rfl,q1,q2⟩
   refine ⟨v,rfl,?_⟩
   repeat (apply ops_1;(focus (simp (disch:=(try simp only [sPu]);omega) ;try rfl)))
   refine oNi (wRt ?_)
   simp only [Exit.then,Exit.inBlock]
   refine fin _ _ _ v (by simp [sPu,hs]) (by simp [dPu,hd]) (by simp (disch:=(try simp only [sPu]);omega)) q1 q2 (by simp [counted])
 ·cases null
  ·repeat (first | (apply ops_1;(focus (simp (disch:=(try simp only [sPu]);omega) [h0,h1];try rfl))) | (apply ops_y;(focus rfl);(focus ((try simp only [sPu]);omega));(focus (simp (disch:=(try simp only [sPu]);omega) [h0,h1];done));(focus (simp (disch:=(try simp only [sPu]);omega) [h0,h1];try rfl))) | (apply ops_n;(focus rfl);(focus ((try simp only [sPu]);omega));(focus (first | (left;simp (disch:=(try simp only [sPu]);omega) [h0,h1];done) | (right;simp (disch:=(try simp only [sPu]);omega);done)))))
   refine oNi (wCd (t:=false) (by simp (disch:=(try simp only [sPu]);omega)) ?_)
   rw [if_neg (by simp)]
   refine wSq (wRg ?_)
   repeat (apply ops_1;(focus (simp (disch:=(try simp only [sPu]);omega) [h0];try rfl)))
   refine oNi (wCd (t:=true) (by simp (disch:=(try simp only [sPu]);omega)) ?_)
   rw [if_pos rfl]
   refine wSq (wRg ?_)
   have e1:(n:Int) % 18446744073709551616=(n:Int):=by omega
   have e2:((n:Int)+1) % 18446744073709551616=((n+1:Nat):Int):=by omega
   iterate 1 (apply ops_1;(focus (simp (disch:=(try simp only [sPu]);omega) [h2];try rfl)))
   iterate 1 (apply ops_1;(focus (simp (disch:=(try simp only [sPu]);omega) [hst,wrap_u64,e1];try rfl)))
   iterate 1 (apply ops_1;(focus (simp (disch:=(try simp only [sPu]);omega) [hst,wrap_u64,e2];try rfl)))
   refine ops_call oU (cU w (n+1) (by omega)) (by simp (disch:=(try simp only [sPu]);omega)) ?_
   rintro e w' ⟨v,rfl,q1,q2⟩
   refine ⟨v,rfl,?_⟩
   repeat (apply ops_1;(focus (simp (disch:=(try simp only [sPu]);omega) ;try rfl)))
   refine oNi (wRt ?_)
   simp only [Exit.then,Exit.inBlock]
   refine fin _ _ _ v (by simp [sPu,hs]) (by simp [dPu,hd]) (by simp (disch:=(try simp only [sPu]);omega)) q1 q2 (by simp [counted])
  ·repeat (first | (apply ops_1;(focus (simp (disch:=(try simp only [sPu]);omega) [h0,h1];try rfl))) | (apply ops_y;(focus rfl);(focus ((try simp only [sPu]);omega));(focus (simp (disch:=(try simp only [sPu]);omega) [h0,h1];done));(focus (simp (disch:=(try simp only [sPu]);omega) [h0,h1];try rfl))) | (apply ops_n;(focus rfl);(focus ((try simp only [sPu]);omega));(focus (first | (left;simp (disch:=(try simp only [sPu]);omega) [h0,h1];done) | (right;simp (disch:=(try simp only [sPu]);omega);done)))))
   refine oNi (wCd (t:=true) (by simp (disch:=(try simp only [sPu]);omega)) ?_)
   rw [if_pos rfl]
   refine wSq (wRg ?_)
   refine ops_u8lit (B:=w.heap.size) (bs:=[0]) hU8s rfl (by decide) (by decide) (by simp [cellsOf,cell,eCo]) (Nat.le_refl _) ?_
   intro v w' q1 q2
   repeat (apply ops_1;(focus (simp (disch:=(try simp only [sPu]);omega) ;try rfl)))
   refine oNi (wRt ?_)
   simp only [Exit.then,Exit.inBlock]
   refine fin _ _ _ v (by simp [sPu,hs]) (by simp [dPu,hd]) (by simp (disch:=(try simp only [sPu]);omega)) q1 q2 (by simp [counted])
end
def kindOf:Ty->Int
 | .prim .bool=>0
 | .prim .i8=>1
 | .prim .i16=>2
 | .prim .i32=>3
 | .prim .i64=>4
 | .prim .u16=>5
 | .prim .uuid=>7
 | .prim .str=>8
 | .prim .bytes=>9
 | .struct _ _ _ _ _ _=>10
 | .list _ _ _ _=>11
def Fs.drop:Nat->Fs->Fs
 | 0,fs=>fs
 | _+1,.nil=>.nil
 | n+1,.cons _ _ r=>Fs.drop n r
def isList:Ty->Bool
 | .list _ _ _ _=>true
 | _=>false
def ofOK (of_:Int):Ty->Prop
 | .list _ _ _ of=>of_=kindOf of/\isList of=false
 | _=>True
mutual
def SubV (w:World) (F:Nat->Prop):Ty->Value->Prop
 | .prim _,_=>True
 | .struct _ _ _ _ fs kn,v=>∃ base cap,v=.slice base (Fs.len fs+Fs.len kn) cap/\(Fs.len fs+Fs.len kn=0∨∃ b o,base=some ⟨b,o,none⟩/\F b/\FsAt w F (-1) fs b o/\FsAt w F 0 kn b (o+Fs.len fs * 8))
 | .list _ _ _ of,v=>SubV w F of v
def FsAt (w:World) (F:Nat->Prop) (tg:Int):Fs->Nat->Nat->Prop
 | .nil,_,_=>True
 | .cons h ty r,b,o=>(∃ of_ sub,rangeV w b o 8=some [.int .i64 (kindOf ty),.int .i64 h.from_,.int .i64 h.to,.int .i64 h.null,.int .i64 tg,.int .i64 h.dflt,.int .i64 of_,sub]/\sub.oneCell'=true/\ofOK of_ ty/\SubV w F ty sub)/\FsAt w F tg r b (o+8)
end
def FsV (w:World) (F:Nat->Prop) (fs kn:Fs) (v:Value):Prop :=
 ∃ base cap,v=.slice base (Fs.len fs+Fs.len kn) cap/\(Fs.len fs+Fs.len kn=0∨∃ b o,base=some ⟨b,o,none⟩/\F b/\FsAt w F (-1) fs b o/\FsAt w F 0 kn b (o+Fs.len fs * 8))
def UTagsAt (w:World) (F:Nat->Prop) (base:Option Addr) (u:List (Nat × Bytes)):Prop :=
 u=[]∨∃ b o,base=some ⟨b,o,none⟩/\F b/\∀ i x,u[i]?=some x->x.1 < 4294967296/\∃ vb vc,rangeV w b (o+i * 2) 2=some [.int .u32 (x.1:Int),.slice vb x.2.length vc]/\BytesAt w F vb x.2/\x.2.length<=vc
inductive TV (G:List (Nat × Bytes)->Prop) (w:World) (F:Nat->Prop):Tree->Value->Prop where
 | mk (n:Int) (s:Bytes) (null:Bool) (l:List Tree) (u:List (Nat × Bytes)) (sb lb ub:Option Addr) (sc lc uc:Nat) (b o:Nat) (cs:Nat->List Value)
   (hs:BytesAt w F sb s) (hsc:s.length<=sc) (hlc:l.length<=lc) (huc:u.length<=uc)
   (hl:l ≠ []->lb=some ⟨b,o,none⟩/\F b)
   (hr:∀ i,i < l.length->rangeV w b (o+i * 5) 5=some (cs i))
   (ht:∀ i x,l[i]?=some x->TV G w F x (.agg (cs i).toArray))
   (hG:G u) (hu:UTagsAt w F ub u) :
   TV G w F (.mk n s null l u) (treV n (.slice sb s.length sc) null (.slice lb l.length lc) (.slice ub u.length uc))
def zeroTV:Value:=treV 0 (.slice none 0 0) false (.slice none 0 0) (.slice none 0 0)
section
variable {G:List (Nat × Bytes)->Prop} {P:Program} {X:STy} {f:FuncId} {fn:Func}
theorem bytesAt_mono {w0 w:World} {F F':Nat->Prop} {base:Option Addr} {bs:Bytes} (h:BytesAt w0 F base bs) (hF:∀ k,F k->F' k) (hw:∀ k,F k->w.heap[k]?=w0.heap[k]?):BytesAt w F' base bs:=by
 rcases h with h | ⟨b,o,h1,h2,h3⟩
 ·exact .inl h
 ·exact .inr ⟨b,o,h1,hF _ h2,fun j u hu=>by rw [World.cell?_of_block (hw b h2)];exact h3 j u hu⟩
theorem rangeV_mono {w0 w:World} {b:Nat} (hw:w.heap[b]?=w0.heap[b]?):∀ (n o:Nat),rangeV w b o n=rangeV w0 b o n
 | 0,_=>rfl
 | n+1,o=>by
  unfold rangeV
  rw [World.cell?_of_block (a:=⟨b,o,none⟩) hw,rangeV_mono hw n (o+1)]
theorem tagsAt_mono {w0 w:World} {F F':Nat->Prop} {base:Option Addr} {u:List (Nat × Bytes)} (h:UTagsAt w0 F base u) (hF:∀ k,F k->F' k) (hw:∀ k,F k->w.heap[k]?=w0.heap[k]?):UTagsAt w F' base u:=by
 rcases h with h | ⟨b,o,h1,h2,h3⟩
 ·exact .inl h
 ·refine .inr ⟨b,o,h1,hF _ h2,fun i x hx=>?_⟩
  obtain ⟨q0,vb,vc,q1,q2,q3⟩:=h3 i x hx
  exact ⟨q0,vb,vc,by rw [rangeV_mono (hw b h2)];exact q1,bytesAt_mono q2 hF hw,q3⟩
theorem TV.mono {w0 w:World} {F F':Nat->Prop} (hF:∀ k,F k->F' k) (hw:∀ k,F k->w.heap[k]?=w0.heap[k]?) {t:Tree} {v:Value} (h:TV G w0 F t v):TV G w F' t v:=by
 induction h with
 | mk n s null l u sb lb ub sc lc uc b o cs hs hsc hlc huc hl hr ht hG hu ih =>
  refine .mk n s null l u sb lb ub sc lc uc b o cs (bytesAt_mono hs hF hw) hsc hlc huc (fun h=>⟨(hl h).1,hF _ (hl h).2⟩) (fun i hi=>?_) ih hG (tagsAt_mono hu hF hw)
  have hne:l ≠ []:=by intro e;subst e;simp at hi
  rw [rangeV_mono (hw b (hl hne).2)]
  exact hr i hi
mutual
theorem SubV.mono {w0 w:World} {F F':Nat->Prop} (hF:∀ k,F k->F' k) (hw:∀ k,F k->w.heap[k]?=w0.heap[k]?):∀ (ty:Ty) (v:Value),SubV w0 F ty v->SubV w F' ty v
 | .prim _,_,_=>by simp [SubV]
 | .struct _ _ _ _ fs kn,v,h=>by
  simp only [SubV] at h ⊢
  obtain ⟨base,cap,h1,h2⟩:=h
  exact ⟨base,cap,h1,h2.imp id fun ⟨b,o,q1,q2,q3,q4⟩=>⟨b,o,q1,hF _ q2,FsAt.mono hF hw (-1) fs b o q2 q3,FsAt.mono hF hw 0 kn b _ q2 q4⟩⟩
 | .list _ _ _ of,v,h=>by
  simp only [SubV] at h ⊢
  exact SubV.mono hF hw of v h
theorem FsAt.mono {w0 w:World} {F F':Nat->Prop} (hF:∀ k,F k->F' k) (hw:∀ k,F k->w.heap[k]?=w0.heap[k]?):∀ (tg:Int) (fs:Fs) (b o:Nat),F b->FsAt w0 F tg fs b o->FsAt w F' tg fs b o
 | _,.nil,_,_,_,_=>by simp [FsAt]
 | tg,.cons h ty r,b,o,hb,hh=>by
  simp only [FsAt] at hh ⊢
  obtain ⟨⟨of_,sub,h1,h2,h3,h4⟩,h5⟩:=hh
  exact ⟨⟨of_,sub,by rw [rangeV_mono (hw b hb)];exact h1,h2,h3,SubV.mono hF hw ty sub h4⟩,FsAt.mono hF hw tg r b (o+8) hb h5⟩
end
theorem FsV.mono {w0 w:World} {F F':Nat->Prop} (hF:∀ k,F k->F' k) (hw:∀ k,F k->w.heap[k]?=w0.heap[k]?) {fs kn:Fs} {v:Value} (h:FsV w0 F fs kn v):FsV w F' fs kn v:=by
 obtain ⟨base,cap,h1,h2⟩:=h
 exact ⟨base,cap,h1,h2.imp id fun ⟨b,o,q1,q2,q3,q4⟩=>⟨b,o,q1,hF _ q2,FsAt.mono hF hw (-1) fs b o q2 q3,FsAt.mono hF hw 0 kn b _ q2 q4⟩⟩
theorem TV.down {w0 w:World} {B:Nat} (hb:Below B w0 w) (hB:B<=w.heap.size) {t:Tree} {v:Value} (h:TV G w0 (· < B) t v):TV G w (· < w.heap.size) t v :=
 h.mono (fun k hk=>Nat.lt_of_lt_of_le hk hB) (fun k hk=>hb.block k hk)
theorem FsV.down {w0 w:World} {B:Nat} (hb:Below B w0 w) (hB:B<=w.heap.size) {fs kn:Fs} {v:Value} (h:FsV w0 (· < B) fs kn v):FsV w (· < w.heap.size) fs kn v :=
 h.mono (fun k hk=>Nat.lt_of_lt_of_le hk hB) (fun k hk=>hb.block k hk)
theorem TV.zero (h0:G []) (w:World) (F:Nat->Prop):TV G w F Tree.zero zeroTV :=
 .mk 0 [] false [] [] none none none 0 0 0 0 0 (fun _=>[]) (.inl rfl) (Nat.le_refl _) (Nat.le_refl _) (Nat.le_refl _) (fun h=>absurd rfl h) (fun i hi=>by simp at hi) (fun i x hx=>by simp at hx) h0 (.inl rfl)
theorem opw_build {a:Act} {w:World} {K:Act->World->Prop} {d:Option Tmp} {g:Option (Nat × Bool)} {T:TypeId} {parts:Array (Nat × Operand)} {cs:Array Value} (hp:P.built T (parts.map fun x=>(x.1,a.eval x.2)).toList=some cs)
  (h:K (a.put d (.agg cs)) w):opw P ⟨d,.build T parts,g⟩ a w K:=by
 refine oVa (v:=.agg cs) (by simp) (fun p hp2=>?_) h
 have hr:=run_build (P:=P) w T (parts.map fun x=>(x.1,a.eval x.2)) cs hp
 simp only [execOp,hp2]
 simp only [Sem.run_bind]
 rw [hr]
 rfl
theorem at_ok (hX:stOK P X=true) (hz:P.built X.T []=some #[.int .i64 0,.slice none 0 0,.bool false,.slice none 0 0,.slice none 0 0]) (hTa:arrB P X.T 5=true)
  (hf:P.funcs[f]?=some fn) (hb:fn.body.map strip=some (sc_at X.T X.Ts X.I)) (hn:fn.ntmps=16) (hr:fn.results=#[.cell 4 X.T]) (h0G:G [])
  (w:World) (t:Tree) (tv:Value) (i:Nat) (ht:TV G w (· < w.heap.size) t tv) :
  Calls P f #[tv,.int .i64 (i:Int)] w fun e w'=>∃ v,e=.returned v/\TV G w (· < w.heap.size) ((t.l.drop i).headD Tree.zero) v/\Below w.heap.size w w':=by
 have hst:=st_facts hX
 refine fCa hf hb hn (by simp) fun a0 hs hd ha=>?_
 have h0:=ha 0 _ rfl
 have h1:=ha 1 _ rfl
 simp only [List.getElem_toArray,List.getElem_cons_zero,List.getElem_cons_succ] at h0 h1
 cases ht with
 | mk n s null l u sb lb ub sc lc uc b o cs hs1 hsc hlc huc hl hrr htt hG hu =>
 refine wSq (wRg (ops_box (B:=w.heap.size) (w0:=w) (by rw [eTm,h0];rfl) (Nat.le_refl _) (Below.refl _ _) fun w1 q1 q2 q3 hc q5=>?_))
 obtain ⟨hTa1,iT,zT,hiT,hzT,hzs⟩:=arr_of hTa
 refine oNo rfl (opw_alloc hiT hzT (oNi ?_))
 have hal:=heap_alloc_new w1 (.cells zT.cells X.T)
 have hc2:∀ j,(w1.alloc (.cells zT.cells X.T)).cell? ⟨w.heap.size,j,none⟩=#[Value.int .i64 n,.slice sb s.length sc,.bool null,.slice lb l.length lc,.slice ub u.length uc][j]?:=fun j=>by
  rw [World.cell?_of_block (a:=⟨w.heap.size,j,none⟩) (Below.heap_alloc w1 _ w.heap.size (by omega))]
  exact hc j
 have hbw:Below w.heap.size w (w1.alloc (.cells zT.cells X.T)):=q2.alloc (by omega) _
 have hsz2:(w1.alloc (.cells zT.cells X.T)).heap.size=w.heap.size+2:=by simp [q3]
 generalize w1.alloc (.cells zT.cells X.T)=w2 at *
 rw [q3] at hal ⊢
 clear hc q1 q2 q5
 have fin:∀ (a:Act) (vs:List Value) (t':Tree),a.tmps.size=16->a.defers=[]->getT a 4=.pointer (some ⟨w.heap.size+1,0,none⟩)->vs.length=5->TV G w (· < w.heap.size) t' (.agg vs.toArray)->t'=(l.drop i).headD Tree.zero ->
   bodyPost P fn (fun e w'=>∃ v,e=.returned v/\TV G w (· < w.heap.size) (((Tree.mk n s null l u).l.drop i).headD Tree.zero) v/\Below w.heap.size w w') .ret a (w2.setRow (w.heap.size+1) vs.toArray):=by
  intro a vs t' p1 p2 p3 p4 p5 p6
  subst p6
  exact ret_cell hr (by simp [hst,p4]) p3 (setRow_heap w2 _ _ _ _ _ hal) p2 ⟨_,rfl,p5,below_setRow hbw (by omega) _⟩
 refine wSq (wSq (wRg ?_))
 repeat (apply ops_1;(focus (simp (disch:=(try simp only [sPu]);omega) [hst,hc2,h1];try rfl)))
 refine oNi (wCd (t:=decide ((i:Int) < (l.length:Int))) (by simp (disch:=(try simp only [sPu]);omega)) ?_)
 cases e1:decide ((i:Int) < (l.length:Int))
 ·rw [if_neg (by simp)]
  refine wSk ?_
  simp only [Exit.then]
  have hi:l.length<=i:=by simp at e1;omega
  refine wSq (wRg (oNo rfl (opw_build (cs:=#[.int .i64 0,.slice none 0 0,.bool false,.slice none 0 0,.slice none 0 0]) (by simpa using hz) ?_)))
  refine oNo rfl (opw_store_agg (b:=w.heap.size+1) (cs:=[.int .i64 0,.slice none 0 0,.bool false,.slice none 0 0,.slice none 0 0]) hTa1 ?_ ?_ hal (by simp [hzs]) (by simp [Value.oneCell']) (oNi (wRt ?_)))
  ·simp (disch:=(try simp only [sPu]);omega)
  ·simp (disch:=(try simp only [sPu]);omega)
  refine fin _ _ Tree.zero (by simp [sPu,hs]) (by simp [dPu,hd]) ?_ rfl (TV.zero h0G _ _) ?_
  ·simp (disch:=(try simp only [sPu]);omega)
  ·rw [List.drop_eq_nil_of_le hi];rfl
 ·rw [if_pos rfl]
  have hi:i < l.length:=by simp at e1;omega
  have hne:l ≠ []:=by intro e;subst e;simp at hi
  obtain ⟨hlb,hbF⟩:=hl hne
  subst hlb
  have hri:=hrr i hi
  rw [<- rangeV_mono (w:=w2) (hbw.block b hbF)] at hri
  obtain ⟨hl5,_⟩:=rangeV_get _ _ _ hri
  have hti:=htt i _ (List.getElem?_eq_getElem hi)
  refine wSq (wRg ?_)
  have ei:(0:Int)<=(i:Int)/\(i:Int) < (l.length:Int):=by omega
  repeat (apply ops_1;(focus (simp (disch:=(try simp only [sPu]);omega) [hst,hc2,h1,ei,hri,hi];try rfl)))
  refine oNo rfl (opw_store_agg (b:=w.heap.size+1) (cs:=cs i) (by rw [hl5];exact hTa1) ?_ ?_ hal (by rw [hzs,hl5]) ?_ (oNi (wRt ?_)))
  ·simp (disch:=(try simp only [sPu]);omega)
  ·simp (disch:=(try simp only [sPu]);omega)
  ·intro v hv
   have hti':=hti
   generalize cs i=ci at hv hti'
   generalize l[i]=ti at hti'
   cases hti'
   simp at hv
   rcases hv with rfl | rfl | rfl | rfl | rfl <;> rfl
  refine fin _ _ l[i] (by simp [sPu,hs]) (by simp [dPu,hd]) ?_ hl5 hti ?_
  ·simp (disch:=(try simp only [sPu]);omega)
  ·rw [List.drop_eq_getElem_cons hi];rfl
end
end Go.Proofs.YtdnpafdgglpagaaGreatDoor.K
