/- Generic texts: Q1 S3 S4 S5 S6. No condition. -/
import Derived.Test.YtoiipagmhmohdaaDoorN1
import Derived.Laws.CopyOwn
namespace Go.Proofs.YtoiipagmhmohdaaDoor.K
open Go Go.RowKit Go.Proofs.YtoiipagmhmohdaaDoor.T
set_option linter.unusedSimpArgs false
set_option linter.unusedVariables false
def intK (P:Program) (T:TypeId):Option IntKind :=
  match P.underlying T with
  | some (.int k)=>some k
  | _=>none
def fieldOff (P:Program) (S f:Nat):Option Nat :=
  match P.underlying S with
  | some (.struct fields)=>match fields.toList[f]? with
    | some fld=>match P.info? fld.type with
      | some i=>if i.size=0 then none else some fld.offset
      | none=>none
    | none=>none
  | _=>none
def sliceN (P:Program) (T:Nat):Option Nat :=
  match P.underlying T with
  | some (.slice e)=>(P.info? e).map (·.size)
  | _=>none
def aggN (P:Program) (T:TypeId):Option Nat :=
  match P.info? T,P.underlying T with
  | some i,some (.struct _)=>some i.size
  | some i,some (.array _ _)=>some i.size
  | _,_=>none
def rangeV (w:World) (b:Nat):Nat→Nat→Option (List Value)
  | _,0=>some []
  | o,n+1=>(w.cell? ⟨b,o,none⟩).bind fun v=>(rangeV w b (o+1) n).map (v :: ·)
def iop (op:BinOp) (k k':IntKind) (m n:Int):Option Value :=
  match op with
  | .add=>if k=k' then some (.int k (k.wrap (m+n))) else none
  | .sub=>if k=k' then some (.int k (k.wrap (m - n))) else none
  | .mul=>if k=k' then some (.int k (k.wrap (m * n))) else none
  | .lss=>if k=k' then some (.bool (decide (m < n))) else none
  | .leq=>if k=k' then some (.bool (decide (m≤n))) else none
  | .gtr=>if k=k' then some (.bool (decide (n < m))) else none
  | .geq=>if k=k' then some (.bool (decide (n≤m))) else none
  | .eql=>if k=k' then some (.bool (m == n)) else none
  | .neq=>if k=k' then some (.bool (m != n)) else none
  | .shr=>if 0≤n∧n.toNat≤k.bits then some (.int k (m / (2 ^ n.toNat:Int))) else none
  | .shl=>if 0≤n∧n.toNat≤k.bits then some (.int k (k.wrap (m * 2 ^ n.toNat))) else none
  | .and=>if k=k' then some (.int k (k.wrap ((BitVec.ofInt k.bits m &&& BitVec.ofInt k.bits n).toNat:Int))) else none
  | .or=>if k=k' then some (.int k (k.wrap ((BitVec.ofInt k.bits m ||| BitVec.ofInt k.bits n).toNat:Int))) else none
  | .rem=>if k=k'∧n ≠ 0 then some (.int k (m.tmod n)) else none
  | _=>none
def vop (op:BinOp):Value→Value→Option Value
  | .int k m,.int k' n=>iop op k k' m n
  | _,_=>none
def qcall (P:Program) (a:Act):Callee→List Operand→List TypeId→Option Value
  | .builtin .len,[x],[T]=>match a.eval x with
    | .slice _ len _=>if (sliceN P T).isSome then some (.int .i64 (len:Int)) else none
    | .string s=>if strB P T then some (.int .i64 (s.data.toList.length:Int)) else none
    | _=>none
  | .builtin .min,[x,y],_=>match a.eval x,a.eval y with
    | .int k m,.int _ n=>some (.int k (if n < m then n else m))
    | _,_=>none
  | .builtin .max,[x,y],_=>match a.eval x,a.eval y with
    | .int k m,.int _ n=>some (.int k (if n > m then n else m))
    | _,_=>none
  | _,_,_=>none
def arrN (P:Program) (T:TypeId):Option Nat :=
  match P.underlying T with
  | some (.array n e)=>if (P.info? e).isSome then some n else none
  | _=>none
theorem arrN_of {P:Program} {T n:Nat} (h:arrN P T=some n):∃ E,P.underlying T=some (.array n E)∧∃ i,P.info? E=some i:=by
  unfold arrN at h
  split at h <;> try (simp at h;done)
  rename_i m e hu
  split at h <;> try (simp at h;done)
  rename_i hi
  simp at h
  subst h
  exact ⟨e,hu,Option.isSome_iff_exists.1 hi⟩
def qv (ok:Nat→Bool) (P:Program) (w:World) (a:Act):Op→Option Value
  | .move x=>some (a.eval x)
  | .assign x=>some (a.eval x)
  | .nilCheck x=>match a.eval x with
    | .pointer (some ad)=>some (.pointer (some ad))
    | _=>none
  | .fieldAddr S x f=>match a.eval x,fieldOff P S f with
    | .pointer (some ⟨b,o,none⟩),some off=>some (.pointer (some ⟨b,o+off,none⟩))
    | _,_=>none
  | .load T x=>match a.eval x with
    | .pointer (some ⟨b,o,none⟩)=>if ok b then (if oneB P T then w.cell? ⟨b,o,none⟩ else match aggN P T with
      | some n=>(rangeV w b o n).map fun cs=>.agg cs.toArray
      | none=>none) else none
    | _=>none
  | .indexAddr T x y=>match a.eval x,a.eval y,sliceN P T with
    | .slice (some ⟨b,o,none⟩) len _,.int _ j,some n=>if 0≤j∧j < len then some (.pointer (some ⟨b,o+j.toNat * n,none⟩)) else none
    | _,_,_=>none
  | .binOp op _ x y _=>vop op (a.eval x) (a.eval y)
  | .unOp .not _ x=>match a.eval x with
    | .bool b=>some (.bool !b)
    | _=>none
  | .pick c x y=>match a.eval c with
    | .bool b=>some (if b then a.eval x else a.eval y)
    | _=>none
  | .convert S T x=>match intK P S,intK P T,a.eval x with
    | some k,some k',.int k2 n=>if k=k2 then some (.int k' (k'.wrap n)) else none
    | _,_,_=>none
  | .slice T x none (some y) none=>match a.eval x,a.eval y,sliceN P T with
    | .slice base _ cap,.int _ h,some _=>if 0≤h∧h≤cap then some (.slice base h.toNat cap) else none
    | _,_,_=>none
  | .slice T x none none none=>match a.eval x,arrN P T with
    | .pointer (some ⟨b,0,none⟩),some n=>some (.slice (some ⟨b,0,none⟩) n n)
    | _,_=>none
  | .extract x i=>match a.eval x with
    | .tuple vs=>vs[i]?
    | _=>none
  | .call ⟨f,args,ts⟩=>qcall P a f args.toList ts.toList
  | _=>none
section
variable {P:Program} {a:Act} {w:World} {K:Act→World→Prop} {d:Option Tmp} {g:Option (Nat × Bool)}
theorem fieldB_of {S f off:Nat} (h:fieldOff P S f=some off):fieldB P S f off=true:=by
  unfold fieldOff at h
  unfold fieldB
  split at h <;> try (simp at h;done)
  rename_i fields hu
  split at h <;> try (simp at h;done)
  rename_i fld hf
  split at h <;> try (simp at h;done)
  rename_i i hi
  split at h <;> try (simp at h;done)
  rename_i h0
  simp at h
  subst h
  simp [hu,hf,hi,h0]
theorem sliceB_of {T n:Nat} (h:sliceN P T=some n):∃ E,sliceB P T E n=true:=by
  unfold sliceN at h
  split at h <;> try (simp at h;done)
  rename_i e hu
  obtain ⟨i,hi,hn⟩:=Option.map_eq_some_iff.1 h
  exact ⟨e,by simp [sliceB,hu,hi,hn]⟩
theorem sliceN_of {T E n:Nat} (h:sliceB P T E n=true):sliceN P T=some n:=by
  obtain ⟨hu,i,hi,hs⟩:=slice_of h
  simp [sliceN,hu,hi,hs]
theorem intB_of {T:Nat} {k:IntKind} (h:intK P T=some k):intB P T k=true:=by
  unfold intK at h
  split at h <;> try (simp at h;done)
  rename_i k' hu
  simp at h
  subst h
  simp [intB,hu]
theorem aggB_of {T n:Nat} (h:aggN P T=some n):aggB P T n=true:=by
  unfold aggN at h
  split at h <;> simp_all [aggB]
theorem rangeV_get {b:Nat}:∀ (n o:Nat) (cs:List Value),rangeV w b o n=some cs→cs.length=n∧∀ j v,cs[j]?=some v→w.cell? ⟨b,o+j,none⟩=some v
  | 0,o,cs,h=>by
    simp [rangeV] at h
    subst h
    simp
  | n+1,o,cs,h=>by
    unfold rangeV at h
    obtain ⟨v,hv,h⟩:=Option.bind_eq_some_iff.1 h
    obtain ⟨cs',hcs,rfl⟩:=Option.map_eq_some_iff.1 h
    obtain ⟨h1,h2⟩:=rangeV_get n (o+1) cs' hcs
    refine ⟨by simp [h1],fun j u hu=>?_⟩
    cases j with
    | zero=>simp at hu;subst hu;exact hv
    | succ j =>
      simp at hu
      have:=h2 j u hu
      rwa [show o+1+j=o+(j+1) by omega] at this
theorem rangeV_of {b:Nat}:∀ (cs:List Value) (o:Nat),(∀ j v,cs[j]?=some v→w.cell? ⟨b,o+j,none⟩=some v)→rangeV w b o cs.length=some cs
  | [],_,_=>rfl
  | v :: cs,o,h=>by
    unfold rangeV
    have h0:=h 0 v rfl
    rw [Nat.add_zero] at h0
    simp only [List.length_cons]
    rw [h0,rangeV_of cs (o+1) (fun j u hu=>by have:=h (j+1) u hu;rwa [show o+(j+1)=o+1+j by omega] at this)]
    rfl
theorem vop_sound {op:BinOp} {T T':TypeId} {x y:Operand} {v:Value} (h:vop op (a.eval x) (a.eval y)=some v):∀ p:Oper,p.op=.binOp op T x y T'→(execOp a.eval p).run P w=.ok (.value v) w:=by
  intro p hp
  unfold vop at h
  split at h <;> try (simp at h;done)
  rename_i k m k' n hx hy
  unfold iop at h
  split at h <;> try (simp at h;done)
  all_goals
    split at h <;> try (simp at h;done)
  case h_10 =>
    rename_i hn
    simp at h
    subst h
    have e:m.fdiv (2 ^ n.toNat:Int)=m / (2 ^ n.toNat:Int):=Int.fdiv_eq_ediv_of_nonneg _ (Int.le_of_lt (Int.pow_pos (by decide)))
    have e2:min n.toNat k.bits=n.toNat:=Nat.min_eq_left hn.2
    have e3:¬ (n < 0):=by omega
    simp [execOp,hp,hx,hy,eqGuard,binOp,Op.shift,e,e2,e3]
  case h_11 =>
    rename_i hn
    simp at h
    subst h
    have e2:min n.toNat k.bits=n.toNat:=Nat.min_eq_left hn.2
    have e3:¬ (n < 0):=by omega
    simp [execOp,hp,hx,hy,eqGuard,binOp,Op.shift,e2,e3]
  case h_14 =>
    rename_i hk
    obtain ⟨rfl,hk0⟩:=hk
    simp at h
    subst h
    simp [execOp,hp,hx,hy,run_eqGuard_int,binOp,Op.intDiv,hk0]
  all_goals
    rename_i hk
    subst hk
    simp at h
    subst h
    simp [execOp,hp,hx,hy,run_eqGuard_int,binOp,Op.intArith,Op.intCmp,Op.intBits]
theorem qv_sound {ok:Nat→Bool} {w0:World} (hS:∀ b o,ok b=true→w.cell? ⟨b,o,none⟩=w0.cell? ⟨b,o,none⟩) {op:Op} {v:Value} (h:qv ok P w0 a op=some v):∀ p:Oper,stripOp p.op=op→(execOp a.eval p).run P w=.ok (.value v) w:=by
  intro p hp0
  have hne:∀ f args t,op ≠ .call ⟨.value f,args,t⟩:=by
    intro f args t he
    subst he
    simp [qv,qcall] at h
  have hp:=stripOp_eq hne hp0
  clear hp0
  unfold qv at h
  split at h <;> try (simp at h;done)
  · simp at h;subst h;simp [execOp,hp]
  · simp at h;subst h;simp [execOp,hp]
  · split at h <;> try (simp at h;done)
    rename_i hx
    simp at h;subst h;simp [execOp,hp,hx]
  · split at h <;> try (simp at h;done)
    rename_i b o off hx hf
    simp at h;subst h
    simp [execOp,hp,hx,run_field (fieldB_of hf)]
  · split at h <;> try (simp at h;done)
    rename_i b o hx
    split at h <;> try (simp at h;done)
    rename_i hok
    split at h
    · rename_i hT
      rw [← hS b o hok] at h
      simp [execOp,hp,hx,run_load_one hT h]
    · split at h <;> try (simp at h;done)
      rename_i n hn
      obtain ⟨cs,hcs,rfl⟩:=Option.map_eq_some_iff.1 h
      obtain ⟨h1,h2⟩:=rangeV_get _ _ _ hcs
      have h2:∀ j v,cs[j]?=some v→w.cell? ⟨b,o+j,none⟩=some v:=fun j v hj=>by rw [hS b _ hok];exact h2 j v hj
      subst h1
      simp [execOp,hp,hx,run_load_agg (aggB_of hn) h2]
  · split at h <;> try (simp at h;done)
    rename_i b o len cap k j n hx hy hn
    split at h <;> try (simp at h;done)
    rename_i hj
    simp at h
    subst h
    obtain ⟨E,hE⟩:=sliceB_of hn
    obtain ⟨hu,i,hi,hs⟩:=slice_of hE
    simp [execOp,hp,hx,hy,Instr.indexAt,asIntOf,run_underlying hu,hj,sizeOf,typeInfo,hi,hs,add_none]
  · exact vop_sound h p hp
  · split at h <;> try (simp at h;done)
    rename_i b hx
    simp at h;subst h;simp [execOp,hp,hx,Op.unary]
  · split at h <;> try (simp at h;done)
    rename_i b hx
    simp at h;subst h;simp [execOp,hp,hx,asBool]
  · split at h <;> try (simp at h;done)
    rename_i k k' k2 n hS hT hx
    split at h <;> try (simp at h;done)
    rename_i hk
    subst hk
    simp at h
    subst h
    have h1:=intB_of hS
    have h2:=intB_of hT
    unfold intB at h1 h2
    split at h1 <;> try (simp at h1;done)
    split at h2 <;> try (simp at h2;done)
    rename_i q1 _ _ q2
    simp at h1 h2
    subst h1;subst h2
    simp [execOp,hp,hx,convert,run_underlying q1,run_underlying q2,Conv.intToInt]
  · split at h <;> try (simp at h;done)
    rename_i base len cap k hh n hx hy hn
    split at h <;> try (simp at h;done)
    rename_i hb0
    simp at h
    subst h
    obtain ⟨E,hE⟩:=sliceB_of hn
    obtain ⟨hu,i,hi,hs⟩:=slice_of hE
    have hb:(Instr.sliceBounds true len cap none (some (.int k hh)) none).run P w=.ok (0,hh.toNat,cap) w:=by
      simp [Instr.sliceBounds,run_sliceBound,hb0]
    simp [execOp,hp,hx,hy,Instr.sliceAt,Instr.slice,run_underlying hu,hb,sizeOf,typeInfo,hi,add_none]
    intro hc
    cases base with
    | none=>rfl
    | some ad=>simp [Addr.add]
  · split at h <;> try (simp at h;done)
    rename_i b n hx hn
    simp at h
    subst h
    obtain ⟨E,hE,i,hi⟩:=arrN_of hn
    simp [execOp,hp,hx,Instr.sliceAt,run_underlying hE,Instr.sliceBounds,Instr.sureAddr,asAddr,sizeOf,typeInfo,hi,Addr.add]
  · split at h <;> try (simp at h;done)
    rename_i vs hx
    simp [execOp,hp,hx,Instr.extract,h]
  · clear hne
    rename_i f args ts
    obtain ⟨args⟩:=args
    obtain ⟨ts⟩:=ts
    simp only at h
    unfold qcall at h
    split at h <;> try (simp at h;done)
    · split at h <;> try (simp at h;done)
      · rename_i base len cap hx
        split at h <;> try (simp at h;done)
        rename_i hn
        simp at h
        subst h
        obtain ⟨n,hn⟩:=Option.isSome_iff_exists.1 hn
        obtain ⟨E,hE⟩:=sliceB_of hn
        obtain ⟨hu,_⟩:=slice_of hE
        simp [execOp,hp,hx,resolve,invoke,builtin,Builtin.len_,run_underlying hu,goInt]
      · rename_i s hx
        split at h <;> try (simp at h;done)
        rename_i hT
        have hu:=str_of hT
        simp at h
        subst h
        simp [execOp,hp,hx,resolve,invoke,builtin,Builtin.len_,run_underlying hu,goInt]
    · split at h <;> try (simp at h;done)
      rename_i k m _ n hx hy
      simp at h
      subst h
      simp [execOp,hp,hx,hy,resolve,invoke,builtin,Builtin.min_,Builtin.min2]
    · split at h <;> try (simp at h;done)
      rename_i k m _ n hx hy
      simp at h
      subst h
      simp [execOp,hp,hx,hy,resolve,invoke,builtin,Builtin.max_,Builtin.max2]
theorem ops_1 {all r:List SOp} {d:Nat} {op:Op} {v:Value} (h:qv (fun _=>true) P w a op=some v) (hk:opsw P all r K (a.put (some d) v) w):opsw P all (⟨some d,op,none⟩ :: r) K a w :=
  oNo rfl (opw_of fun o next Q hd ho hn=>by
    rw [qv_sound (fun _ _ _=>rfl) h o ho,Oper.upon_value,hd]
    exact hn _ _ hk)
theorem ops_y {all r:List SOp} {d j dj:Nat} {want:Bool} {op:Op} {v:Value} (hj:(all[j]?).bind (·.dst)=some dj) (hlt:dj < a.tmps.size) (hb:getT a dj=.bool want) (h:qv (fun _=>true) P w a op=some v) (hk:opsw P all r K (a.put (some d) v) w) :
    opsw P all (⟨some d,op,some (j,want)⟩ :: r) K a w :=
  opsw_yes rfl hj hlt hb (opw_of fun o next Q hd ho hn=>by
    rw [qv_sound (fun _ _ _=>rfl) h o ho,Oper.upon_value,hd]
    exact hn _ _ hk)
theorem ops_n {all r:List SOp} {d j dj:Nat} {want:Bool} {op:Op} (hj:(all[j]?).bind (·.dst)=some dj) (hlt:dj < a.tmps.size) (hb:getT a dj=.bool !want∨getT a dj=undef) (hk:opsw P all r K (a.put (some d) undef) w) :
    opsw P all (⟨some d,op,some (j,want)⟩ :: r) K a w:=opsw_no rfl hj hlt hb hk
theorem opq_of {w0:World} {B:Nat} {s:SOp} {v:Value} (h:qv (fun b=>decide (b < B)) P w0 a s.op=some v):opq P (Below B w0) s a v:=fun o ho w' hS' =>
  qv_sound (w0:=w0) (fun b o hb=>hS'.cell (by simpa using hb)) h o (congrArg SOp.op ho)
theorem dr_1 {w0:World} {B i d:Nat} {op:Op} {ops:List SOp} {v:Value} {r:List (Nat × Bool)} (hs:ops[i]?=some ⟨some d,op,none⟩) (h:qv (fun b=>decide (b < B)) P w0 a op=some v)
    (hk:dregw P (Below B w0) ops r K (a.put (some d) v) w):dregw P (Below B w0) ops ((i,true) :: r) K a w:=by
  unfold dregw
  exact ⟨_,hs,by simpa only [if_true] using ⟨v,opq_of (s:=⟨some d,op,none⟩) h,hk⟩⟩
theorem dr_y {w0:World} {B i d j dj:Nat} {want:Bool} {op:Op} {ops:List SOp} {v:Value} {r:List (Nat × Bool)} (hs:ops[i]?=some ⟨some d,op,some (j,want)⟩) (hj:(ops[j]?).bind (·.dst)=some dj) (hlt:dj < a.tmps.size) (hb:getT a dj=.bool want) (h:qv (fun b=>decide (b < B)) P w0 a op=some v)
    (hk:dregw P (Below B w0) ops r K (a.put (some d) v) w):dregw P (Below B w0) ops ((i,true) :: r) K a w:=by
  unfold dregw
  exact ⟨_,hs,dj,want,hj,hlt,.inl hb,by simpa only [if_true] using ⟨v,opq_of (s:=⟨some d,op,some (j,want)⟩) h,hk⟩⟩
theorem dr_n {w0:World} {B i d j dj:Nat} {q want:Bool} {op:Op} {ops:List SOp} {r:List (Nat × Bool)} (hs:ops[i]?=some ⟨some d,op,some (j,want)⟩) (hj:(ops[j]?).bind (·.dst)=some dj) (hlt:dj < a.tmps.size) (hb:getT a dj=.bool !want∨getT a dj=undef)
    (hk:dregw P (Below B w0) ops r K (a.put (some d) undef) w):dregw P (Below B w0) ops ((i,q) :: r) K a w:=by
  unfold dregw
  exact ⟨_,hs,dj,!want,hj,hlt,hb.imp id (fun h=>⟨h,rfl⟩),by rw [if_neg (by cases want <;> simp)];exact hk⟩
theorem dreg_n {S:World→Prop} {ops:List SOp} {i:Nat} {s:SOp} {r:List (Nat × Bool)} (hs:ops[i]?=some s) (hg:s.guard=none) (h:opw P s a w (fun a' w'=>S w'∧dregw P S ops r K a' w')) :
    dregw P S ops ((i,false) :: r) K a w:=by
  unfold dregw
  refine ⟨s,hs,?_⟩
  rw [hg]
  exact h
theorem dreg_yes {S:World→Prop} {ops:List SOp} {i j dj:Nat} {want:Bool} {s:SOp} {r:List (Nat × Bool)} (hs:ops[i]?=some s) (hg:s.guard=some (j,want)) (hj:(ops[j]?).bind (·.dst)=some dj) (hlt:dj < a.tmps.size) (hb:getT a dj=.bool want)
    (h:opw P s a w (fun a' w'=>S w'∧dregw P S ops r K a' w')):dregw P S ops ((i,false) :: r) K a w:=by
  unfold dregw
  refine ⟨s,hs,?_⟩
  rw [hg]
  exact ⟨dj,want,hj,hlt,.inl hb,by rw [if_pos rfl];exact h⟩
theorem dreg_nil {S:World→Prop} {ops:List SOp} (h:K a w):dregw P S ops [] K a w:=h
end
end Go.Proofs.YtoiipagmhmohdaaDoor.K
namespace Go.Proofs.YtoiipagmhmohdaaDoor.K
open Go Go.RowKit Go.Proofs.YtoiipagmhmohdaaDoor.T
attribute [local simp] eTm eCo pNo gTp gTn qv qcall vop iop
set_option linter.unusedSimpArgs false
set_option linter.unusedVariables false
def sc_Fixed (T0 T1 T2 T3:Nat):SC:=.seq (.reg [⟨some 4,.assign (.const (.slice none 0 0)),none⟩]) (.seq (.reg [⟨some 5,.assign (.const (.slice none 0 0)),none⟩]) (.seq (.seq (.reg [mv 7 1,⟨some 8,.binOp .sub T0 (.tmp 7) (.const (.int .i64 1)) T0,none⟩,asg 6 8]) (.block 0 (.loop (.seq (.seq (.reg [mv 9 6,⟨some 10,.binOp .geq T0 (.tmp 9) (.const (.int .i64 0)) T0,none⟩]) (.cond (.tmp 10) (.skip) (.exit 0))) (.seq (.block 1 (.reg [mv 13 5,mv 14 0,mv 15 6,⟨some 16,.binOp .mul T0 (.const (.int .i64 8)) (.tmp 15) T0,none⟩,⟨some 17,.binOp .shr T1 (.tmp 14) (.tmp 16) T0,none⟩,⟨some 18,.convert T1 T2 (.tmp 17),none⟩,⟨some 19,.buildSlice T3 1 #[(0,(.tmp 18))],none⟩,⟨some 20,.call ⟨.builtin .append,#[(.tmp 13),(.tmp 19)],#[T3,T3]⟩,none⟩,asg 5 20])) (.reg [mv 11 6,⟨some 12,.binOp .sub T0 (.tmp 11) (.const (.int .i64 1)) T0,none⟩,asg 6 12])))))) (.seq (.reg [mv 21 5,asg 4 21]) (.ret))))
def sc_Same (T0 T1 T2:Nat):SC:=.seq (.reg [⟨some 4,.assign (.const (.bool false)),none⟩]) (.seq (.seq (.reg [mv 6 0,lenOp 7 T0 6,mv 8 1,lenOp 9 T0 8,⟨some 10,.binOp .neq T1 (.tmp 7) (.tmp 9) T1,none⟩]) (.cond (.tmp 10) (.seq (.reg [⟨some 4,.assign (.const (.bool false)),none⟩]) (.ret)) (.skip))) (.seq (.seq (.reg [mv 11 0,lenOp 12 T0 11,⟨some 13,.move (.const (.int .i64 0)),none⟩]) (.block 0 (.loop (.seq (.reg [⟨some 14,.binOp .lss T1 (.tmp 13) (.tmp 12) T1,none⟩]) (.seq (.cond (.tmp 14) (.skip) (.exit 0)) (.seq (.block 1 (.seq (.reg [mv 15 13,asg 5 15]) (.seq (.dreg [mv 16 0,mv 17 5,⟨some 18,.indexAddr T0 (.tmp 16) (.tmp 17),none⟩,ld 19 T2 18,mv 20 1,mv 21 5,⟨some 22,.indexAddr T0 (.tmp 20) (.tmp 21),none⟩,ld 23 T2 22,⟨some 24,.binOp .neq T2 (.tmp 19) (.tmp 23) T2,none⟩] [[],[],[0,1],[2],[],[],[4,5],[6],[3,7]]) (.cond (.tmp 24) (.seq (.reg [⟨some 4,.assign (.const (.bool false)),none⟩]) (.ret)) (.skip))))) (.reg [⟨some 25,.binOp .add T1 (.tmp 13) (.const (.int .i64 1)) T1,none⟩,mv 13 25]))))))) (.seq (.reg [⟨some 4,.assign (.const (.bool true)),none⟩]) (.ret))))
structure STy where
  I:Nat
  B:Nat
  U8:Nat
  U32:Nat
  U64:Nat
  Bs:Nat
  F:Nat
  Fs:Nat
  T:Nat
  Ts:Nat
  Tg:Nat
  Tgs:Nat
  I64:Nat
  M:Nat
  U:Nat
def treV (n:Int) (s:Value) (null:Bool) (l u:Value):Value:=.agg #[.int .i64 n,s,.bool null,l,u]
section
variable {P:Program} {X:STy} {f:FuncId} {fn:Func}
theorem ops_box {all:List SOp} {a:Act} {w w0:World} {K:Act→World→Prop} {T d B:Nat} {x:Operand} {cs:Array Value} {r:List SOp} (hx:a.eval x=.agg cs) (hB:B≤w.heap.size) (hb:Below B w0 w)
    (h:∀ w',Below w.heap.size w w'→Below B w0 w'→w'.heap.size=w.heap.size+1→(∀ j,w'.cell? ⟨w.heap.size,j,none⟩=cs[j]?)→w'.heap[w.heap.size]?=some (.cells cs T (0,0))→opsw P all r K (a.put (some d) (.pointer (some ⟨w.heap.size,0,none⟩))) w'):opsw P all (⟨some d,.box T x,none⟩ :: r) K a w :=
  oNo rfl (opw_box hx (h _ ((Below.refl _ w).alloc (Nat.le_refl _) _) (hb.alloc hB _) (by simp) (fun j=>cell_of_row _ _ _ _ _ _ (heap_alloc_new w _)) (heap_alloc_new w _)))
end
end Go.Proofs.YtoiipagmhmohdaaDoor.K
namespace Go.Proofs.YtoiipagmhmohdaaDoor.K
open Go Go.RowKit Go.Proofs.YtoiipagmhmohdaaDoor.T
attribute [local simp] eTm eCo pNo gTp gTn qv qcall vop iop
set_option linter.unusedSimpArgs false
set_option linter.unusedVariables false
set_option maxHeartbeats 1000000
def RetOwn (tU8:Nat) (w:World) (out:Bytes) (e:Ending) (w':World):Prop :=
  ∃ v,e=.returned v∧Own tU8 w' w.heap.size v out∧Below w.heap.size w w'
section
variable {P:Program} {X:STy} {f:FuncId} {fn:Func}
theorem ret_cell {T b p:Nat} {R:Ending→World→Prop} {a:Act} {w:World} {cs:Array Value} {E:TypeId} (hr:fn.results=#[.cell p T]) (hT:aggN P T=some cs.size) (hp:getT a p=.pointer (some ⟨b,0,none⟩)) (hg:w.heap[b]?=some (.cells cs E (0,0)))
    (hd:a.defers=[]) (hR:R (.returned (.agg cs)) w):bodyPost P fn R .ret a w:=by
  refine bodyPost_ret_by ?_ hd hR
  unfold aggN at hT
  split at hT <;> try (simp at hT;done)
  · rename_i i f hi hu
    simp at hT
    exact results_cell_row hr a.tmps w b E cs (0,0) _ hp hg hu rfl (by rw [hi];simpa using hT)
  · rename_i i f e hi hu
    simp at hT
    exact results_cell_row hr a.tmps w b E cs (0,0) _ hp hg hu rfl (by rw [hi];simpa using hT)
theorem ops_u8app {all:List SOp} {a:Act} {w:World} {B T tU8 td ts tr n:Nat} {dv:Value} {xs bs:Bytes} {parts:Array (Nat × Operand)} {r:List SOp} {K:Act→World→Prop} (hT:u8sB P T tU8=true) (hn:n=bs.length) (hs:n≤100) (hn0:0 < n)
    (hp:(parts.map fun x=>(x.1,a.eval x.2)).toList=(List.range' 0 bs.length).zip (cellsOf bs)) (ho:Own tU8 w B dv xs) (hB:B≤w.heap.size) (hlen:xs.length+bs.length≤lim) (hdv:getT a td=dv) (hne:td ≠ ts) (hsz:ts < a.tmps.size)
    (hK:∀ dv' w' v1,Own tU8 w' B dv' (xs ++ bs)→Below B w w'→B≤w'.heap.size→opsw P all r K ((a.put (some ts) v1).put (some tr) dv') w') :
    opsw P all (⟨some ts,.buildSlice T n parts,none⟩ :: ⟨some tr,.call ⟨.builtin .append,#[.tmp td,.tmp ts],#[T,T]⟩,none⟩ :: r) K a w:=by
  refine oNo rfl (opw_buildU8s hT hn (by omega) hn0 hp (oNo rfl ?_))
  have hown:Own tU8 (w.alloc (.cells (cellsOf bs).toArray tU8)) B dv xs:=ho.alloc _
  obtain ⟨hu,_⟩:=u8s_of hT
  refine opw_appendU8 (B:=B) (dv:=dv) (xv:=.slice (some ⟨w.heap.size,0,none⟩) bs.length bs.length) (xs:=xs) (bs:=bs) hT ?_ ?_ rfl hown (by simp;omega) ?_ hlen ?_
  · rw [eTm,gTn hne];exact hdv
  · rw [eTm,gTp hsz]
  · refine Src.ofSlice _ hu ⟨w.heap.size,0,none⟩ _ _ _ (by rw [cLen,Nat.mul_one]) ?_ ?_
    · intro j u hj
      rw [add_none,cell_of_row _ _ _ _ _ _ (heap_alloc_new w _)]
      simpa using hj
    · intro u hu
      simp only [cellsOf,List.mem_map] at hu
      obtain ⟨c,_,rfl⟩:=hu
      rfl
  · intro dv' w' q1 q2 q3 _
    exact hK dv' w' _ q1 (((Below.refl B w).alloc hB _).trans q2) q3
theorem own_eq {tU8:Nat} {w:World} {B:Nat} {v v':Value} {xs:Bytes} (h:Own tU8 w B v xs) (e:v'=v):Own tU8 w B v' xs:=e ▸ h
theorem own_nil (tU8:Nat) (w:World) (B:Nat):Own tU8 w B (.slice none 0 0) []:=World.ownsRow_nil w B tU8 1
end
end Go.Proofs.YtoiipagmhmohdaaDoor.K
namespace Go.Proofs.YtoiipagmhmohdaaDoor.K
open Go Go.RowKit Go.Proofs.YtoiipagmhmohdaaDoor.T
attribute [local simp] eTm eCo pNo gTp gTn qv qcall vop iop
set_option linter.unusedSimpArgs false
set_option linter.unusedVariables false
set_option maxHeartbeats 1000000
section
variable {P:Program} {X:STy} {f:FuncId} {fn:Func}
theorem fixed_length (n:Int):∀ k,(fixed n k).length=k
  | 0=>rfl
  | k+1=>by rw [fixed,List.length_cons,fixed_length n k]
theorem ops_call {all:List SOp} {a:Act} {w:World} {t g:Nat} {args:Array Operand} {argsV:Array Value} {r:List SOp} {K:Act→World→Prop} {R:Ending→World→Prop} (hf:FnOK P g) (hc:Calls P g argsV w R) (hargs:args.map a.eval=argsV)
    (hR:∀ e w',R e w'→∃ v,e=.returned v∧opsw P all r K (a.put (some t) v) w'):opsw P all (⟨some t,.call ⟨.value (.func g),args,#[]⟩,none⟩ :: r) K a w:=by
  obtain ⟨fn,h1,h2,h3⟩:=hf
  exact oNo rfl (opw_call (R:=R) h1 h2 h3 (by rw [hargs];exact hc) hR)
end
end Go.Proofs.YtoiipagmhmohdaaDoor.K
namespace Go.Proofs.YtoiipagmhmohdaaDoor.K
open Go Go.RowKit Go.Proofs.YtoiipagmhmohdaaDoor.T
attribute [local simp] eTm eCo pNo gTp gTn qv qcall vop iop
set_option linter.unusedSimpArgs false
set_option linter.unusedVariables false
set_option maxHeartbeats 1000000
def kindOf:Ty→Int
  | .prim .bool=>0
  | .prim .i8=>1
  | .prim .i16=>2
  | .prim .i32=>3
  | .prim .i64=>4
  | .prim .u16=>5
  | .prim .uuid=>7
  | .prim .str=>8
  | .prim .bytes=>9
  | .struct _ _ _ _ _=>10
  | .list _ _ _ _=>11
def Fs.len:Fs→Nat
  | .nil=>0
  | .cons _ _ r=>Fs.len r+1
def Fs.drop:Nat→Fs→Fs
  | 0,fs=>fs
  | _+1,.nil=>.nil
  | n+1,.cons _ _ r=>Fs.drop n r
def isList:Ty→Bool
  | .list _ _ _ _=>true
  | _=>false
def ofOK (of_:Int):Ty→Prop
  | .list _ _ _ of=>of_=kindOf of∧isList of=false
  | _=>True
mutual
def SubV (w:World) (F:Nat→Prop):Ty→Value→Prop
  | .prim _,_=>True
  | .struct _ _ _ _ fs,v=>∃ base cap,v=.slice base (Fs.len fs) cap∧(Fs.len fs=0∨∃ b o,base=some ⟨b,o,none⟩∧F b∧FsAt w F fs b o)
  | .list _ _ _ of,v=>SubV w F of v
def FsAt (w:World) (F:Nat→Prop):Fs→Nat→Nat→Prop
  | .nil,_,_=>True
  | .cons h ty r,b,o=>(∃ of_ sub,rangeV w b o 8=some [.int .i64 (kindOf ty),.int .i64 h.from_,.int .i64 h.to,.int .i64 h.null,.int .i64 (-1),.int .i64 h.dflt,.int .i64 of_,sub]∧sub.oneCell'=true∧ofOK of_ ty∧SubV w F ty sub)∧FsAt w F r b (o+8)
end
def FsV (w:World) (F:Nat→Prop) (fs:Fs) (v:Value):Prop :=
  ∃ base cap,v=.slice base (Fs.len fs) cap∧(Fs.len fs=0∨∃ b o,base=some ⟨b,o,none⟩∧F b∧FsAt w F fs b o)
def UTagsAt (w:World) (F:Nat→Prop) (base:Option Addr) (u:List (Nat × Bytes)):Prop :=
  u=[]∨∃ b o,base=some ⟨b,o,none⟩∧F b∧∀ i x,u[i]?=some x→x.1 < 4294967296∧∃ vb vc,rangeV w b (o+i * 2) 2=some [.int .u32 (x.1:Int),.slice vb x.2.length vc]∧BytesAt w F vb x.2∧x.2.length≤vc
inductive TV (G:List (Nat × Bytes)→Prop) (w:World) (F:Nat→Prop):Tree→Value→Prop where
  | mk (n:Int) (s:Bytes) (null:Bool) (l:List Tree) (u:List (Nat × Bytes)) (sb lb ub:Option Addr) (sc lc uc:Nat) (b o:Nat) (cs:Nat→List Value)
      (hs:BytesAt w F sb s) (hsc:s.length≤sc) (hlc:l.length≤lc) (huc:u.length≤uc)
      (hl:l ≠ []→lb=some ⟨b,o,none⟩∧F b)
      (hr:∀ i,i < l.length→rangeV w b (o+i * 5) 5=some (cs i))
      (ht:∀ i x,l[i]?=some x→TV G w F x (.agg (cs i).toArray))
      (hG:G u) (hu:UTagsAt w F ub u) :
      TV G w F (.mk n s null l u) (treV n (.slice sb s.length sc) null (.slice lb l.length lc) (.slice ub u.length uc))
def zeroTV:Value:=treV 0 (.slice none 0 0) false (.slice none 0 0) (.slice none 0 0)
section
variable {G:List (Nat × Bytes)→Prop} {P:Program} {X:STy} {f:FuncId} {fn:Func}
theorem bytesAt_mono {w0 w:World} {F F':Nat→Prop} {base:Option Addr} {bs:Bytes} (h:BytesAt w0 F base bs) (hF:∀ k,F k→F' k) (hw:∀ k,F k→w.heap[k]?=w0.heap[k]?):BytesAt w F' base bs:=by
  rcases h with h | ⟨b,o,h1,h2,h3⟩
  · exact .inl h
  · exact .inr ⟨b,o,h1,hF _ h2,fun j u hu=>by rw [World.cell?_of_block (hw b h2)];exact h3 j u hu⟩
theorem rangeV_mono {w0 w:World} {b:Nat} (hw:w.heap[b]?=w0.heap[b]?):∀ (n o:Nat),rangeV w b o n=rangeV w0 b o n
  | 0,_=>rfl
  | n+1,o=>by
    unfold rangeV
    rw [World.cell?_of_block (a:=⟨b,o,none⟩) hw,rangeV_mono hw n (o+1)]
theorem tagsAt_mono {w0 w:World} {F F':Nat→Prop} {base:Option Addr} {u:List (Nat × Bytes)} (h:UTagsAt w0 F base u) (hF:∀ k,F k→F' k) (hw:∀ k,F k→w.heap[k]?=w0.heap[k]?):UTagsAt w F' base u:=by
  rcases h with h | ⟨b,o,h1,h2,h3⟩
  · exact .inl h
  · refine .inr ⟨b,o,h1,hF _ h2,fun i x hx=>?_⟩
    obtain ⟨q0,vb,vc,q1,q2,q3⟩:=h3 i x hx
    exact ⟨q0,vb,vc,by rw [rangeV_mono (hw b h2)];exact q1,bytesAt_mono q2 hF hw,q3⟩
theorem TV.mono {w0 w:World} {F F':Nat→Prop} (hF:∀ k,F k→F' k) (hw:∀ k,F k→w.heap[k]?=w0.heap[k]?) {t:Tree} {v:Value} (h:TV G w0 F t v):TV G w F' t v:=by
  induction h with
  | mk n s null l u sb lb ub sc lc uc b o cs hs hsc hlc huc hl hr ht hG hu ih =>
    refine .mk n s null l u sb lb ub sc lc uc b o cs (bytesAt_mono hs hF hw) hsc hlc huc (fun h=>⟨(hl h).1,hF _ (hl h).2⟩) (fun i hi=>?_) ih hG (tagsAt_mono hu hF hw)
    have hne:l ≠ []:=by intro e;subst e;simp at hi
    rw [rangeV_mono (hw b (hl hne).2)]
    exact hr i hi
mutual
theorem SubV.mono {w0 w:World} {F F':Nat→Prop} (hF:∀ k,F k→F' k) (hw:∀ k,F k→w.heap[k]?=w0.heap[k]?):∀ (ty:Ty) (v:Value),SubV w0 F ty v→SubV w F' ty v
  | .prim _,_,_=>by simp [SubV]
  | .struct _ _ _ _ fs,v,h=>by
    simp only [SubV] at h ⊢
    obtain ⟨base,cap,h1,h2⟩:=h
    exact ⟨base,cap,h1,h2.imp id fun ⟨b,o,q1,q2,q3⟩=>⟨b,o,q1,hF _ q2,FsAt.mono hF hw fs b o q2 q3⟩⟩
  | .list _ _ _ of,v,h=>by
    simp only [SubV] at h ⊢
    exact SubV.mono hF hw of v h
theorem FsAt.mono {w0 w:World} {F F':Nat→Prop} (hF:∀ k,F k→F' k) (hw:∀ k,F k→w.heap[k]?=w0.heap[k]?):∀ (fs:Fs) (b o:Nat),F b→FsAt w0 F fs b o→FsAt w F' fs b o
  | .nil,_,_,_,_=>by simp [FsAt]
  | .cons h ty r,b,o,hb,hh=>by
    simp only [FsAt] at hh ⊢
    obtain ⟨⟨of_,sub,h1,h2,h3,h4⟩,h5⟩:=hh
    exact ⟨⟨of_,sub,by rw [rangeV_mono (hw b hb)];exact h1,h2,h3,SubV.mono hF hw ty sub h4⟩,FsAt.mono hF hw r b (o+8) hb h5⟩
end
theorem FsV.mono {w0 w:World} {F F':Nat→Prop} (hF:∀ k,F k→F' k) (hw:∀ k,F k→w.heap[k]?=w0.heap[k]?) {fs:Fs} {v:Value} (h:FsV w0 F fs v):FsV w F' fs v:=by
  obtain ⟨base,cap,h1,h2⟩:=h
  exact ⟨base,cap,h1,h2.imp id fun ⟨b,o,q1,q2,q3⟩=>⟨b,o,q1,hF _ q2,FsAt.mono hF hw fs b o q2 q3⟩⟩
theorem TV.down {w0 w:World} {B:Nat} (hb:Below B w0 w) (hB:B≤w.heap.size) {t:Tree} {v:Value} (h:TV G w0 (· < B) t v):TV G w (· < w.heap.size) t v :=
  h.mono (fun k hk=>Nat.lt_of_lt_of_le hk hB) (fun k hk=>hb.block k hk)
theorem FsV.down {w0 w:World} {B:Nat} (hb:Below B w0 w) (hB:B≤w.heap.size) {fs:Fs} {v:Value} (h:FsV w0 (· < B) fs v):FsV w (· < w.heap.size) fs v :=
  h.mono (fun k hk=>Nat.lt_of_lt_of_le hk hB) (fun k hk=>hb.block k hk)
theorem TV.zero (h0:G []) (w:World) (F:Nat→Prop):TV G w F Tree.zero zeroTV :=
  .mk 0 [] false [] [] none none none 0 0 0 0 0 (fun _=>[]) (.inl rfl) (Nat.le_refl _) (Nat.le_refl _) (Nat.le_refl _) (fun h=>absurd rfl h) (fun i hi=>by simp at hi) (fun i x hx=>by simp at hx) h0 (.inl rfl)
theorem opw_build {a:Act} {w:World} {K:Act→World→Prop} {d:Option Tmp} {g:Option (Nat × Bool)} {T:TypeId} {parts:Array (Nat × Operand)} {cs:Array Value} (hp:P.built T (parts.map fun x=>(x.1,a.eval x.2)).toList=some cs)
    (h:K (a.put d (.agg cs)) w):opw P ⟨d,.build T parts,g⟩ a w K:=by
  refine oVa (v:=.agg cs) (by simp) (fun p hp2=>?_) h
  have hr:=run_build (P:=P) w T (parts.map fun x=>(x.1,a.eval x.2)) cs hp
  simp only [execOp,hp2]
  simp only [Sem.run_bind]
  rw [hr]
  rfl
end
end Go.Proofs.YtoiipagmhmohdaaDoor.K
