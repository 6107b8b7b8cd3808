/- Generic texts: Q1 KN. No condition. -/
import Derived.Test.YtgaplicnofhliabM1
namespace Go.Proofs.Ytgaplicnofhliab.K
open Go Go.RowKit Go.Proofs.Ytgaplicnofhliab.T
set_option linter.unusedSimpArgs false
set_option linter.unusedVariables false
def intK (P:Program) (T:TypeId):Option IntKind :=
  match P.underlying T with
  | some (.int k)=>some k
  | _=>none
def fieldOff (P:Program) (S f:Nat):Option Nat :=
  match P.underlying S with
  | some (.struct fields)=>match fields.toList[f]? with
    | some fld=>match P.info? fld.type with
      | some i=>if i.size=0 then none else some fld.offset
      | none=>none
    | none=>none
  | _=>none
def sliceN (P:Program) (T:Nat):Option Nat :=
  match P.underlying T with
  | some (.slice e)=>(P.info? e).map (·.size)
  | _=>none
def aggN (P:Program) (T:TypeId):Option Nat :=
  match P.info? T,P.underlying T with
  | some i,some (.struct _)=>some i.size
  | some i,some (.array _ _)=>some i.size
  | _,_=>none
def rangeV (w:World) (b:Nat):Nat→Nat→Option (List Value)
  | _,0=>some []
  | o,n+1=>(w.cell? ⟨b,o,none⟩).bind fun v=>(rangeV w b (o+1) n).map (v :: ·)
def iop (op:BinOp) (k k':IntKind) (m n:Int):Option Value :=
  match op with
  | .add=>if k=k' then some (.int k (k.wrap (m+n))) else none
  | .sub=>if k=k' then some (.int k (k.wrap (m - n))) else none
  | .mul=>if k=k' then some (.int k (k.wrap (m * n))) else none
  | .lss=>if k=k' then some (.bool (decide (m < n))) else none
  | .leq=>if k=k' then some (.bool (decide (m≤n))) else none
  | .gtr=>if k=k' then some (.bool (decide (n < m))) else none
  | .geq=>if k=k' then some (.bool (decide (n≤m))) else none
  | .eql=>if k=k' then some (.bool (m == n)) else none
  | .neq=>if k=k' then some (.bool (m != n)) else none
  | .shr=>if 0≤n∧n.toNat≤k.bits then some (.int k (m / (2 ^ n.toNat:Int))) else none
  | .shl=>if 0≤n∧n.toNat≤k.bits then some (.int k (k.wrap (m * 2 ^ n.toNat))) else none
  | .and=>if k=k' then some (.int k (k.wrap ((BitVec.ofInt k.bits m &&& BitVec.ofInt k.bits n).toNat:Int))) else none
  | .or=>if k=k' then some (.int k (k.wrap ((BitVec.ofInt k.bits m ||| BitVec.ofInt k.bits n).toNat:Int))) else none
  | .rem=>if k=k'∧n ≠ 0 then some (.int k (m.tmod n)) else none
  | _=>none
def vop (op:BinOp):Value→Value→Option Value
  | .int k m,.int k' n=>iop op k k' m n
  | _,_=>none
def qcall (P:Program) (a:Act):Callee→List Operand→List TypeId→Option Value
  | .builtin .len,[x],[T]=>match a.eval x with
    | .slice _ len _=>if (sliceN P T).isSome then some (.int .i64 (len:Int)) else none
    | .string s=>if strB P T then some (.int .i64 (s.data.toList.length:Int)) else none
    | _=>none
  | .builtin .min,[x,y],_=>match a.eval x,a.eval y with
    | .int k m,.int _ n=>some (.int k (if n < m then n else m))
    | _,_=>none
  | .builtin .max,[x,y],_=>match a.eval x,a.eval y with
    | .int k m,.int _ n=>some (.int k (if n > m then n else m))
    | _,_=>none
  | _,_,_=>none
def arrN (P:Program) (T:TypeId):Option Nat :=
  match P.underlying T with
  | some (.array n e)=>if (P.info? e).isSome then some n else none
  | _=>none
theorem arrN_of {P:Program} {T n:Nat} (h:arrN P T=some n):∃ E,P.underlying T=some (.array n E)∧∃ i,P.info? E=some i:=by
  unfold arrN at h
  split at h <;> try (simp at h;done)
  rename_i m e hu
  split at h <;> try (simp at h;done)
  rename_i hi
  simp at h
  subst h
  exact ⟨e,hu,Option.isSome_iff_exists.1 hi⟩
def qv (ok:Nat→Bool) (P:Program) (w:World) (a:Act):Op→Option Value
  | .move x=>some (a.eval x)
  | .assign x=>some (a.eval x)
  | .nilCheck x=>match a.eval x with
    | .pointer (some ad)=>some (.pointer (some ad))
    | _=>none
  | .fieldAddr S x f=>match a.eval x,fieldOff P S f with
    | .pointer (some ⟨b,o,none⟩),some off=>some (.pointer (some ⟨b,o+off,none⟩))
    | _,_=>none
  | .load T x=>match a.eval x with
    | .pointer (some ⟨b,o,none⟩)=>if ok b then (if oneB P T then w.cell? ⟨b,o,none⟩ else match aggN P T with
      | some n=>(rangeV w b o n).map fun cs=>.agg cs.toArray
      | none=>none) else none
    | _=>none
  | .indexAddr T x y=>match a.eval x,a.eval y,sliceN P T with
    | .slice (some ⟨b,o,none⟩) len _,.int _ j,some n=>if 0≤j∧j < len then some (.pointer (some ⟨b,o+j.toNat * n,none⟩)) else none
    | _,_,_=>none
  | .binOp op _ x y _=>vop op (a.eval x) (a.eval y)
  | .unOp .not _ x=>match a.eval x with
    | .bool b=>some (.bool !b)
    | _=>none
  | .pick c x y=>match a.eval c with
    | .bool b=>some (if b then a.eval x else a.eval y)
    | _=>none
  | .convert S T x=>match intK P S,intK P T,a.eval x with
    | some k,some k',.int k2 n=>if k=k2 then some (.int k' (k'.wrap n)) else none
    | _,_,_=>none
  | .slice T x none (some y) none=>match a.eval x,a.eval y,sliceN P T with
    | .slice base _ cap,.int _ h,some _=>if 0≤h∧h≤cap then some (.slice base h.toNat cap) else none
    | _,_,_=>none
  | .slice T x none none none=>match a.eval x,arrN P T with
    | .pointer (some ⟨b,0,none⟩),some n=>some (.slice (some ⟨b,0,none⟩) n n)
    | _,_=>none
  | .extract x i=>match a.eval x with
    | .tuple vs=>vs[i]?
    | _=>none
  | .call ⟨f,args,ts⟩=>qcall P a f args.toList ts.toList
  | _=>none
section
variable {P:Program} {a:Act} {w:World} {K:Act→World→Prop} {d:Option Tmp} {g:Option (Nat × Bool)}
theorem fieldB_of {S f off:Nat} (h:fieldOff P S f=some off):fieldB P S f off=true:=by
  unfold fieldOff at h
  unfold fieldB
  split at h <;> try (simp at h;done)
  rename_i fields hu
  split at h <;> try (simp at h;done)
  rename_i fld hf
  split at h <;> try (simp at h;done)
  rename_i i hi
  split at h <;> try (simp at h;done)
  rename_i h0
  simp at h
  subst h
  simp [hu,hf,hi,h0]
theorem fieldOff_of {S f off:Nat} (h:fieldB P S f off=true):fieldOff P S f=some off:=by
  unfold fieldB at h
  unfold fieldOff
  split at h <;> try (simp at h;done)
  rename_i fields hu
  split at h <;> try (simp at h;done)
  rename_i fld hf
  simp at h
  obtain ⟨h1,h2⟩:=h
  split at h2 <;> try (simp at h2;done)
  rename_i i hi
  simp at h2
  simp [hu,hf,hi,h2,h1]
theorem sliceB_of {T n:Nat} (h:sliceN P T=some n):∃ E,sliceB P T E n=true:=by
  unfold sliceN at h
  split at h <;> try (simp at h;done)
  rename_i e hu
  obtain ⟨i,hi,hn⟩:=Option.map_eq_some_iff.1 h
  exact ⟨e,by simp [sliceB,hu,hi,hn]⟩
theorem sliceN_of {T E n:Nat} (h:sliceB P T E n=true):sliceN P T=some n:=by
  obtain ⟨hu,i,hi,hs⟩:=slice_of h
  simp [sliceN,hu,hi,hs]
theorem intB_of {T:Nat} {k:IntKind} (h:intK P T=some k):intB P T k=true:=by
  unfold intK at h
  split at h <;> try (simp at h;done)
  rename_i k' hu
  simp at h
  subst h
  simp [intB,hu]
theorem intK_of {T:Nat} {k:IntKind} (h:intB P T k=true):intK P T=some k:=by
  unfold intB at h
  split at h <;> try (simp at h;done)
  rename_i k' hu
  simp at h
  subst h
  simp [intK,hu]
theorem aggB_of {T n:Nat} (h:aggN P T=some n):aggB P T n=true:=by
  unfold aggN at h
  split at h <;> simp_all [aggB]
theorem aggN_of {T n:Nat} (h:aggB P T n=true):aggN P T=some n:=by
  unfold aggB at h
  split at h <;> simp_all [aggN]
theorem oneB_not_agg {T n:Nat} (h:aggB P T n=true):oneB P T=false:=by
  unfold aggB at h
  split at h <;> try (simp at h;done)
  all_goals
    rename_i h1 h2
    simp [oneB,h1,h2]
theorem rangeV_get {b:Nat}:∀ (n o:Nat) (cs:List Value),rangeV w b o n=some cs→cs.length=n∧∀ j v,cs[j]?=some v→w.cell? ⟨b,o+j,none⟩=some v
  | 0,o,cs,h=>by
    simp [rangeV] at h
    subst h
    simp
  | n+1,o,cs,h=>by
    unfold rangeV at h
    obtain ⟨v,hv,h⟩:=Option.bind_eq_some_iff.1 h
    obtain ⟨cs',hcs,rfl⟩:=Option.map_eq_some_iff.1 h
    obtain ⟨h1,h2⟩:=rangeV_get n (o+1) cs' hcs
    refine ⟨by simp [h1],fun j u hu=>?_⟩
    cases j with
    | zero=>simp at hu;subst hu;exact hv
    | succ j =>
      simp at hu
      have:=h2 j u hu
      rwa [show o+1+j=o+(j+1) by omega] at this
theorem rangeV_of {b:Nat}:∀ (cs:List Value) (o:Nat),(∀ j v,cs[j]?=some v→w.cell? ⟨b,o+j,none⟩=some v)→rangeV w b o cs.length=some cs
  | [],_,_=>rfl
  | v :: cs,o,h=>by
    unfold rangeV
    have h0:=h 0 v rfl
    rw [Nat.add_zero] at h0
    simp only [List.length_cons]
    rw [h0,rangeV_of cs (o+1) (fun j u hu=>by have:=h (j+1) u hu;rwa [show o+(j+1)=o+1+j by omega] at this)]
    rfl
theorem vop_sound {op:BinOp} {T T':TypeId} {x y:Operand} {v:Value} (h:vop op (a.eval x) (a.eval y)=some v):∀ p:Oper,p.op=.binOp op T x y T'→(execOp a.eval p).run P w=.ok (.value v) w:=by
  intro p hp
  unfold vop at h
  split at h <;> try (simp at h;done)
  rename_i k m k' n hx hy
  unfold iop at h
  split at h <;> try (simp at h;done)
  all_goals
    split at h <;> try (simp at h;done)
  case h_10 =>
    rename_i hn
    simp at h
    subst h
    have e:m.fdiv (2 ^ n.toNat:Int)=m / (2 ^ n.toNat:Int):=Int.fdiv_eq_ediv_of_nonneg _ (Int.le_of_lt (Int.pow_pos (by decide)))
    have e2:min n.toNat k.bits=n.toNat:=Nat.min_eq_left hn.2
    have e3:¬ (n < 0):=by omega
    simp [execOp,hp,hx,hy,eqGuard,binOp,Op.shift,e,e2,e3]
  case h_11 =>
    rename_i hn
    simp at h
    subst h
    have e2:min n.toNat k.bits=n.toNat:=Nat.min_eq_left hn.2
    have e3:¬ (n < 0):=by omega
    simp [execOp,hp,hx,hy,eqGuard,binOp,Op.shift,e2,e3]
  case h_14 =>
    rename_i hk
    obtain ⟨rfl,hk0⟩:=hk
    simp at h
    subst h
    simp [execOp,hp,hx,hy,run_eqGuard_int,binOp,Op.intDiv,hk0]
  all_goals
    rename_i hk
    subst hk
    simp at h
    subst h
    simp [execOp,hp,hx,hy,run_eqGuard_int,binOp,Op.intArith,Op.intCmp,Op.intBits]
theorem qv_sound {ok:Nat→Bool} {w0:World} (hS:∀ b o,ok b=true→w.cell? ⟨b,o,none⟩=w0.cell? ⟨b,o,none⟩) {op:Op} {v:Value} (h:qv ok P w0 a op=some v):∀ p:Oper,stripOp p.op=op→(execOp a.eval p).run P w=.ok (.value v) w:=by
  intro p hp0
  have hne:∀ f args t,op ≠ .call ⟨.value f,args,t⟩:=by
    intro f args t he
    subst he
    simp [qv,qcall] at h
  have hp:=stripOp_eq hne hp0
  clear hp0
  unfold qv at h
  split at h <;> try (simp at h;done)
  · simp at h;subst h;simp [execOp,hp]
  · simp at h;subst h;simp [execOp,hp]
  · split at h <;> try (simp at h;done)
    rename_i hx
    simp at h;subst h;simp [execOp,hp,hx]
  · split at h <;> try (simp at h;done)
    rename_i b o off hx hf
    simp at h;subst h
    simp [execOp,hp,hx,run_field (fieldB_of hf)]
  · split at h <;> try (simp at h;done)
    rename_i b o hx
    split at h <;> try (simp at h;done)
    rename_i hok
    split at h
    · rename_i hT
      rw [← hS b o hok] at h
      simp [execOp,hp,hx,run_load_one hT h]
    · split at h <;> try (simp at h;done)
      rename_i n hn
      obtain ⟨cs,hcs,rfl⟩:=Option.map_eq_some_iff.1 h
      obtain ⟨h1,h2⟩:=rangeV_get _ _ _ hcs
      have h2:∀ j v,cs[j]?=some v→w.cell? ⟨b,o+j,none⟩=some v:=fun j v hj=>by rw [hS b _ hok];exact h2 j v hj
      subst h1
      simp [execOp,hp,hx,run_load_agg (aggB_of hn) h2]
  · split at h <;> try (simp at h;done)
    rename_i b o len cap k j n hx hy hn
    split at h <;> try (simp at h;done)
    rename_i hj
    simp at h
    subst h
    obtain ⟨E,hE⟩:=sliceB_of hn
    obtain ⟨hu,i,hi,hs⟩:=slice_of hE
    simp [execOp,hp,hx,hy,Instr.indexAt,asIntOf,run_underlying hu,hj,sizeOf,typeInfo,hi,hs,add_none]
  · exact vop_sound h p hp
  · split at h <;> try (simp at h;done)
    rename_i b hx
    simp at h;subst h;simp [execOp,hp,hx,Op.unary]
  · split at h <;> try (simp at h;done)
    rename_i b hx
    simp at h;subst h;simp [execOp,hp,hx,asBool]
  · split at h <;> try (simp at h;done)
    rename_i k k' k2 n hS hT hx
    split at h <;> try (simp at h;done)
    rename_i hk
    subst hk
    simp at h
    subst h
    have h1:=intB_of hS
    have h2:=intB_of hT
    unfold intB at h1 h2
    split at h1 <;> try (simp at h1;done)
    split at h2 <;> try (simp at h2;done)
    rename_i q1 _ _ q2
    simp at h1 h2
    subst h1;subst h2
    simp [execOp,hp,hx,convert,run_underlying q1,run_underlying q2,Conv.intToInt]
  · split at h <;> try (simp at h;done)
    rename_i base len cap k hh n hx hy hn
    split at h <;> try (simp at h;done)
    rename_i hb0
    simp at h
    subst h
    obtain ⟨E,hE⟩:=sliceB_of hn
    obtain ⟨hu,i,hi,hs⟩:=slice_of hE
    have hb:(Instr.sliceBounds true len cap none (some (.int k hh)) none).run P w=.ok (0,hh.toNat,cap) w:=by
      simp [Instr.sliceBounds,run_sliceBound,hb0]
    simp [execOp,hp,hx,hy,Instr.sliceAt,Instr.slice,run_underlying hu,hb,sizeOf,typeInfo,hi,add_none]
    intro hc
    cases base with
    | none=>rfl
    | some ad=>simp [Addr.add]
  · split at h <;> try (simp at h;done)
    rename_i b n hx hn
    simp at h
    subst h
    obtain ⟨E,hE,i,hi⟩:=arrN_of hn
    simp [execOp,hp,hx,Instr.sliceAt,run_underlying hE,Instr.sliceBounds,Instr.sureAddr,asAddr,sizeOf,typeInfo,hi,Addr.add]
  · split at h <;> try (simp at h;done)
    rename_i vs hx
    simp [execOp,hp,hx,Instr.extract,h]
  · clear hne
    rename_i f args ts
    obtain ⟨args⟩:=args
    obtain ⟨ts⟩:=ts
    simp only at h
    unfold qcall at h
    split at h <;> try (simp at h;done)
    · split at h <;> try (simp at h;done)
      · rename_i base len cap hx
        split at h <;> try (simp at h;done)
        rename_i hn
        simp at h
        subst h
        obtain ⟨n,hn⟩:=Option.isSome_iff_exists.1 hn
        obtain ⟨E,hE⟩:=sliceB_of hn
        obtain ⟨hu,_⟩:=slice_of hE
        simp [execOp,hp,hx,resolve,invoke,builtin,Builtin.len_,run_underlying hu,goInt]
      · rename_i s hx
        split at h <;> try (simp at h;done)
        rename_i hT
        have hu:=str_of hT
        simp at h
        subst h
        simp [execOp,hp,hx,resolve,invoke,builtin,Builtin.len_,run_underlying hu,goInt]
    · split at h <;> try (simp at h;done)
      rename_i k m _ n hx hy
      simp at h
      subst h
      simp [execOp,hp,hx,hy,resolve,invoke,builtin,Builtin.min_,Builtin.min2]
    · split at h <;> try (simp at h;done)
      rename_i k m _ n hx hy
      simp at h
      subst h
      simp [execOp,hp,hx,hy,resolve,invoke,builtin,Builtin.max_,Builtin.max2]
theorem ops_1 {all r:List SOp} {d:Nat} {op:Op} {v:Value} (h:qv (fun _=>true) P w a op=some v) (hk:opsw P all r K (a.put (some d) v) w):opsw P all (⟨some d,op,none⟩ :: r) K a w :=
  oNo rfl (opw_of fun o next Q hd ho hn=>by
    rw [qv_sound (fun _ _ _=>rfl) h o ho,Oper.upon_value,hd]
    exact hn _ _ hk)
theorem ops_y {all r:List SOp} {d j dj:Nat} {want:Bool} {op:Op} {v:Value} (hj:(all[j]?).bind (·.dst)=some dj) (hlt:dj < a.tmps.size) (hb:getT a dj=.bool want) (h:qv (fun _=>true) P w a op=some v) (hk:opsw P all r K (a.put (some d) v) w) :
    opsw P all (⟨some d,op,some (j,want)⟩ :: r) K a w :=
  opsw_yes rfl hj hlt hb (opw_of fun o next Q hd ho hn=>by
    rw [qv_sound (fun _ _ _=>rfl) h o ho,Oper.upon_value,hd]
    exact hn _ _ hk)
theorem ops_n {all r:List SOp} {d j dj:Nat} {want:Bool} {op:Op} (hj:(all[j]?).bind (·.dst)=some dj) (hlt:dj < a.tmps.size) (hb:getT a dj=.bool !want∨getT a dj=undef) (hk:opsw P all r K (a.put (some d) undef) w) :
    opsw P all (⟨some d,op,some (j,want)⟩ :: r) K a w:=opsw_no rfl hj hlt hb hk
theorem opq_of {w0:World} {B:Nat} {s:SOp} {v:Value} (h:qv (fun b=>decide (b < B)) P w0 a s.op=some v):opq P (Below B w0) s a v:=fun o ho w' hS' =>
  qv_sound (w0:=w0) (fun b o hb=>hS'.cell (by simpa using hb)) h o (congrArg SOp.op ho)
theorem dr_1 {w0:World} {B i d:Nat} {op:Op} {ops:List SOp} {v:Value} {r:List (Nat × Bool)} (hs:ops[i]?=some ⟨some d,op,none⟩) (h:qv (fun b=>decide (b < B)) P w0 a op=some v)
    (hk:dregw P (Below B w0) ops r K (a.put (some d) v) w):dregw P (Below B w0) ops ((i,true) :: r) K a w:=by
  unfold dregw
  exact ⟨_,hs,by simpa only [if_true] using ⟨v,opq_of (s:=⟨some d,op,none⟩) h,hk⟩⟩
theorem dr_y {w0:World} {B i d j dj:Nat} {want:Bool} {op:Op} {ops:List SOp} {v:Value} {r:List (Nat × Bool)} (hs:ops[i]?=some ⟨some d,op,some (j,want)⟩) (hj:(ops[j]?).bind (·.dst)=some dj) (hlt:dj < a.tmps.size) (hb:getT a dj=.bool want) (h:qv (fun b=>decide (b < B)) P w0 a op=some v)
    (hk:dregw P (Below B w0) ops r K (a.put (some d) v) w):dregw P (Below B w0) ops ((i,true) :: r) K a w:=by
  unfold dregw
  exact ⟨_,hs,dj,want,hj,hlt,.inl hb,by simpa only [if_true] using ⟨v,opq_of (s:=⟨some d,op,some (j,want)⟩) h,hk⟩⟩
theorem dr_n {w0:World} {B i d j dj:Nat} {q want:Bool} {op:Op} {ops:List SOp} {r:List (Nat × Bool)} (hs:ops[i]?=some ⟨some d,op,some (j,want)⟩) (hj:(ops[j]?).bind (·.dst)=some dj) (hlt:dj < a.tmps.size) (hb:getT a dj=.bool !want∨getT a dj=undef)
    (hk:dregw P (Below B w0) ops r K (a.put (some d) undef) w):dregw P (Below B w0) ops ((i,q) :: r) K a w:=by
  unfold dregw
  exact ⟨_,hs,dj,!want,hj,hlt,hb.imp id (fun h=>⟨h,rfl⟩),by rw [if_neg (by cases want <;> simp)];exact hk⟩
theorem dreg_n {S:World→Prop} {ops:List SOp} {i:Nat} {s:SOp} {r:List (Nat × Bool)} (hs:ops[i]?=some s) (hg:s.guard=none) (h:opw P s a w (fun a' w'=>S w'∧dregw P S ops r K a' w')) :
    dregw P S ops ((i,false) :: r) K a w:=by
  unfold dregw
  refine ⟨s,hs,?_⟩
  rw [hg]
  exact h
theorem dreg_yes {S:World→Prop} {ops:List SOp} {i j dj:Nat} {want:Bool} {s:SOp} {r:List (Nat × Bool)} (hs:ops[i]?=some s) (hg:s.guard=some (j,want)) (hj:(ops[j]?).bind (·.dst)=some dj) (hlt:dj < a.tmps.size) (hb:getT a dj=.bool want)
    (h:opw P s a w (fun a' w'=>S w'∧dregw P S ops r K a' w')):dregw P S ops ((i,false) :: r) K a w:=by
  unfold dregw
  refine ⟨s,hs,?_⟩
  rw [hg]
  exact ⟨dj,want,hj,hlt,.inl hb,by rw [if_pos rfl];exact h⟩
theorem dreg_nil {S:World→Prop} {ops:List SOp} (h:K a w):dregw P S ops [] K a w:=h
end
end Go.Proofs.Ytgaplicnofhliab.K
namespace Go.Proofs.Ytgaplicnofhliab.K
open Go Go.RowKit Go.Proofs.Ytgaplicnofhliab.T
attribute [local simp] eTm eCo pNo gTp gTn qv qcall vop iop
set_option linter.unusedSimpArgs false
set_option linter.unusedVariables false
set_option maxHeartbeats 4000000
def swC (T:Nat):Nat→List (Int × ByteArray)→SC→SC
  | _,[],e=>e
  | t,(k,s) :: r,e=>.seq (.reg [⟨some (t+1),.binOp .eql T (.tmp 3) (.const (.int .i16 k)) T,none⟩,asg t (t+1)]) (.cond (.tmp t) (.seq (.reg [⟨some 2,.assign (.const (.string s)),none⟩]) .ret) (swC T (t+2) r e))
def lk (n:Int):List (Int × ByteArray)→Option ByteArray
  | []=>none
  | (k,s) :: r=>if n=k then some s else lk n r
def sc_NameForKey (T:Nat) (L:List (Int × ByteArray)) (u:ByteArray):SC:=.seq (.reg [⟨some 2,.assign (.const (.string ⟨#[]⟩)),none⟩]) (.seq (.reg [mv 3 0]) (.block 0 (swC T 4 L (.seq (.reg [⟨some 2,.assign (.const (.string u)),none⟩]) .ret))))
def sc_KeyName (T:Nat) (L:List (Int × ByteArray)):SC:=.seq (.reg [⟨some 2,.assign (.const (.string ⟨#[]⟩)),none⟩]) (.seq (.seq (.reg [mv 3 0]) (.block 0 (swC T 4 L .skip))) (.seq (.reg [⟨some 2,.assign (.const (.string ⟨#[]⟩)),none⟩]) .ret))
def sc_pass (z:Value) (f:Nat):SC:=.seq (.reg [⟨some 2,.assign (.const z),none⟩]) (.seq (.reg [mv 3 0,cal 4 f [3],asg 2 4]) .ret)
def sc_same (z:Value):SC:=.seq (.reg [⟨some 2,.assign (.const z),none⟩]) (.seq (.reg [mv 3 0,asg 2 3]) .ret)
def sc_MaxKey (n:Int):SC:=.seq (.reg [⟨some 0,.assign (.const (.int .i64 0)),none⟩]) (.seq (.reg [⟨some 0,.assign (.const (.int .i64 n)),none⟩]) .ret)
def sc_Known (T:Nat) (n:Int):SC:=.seq (.reg [⟨some 2,.assign (.const (.bool false)),none⟩]) (.seq (.reg [mv 3 0,⟨some 4,.binOp .geq T (.tmp 3) (.const (.int .i16 0)) T,none⟩,mv 5 4,⟨some 6,.move (.tmp 0),some (2,true)⟩,⟨some 7,.binOp .leq T (.tmp 6) (.const (.int .i16 n)) T,some (2,true)⟩,⟨some 8,.pick (.tmp 5) (.tmp 7) (.const (.bool false)),none⟩,asg 2 8]) .ret)
def sc_LawKeyName (T0 T1 T2 T3:Nat) (n:Int) (F0 F1 F2 F3 F4 F5:Nat):SC:=.seq (.reg [⟨some 2,.assign (.const (.bool false)),none⟩]) (.seq (.seq (.reg [mv 3 0,cal 4 F0 [3],mv 5 0,⟨some 6,.binOp .neq T0 (.tmp 4) (.tmp 5) T0,none⟩,mv 7 6,⟨some 8,.call ⟨.value (.func F1),#[],#[]⟩,some (4,false)⟩,⟨some 9,.binOp .neq T1 (.tmp 8) (.const (.int .i64 n)) T1,some (4,false)⟩,⟨some 10,.pick (.tmp 7) (.const (.bool true)) (.tmp 9),none⟩]) (.cond (.tmp 10) (.seq (.reg [⟨some 2,.assign (.const (.bool false)),none⟩]) (.ret)) (.skip))) (.seq (.reg [mv 11 0,cal 12 F2 [11],⟨some 13,.unOp .not T2 (.tmp 12),none⟩,mv 14 13,⟨some 15,.move (.tmp 0),some (3,false)⟩,⟨some 16,.call ⟨.value (.func F3),#[(.tmp 15)],#[]⟩,some (3,false)⟩,⟨some 17,.move (.tmp 0),some (3,false)⟩,⟨some 18,.call ⟨.value (.func F4),#[(.tmp 17)],#[]⟩,some (3,false)⟩,⟨some 19,.binOp .eql T3 (.tmp 16) (.tmp 18) T3,some (3,false)⟩,⟨some 20,.move (.tmp 19),some (3,false)⟩,⟨some 21,.move (.tmp 0),some (9,true)⟩,⟨some 22,.call ⟨.value (.func F5),#[(.tmp 21)],#[]⟩,some (9,true)⟩,⟨some 23,.move (.tmp 0),some (9,true)⟩,⟨some 24,.call ⟨.value (.func F4),#[(.tmp 23)],#[]⟩,some (9,true)⟩,⟨some 25,.binOp .eql T3 (.tmp 22) (.tmp 24) T3,some (9,true)⟩,⟨some 26,.pick (.tmp 20) (.tmp 25) (.const (.bool false)),some (3,false)⟩,⟨some 27,.pick (.tmp 14) (.const (.bool true)) (.tmp 26),none⟩,asg 2 27]) (.ret)))
section
variable {P:Program} {f:FuncId} {fn:Func}
theorem opgc {all:List SOp} {a:Act} {w:World} {t g j dj:Nat} {want:Bool} {args:Array Operand} {argsV:Array Value} {r:List SOp} {K:Act→World→Prop} {R:Ending→World→Prop} (hj:(all[j]?).bind (·.dst)=some dj) (hlt:dj < a.tmps.size) (hb:getT a dj=.bool want) (hf:FnOK P g) (hc:Calls P g argsV w R) (hargs:args.map a.eval=argsV)
    (hR:∀ e w',R e w'→∃ v,e=.returned v∧opsw P all r K (a.put (some t) v) w'):opsw P all (⟨some t,.call ⟨.value (.func g),args,#[]⟩,some (j,want)⟩ :: r) K a w:=by
  obtain ⟨fn,h1,h2,h3⟩:=hf
  refine ⟨dj,want,hj,hlt,.inl hb,?_⟩
  rw [if_pos rfl]
  exact opw_call (R:=R) h1 h2 h3 (by rw [hargs];exact hc) hR
theorem opgs {all:List SOp} {a:Act} {w:World} {d j dj:Nat} {want:Bool} {x y:Operand} {T T':Nat} {s:ByteArray} {r:List SOp} {K:Act→World→Prop} (hj:(all[j]?).bind (·.dst)=some dj) (hlt:dj < a.tmps.size) (hb:getT a dj=.bool want) (hx:a.eval x=.string s) (hy:a.eval y=.string s)
    (hk:opsw P all r K (a.put (some d) (.bool true)) w):opsw P all (⟨some d,.binOp .eql T x y T',some (j,want)⟩ :: r) K a w:=by
  refine ⟨dj,want,hj,hlt,.inl hb,?_⟩
  rw [if_pos rfl]
  refine oVa (by simp) (fun p hp=>?_) hk
  have e:(eqGuard .eql T x y (.string s) (.string s)).run P w=.ok () w:=by unfold eqGuard;split <;> rfl
  simp [execOp,hp,hx,hy,e,binOp,Op.stringOp]
theorem sw_ok {T:Nat} {n:Int} {s:ByteArray} {e:SC} {w:World} {Q:Exit→Act→World→Prop} {N:Nat}:∀ (L:List (Int × ByteArray)) (t:Nat) (a:Act),lk n L=some s→4≤t→t+2 * L.length≤N→a.tmps.size=N→getT a 3=.int .i16 n →
    (∀ a':Act,a'.tmps.size=N→a'.defers=a.defers→getT a' 2=.string s→Q .ret a' w)→(swC T t L e).wp P Q a w
  | [],_,_,h,_,_,_,_,_=>by cases h
  | (k,s') :: r,t,a,h,ht,hN,hs,h3,hQ=>by
    simp only [List.length_cons] at hN
    simp only [lk] at h
    by_cases hk:n=k
    · rw [if_pos hk] at h
      cases h
      subst hk
      refine SC.wp_seq (SC.wp_reg ?_)
      repeat (apply ops_1;(focus (simp (disch:=(try simp only [sPu]);omega) [h3];try rfl)))
      refine oNi (SC.wp_cond (t:=true) (by simp (disch:=(try simp only [sPu]);omega)) ?_)
      rw [if_pos rfl]
      refine SC.wp_seq (SC.wp_reg ?_)
      repeat (apply ops_1;(focus (simp (disch:=(try simp only [sPu]);omega) ;try rfl)))
      refine oNi (SC.wp_ret (hQ _ (by simp [sPu,hs]) (by simp [dPu]) ?_))
      simp (disch:=(try simp only [sPu]);omega)
    · rw [if_neg hk] at h
      refine SC.wp_seq (SC.wp_reg ?_)
      repeat (apply ops_1;(focus (simp (disch:=(try simp only [sPu]);omega) [h3];try rfl)))
      refine oNi (SC.wp_cond (t:=false) (by simp (disch:=(try simp only [sPu]);omega) [hk]) ?_)
      rw [if_neg (by simp)]
      refine sw_ok r (t+2) _ h (by omega) (by omega) (by simp [sPu,hs]) (by simp (disch:=(try simp only [sPu]);omega) [h3]) fun a' h1 h2 h4=>hQ a' h1 (by rw [h2];simp [dPu]) h4
theorem nameForKey_ok {T:Nat} {L:List (Int × ByteArray)} {u s:ByteArray} {n:Int} (hl:lk n L=some s) (hf:P.funcs[f]?=some fn) (hb:fn.body.map strip=some (sc_NameForKey T L u)) (hn:4+2 * L.length≤fn.ntmps) (hr:fn.results=#[.tmp 2]) (w:World) :
    Calls P f #[.int .i16 n] w fun e w'=>e=.returned (.string s)∧w'=w:=by
  refine fCa hf hb rfl (by simp;omega) fun a0 hs hd ha=>?_
  have h0:=ha 0 _ rfl
  simp only [List.getElem_toArray,List.getElem_cons_zero] at h0
  refine SC.wp_seq (SC.wp_reg ?_)
  repeat (apply ops_1;(focus (simp (disch:=(try simp only [sPu]);omega) ;try rfl)))
  refine oNi (SC.wp_seq (SC.wp_reg ?_))
  repeat (apply ops_1;(focus (simp (disch:=(try simp only [sPu]);omega) [h0];try rfl)))
  refine oNi (SC.wp_block (sw_ok (N:=fn.ntmps) L 4 _ hl (by omega) (by omega) (by simp [sPu,hs]) (by simp (disch:=(try simp only [sPu]);omega) [h0]) fun a' h1 h2 h3=>?_))
  exact ret_tmp (R:=fun e w'=>e=.returned (.string s)∧w'=w) hr (by rw [h2];simp [dPu,hd]) ⟨by rw [h3],rfl⟩
theorem keyName_ok {T:Nat} {L:List (Int × ByteArray)} {s:ByteArray} {n:Int} (hl:lk n L=some s) (hf:P.funcs[f]?=some fn) (hb:fn.body.map strip=some (sc_KeyName T L)) (hn:4+2 * L.length≤fn.ntmps) (hr:fn.results=#[.tmp 2]) (w:World) :
    Calls P f #[.int .i16 n] w fun e w'=>e=.returned (.string s)∧w'=w:=by
  refine fCa hf hb rfl (by simp;omega) fun a0 hs hd ha=>?_
  have h0:=ha 0 _ rfl
  simp only [List.getElem_toArray,List.getElem_cons_zero] at h0
  refine SC.wp_seq (SC.wp_reg ?_)
  repeat (apply ops_1;(focus (simp (disch:=(try simp only [sPu]);omega) ;try rfl)))
  refine oNi (SC.wp_seq (SC.wp_seq (SC.wp_reg ?_)))
  repeat (apply ops_1;(focus (simp (disch:=(try simp only [sPu]);omega) [h0];try rfl)))
  refine oNi (SC.wp_block (sw_ok (N:=fn.ntmps) L 4 _ hl (by omega) (by omega) (by simp [sPu,hs]) (by simp (disch:=(try simp only [sPu]);omega) [h0]) fun a' h1 h2 h3=>?_))
  exact ret_tmp (R:=fun e w'=>e=.returned (.string s)∧w'=w) hr (by rw [h2];simp [dPu,hd]) ⟨by rw [h3],rfl⟩
theorem pass_ok {z v r:Value} {g:Nat} (hg:FnOK P g) {w:World} (hc:Calls P g #[v] w fun e w'=>e=.returned r∧w'=w) (hf:P.funcs[f]?=some fn) (hb:fn.body.map strip=some (sc_pass z g)) (hn:fn.ntmps=5) (hr:fn.results=#[.tmp 2]) :
    Calls P f #[v] w fun e w'=>e=.returned r∧w'=w:=by
  refine fCa hf hb hn (by simp) fun a0 hs hd ha=>?_
  have h0:=ha 0 _ rfl
  simp only [List.getElem_toArray,List.getElem_cons_zero] at h0
  refine SC.wp_seq (SC.wp_reg ?_)
  repeat (apply ops_1;(focus (simp (disch:=(try simp only [sPu]);omega) ;try rfl)))
  refine oNi (SC.wp_seq (SC.wp_reg ?_))
  (apply ops_1;(focus (simp (disch:=(try simp only [sPu]);omega) [h0];try rfl)))
  refine ops_cal hg (R:=fun e w'=>e=.returned r∧w'=w) ?_ ?_
  · refine Eq.mp (congrArg (fun z=>Calls P g z w _) ?_) hc
    simp (disch:=(try simp only [sPu]);omega)
  rintro e w2 ⟨rfl,rfl⟩
  refine ⟨_,rfl,?_⟩
  repeat (apply ops_1;(focus (simp (disch:=(try simp only [sPu]);omega) ;try rfl)))
  refine oNi (SC.wp_ret (ret_tmp hr (by simp [dPu,hd]) ⟨?_,rfl⟩))
  simp (disch:=(try simp only [sPu]);omega)
theorem sameV_ok {z v:Value} (hf:P.funcs[f]?=some fn) (hb:fn.body.map strip=some (sc_same z)) (hn:fn.ntmps=4) (hr:fn.results=#[.tmp 2]) (w:World) :
    Calls P f #[v] w fun e w'=>e=.returned v∧w'=w:=by
  refine fCa hf hb hn (by simp) fun a0 hs hd ha=>?_
  have h0:=ha 0 _ rfl
  simp only [List.getElem_toArray,List.getElem_cons_zero] at h0
  refine SC.wp_seq (SC.wp_reg ?_)
  repeat (apply ops_1;(focus (simp (disch:=(try simp only [sPu]);omega) ;try rfl)))
  refine oNi (SC.wp_seq (SC.wp_reg ?_))
  repeat (apply ops_1;(focus (simp (disch:=(try simp only [sPu]);omega) [h0];try rfl)))
  refine oNi (SC.wp_ret (ret_tmp hr (by simp [dPu,hd]) ⟨?_,rfl⟩))
  simp (disch:=(try simp only [sPu]);omega) [h0]
theorem maxKey_ok {n:Int} (hf:P.funcs[f]?=some fn) (hb:fn.body.map strip=some (sc_MaxKey n)) (hn:fn.ntmps=1) (hr:fn.results=#[.tmp 0]) (w:World) :
    Calls P f #[] w fun e w'=>e=.returned (.int .i64 n)∧w'=w:=by
  refine fCa hf hb hn (by simp) fun a0 hs hd ha=>?_
  refine SC.wp_seq (SC.wp_reg ?_)
  repeat (apply ops_1;(focus (simp (disch:=(try simp only [sPu]);omega) ;try rfl)))
  refine oNi (SC.wp_seq (SC.wp_reg ?_))
  repeat (apply ops_1;(focus (simp (disch:=(try simp only [sPu]);omega) ;try rfl)))
  refine oNi (SC.wp_ret (ret_tmp hr (by simp [dPu,hd]) ⟨?_,rfl⟩))
  simp (disch:=(try simp only [sPu]);omega)
theorem knownK_ok {T:Nat} {m:Int} (hf:P.funcs[f]?=some fn) (hb:fn.body.map strip=some (sc_Known T m)) (hn:fn.ntmps=9) (hr:fn.results=#[.tmp 2]) (w:World) (n:Int) :
    Calls P f #[.int .i16 n] w fun e w'=>e=.returned (.bool (decide (0≤n) && decide (n≤m)))∧w'=w:=by
  refine fCa hf hb hn (by simp) fun a0 hs hd ha=>?_
  have h0:=ha 0 _ rfl
  simp only [List.getElem_toArray,List.getElem_cons_zero] at h0
  refine SC.wp_seq (SC.wp_reg ?_)
  repeat (first | (apply ops_1;(focus (simp (disch:=(try simp only [sPu]);omega) ;try rfl))) | (apply ops_y;(focus rfl);(focus ((try simp only [sPu]);omega));(focus (simp (disch:=(try simp only [sPu]);omega);done));(focus (simp (disch:=(try simp only [sPu]);omega) ;try rfl))) | (apply ops_n;(focus rfl);(focus ((try simp only [sPu]);omega));(focus (first | (left;simp (disch:=(try simp only [sPu]);omega);done) | (right;simp (disch:=(try simp only [sPu]);omega);done)))))
  refine oNi (SC.wp_seq (SC.wp_reg ?_))
  cases e1:decide (0≤n)
  · repeat (first | (apply ops_1;(focus (simp (disch:=(try simp only [sPu]);omega) [h0,e1];try rfl))) | (apply ops_y;(focus rfl);(focus ((try simp only [sPu]);omega));(focus (simp (disch:=(try simp only [sPu]);omega) [h0,e1];done));(focus (simp (disch:=(try simp only [sPu]);omega) [h0,e1];try rfl))) | (apply ops_n;(focus rfl);(focus ((try simp only [sPu]);omega));(focus (first | (left;simp (disch:=(try simp only [sPu]);omega) [h0,e1];done) | (right;simp (disch:=(try simp only [sPu]);omega);done)))))
    refine oNi (SC.wp_ret (ret_tmp hr (by simp [dPu,hd]) ⟨?_,rfl⟩))
    simp (disch:=(try simp only [sPu]);omega) [e1]
  · repeat (first | (apply ops_1;(focus (simp (disch:=(try simp only [sPu]);omega) [h0,e1];try rfl))) | (apply ops_y;(focus rfl);(focus ((try simp only [sPu]);omega));(focus (simp (disch:=(try simp only [sPu]);omega) [h0,e1];done));(focus (simp (disch:=(try simp only [sPu]);omega) [h0,e1];try rfl))) | (apply ops_n;(focus rfl);(focus ((try simp only [sPu]);omega));(focus (first | (left;simp (disch:=(try simp only [sPu]);omega) [h0,e1];done) | (right;simp (disch:=(try simp only [sPu]);omega);done)))))
    refine oNi (SC.wp_ret (ret_tmp hr (by simp [dPu,hd]) ⟨?_,rfl⟩))
    simp (disch:=(try simp only [sPu]);omega) [e1]
theorem lawKeyName_ok {T0 T1 T2 T3 F0 F1 F2 F3 F4 F5:Nat} {m n:Int} (o0:FnOK P F0) (c0:∀ w,Calls P F0 #[.int .i16 n] w fun e w'=>e=.returned (.int .i16 n)∧w'=w) (o1:FnOK P F1) (c1:∀ w,Calls P F1 #[] w fun e w'=>e=.returned (.int .i64 m)∧w'=w)
    (o2:FnOK P F2) (c2:∀ w,Calls P F2 #[.int .i16 n] w fun e w'=>e=.returned (.bool (decide (0≤n) && decide (n≤m)))∧w'=w) (o3:FnOK P F3) (o4:FnOK P F4) (o5:FnOK P F5)
    (hL:0≤n→n≤m→∃ s,∀ w,(Calls P F3 #[.int .i16 n] w fun e w'=>e=.returned (.string s)∧w'=w)∧(Calls P F4 #[.int .i16 n] w fun e w'=>e=.returned (.string s)∧w'=w)∧Calls P F5 #[.int .i16 n] w fun e w'=>e=.returned (.string s)∧w'=w)
    (hf:P.funcs[f]?=some fn) (hb:fn.body.map strip=some (sc_LawKeyName T0 T1 T2 T3 m F0 F1 F2 F3 F4 F5)) (hn:fn.ntmps=28) (hr:fn.results=#[.tmp 2]) (w:World) :
    Calls P f #[.int .i16 n] w fun e w'=>e=.returned (.bool true)∧w'=w:=by
  refine fCa hf hb hn (by simp) fun a0 hs hd ha=>?_
  have h0:=ha 0 _ rfl
  simp only [List.getElem_toArray,List.getElem_cons_zero] at h0
  refine SC.wp_seq (SC.wp_reg ?_)
  (first | (apply ops_1;(focus (simp (disch:=(try simp only [sPu]);omega) ;try rfl))) | (apply ops_y;(focus rfl);(focus ((try simp only [sPu]);omega));(focus (simp (disch:=(try simp only [sPu]);omega);done));(focus (simp (disch:=(try simp only [sPu]);omega) ;try rfl))) | (apply ops_n;(focus rfl);(focus ((try simp only [sPu]);omega));(focus (first | (left;simp (disch:=(try simp only [sPu]);omega);done) | (right;simp (disch:=(try simp only [sPu]);omega);done)))))
  refine oNi (SC.wp_seq (SC.wp_seq (SC.wp_reg ?_)))
  (first | (apply ops_1;(focus (simp (disch:=(try simp only [sPu]);omega) [h0];try rfl))) | (apply ops_y;(focus rfl);(focus ((try simp only [sPu]);omega));(focus (simp (disch:=(try simp only [sPu]);omega) [h0];done));(focus (simp (disch:=(try simp only [sPu]);omega) [h0];try rfl))) | (apply ops_n;(focus rfl);(focus ((try simp only [sPu]);omega));(focus (first | (left;simp (disch:=(try simp only [sPu]);omega) [h0];done) | (right;simp (disch:=(try simp only [sPu]);omega);done)))))
  refine ops_cal o0 (R:=fun e w'=>e=.returned (.int .i16 n)∧w'=w) ?_ ?_
  · refine Eq.mp (congrArg (fun z=>Calls P F0 z w _) ?_) (c0 w)
    simp (disch:=(try simp only [sPu]);omega)
  rintro e w2 ⟨rfl,rfl⟩
  refine ⟨_,rfl,?_⟩
  (first | (apply ops_1;(focus (simp (disch:=(try simp only [sPu]);omega) [h0];try rfl))) | (apply ops_y;(focus rfl);(focus ((try simp only [sPu]);omega));(focus (simp (disch:=(try simp only [sPu]);omega) [h0];done));(focus (simp (disch:=(try simp only [sPu]);omega) [h0];try rfl))) | (apply ops_n;(focus rfl);(focus ((try simp only [sPu]);omega));(focus (first | (left;simp (disch:=(try simp only [sPu]);omega) [h0];done) | (right;simp (disch:=(try simp only [sPu]);omega);done)))))
  (first | (apply ops_1;(focus (simp (disch:=(try simp only [sPu]);omega) [h0];try rfl))) | (apply ops_y;(focus rfl);(focus ((try simp only [sPu]);omega));(focus (simp (disch:=(try simp only [sPu]);omega) [h0];done));(focus (simp (disch:=(try simp only [sPu]);omega) [h0];try rfl))) | (apply ops_n;(focus rfl);(focus ((try simp only [sPu]);omega));(focus (first | (left;simp (disch:=(try simp only [sPu]);omega) [h0];done) | (right;simp (disch:=(try simp only [sPu]);omega);done)))))
  (first | (apply ops_1;(focus (simp (disch:=(try simp only [sPu]);omega) [h0];try rfl))) | (apply ops_y;(focus rfl);(focus ((try simp only [sPu]);omega));(focus (simp (disch:=(try simp only [sPu]);omega) [h0];done));(focus (simp (disch:=(try simp only [sPu]);omega) [h0];try rfl))) | (apply ops_n;(focus rfl);(focus ((try simp only [sPu]);omega));(focus (first | (left;simp (disch:=(try simp only [sPu]);omega) [h0];done) | (right;simp (disch:=(try simp only [sPu]);omega);done)))))
  refine opgc (argsV:=#[]) rfl (by simp [sPu,hs]) (by simp (disch:=(try simp only [sPu]);omega)) o1 (c1 _) (by simp) ?_
  rintro e w2 ⟨rfl,rfl⟩
  refine ⟨_,rfl,?_⟩
  (first | (apply ops_1;(focus (simp (disch:=(try simp only [sPu]);omega) ;try rfl))) | (apply ops_y;(focus rfl);(focus ((try simp only [sPu]);omega));(focus (simp (disch:=(try simp only [sPu]);omega);done));(focus (simp (disch:=(try simp only [sPu]);omega) ;try rfl))) | (apply ops_n;(focus rfl);(focus ((try simp only [sPu]);omega));(focus (first | (left;simp (disch:=(try simp only [sPu]);omega);done) | (right;simp (disch:=(try simp only [sPu]);omega);done)))))
  (first | (apply ops_1;(focus (simp (disch:=(try simp only [sPu]);omega) ;try rfl))) | (apply ops_y;(focus rfl);(focus ((try simp only [sPu]);omega));(focus (simp (disch:=(try simp only [sPu]);omega);done));(focus (simp (disch:=(try simp only [sPu]);omega) ;try rfl))) | (apply ops_n;(focus rfl);(focus ((try simp only [sPu]);omega));(focus (first | (left;simp (disch:=(try simp only [sPu]);omega);done) | (right;simp (disch:=(try simp only [sPu]);omega);done)))))
  refine oNi (SC.wp_cond (t:=false) (by simp (disch:=(try simp only [sPu]);omega)) ?_)
  rw [if_neg (by simp)]
  refine SC.wp_skip (SC.wp_seq (SC.wp_reg ?_))
  (first | (apply ops_1;(focus (simp (disch:=(try simp only [sPu]);omega) [h0];try rfl))) | (apply ops_y;(focus rfl);(focus ((try simp only [sPu]);omega));(focus (simp (disch:=(try simp only [sPu]);omega) [h0];done));(focus (simp (disch:=(try simp only [sPu]);omega) [h0];try rfl))) | (apply ops_n;(focus rfl);(focus ((try simp only [sPu]);omega));(focus (first | (left;simp (disch:=(try simp only [sPu]);omega) [h0];done) | (right;simp (disch:=(try simp only [sPu]);omega);done)))))
  refine ops_cal o2 (R:=fun e w'=>e=.returned (.bool (decide (0≤n) && decide (n≤m)))∧w'=w2) ?_ ?_
  · refine Eq.mp (congrArg (fun z=>Calls P F2 z w2 _) ?_) (c2 w2)
    simp (disch:=(try simp only [sPu]);omega)
  rintro e w3 ⟨rfl,rfl⟩
  refine ⟨_,rfl,?_⟩
  cases e1:decide (0≤n) && decide (n≤m)
  · repeat (first | (apply ops_1;(focus (simp (disch:=(try simp only [sPu]);omega) [h0];try rfl))) | (apply ops_y;(focus rfl);(focus ((try simp only [sPu]);omega));(focus (simp (disch:=(try simp only [sPu]);omega) [h0];done));(focus (simp (disch:=(try simp only [sPu]);omega) [h0];try rfl))) | (apply ops_n;(focus rfl);(focus ((try simp only [sPu]);omega));(focus (first | (left;simp (disch:=(try simp only [sPu]);omega) [h0];done) | (right;simp (disch:=(try simp only [sPu]);omega);done)))))
    refine oNi (SC.wp_ret (ret_tmp hr (by simp [dPu,hd]) ⟨?_,rfl⟩))
    simp (disch:=(try simp only [sPu]);omega)
  · obtain ⟨s,hL⟩:=hL (by simp at e1;exact e1.1) (by simp at e1;exact e1.2)
    obtain ⟨l3,l4,l5⟩:=hL w3
    (first | (apply ops_1;(focus (simp (disch:=(try simp only [sPu]);omega) [h0];try rfl))) | (apply ops_y;(focus rfl);(focus ((try simp only [sPu]);omega));(focus (simp (disch:=(try simp only [sPu]);omega) [h0];done));(focus (simp (disch:=(try simp only [sPu]);omega) [h0];try rfl))) | (apply ops_n;(focus rfl);(focus ((try simp only [sPu]);omega));(focus (first | (left;simp (disch:=(try simp only [sPu]);omega) [h0];done) | (right;simp (disch:=(try simp only [sPu]);omega);done)))))
    (first | (apply ops_1;(focus (simp (disch:=(try simp only [sPu]);omega) [h0];try rfl))) | (apply ops_y;(focus rfl);(focus ((try simp only [sPu]);omega));(focus (simp (disch:=(try simp only [sPu]);omega) [h0];done));(focus (simp (disch:=(try simp only [sPu]);omega) [h0];try rfl))) | (apply ops_n;(focus rfl);(focus ((try simp only [sPu]);omega));(focus (first | (left;simp (disch:=(try simp only [sPu]);omega) [h0];done) | (right;simp (disch:=(try simp only [sPu]);omega);done)))))
    (first | (apply ops_1;(focus (simp (disch:=(try simp only [sPu]);omega) [h0];try rfl))) | (apply ops_y;(focus rfl);(focus ((try simp only [sPu]);omega));(focus (simp (disch:=(try simp only [sPu]);omega) [h0];done));(focus (simp (disch:=(try simp only [sPu]);omega) [h0];try rfl))) | (apply ops_n;(focus rfl);(focus ((try simp only [sPu]);omega));(focus (first | (left;simp (disch:=(try simp only [sPu]);omega) [h0];done) | (right;simp (disch:=(try simp only [sPu]);omega);done)))))
    refine opgc (argsV:=#[.int .i16 n]) rfl (by simp [sPu,hs]) (by simp (disch:=(try simp only [sPu]);omega)) o3 l3 (by simp (disch:=(try simp only [sPu]);omega)) ?_
    rintro e w4 ⟨rfl,rfl⟩
    refine ⟨_,rfl,?_⟩
    (first | (apply ops_1;(focus (simp (disch:=(try simp only [sPu]);omega) [h0];try rfl))) | (apply ops_y;(focus rfl);(focus ((try simp only [sPu]);omega));(focus (simp (disch:=(try simp only [sPu]);omega) [h0];done));(focus (simp (disch:=(try simp only [sPu]);omega) [h0];try rfl))) | (apply ops_n;(focus rfl);(focus ((try simp only [sPu]);omega));(focus (first | (left;simp (disch:=(try simp only [sPu]);omega) [h0];done) | (right;simp (disch:=(try simp only [sPu]);omega);done)))))
    refine opgc (argsV:=#[.int .i16 n]) rfl (by simp [sPu,hs]) (by simp (disch:=(try simp only [sPu]);omega)) o4 l4 (by simp (disch:=(try simp only [sPu]);omega)) ?_
    rintro e w5 ⟨rfl,rfl⟩
    refine ⟨_,rfl,?_⟩
    refine opgs rfl (by simp [sPu,hs]) (by simp (disch:=(try simp only [sPu]);omega)) (s:=s) (by simp (disch:=(try simp only [sPu]);omega)) (by simp (disch:=(try simp only [sPu]);omega)) ?_
    (first | (apply ops_1;(focus (simp (disch:=(try simp only [sPu]);omega) ;try rfl))) | (apply ops_y;(focus rfl);(focus ((try simp only [sPu]);omega));(focus (simp (disch:=(try simp only [sPu]);omega);done));(focus (simp (disch:=(try simp only [sPu]);omega) ;try rfl))) | (apply ops_n;(focus rfl);(focus ((try simp only [sPu]);omega));(focus (first | (left;simp (disch:=(try simp only [sPu]);omega);done) | (right;simp (disch:=(try simp only [sPu]);omega);done)))))
    (first | (apply ops_1;(focus (simp (disch:=(try simp only [sPu]);omega) [h0];try rfl))) | (apply ops_y;(focus rfl);(focus ((try simp only [sPu]);omega));(focus (simp (disch:=(try simp only [sPu]);omega) [h0];done));(focus (simp (disch:=(try simp only [sPu]);omega) [h0];try rfl))) | (apply ops_n;(focus rfl);(focus ((try simp only [sPu]);omega));(focus (first | (left;simp (disch:=(try simp only [sPu]);omega) [h0];done) | (right;simp (disch:=(try simp only [sPu]);omega);done)))))
    refine opgc (argsV:=#[.int .i16 n]) rfl (by simp [sPu,hs]) (by simp (disch:=(try simp only [sPu]);omega)) o5 l5 (by simp (disch:=(try simp only [sPu]);omega)) ?_
    rintro e w6 ⟨rfl,rfl⟩
    refine ⟨_,rfl,?_⟩
    (first | (apply ops_1;(focus (simp (disch:=(try simp only [sPu]);omega) [h0];try rfl))) | (apply ops_y;(focus rfl);(focus ((try simp only [sPu]);omega));(focus (simp (disch:=(try simp only [sPu]);omega) [h0];done));(focus (simp (disch:=(try simp only [sPu]);omega) [h0];try rfl))) | (apply ops_n;(focus rfl);(focus ((try simp only [sPu]);omega));(focus (first | (left;simp (disch:=(try simp only [sPu]);omega) [h0];done) | (right;simp (disch:=(try simp only [sPu]);omega);done)))))
    refine opgc (argsV:=#[.int .i16 n]) rfl (by simp [sPu,hs]) (by simp (disch:=(try simp only [sPu]);omega)) o4 l4 (by simp (disch:=(try simp only [sPu]);omega)) ?_
    rintro e w7 ⟨rfl,rfl⟩
    refine ⟨_,rfl,?_⟩
    refine opgs rfl (by simp [sPu,hs]) (by simp (disch:=(try simp only [sPu]);omega)) (s:=s) (by simp (disch:=(try simp only [sPu]);omega)) (by simp (disch:=(try simp only [sPu]);omega)) ?_
    repeat (first | (apply ops_1;(focus (simp (disch:=(try simp only [sPu]);omega) ;try rfl))) | (apply ops_y;(focus rfl);(focus ((try simp only [sPu]);omega));(focus (simp (disch:=(try simp only [sPu]);omega);done));(focus (simp (disch:=(try simp only [sPu]);omega) ;try rfl))) | (apply ops_n;(focus rfl);(focus ((try simp only [sPu]);omega));(focus (first | (left;simp (disch:=(try simp only [sPu]);omega);done) | (right;simp (disch:=(try simp only [sPu]);omega);done)))))
    refine oNi (SC.wp_ret (ret_tmp hr (by simp [dPu,hd]) ⟨?_,rfl⟩))
    simp (disch:=(try simp only [sPu]);omega)
end
end Go.Proofs.Ytgaplicnofhliab.K
