/- Generic texts: K1 K2 T1 K3 K4 K5 K6 K7 K8 K0. No condition. -/
import Derived.Tactics
import Derived.Laws.AppendOwn
import Derived.WalkSpells
import Derived.Below
import Derived.MapKept
import Derived.IntWalk
import Derived.Deep.AppendSrc
import Derived.Laws.OwnMore
namespace Go.Proofs.Ytjbbohfaihkolaa.K
open Go
set_option linter.unusedVariables false
set_option linter.unusedSimpArgs false
structure SOp where
  dst:Option Tmp
  op:Op
  guard:Option (Nat × Bool)
def stripOp:Op→Op
  | .call ⟨.value f,args,_⟩=>.call ⟨.value f,args,#[]⟩
  | o=>o
def sop (o:Oper):SOp:=⟨o.dst,stripOp o.op,o.guard⟩
inductive SC where
  | skip
  | reg (ops:List SOp)
  | dreg (ops:List SOp) (after:List (List Nat))
  | seq (a b:SC)
  | cond (c:Operand) (t e:SC)
  | block (id:Nat) (b:SC)
  | loop (b:SC)
  | exit (id:Nat)
  | ret
  | label (l:Nat)
  | goto (l:Nat)
  | scope (b:SC)
  | other
def strip:Code→SC
  | .skip=>.skip
  | .region _ ops draw=>if draw then .dreg (ops.toList.map sop) (ops.toList.map fun o=>(o.after.toList.filter (Region.binds .any)).map (·.on)) else .reg (ops.toList.map sop)
  | .seq a b=>.seq (strip a) (strip b)
  | .cond c t e=>.cond c (strip t) (strip e)
  | .block i b=>.block i (strip b)
  | .loop b=>.loop (strip b)
  | .exit i=>.exit i
  | .ret=>.ret
  | .label l=>.label l
  | .goto l=>.goto l
  | .scope b=>.scope (strip b)
  | _=>.other
def SC.wp (P:Program) (s:SC) (Q:Exit→Act→World→Prop) (a:Act) (w:World):Prop:=∀ c,strip c=s→c.wp P Q a w
section
variable {P:Program} {Q:Exit→Act→World→Prop} {a:Act} {w:World}
theorem SC.wp_mono {s:SC} {Q':Exit→Act→World→Prop} (h:s.wp P Q a w) (hq:∀ e a w,Q e a w→Q' e a w):s.wp P Q' a w :=
  fun c hc=>Go.wp_mono (h c hc) hq
theorem SC.wp_skip (h:Q .normal a w):SC.skip.wp P Q a w:=by
  intro c hc
  cases c <;> simp [strip] at hc
  · exact Go.wp_skip h
  · split at hc <;> simp at hc
theorem SC.wp_seq {x y:SC} (h:x.wp P (Exit.then (y.wp P Q) Q) a w):(SC.seq x y).wp P Q a w:=by
  intro c hc
  cases c <;> simp [strip] at hc
  · split at hc <;> simp at hc
  · rename_i c1 c2
    refine Go.wp_seq (Go.wp_mono (h c1 hc.1) ?_)
    intro e a w hq
    cases e <;> first | exact hq | exact hq c2 hc.2
theorem SC.wp_cond {o:Operand} {x y:SC} {t:Bool} (ho:a.eval o=.bool t) (h:(if t then x else y).wp P Q a w):(SC.cond o x y).wp P Q a w:=by
  intro c hc
  cases c <;> simp [strip] at hc
  · split at hc <;> simp at hc
  · obtain ⟨rfl,rfl,rfl⟩:=hc
    refine Go.wp_cond ho ?_
    cases t
    · exact h _ rfl
    · exact h _ rfl
theorem SC.wp_block {id:Nat} {x:SC} (h:x.wp P (Exit.inBlock id Q) a w):(SC.block id x).wp P Q a w:=by
  intro c hc
  cases c <;> simp [strip] at hc
  · split at hc <;> simp at hc
  · obtain ⟨rfl,rfl⟩:=hc
    exact Go.wp_block (h _ rfl)
theorem SC.wp_exit {id:Nat} (h:Q (.exit id) a w):(SC.exit id).wp P Q a w:=by
  intro c hc
  cases c <;> simp [strip] at hc
  · split at hc <;> simp at hc
  · subst hc
    exact Go.wp_exit h
theorem SC.wp_ret (h:Q .ret a w):SC.ret.wp P Q a w:=by
  intro c hc
  cases c <;> simp [strip] at hc
  · split at hc <;> simp at hc
  · exact Go.wp_ret h
theorem SC.wp_loop {x:SC} (I:Act→World→Prop) (μ:Act→World→Nat) (h₀:I a w)
    (round:∀ a w,I a w→x.wp P (Exit.then (fun a' w'=>I a' w'∧μ a' w' < μ a w) Q) a w):(SC.loop x).wp P Q a w:=by
  intro c hc
  cases c <;> simp [strip] at hc
  · split at hc <;> simp at hc
  · subst hc
    exact Go.wp_loop I μ h₀ fun a w hI=>round a w hI _ rfl
end
def opw (P:Program) (s:SOp) (a:Act) (w:World) (K:Act→World→Prop):Prop :=
  ∀ (o:Oper) (next:Act→World→Prop) (Q:Exit→Act→World→Prop),sop o=s→(∀ a w,K a w→next a w)→o.wp P a w next Q
def getT (a:Act) (t:Nat):Value:=a.tmps.getD t undef
def gv (v:Value) (want b:Bool):Prop:=v=.bool b∨(v=undef∧b=!want)
def opsw (P:Program) (all:List SOp):List SOp→(Act→World→Prop)→Act→World→Prop
  | [],K,a,w=>K a w
  | s :: r,K,a,w =>
    match s.guard with
    | none=>opw P s a w (opsw P all r K)
    | some (j,want)=>∃ (dj:Nat) (b:Bool),(all[j]?).bind (·.dst)=some dj∧dj < a.tmps.size∧gv (getT a dj) want b ∧
        if b=want then opw P s a w (opsw P all r K) else opsw P all r K (a.put s.dst undef) w
theorem wanted_of_gv {ops:Array Oper} {a:Act} {o:Oper} {j dj:Nat} {want b:Bool} (hg:o.guard=some (j,want)) (hj:((ops.toList.map sop)[j]?).bind (·.dst)=some dj) (hlt:dj < a.tmps.size) (h:gv (getT a dj) want b) :
    Region.wanted o (yielded ops a.tmps)=(b == want):=by
  have hj':(ops[j]?).bind (·.dst)=some dj:=by
    simp only [List.getElem?_map,Array.getElem?_toList] at hj
    cases ho:ops[j]? with
    | none=>simp [ho] at hj
    | some x=>simpa [ho,sop] using hj
  have ht:a.tmps[dj]?=some (getT a dj):=by
    have:getT a dj=a.tmps[dj]:=by simp [getT,Array.getD,hlt]
    rw [Array.getElem?_eq_getElem hlt,← this]
  rcases h with h | ⟨h,rfl⟩
  · have hy:yielded ops a.tmps j=some b:=by simp [yielded,hj',ht,h]
    simp only [Region.wanted,hg,hy]
    cases b <;> cases want <;> rfl
  · have hy:yielded ops a.tmps j=none:=by simp [yielded,hj',ht,h,undef]
    simp only [Region.wanted,hg,hy]
    cases want <;> rfl
theorem opsw_list {P:Program} {ops:Array Oper} {Q:Exit→Act→World→Prop} {all:List SOp} (hall:ops.toList.map sop=all):∀ (l:List Oper) (a:Act) (w:World),opsw P all (l.map sop) (Q .normal) a w→wpList P ops Q l a w
  | [],_,_,h=>h
  | o :: l,a,w,h=>by
    unfold wpList
    simp only [List.map_cons,opsw] at h
    have hgo:(sop o).guard=o.guard:=rfl
    rw [hgo] at h
    cases hg:o.guard with
    | none =>
      rw [hg] at h
      simp only [Region.wanted,hg,if_true]
      exact .inl (h o _ Q rfl (fun a w h=>opsw_list hall l a w h))
    | some g =>
      obtain ⟨j,want⟩:=g
      rw [hg] at h
      obtain ⟨dj,b,hj,hlt,hb,h⟩:=h
      subst hall
      rw [wanted_of_gv hg hj hlt hb]
      by_cases hw:b=want
      · rw [if_pos hw] at h
        subst hw
        simp only [beq_self_eq_true,if_true]
        exact .inl (h o _ Q rfl (fun a w h=>opsw_list rfl l a w h))
      · rw [if_neg hw] at h
        rw [if_neg (by simpa using hw)]
        exact opsw_list rfl l _ w h
theorem SC.wp_reg {P:Program} {Q:Exit→Act→World→Prop} {a:Act} {w:World} {l:List SOp} (h:opsw P l l (Q .normal) a w):(SC.reg l).wp P Q a w:=by
  intro c hc
  cases c <;> simp [strip] at hc
  · rename_i id ops draw
    split at hc
    · simp at hc
    · rename_i hd
      simp at hc
      have hd':draw=false:=by simpa using hd
      subst hd'
      exact wp_region_list (opsw_list hc _ _ _ (by rw [hc];exact h))
theorem eTm (a:Act) (t:Nat):a.eval (.tmp t)=getT a t:=rfl
theorem eCo (a:Act) (v:Value):a.eval (.const v)=v:=rfl
theorem eval_func (a:Act) (f:FuncId):a.eval (.func f)=.func (.func f) #[] #[]:=rfl
theorem put_some (a:Act) (d:Nat) (v:Value):a.put (some d) v={ a with tmps:=a.tmps.setIfInBounds d v }:=rfl
theorem pNo (a:Act) (v:Value):a.put none v=a:=rfl
theorem gTp {a:Act} {d:Nat} {v:Value} (h:d < a.tmps.size):getT (a.put (some d) v) d=v:=by
  simp [getT,put_some,Array.getD,h]
theorem gTn {a:Act} {d t:Nat} {v:Value} (h:t ≠ d):getT (a.put (some d) v) t=getT a t:=by
  simp [getT,put_some,Array.getElem?_setIfInBounds_ne (Ne.symm h)]
theorem sPu (a:Act) (d:Option Nat) (v:Value):(a.put d v).tmps.size=a.tmps.size:=by
  cases d <;> simp [Act.put]
theorem dPu (a:Act) (d:Option Nat) (v:Value):(a.put d v).defers=a.defers:=by
  cases d <;> rfl
section
variable {P:Program} {a:Act} {w:World} {K:Act→World→Prop} {d:Option Tmp} {g:Option (Nat × Bool)}
theorem opw_of {s:SOp} (h:∀ (o:Oper) (next:Act→World→Prop) (Q:Exit→Act→World→Prop),o.dst=s.dst→stripOp o.op=s.op→(∀ a w,K a w→next a w)→o.upon P a next Q ((execOp a.eval o).run P w)):opw P s a w K:=by
  intro o next Q hs hn
  subst hs
  exact h o next Q rfl rfl hn
theorem stripOp_eq {o x:Op} (hx:∀ f args t,x ≠ .call ⟨.value f,args,t⟩) (h:stripOp o=x):o=x:=by
  unfold stripOp at h
  split at h
  · exact absurd h.symm (hx _ _ _)
  · exact h
theorem oVa {op:Op} {v:Value} {w':World} (hx:∀ f args t,op ≠ .call ⟨.value f,args,t⟩)
    (hr:∀ o:Oper,o.op=op→(execOp a.eval o).run P w=.ok (.value v) w') (h:K (a.put d v) w'):opw P ⟨d,op,g⟩ a w K:=by
  refine opw_of fun o next Q hd ho hn=>?_
  rw [hr o (stripOp_eq hx ho),Oper.upon_value,hd]
  exact hn _ _ h
theorem opw_skip {op:Op} {w':World} (hx:∀ f args t,op ≠ .call ⟨.value f,args,t⟩)
    (hr:∀ o:Oper,o.op=op→(execOp a.eval o).run P w=.ok .skip w') (h:K (a.put d undef) w'):opw P ⟨d,op,g⟩ a w K:=by
  refine opw_of fun o next Q hd ho hn=>?_
  rw [hr o (stripOp_eq hx ho),Oper.upon_skip,hd]
  exact hn _ _ h
theorem opw_move {x:Operand} (h:K (a.put d (a.eval x)) w):opw P ⟨d,.move x,g⟩ a w K :=
  oVa (by simp) (fun o ho=>by simp [execOp,ho]) h
theorem opw_assign {x:Operand} (h:K (a.put d (a.eval x)) w):opw P ⟨d,.assign x,g⟩ a w K :=
  oVa (by simp) (fun o ho=>by simp [execOp,ho]) h
theorem opw_nilCheck {x:Operand} {ad:Addr} (hx:a.eval x=.pointer (some ad)) (h:K (a.put d (.pointer (some ad))) w):opw P ⟨d,.nilCheck x,g⟩ a w K :=
  oVa (by simp) (fun o ho=>by simp [execOp,ho,hx]) h
theorem run_callFunc {f : FuncId} {args : Array Value} {fn : Func} (hf : P.funcs[f]? = some fn) (hb : fn.body.isSome = true) (hnm : (fn.name == "runtime.NumGoroutine") = false) :
    (callFunc f args).run P w=.ok (.enter f args) w:=by
  have hb':fn.body.isNone=false:=by cases h:fn.body <;> simp_all
  simp only [callFunc,program,bind,Sem.bind,Sem.run,hf,hnm,hb',Bool.false_eq_true,if_false,pure]
theorem opw_call {f : FuncId} {args : Array Operand} {fn : Func} {R : Ending → World → Prop} (hf : P.funcs[f]? = some fn) (hb : fn.body.isSome = true) (hnm : (fn.name == "runtime.NumGoroutine") = false)
    (hc:Calls P f (args.map a.eval) w R) (hR:∀ e w',R e w'→∃ v,e=.returned v∧K (a.put d v) w'):opw P ⟨d,.call ⟨.value (.func f),args,#[]⟩,g⟩ a w K:=by
  refine opw_of fun o next Q hd ho hn=>?_
  have ho':∃ t,o.op=.call ⟨.value (.func f),args,t⟩:=by
    unfold stripOp at ho
    split at ho
    · rename_i heq
      simp at ho
      obtain ⟨rfl,rfl⟩:=ho
      exact ⟨_,heq⟩
    · rename_i hne
      exact absurd ho (hne _ _ _)
  obtain ⟨t,ho'⟩:=ho'
  have hr:(execOp a.eval o).run P w=.ok (.enter f (args.map a.eval)) w:=by
    have h0:=run_callFunc (P:=P) (w:=w) (args:=args.map a.eval) hf hb hnm
    simp [execOp,ho',resolve,Deferred.ofValue,invoke,eval_func,h0]
  rw [hr,Oper.upon_enter]
  refine hc.mono ?_
  intro e w' hq
  obtain ⟨v,rfl,hk⟩:=hR e w' hq
  rw [hd]
  exact hn _ _ hk
end
end Go.Proofs.Ytjbbohfaihkolaa.K
namespace Go.Proofs.Ytjbbohfaihkolaa.K
open Go
set_option linter.unusedVariables false
set_option linter.unusedSimpArgs false
def oneB (P:Program) (T:TypeId):Bool :=
  match P.info? T,P.underlying T with
  | some i,some (.struct _)=>false && i.size == 1
  | some i,some (.array _ _)=>false && i.size == 1
  | some i,some _=>i.size == 1
  | _,_=>false
def aggB (P:Program) (T:TypeId) (n:Nat):Bool :=
  match P.info? T,P.underlying T with
  | some i,some (.struct _)=>i.size == n
  | some i,some (.array _ _)=>i.size == n
  | _,_=>false
def fieldB (P:Program) (S f off:Nat):Bool :=
  match P.underlying S with
  | some (.struct fields)=>match fields.toList[f]? with
    | some fld=>fld.offset == off && match P.info? fld.type with
      | some i=>i.size != 0
      | none=>false
    | none=>false
  | _=>false
def sliceB (P:Program) (T E n:Nat):Bool :=
  match P.underlying T with
  | some (.slice e)=>e == E && match P.info? E with
    | some i=>i.size == n
    | none=>false
  | _=>false
def intB (P:Program) (T:TypeId) (k:IntKind):Bool :=
  match P.underlying T with
  | some (.int k')=>k' == k
  | _=>false
section
variable {P:Program} {a:Act} {w:World} {K:Act→World→Prop} {d:Option Tmp} {g:Option (Nat × Bool)}
theorem one_of {T:TypeId} (h:oneB P T=true):∃ i dd,P.info? T=some i∧i.size=1∧P.underlying T=some dd∧(∀ f,dd ≠ .struct f)∧(∀ n e,dd ≠ .array n e):=by
  unfold oneB at h
  split at h
  · simp at h
  · simp at h
  · rename_i i dd hs ha h1 h2
    exact ⟨i,dd,h1,by simpa using h,h2,fun f e=>hs f e,fun n e e'=>ha n e e'⟩
  · simp at h
theorem run_isAgg_one {T:TypeId} (h:oneB P T=true):(isAgg T).run P w=.ok false w:=by
  obtain ⟨i,dd,_,_,hu,hs,ha⟩:=one_of h
  cases dd <;> simp [isAgg,run_underlying hu] <;> first | exact absurd rfl (hs _) | exact absurd rfl (ha _ _)
theorem run_load_one {T:TypeId} {ad:Addr} {v:Value} (h:oneB P T=true) (hc:w.cell? ad=some v):(Instr.loadAt T (.pointer (some ad))).run P w=.ok v w:=by
  have h0:=run_isAgg_one (w:=w) h
  simp [Instr.loadAt,Instr.sureAddr,loadVar,h0,load,Sem.run,hc]
theorem cells_oneCell {v:Value} (h:v.oneCell'=true):v.cells=#[v]:=by cases v <;> simp_all [Value.oneCell',Value.cells]
theorem run_store_one {T:TypeId} {ad:Addr} {v v0:Value} (h:oneB P T=true) (h1:v.oneCell'=true) (hc:w.cell? ad=some v0) (hf:w.frozen? ad=false) :
    (Instr.storeAt T (.pointer (some ad)) v).run P w=.ok () (w.setCell ad v):=by
  obtain ⟨i,dd,hi,hs,_⟩:=one_of h
  have e:ad.add 0=ad:=by simp [Addr.add]
  have hst:(Sem.store Mode.plain ad v (Sem.pure ())).run P w=.ok () (w.setCell ad v):=by
    cases v <;> simp_all [Sem.run,Value.oneCell']
  simp [Instr.storeAt,Instr.sureAddr,storeVar,sizeOf,typeInfo,hi,hs,cells_oneCell h1,storeCells,store,e,hst]
theorem opw_store_one {T:TypeId} {x y:Operand} {ad:Addr} {v v0:Value} (hT:oneB P T=true) (hx:a.eval x=.pointer (some ad)) (hy:a.eval y=v) (h1:v.oneCell'=true) (hc:w.cell? ad=some v0) (hf:w.frozen? ad=false)
    (h:K (a.put d undef) (w.setCell ad v)):opw P ⟨d,.store T x y,g⟩ a w K :=
  opw_skip (by simp) (fun o ho=>by simp [execOp,ho,hx,hy,run_store_one hT h1 hc hf]) h
theorem add_none (b o n:Nat):(⟨b,o,none⟩:Addr).add n=⟨b,o+n,none⟩:=by
  unfold Addr.add
  split <;> simp_all
theorem run_field {S f off b o:Nat} (h:fieldB P S f off=true):(Instr.fieldAt S (.pointer (some ⟨b,o,none⟩)) f).run P w=.ok (.pointer (some ⟨b,o+off,none⟩)) w:=by
  unfold fieldB at h
  split at h <;> try (simp at h;done)
  rename_i fields hu
  split at h <;> try (simp at h;done)
  rename_i fld hf
  have hf':fields[f]?=some fld:=by simpa using hf
  simp at h
  obtain ⟨h1,h2⟩:=h
  split at h2 <;> try (simp at h2;done)
  rename_i i hi
  simp at h2
  subst h1
  simp [Instr.fieldAt,run_underlying hu,hf',Instr.sureAddr,fieldPlace,sizeOf,typeInfo,hi,h2,add_none]
theorem opw_field {S f off b o:Nat} {x:Operand} (hS:fieldB P S f off=true) (hx:a.eval x=.pointer (some ⟨b,o,none⟩)) (h:K (a.put d (.pointer (some ⟨b,o+off,none⟩))) w) :
    opw P ⟨d,.fieldAddr S x f,g⟩ a w K :=
  oVa (by simp) (fun p hp=>by simp [execOp,hp,hx,run_field hS]) h
theorem slice_of {T E n:Nat} (h:sliceB P T E n=true):P.underlying T=some (.slice E)∧∃ i,P.info? E=some i∧i.size=n:=by
  unfold sliceB at h
  split at h <;> try (simp at h;done)
  rename_i e hu
  simp at h
  obtain ⟨rfl,h2⟩:=h
  split at h2 <;> try (simp at h2;done)
  rename_i i hi
  exact ⟨hu,i,hi,by simpa using h2⟩
theorem opw_convert {S T:TypeId} {k k':IntKind} {x:Operand} {n:Int} (hS:intB P S k'=true) (hT:intB P T k=true) (hx:a.eval x=.int k' n) (h:K (a.put d (.int k (k.wrap n))) w) :
    opw P ⟨d,.convert S T x,g⟩ a w K:=by
  unfold intB at hS hT
  split at hS <;> try (simp at hS;done)
  split at hT <;> try (simp at hT;done)
  rename_i h1 _ _ h2
  simp at hS hT
  subst hS;subst hT
  exact oVa (by simp) (fun p hp=>by simp [execOp,hp,hx,convert,run_underlying h1,run_underlying h2,Conv.intToInt]) h
theorem run_eqGuard_int (op:BinOp) (t:TypeId) (x y:Operand) (k:IntKind) (m n:Int):(eqGuard op t x y (.int k m) (.int k n)).run P w=.ok () w:=by
  cases op <;> simp [eqGuard]
theorem opw_cmp {op:BinOp} {T T':TypeId} {k:IntKind} {x y:Operand} {m n:Int} {r:Bool} (hx:a.eval x=.int k m) (hy:a.eval y=.int k n)
    (hr:(op=.lss∧r=decide (m < n))∨(op=.leq∧r=decide (m≤n))∨(op=.gtr∧r=decide (m > n))∨(op=.geq∧r=decide (m ≥ n))∨(op=.eql∧r=(m == n))∨(op=.neq∧r=(m != n)))
    (h:K (a.put d (.bool r)) w):opw P ⟨d,.binOp op T x y T',g⟩ a w K:=by
  refine oVa (by simp) (fun p hp=>?_) h
  rcases hr with ⟨rfl,rfl⟩ | ⟨rfl,rfl⟩ | ⟨rfl,rfl⟩ | ⟨rfl,rfl⟩ | ⟨rfl,rfl⟩ | ⟨rfl,rfl⟩ <;>
    simp [execOp,hp,hx,hy,run_eqGuard_int,binOp,Op.intCmp]
theorem opw_arith {op:BinOp} {T T':TypeId} {k:IntKind} {x y:Operand} {m n r:Int} (hx:a.eval x=.int k m) (hy:a.eval y=.int k n)
    (hr:(op=.add∧r=k.wrap (m+n))∨(op=.sub∧r=k.wrap (m - n)))
    (h:K (a.put d (.int k r)) w):opw P ⟨d,.binOp op T x y T',g⟩ a w K:=by
  refine oVa (by simp) (fun p hp=>?_) h
  rcases hr with ⟨rfl,rfl⟩ | ⟨rfl,rfl⟩ <;>
    simp [execOp,hp,hx,hy,run_eqGuard_int,binOp,Op.intArith]
end
end Go.Proofs.Ytjbbohfaihkolaa.K
namespace Go.Proofs.Ytjbbohfaihkolaa.T
set_option linter.unusedVariables false
set_option linter.unusedSimpArgs false
abbrev Bytes:=List UInt8
inductive Tree where
  | mk (n:Int) (s:Bytes) (null:Bool) (l:List Tree) (u:List (Nat × Bytes))
def Tree.n:Tree→Int | .mk n _ _ _ _=>n
def Tree.s:Tree→Bytes | .mk _ s _ _ _=>s
def Tree.null:Tree→Bool | .mk _ _ b _ _=>b
def Tree.l:Tree→List Tree | .mk _ _ _ l _=>l
def Tree.u:Tree→List (Nat × Bytes) | .mk _ _ _ _ u=>u
def Tree.zero:Tree:=.mk 0 [] false [] []
instance:Inhabited Tree:=⟨Tree.zero⟩
inductive PK where
  | bool | i8 | i16 | i32 | i64 | u16 | uuid | str | bytes
  deriving DecidableEq
structure Hd where
  from_:Int
  to:Int
  null:Int
  dflt:Int
  idx:Nat
  off:Nat
  typ:Nat
  enum:Bool
mutual
inductive Ty where
  | prim (k:PK)
  | list (typ el size:Nat) (of:Ty)
  | struct (typ size dflt:Nat) (tags:Option (Nat × Nat)) (fs:Fs)
inductive Fs where
  | nil
  | cons (h:Hd) (ty:Ty) (rest:Fs)
end
def Hd.has (h:Hd) (ver:Int):Bool:=decide (h.from_≤ver) && (decide (h.to < 0) || decide (ver≤h.to))
def Hd.isNull (h:Hd) (ver:Int) (t:Tree):Bool:=t.null && (decide (0≤h.null) && decide (h.null≤ver))
def byteOf (n:Int):UInt8:=UInt8.ofNat (n % 256).toNat
def fixed (n:Int):Nat→Bytes
  | 0=>[]
  | k+1=>byteOf (n / 256 ^ k) :: fixed n k
def uvarint (n:Nat):Bytes :=
  if h:n≤127 then [UInt8.ofNat n] else UInt8.ofNat (n % 128+128) :: uvarint (n / 128)
termination_by n
decreasing_by omega
def most:Nat:=32767
def whole (b:Bytes):Bytes:=b.take most
def counted (flex null:Bool) (n:Nat) (size:Nat):Bytes :=
  if flex then (if null then [0] else uvarint (n+1)) else (if null then fixed (-1) size else fixed n size)
def PK.width:PK→Nat
  | .i8=>1 | .i16=>2 | .u16=>2 | .i32=>4 | _=>8
def wPrim (flex null:Bool) (t:Tree):PK→Bytes
  | .bool=>[byteOf (t.n % 2)]
  | .uuid=>(t.s ++ List.replicate 16 0).take 16
  | .str=>let s:=if null then [] else whole t.s;counted flex null s.length 2 ++ s
  | .bytes=>let s:=if null then [] else whole t.s;counted flex null s.length 4 ++ s
  | k=>fixed t.n k.width
def insTag (t:Nat × Bytes):List (Nat × Bytes)→List (Nat × Bytes)
  | []=>[t]
  | x :: r=>if x.1 < t.1 then x :: insTag t r else if x.1=t.1 then x :: r else t :: x :: r
def unknown (l:List (Nat × Bytes)):List (Nat × Bytes):=(l.take most).foldl (fun acc t=>insTag t acc) []
def wTag (t:Nat × Bytes):Bytes:=uvarint t.1 ++ uvarint (whole t.2).length ++ whole t.2
def wTags (flex:Bool) (u:List (Nat × Bytes)):Bytes :=
  if flex then uvarint (unknown u).length ++ (unknown u).flatMap wTag else []
mutual
def wTy (ver:Int) (flex:Bool):Ty→Bool→Tree→Bytes
  | .prim k,null,t=>wPrim flex null t k
  | .list _ _ _ of,null,t=>(fun l=>counted flex null l.length 4 ++ l.flatMap (fun x=>wTy ver flex of false x)) (if null then [] else t.l.take most)
  | .struct _ _ _ _ fs,_,t=>wFs ver flex fs t.l ++ wTags flex t.u
def wFs (ver:Int) (flex:Bool):Fs→List Tree→Bytes
  | .nil,_=>[]
  | .cons h ty r,ts =>
    (if h.has ver then
      (match ty with
       | .struct _ _ _ _ _ =>
         if 0≤h.null then (if h.isNull ver (ts.headD Tree.zero) then [255] else 1 :: wTy ver flex ty false (ts.headD Tree.zero))
         else wTy ver flex ty false (ts.headD Tree.zero)
       | _=>wTy ver flex ty (h.isNull ver (ts.headD Tree.zero)) (ts.headD Tree.zero))
     else []) ++ wFs ver flex r ts.tail
end
def wField (ver:Int) (flex:Bool) (h:Hd) (ty:Ty) (t:Tree):Bytes :=
  match ty with
  | .struct _ _ _ _ _=>if 0≤h.null then (if h.isNull ver t then [255] else 1 :: wTy ver flex ty false t) else wTy ver flex ty false t
  | _=>wTy ver flex ty (h.isNull ver t) t
theorem wFs_cons (ver:Int) (flex:Bool) (h:Hd) (ty:Ty) (r:Fs) (ts:List Tree) :
    wFs ver flex (.cons h ty r) ts=(if h.has ver then wField ver flex h ty (ts.headD Tree.zero) else []) ++ wFs ver flex r ts.tail:=by
  cases ty <;> simp [wFs,wField]
end Go.Proofs.Ytjbbohfaihkolaa.T
namespace Go.Proofs.Ytjbbohfaihkolaa.K
open Go Go.Proofs.Ytjbbohfaihkolaa.T
set_option linter.unusedVariables false
set_option linter.unusedSimpArgs false
structure Ids where
  tI16:Nat
  tInt:Nat
  tU32:Nat
  tI8:Nat
  tU8s:Nat
  tI32:Nat
  tBool:Nat
  aBool:Nat
  aI8:Nat
  aI16:Nat
  aI32:Nat
  aI64:Nat
  aU16:Nat
  aUuid:Nat
  aStr:Nat
  aCStr:Nat
  aNStr:Nat
  aCNStr:Nat
  aBytes:Nat
  aCBytes:Nat
  aNBytes:Nat
  aCNBytes:Nat
  aArr:Nat
  aCArr:Nat
  aNArr:Nat
  aCNArr:Nat
  aUvar:Nat
  tagsLen:Nat
  tagsEach:Nat
structure Ctx where
  ver:Nat
  flex:Nat
  never:Bool
def mv (t s:Nat):SOp:=⟨some t,.move (.tmp s),none⟩
def asg (d s:Nat):SOp:=⟨some d,.assign (.tmp s),none⟩
def nilc (t s:Nat):SOp:=⟨some t,.nilCheck (.tmp s),none⟩
def fa (t S s f:Nat):SOp:=⟨some t,.fieldAddr S (.tmp s) f,none⟩
def ld (t T s:Nat):SOp:=⟨some t,.load T (.tmp s),none⟩
def cal (t f:Nat) (args:List Nat):SOp:=⟨some t,.call ⟨.value (.func f),(args.map Operand.tmp).toArray,#[]⟩,none⟩
def lenOp (t T s:Nat):SOp:=⟨some t,.call ⟨.builtin .len,#[.tmp s],#[T]⟩,none⟩
def vTmps (h:Hd):Nat:=if h.from_=0∧h.to < 0 then 0 else if h.to < 0 then 2 else 6
end Go.Proofs.Ytjbbohfaihkolaa.K
namespace Go.Proofs.Ytjbbohfaihkolaa.K
open Go Go.RowKit Go.Proofs.Ytjbbohfaihkolaa.T
set_option linter.unusedVariables false
set_option linter.unusedSimpArgs false
def cell (u:UInt8):Value:=.int .u8 u.toNat
def cellsOf (bs:Bytes):List Value:=bs.map cell
theorem cellsOf_append (a b:Bytes):cellsOf (a ++ b)=cellsOf a ++ cellsOf b:=by simp [cellsOf]
theorem cLen (a:Bytes):(cellsOf a).length=a.length:=by simp [cellsOf]
def BytesAt (w:World) (F:Nat→Prop) (base:Option Addr) (bs:Bytes):Prop :=
  bs=[]∨∃ b o,base=some ⟨b,o,none⟩∧F b∧∀ j u,bs[j]?=some u→w.cell? ⟨b,o+j,none⟩=some (cell u)
def PVal (w:World) (F:Nat→Prop) (nul:Bool) (t:Tree):PK→Value→Prop
  | .bool,v=>∃ x,v=.bool x∧t.n % 2=if x then 1 else 0
  | .i8,v=>v=.int .i8 t.n
  | .i16,v=>v=.int .i16 t.n
  | .i32,v=>v=.int .i32 t.n
  | .i64,v=>v=.int .i64 t.n
  | .u16,v=>v=.int .u16 t.n
  | .uuid,_=>False
  | .str,v =>
    if nul then (if t.null then v=.pointer none
      else ∃ b' o' s,v=.pointer (some ⟨b',o',none⟩)∧F b'∧w.cell? ⟨b',o',none⟩=some (.string s)∧s.data.toList=t.s∧t.s.length≤most)
    else ∃ s,v=.string s∧s.data.toList=t.s∧t.s.length≤most
  | .bytes,v=>∃ base cap,v=.slice base (if nul && t.null then 0 else t.s.length) cap ∧
      (if nul && t.null then base=none else BytesAt w F base t.s∧t.s.length≤most∧(nul=true→base ≠ none))
def uuidOf (t:Tree):Bytes:=(t.s ++ List.replicate 16 0).take 16
def TagsEs (w:World) (F:Nat→Prop) (es:Array MapEntry) (clock:Nat) (u:List (Nat × Bytes)):Prop :=
  (es.toList.map (·.key)).Perm (u.map fun x=>Value.int .u32 (x.1:Int))∧MapKept.Stamped es clock ∧
  ∀ e ∈ es.toList,∀ x ∈ u,e.key=.int .u32 (x.1:Int)→∃ base cap,e.val=.slice base x.2.length cap∧BytesAt w F base x.2
def HTags (G:List (Nat × Bytes)→Prop) (w:World) (F:Nat→Prop) (b o:Nat) (u:List (Nat × Bytes)):Prop :=
  G u∧unknown u=u∧u.length≤most∧(∀ x ∈ u,x.1 < 4294967296∧x.2.length≤most) ∧
  ((w.cell? ⟨b,o,none⟩=some (.map none)∧u=[]) ∨
    ∃ r es clock,w.cell? ⟨b,o,none⟩=some (.map (some r))∧F r∧w.heap[r]?=some (.map es clock)∧TagsEs w F es clock u)
def FnOK (P : Program) (f : FuncId) : Prop := ∃ fn, P.funcs[f]? = some fn ∧ fn.body.isSome = true ∧ (fn.name == "runtime.NumGoroutine") = false
def Own (tU8:Nat) (w:World) (B:Nat) (dv:Value) (xs:Bytes):Prop:=w.ownsRow B tU8 1 dv xs.length (cellsOf xs)
def lim:Nat:=70368744177664
def AP (P:Program) (tU8:Nat) (f:FuncId) (args:Array Value) (pre:World→Nat→Prop) (out:Bytes):Prop :=
  FnOK P f∧∀ (w:World) (B:Nat) (dv:Value) (xs:Bytes),Own tU8 w B dv xs→B≤w.heap.size→xs.length+out.length≤lim→pre w B →
    Calls P f (#[dv] ++ args) w fun e w'=>∃ dv',e=.returned dv'∧Own tU8 w' B dv' (xs ++ out)∧Below B w w'∧B≤w'.heap.size
structure KA (G:List (Nat × Bytes)→Prop) (P:Program) (I:Ids) (tU8:Nat):Prop where
  bool:I.aBool ≠ 0→∀ x:Bool,AP P tU8 I.aBool #[.bool x] (fun _ _=>True) [if x then 1 else 0]
  i8:I.aI8 ≠ 0→∀ n:Int,AP P tU8 I.aI8 #[.int .i8 n] (fun _ _=>True) (fixed n 1)
  i16:I.aI16 ≠ 0→∀ n:Int,AP P tU8 I.aI16 #[.int .i16 n] (fun _ _=>True) (fixed n 2)
  i32:I.aI32 ≠ 0→∀ n:Int,AP P tU8 I.aI32 #[.int .i32 n] (fun _ _=>True) (fixed n 4)
  i64:I.aI64 ≠ 0→∀ n:Int,AP P tU8 I.aI64 #[.int .i64 n] (fun _ _=>True) (fixed n 8)
  u16:I.aU16 ≠ 0→∀ n:Int,AP P tU8 I.aU16 #[.int .u16 n] (fun _ _=>True) (fixed n 2)
  uuid:I.aUuid ≠ 0→∀ bs:Bytes,bs.length=16→AP P tU8 I.aUuid #[.agg (cellsOf bs).toArray] (fun _ _=>True) bs
  str:I.aStr ≠ 0→∀ s:ByteArray,s.data.toList.length≤most→AP P tU8 I.aStr #[.string s] (fun _ _=>True) (counted false false s.data.toList.length 2 ++ s.data.toList)
  cstr:I.aCStr ≠ 0→∀ s:ByteArray,s.data.toList.length≤most→AP P tU8 I.aCStr #[.string s] (fun _ _=>True) (counted true false s.data.toList.length 2 ++ s.data.toList)
  nstr0:I.aNStr ≠ 0→AP P tU8 I.aNStr #[.pointer none] (fun _ _=>True) (counted false true 0 2)
  nstr:I.aNStr ≠ 0→∀ (b o:Nat) (s:ByteArray),s.data.toList.length≤most→AP P tU8 I.aNStr #[.pointer (some ⟨b,o,none⟩)] (fun w B=>b < B∧w.cell? ⟨b,o,none⟩=some (.string s)) (counted false false s.data.toList.length 2 ++ s.data.toList)
  cnstr0:I.aCNStr ≠ 0→AP P tU8 I.aCNStr #[.pointer none] (fun _ _=>True) (counted true true 0 2)
  cnstr:I.aCNStr ≠ 0→∀ (b o:Nat) (s:ByteArray),s.data.toList.length≤most→AP P tU8 I.aCNStr #[.pointer (some ⟨b,o,none⟩)] (fun w B=>b < B∧w.cell? ⟨b,o,none⟩=some (.string s)) (counted true false s.data.toList.length 2 ++ s.data.toList)
  bytes:I.aBytes ≠ 0→∀ (base:Option Addr) (cap:Nat) (bs:Bytes),bs.length≤most→AP P tU8 I.aBytes #[.slice base bs.length cap] (fun w B=>BytesAt w (· < B) base bs) (counted false false bs.length 4 ++ bs)
  cbytes:I.aCBytes ≠ 0→∀ (base:Option Addr) (cap:Nat) (bs:Bytes),bs.length≤most→AP P tU8 I.aCBytes #[.slice base bs.length cap] (fun w B=>BytesAt w (· < B) base bs) (counted true false bs.length 4 ++ bs)
  nbytes:I.aNBytes ≠ 0→∀ (base:Option Addr) (cap:Nat) (bs:Bytes),bs.length≤most→base ≠ none→AP P tU8 I.aNBytes #[.slice base bs.length cap] (fun w B=>BytesAt w (· < B) base bs) (counted false false bs.length 4 ++ bs)
  nbytes0:I.aNBytes ≠ 0→∀ (cap:Nat),AP P tU8 I.aNBytes #[.slice none 0 cap] (fun _ _=>True) (counted false true 0 4)
  cnbytes:I.aCNBytes ≠ 0→∀ (base:Option Addr) (cap:Nat) (bs:Bytes),bs.length≤most→base ≠ none→AP P tU8 I.aCNBytes #[.slice base bs.length cap] (fun w B=>BytesAt w (· < B) base bs) (counted true false bs.length 4 ++ bs)
  cnbytes0:I.aCNBytes ≠ 0→∀ (cap:Nat),AP P tU8 I.aCNBytes #[.slice none 0 cap] (fun _ _=>True) (counted true true 0 4)
  arr:I.aArr ≠ 0→∀ n:Nat,n≤most→AP P tU8 I.aArr #[.int .i64 n] (fun _ _=>True) (counted false false n 4)
  carr:I.aCArr ≠ 0→∀ n:Nat,n≤most→AP P tU8 I.aCArr #[.int .i64 n] (fun _ _=>True) (counted true false n 4)
  narr:I.aNArr ≠ 0→∀ (n:Nat) (x:Bool),n≤most→AP P tU8 I.aNArr #[.int .i64 n,.bool x] (fun _ _=>True) (counted false x n 4)
  cnarr:I.aCNArr ≠ 0→∀ (n:Nat) (x:Bool),n≤most→AP P tU8 I.aCNArr #[.int .i64 n,.bool x] (fun _ _=>True) (counted true x n 4)
  uvar:I.aUvar ≠ 0→∀ n:Nat,n < 4294967296→AP P tU8 I.aUvar #[.int .u32 n] (fun _ _=>True) (uvarint n)
  tagsLen:I.tagsLen ≠ 0→FnOK P I.tagsLen∧∀ (w:World) (F:Nat→Prop) (b o:Nat) (u:List (Nat × Bytes)),HTags G w F b o u →
    Calls P I.tagsLen #[.pointer (some ⟨b,o,none⟩)] w fun e w'=>e=.returned (.int .i64 u.length)∧w=w'
  tagsEach:I.tagsEach ≠ 0→FnOK P I.tagsEach∧∀ (w:World) (B b o:Nat) (u:List (Nat × Bytes)) (dv:Value) (xs:Bytes),HTags G w (· < B) b o u→b < B→Own tU8 w B dv xs→B≤w.heap.size →
    xs.length+(u.flatMap wTag).length≤lim →
    Calls P I.tagsEach #[.pointer (some ⟨b,o,none⟩),dv] w fun e w'=>∃ dv',e=.returned dv'∧Own tU8 w' B dv' (xs ++ u.flatMap wTag)∧Below B w w'∧B≤w'.heap.size
end Go.Proofs.Ytjbbohfaihkolaa.K
namespace Go.Proofs.Ytjbbohfaihkolaa.K
open Go Go.RowKit Go.Proofs.Ytjbbohfaihkolaa.T
set_option linter.unusedVariables false
set_option linter.unusedSimpArgs false
attribute [local simp] eTm eCo pNo gTp gTn
structure Fix where
  P:Program
  I:Ids
  tU8:Nat
  G:List (Nat × Bytes)→Prop
  c:Ctx
  w0:World
  B:Nat
  ver:Int
  flex:Bool
  T0:Nat
  N:Nat
structure Fix.ok (X:Fix):Prop where
  ka:KA X.G X.P X.I X.tU8
  ver1:X.c.ver ≠ 1
  flex1:X.c.flex ≠ 1
  verT:X.c.ver < X.T0
  flexT:X.c.flex < X.T0
  oneT:1 < X.T0
  never:X.c.never=true→X.flex=false
  size:X.B≤X.w0.heap.size
  hver:0≤X.ver
structure AInv (X:Fix) (a:Act) (w:World) (xs:Bytes):Prop where
  size:a.tmps.size=X.N
  defers:a.defers=[]
  ver:getT a X.c.ver=.int .i16 X.ver
  flex:X.c.never=false→getT a X.c.flex=.bool X.flex
  own:Own X.tU8 w X.B (getT a 1) xs
  below:Below X.B X.w0 w
  heap:X.B≤w.heap.size
def Same (X:Fix) (a a':Act) (lo t:Nat):Prop:=∀ s,s ≠ 1→(s < lo∨(X.T0≤s∧s < t))→getT a' s=getT a s
theorem Same.refl (X:Fix) (a:Act) (lo t:Nat):Same X a a lo t:=fun _ _ _=>rfl
theorem Same.trans {X:Fix} {a b c:Act} {lo t lo' t':Nat} (h:Same X a b lo t) (h':Same X b c lo' t') (hl:lo≤lo') (ht:t≤t'):Same X a c lo t :=
  fun s h1 h2=>(h' s h1 (by omega)).trans (h s h1 h2)
theorem Same.mono {X:Fix} {a b:Act} {lo t lo' t':Nat} (h:Same X a b lo' t') (hl:lo≤lo') (ht:t≤t'):Same X a b lo t :=
  fun s h1 h2=>h s h1 (by omega)
def AFragP (X:Fix) (s:SC) (pre post:Act→Prop) (lo t:Nat) (out:Bytes):Prop :=
  ∀ (a:Act) (w:World) (xs:Bytes) (Q:Exit→Act→World→Prop),AInv X a w xs→pre a→xs.length+out.length≤lim →
    (∀ a' w',AInv X a' w' (xs ++ out)→Same X a a' lo t→post a'→Q .normal a' w')→s.wp X.P Q a w
abbrev AFrag (X:Fix) (s:SC) (pre:Act→Prop) (lo t:Nat) (out:Bytes):Prop:=AFragP X s pre (fun _=>True) lo t out
section
variable {X:Fix} {a:Act} {w:World} {xs:Bytes}
theorem oNo {P:Program} {all:List SOp} {s:SOp} {r:List SOp} {K:Act→World→Prop} (hg:s.guard=none) (h:opw P s a w (opsw P all r K)):opsw P all (s :: r) K a w:=by
  unfold opsw
  rw [hg]
  exact h
theorem ops_mv {P:Program} {all:List SOp} {t s:Nat} {r:List SOp} {K:Act→World→Prop} (h:opsw P all r K (a.put (some t) (getT a s)) w):opsw P all (mv t s :: r) K a w :=
  oNo rfl (opw_move h)
theorem ops_asg {P:Program} {all:List SOp} {t s:Nat} {r:List SOp} {K:Act→World→Prop} (h:opsw P all r K (a.put (some t) (getT a s)) w):opsw P all (asg t s :: r) K a w :=
  oNo rfl (opw_assign h)
theorem ops_cal {P:Program} {all:List SOp} {t f:Nat} {args:List Nat} {r:List SOp} {K:Act→World→Prop} {R:Ending→World→Prop} (hf:FnOK P f) (hc:Calls P f ((args.map (getT a)).toArray) w R)
    (hR:∀ e w',R e w'→∃ v,e=.returned v∧opsw P all r K (a.put (some t) v) w'):opsw P all (cal t f args :: r) K a w:=by
  obtain ⟨fn,h1,h2,h3⟩:=hf
  refine oNo rfl (opw_call (R:=R) h1 h2 h3 ?_ hR)
  have:((List.map Operand.tmp args).toArray).map a.eval=((args.map (getT a)).toArray):=by simp [eTm,Function.comp_def]
  rw [this]
  exact hc
theorem oNi {P:Program} {all:List SOp} {K:Act→World→Prop} (h:K a w):opsw P all [] K a w:=h
theorem AFragP.seq {x y:SC} {pre mid pre2 post:Act→Prop} {lo t lo2 t2:Nat} {o1 o2:Bytes} (h1:AFragP X x pre mid lo t o1) (h2:AFragP X y pre2 post lo2 t2 o2)
    (hm:∀ a a',pre a→Same X a a' lo t→mid a'→pre2 a') (hl:lo≤lo2) (ht:t≤t2):AFragP X (.seq x y) pre post lo t (o1 ++ o2):=by
  intro a w xs Q hi hp hlen hQ
  refine SC.wp_seq (h1 a w xs _ hi hp (by simp at hlen;omega) ?_)
  intro a' w' hi' hs' hmid
  refine h2 a' w' _ Q hi' (hm _ _ hp hs' hmid) (by simp at hlen ⊢;omega) ?_
  intro a2 w2 hi2 hs2 hpost
  exact hQ a2 w2 (by rw [← List.append_assoc];exact hi2) (hs'.trans hs2 hl ht) hpost
theorem AFragP.mono {x:SC} {pre pre' post post':Act→Prop} {lo t lo' t':Nat} {o:Bytes} (h:AFragP X x pre post lo t o) (hp:∀ a,pre' a→pre a) (hq:∀ a,post a→post' a) (hl:lo'≤lo) (ht:t'≤t):AFragP X x pre' post' lo' t' o :=
  fun a w xs Q hi hpre hlen hQ=>h a w xs Q hi (hp a hpre) hlen fun a' w' hi' hs' hpost=>hQ a' w' hi' (hs'.mono hl ht) (hq _ hpost)
theorem AFrag.skip {pre:Act→Prop} {lo t:Nat}:AFrag X .skip pre lo t [] :=
  fun a w xs Q hi _ _ hQ=>SC.wp_skip (hQ a w (by simpa using hi) (Same.refl _ _ _ _) trivial)
end
end Go.Proofs.Ytjbbohfaihkolaa.K
namespace Go.Proofs.Ytjbbohfaihkolaa.K
open Go Go.RowKit Go.Proofs.Ytjbbohfaihkolaa.T
set_option linter.unusedVariables false
set_option linter.unusedSimpArgs false
attribute [local simp] eTm eCo pNo gTp gTn
def u8sB (P:Program) (T tU8:TypeId):Bool :=
  match P.underlying T,P.info? tU8 with
  | some (.slice e),some i=>e == tU8 && (match i.zero with | some (.int .u8 0)=>true | _=>false) && i.size == 1 && i.bytes == 1
  | _,_=>false
section
variable {P:Program} {a:Act} {w:World} {K:Act→World→Prop} {d:Option Tmp} {g:Option (Nat × Bool)}
theorem u8s_of {T tU8:Nat} (h:u8sB P T tU8=true):P.underlying T=some (.slice tU8)∧∃ i,P.info? tU8=some i∧i.zero=some (.int .u8 0)∧i.size=1∧i.bytes=1:=by
  unfold u8sB at h
  split at h <;> try (simp at h;done)
  rename_i e i hu hi
  simp at h
  obtain ⟨⟨⟨rfl,h2⟩,h3⟩,h4⟩:=h
  refine ⟨hu,i,hi,?_,h3,h4⟩
  split at h2 <;> simp_all
end
section
variable {X:Fix} {a:Act} {w:World} {xs:Bytes}
theorem own_u8 {tU8:Nat} {w:World} {B:Nat} {dv:Value} {xs:Bytes} (h:Own tU8 w B dv xs):∀ k,dv.ownBlock=some k→B≤k:=fun k hk=>(h.lt k hk).1
end
end Go.Proofs.Ytjbbohfaihkolaa.K
namespace Go.Proofs.Ytjbbohfaihkolaa.K
open Go Go.RowKit Go.Proofs.Ytjbbohfaihkolaa.T
set_option linter.unusedVariables false
set_option linter.unusedSimpArgs false
attribute [local simp] eTm eCo pNo gTp gTn
section
variable {X:Fix} {a:Act} {w:World} {xs:Bytes}
end
end Go.Proofs.Ytjbbohfaihkolaa.K
namespace Go.Proofs.Ytjbbohfaihkolaa.K
open Go Go.RowKit Go.Proofs.Ytjbbohfaihkolaa.T
set_option linter.unusedVariables false
set_option linter.unusedSimpArgs false
attribute [local simp] eTm eCo pNo gTp gTn
def arrB (P:Program) (T n:Nat):Bool :=
  aggB P T n && (match P.info? T with
    | some i=>match i.zero with
      | some z=>z.cells.size == n
      | none=>false
    | none=>false)
section
variable {P:Program} {a:Act} {w:World} {K:Act→World→Prop} {d:Option Tmp} {g:Option (Nat × Bool)}
theorem agg_of {T n:Nat} (h:aggB P T n=true):∃ i,P.info? T=some i∧i.size=n∧(isAgg T).run P w=.ok true w:=by
  unfold aggB at h
  split at h <;> try (simp at h;done)
  · rename_i i f hi hu
    exact ⟨i,hi,by simpa using h,by simp [isAgg,run_underlying hu]⟩
  · rename_i i m e hi hu
    exact ⟨i,hi,by simpa using h,by simp [isAgg,run_underlying hu]⟩
theorem run_load_agg {T b o:Nat} {cs:List Value} (hT:aggB P T cs.length=true) (hc:∀ j v,cs[j]?=some v→w.cell? ⟨b,o+j,none⟩=some v) :
    (Instr.loadAt T (.pointer (some ⟨b,o,none⟩))).run P w=.ok (.agg cs.toArray) w:=by
  obtain ⟨i,hi,hs,ha⟩:=agg_of (w:=w) hT
  have hl:=run_loadCells_list (P:=P) w ⟨b,o,none⟩ cs (fun j v hv=>by rw [add_none];exact hc j v hv)
  simp [Instr.loadAt,Instr.sureAddr,loadVar,ha,sizeOf,typeInfo,hi,hs,hl]
theorem arr_of {T n:Nat} (h:arrB P T n=true):aggB P T n=true∧∃ i z,P.info? T=some i∧i.zero=some z∧z.cells.size=n:=by
  unfold arrB at h
  simp only [Bool.and_eq_true] at h
  refine ⟨h.1,?_⟩
  obtain ⟨-,h⟩:=h
  split at h <;> try (simp at h;done)
  rename_i i hi
  split at h <;> try (simp at h;done)
  rename_i z hz
  exact ⟨i,z,hi,hz,by simpa using h⟩
theorem opw_alloc {T:Nat} {i:TypeInfo} {z:Value} (hi:P.info? T=some i) (hz:i.zero=some z) (h:K (a.put d (.pointer (some ⟨w.heap.size,0,none⟩))) (w.alloc (.cells z.cells T))) :
    opw P ⟨d,.alloc T,g⟩ a w K:=by
  refine oVa (w':=w.alloc (.cells z.cells T)) (by simp) (fun p hp=>?_) h
  simp [execOp,hp,Instr.alloc,zeroValue,typeInfo,hi,hz,newVar,newRow]
theorem opw_store_agg {T b:Nat} {E:TypeId} {x y:Operand} {cur:Array Value} {cs:List Value} (hT:aggB P T cs.length=true) (hx:a.eval x=.pointer (some ⟨b,0,none⟩)) (hy:a.eval y=.agg cs.toArray)
    (hb:w.heap[b]?=some (.cells cur E (0,0))) (hc:cur.size=cs.length) (h1:∀ v ∈ cs,v.oneCell'=true) (h:K (a.put d undef) (w.setRow b cs.toArray)) :
    opw P ⟨d,.store T x y,g⟩ a w K:=by
  obtain ⟨i,hi,hs,_⟩:=agg_of (w:=w) hT
  refine opw_skip (w':=w.setRow b cs.toArray) (by simp) (fun p hp=>?_) h
  have hst:=run_storeCells_at P b 0 E cs 0 cur w hb (by omega) h1
  have hd:cur.toList.drop cs.length=[]:=by simp;omega
  simp [hd] at hst
  simp [execOp,hp,hx,hy,Instr.storeAt,Instr.sureAddr,storeVar,sizeOf,typeInfo,hi,hs,Value.cells,hst]
end
section
variable {X:Fix} {a:Act} {w:World} {xs:Bytes}
inductive AList (X:Fix) (pre:Act→Prop) (lo t:Nat):List SC→Bytes→Prop where
  | nil:AList X pre lo t [] []
  | cons {x:SC} {l:List SC} {o1 o2:Bytes} (h1:AFrag X x pre lo t o1) (h2:AList X pre lo t l o2):AList X pre lo t (x :: l) (o1 ++ o2)
theorem AList.append {pre:Act→Prop} {lo t:Nat} {l l':List SC} {o o':Bytes} (h:AList X pre lo t l o) (h':AList X pre lo t l' o'):AList X pre lo t (l ++ l') (o ++ o'):=by
  induction h with
  | nil=>exact h'
  | cons h1 _ ih=>rw [List.cons_append,List.append_assoc];exact .cons h1 ih
theorem AList.mono {pre:Act→Prop} {lo t lo' t':Nat} {l:List SC} {o:Bytes} (h:AList X pre lo t l o) (hl:lo'≤lo) (ht:t'≤t):AList X pre lo' t' l o:=by
  induction h with
  | nil=>exact .nil
  | cons h1 _ ih=>exact .cons (h1.mono (fun _ h=>h) (fun _ h=>h) hl ht) ih
theorem cells_cell {bs:Bytes} {w:World} {b o:Nat} (h:∀ j u,bs[j]?=some u→w.cell? ⟨b,o+j,none⟩=some (cell u)):∀ j v,(cellsOf bs)[j]?=some v→w.cell? ⟨b,o+j,none⟩=some v:=by
  intro j v hv
  simp only [cellsOf,List.getElem?_map,Option.map_eq_some_iff] at hv
  obtain ⟨u,hu,rfl⟩:=hv
  exact h j u hu
theorem uuidOf_length (t:Tree):(uuidOf t).length=16:=by simp [uuidOf]
end
end Go.Proofs.Ytjbbohfaihkolaa.K
namespace Go.Proofs.Ytjbbohfaihkolaa.K
open Go Go.RowKit Go.Proofs.Ytjbbohfaihkolaa.T
set_option linter.unusedSimpArgs false
set_option linter.unusedVariables false
set_option maxHeartbeats 4000000
theorem run_append_src2 {P:Program} (w:World) (base:Nat) (t tx ty e:TypeId) (i:TypeInfo) (z:Value) (size bytes:Nat) (ht:P.underlying t=some (.slice e)) (hi:P.info? e=some i) (hz:i.zero=some z)
    (hsize:i.size=size) (hby:i.bytes=bytes) (hzs:z.cells.size=size) (hsz:0 < size)
    (v:Value) (n:Nat) (xs:List Value) (hown:w.ownsRow base e size v n xs)
    (x:Value) (m:Nat) (news:List Value) (hs:Src P size tx x m news w)
    (h63:n+m≤maxLen) (hbytes:(n+m) * bytes≤140737488355328) (hbase:base≤w.heap.size) :
    ∃ v' w',(Builtin.append_ #[t,tx] ty #[v,x]).run P w=.ok v' w'∧w'.ownsRow base e size v' (n+m) (xs ++ news)∧w.grownBy w' v.ownBlock∧(v'.ownBlock=v.ownBlock∨∃ b,v'.ownBlock=some b∧w.heap.size≤b):=by
  subst hsize
  subst hby
  have hl:=hs.newsLen
  have h1:=hs.one
  have hsmall:n+m≤9223372036854775807:=by simp only [maxLen] at h63;omega
  have hlen:(xs ++ news).length=(n+m) * i.size:=by rw [List.length_append,hown.1,hl,Nat.add_mul]
  have grown:∀ (old:Nat),old < n+m→∀ (row:Option Nat),
      (w.drew.alloc (.cells ((xs ++ news).toArray ++ Builtin.zeroCells z.cells (grownCap w (n+m) old e - (n+m))) e)).ownsRow base e i.size
        (.slice (some ⟨w.heap.size,0,none⟩) (n+m) (grownCap w (n+m) old e)) (n+m) (xs ++ news) ∧
      w.grownBy (w.drew.alloc (.cells ((xs ++ news).toArray ++ Builtin.zeroCells z.cells (grownCap w (n+m) old e - (n+m))) e)) row:=by
    intro old ho row
    have hge:=grownCap_ge w (n+m) old e
    have hcm:grownCap w (n+m) old e≤maxLen:=grownCap_le_maxLen w (n+m) old e h63
    refine ⟨⟨hlen,.inr ⟨w.heap.size,_,_,rfl,hbase,heap_alloc_new w.drew _,hge,hcm,?_,?_⟩⟩,⟨rfl,rfl,rfl,by simp,fun k hk _=>Below.heap_alloc w.drew _ k hk⟩⟩
    · rw [Array.size_append,List.size_toArray,hlen,size_zeroCells,hzs,← Nat.add_mul]
      congr 1
      omega
    · rw [Array.toList_append,← hlen]
      exact List.take_left
  rcases hown.2 with ⟨rfl,rfl⟩ | ⟨g,cap,cur,rfl,hbg,hg,hnc,hcm,hcs,htake⟩
  · have hx:xs=[]:=List.eq_nil_of_length_eq_zero (by simpa using hown.1)
    subst hx
    by_cases hm:m=0
    · subst hm
      have hn:news=[]:=List.eq_nil_of_length_eq_zero (by simpa using hl)
      subst hn
      refine ⟨.slice none 0 0,w,?_,World.ownsRow_nil w base e i.size,⟨rfl,rfl,rfl,Nat.le_refl _,fun _ _ _=>rfl⟩,.inl rfl⟩
      rcases hs.kind with ⟨e',hk⟩ | hk <;> simp [Builtin.append_,run_underlying ht,run_underlying hk,sizeOf,typeInfo,hi,hs.len,hs.cells]
    · have hr:=run_append_grow_src (P:=P) w t tx ty e i z ht hi hz none 0 0 [] (run_firstCells_none w.drew i.size 0 0 0) x m news hs (by omega) (by omega) (growslice_fits (by omega) (by simpa using hbytes))
      have hgr:=grown 0 (by omega) (Value.ownBlock (.slice none 0 0))
      simp only [Nat.zero_add,List.nil_append] at hgr hr ⊢
      exact ⟨_,_,hr,hgr.1,hgr.2,.inr ⟨w.heap.size,rfl,Nat.le_refl _⟩⟩
  · by_cases hroom:n+m≤cap
    · have hfit:n * i.size+news.length≤cur.size:=by rw [hl,hcs,← Nat.add_mul];exact Nat.mul_le_mul_right _ hroom
      have hst:=run_storeCells_at P g (n * i.size) e news 0 cur w hg (by simpa using hfit) h1
      simp only [Nat.add_zero] at hst
      have hr:(Builtin.append_ #[t,tx] ty #[.slice (some ⟨g,0,none⟩) n cap,x]).run P w=.ok (.slice (some ⟨g,0,none⟩) (n+m) cap) (w.setRow g (cur.toList.take (n * i.size) ++ news ++ cur.toList.drop (n * i.size+news.length)).toArray):=by
        rcases hs.kind with ⟨e',hk⟩ | hk <;> simp [Builtin.append_,run_underlying ht,run_underlying hk,sizeOf,typeInfo,hi,hs.len,hroom,hs.cells,add_none] <;> simp [hst]
      refine ⟨_,_,hr,⟨hlen,.inr ⟨g,cap,_,rfl,hbg,setRow_heap w g cur _ e _ hg,hroom,hcm,?_,?_⟩⟩,⟨rfl,rfl,rfl,by simp,fun k _ hk=>setRow_other w g k _ (fun e=>hk (by simp [Value.ownBlock,e]))⟩,.inl rfl⟩
      · simp only [List.size_toArray,List.length_append,List.length_take,List.length_drop,Array.length_toList]
        omega
      · rw [htake,← hlen]
        exact List.take_left
    · have holds:∀ j u,xs[j]?=some u→w.cell? ((⟨g,0,none⟩:Addr).add j)=some u:=hown.cells (g:=g) rfl
      have hr:=run_append_grow_src (P:=P) w t tx ty e i z ht hi hz (some ⟨g,0,none⟩) n cap xs (run_firstCells_some w.drew i.size n ⟨g,0,none⟩ n cap xs hown.1 (by simpa using holds)) x m news hs (by omega) (by omega) (growslice_fits (by omega) hbytes)
      have hgr:=grown cap (by omega) (Value.ownBlock (.slice (some ⟨g,0,none⟩) n cap))
      exact ⟨_,_,hr,hgr.1,hgr.2,.inr ⟨w.heap.size,rfl,Nat.le_refl _⟩⟩
def BelG (B:Nat) (dv dv':Value) (w w':World):Prop:=Below B w w'∧(∀ k,k < w.heap.size→some k ≠ dv.ownBlock→w'.heap[k]?=w.heap[k]?)∧(dv'.ownBlock=dv.ownBlock∨∃ b,dv'.ownBlock=some b∧w.heap.size≤b)
theorem BelG.trans {B:Nat} {d1 d2 d3:Value} {w1 w2 w3:World} (h:BelG B d1 d2 w1 w2) (h':BelG B d2 d3 w2 w3):BelG B d1 d3 w1 w3:=by
  have hs:=h.1.size
  refine ⟨h.1.trans h'.1,fun k hk hne=>?_,?_⟩
  · rw [h'.2.1 k (by omega) ?_]
    · exact h.2.1 k hk hne
    · rcases h.2.2 with e | ⟨b,e,hb⟩
      · rw [e];exact hne
      · rw [e];intro e2;cases e2;omega
  · rcases h'.2.2 with e | ⟨b,e,hb⟩
    · rcases h.2.2 with e2 | ⟨b,e2,hb⟩
      · exact .inl (e.trans e2)
      · exact .inr ⟨b,e.trans e2,hb⟩
    · exact .inr ⟨b,e,by omega⟩
theorem BelG.alloc {B:Nat} {d d':Value} {w w':World} {o:Obj} (hB:B≤w.heap.size) (h:BelG B d d' (w.alloc o) w'):BelG B d d' w w':=by
  have hs:=h.1.size
  have e1:(w.alloc o).heap.size=w.heap.size+1:=by simp
  refine ⟨((Below.refl B w).alloc hB _).trans h.1,fun k hk hne=>?_,?_⟩
  · rw [h.2.1 k (by omega) hne]
    exact Below.heap_alloc w _ k hk
  · rcases h.2.2 with e | ⟨b,e,hb⟩
    · exact .inl e
    · exact .inr ⟨b,e,by omega⟩
def AP2 (P:Program) (tU8:Nat) (f:FuncId) (args:Array Value) (out:Bytes):Prop :=
  FnOK P f∧∀ (w:World) (B:Nat) (dv:Value) (xs:Bytes),Own tU8 w B dv xs→B≤w.heap.size→xs.length+out.length≤lim →
    Calls P f (#[dv] ++ args) w fun e w'=>∃ dv',e=.returned dv'∧Own tU8 w' B dv' (xs ++ out)∧BelG B dv dv' w w'∧B≤w'.heap.size
theorem AP2.ap {P:Program} {tU8:Nat} {f:FuncId} {args:Array Value} {out:Bytes} (h:AP2 P tU8 f args out):AP P tU8 f args (fun _ _=>True) out :=
  ⟨h.1,fun w B dv xs h1 h2 h3 _=>(h.2 w B dv xs h1 h2 h3).mono fun e w' ⟨dv',q1,q2,q3,q4⟩=>⟨dv',q1,q2,q3.1,q4⟩⟩
end Go.Proofs.Ytjbbohfaihkolaa.K
