/- Generic texts: K1 K2 T1 K3 K4 K5 K6 K7 K8 K0. No condition. -/
import Derived.Tactics
import Derived.Laws.AppendOwn
import Derived.WalkSpells
import Derived.Below
import Derived.MapKept
import Derived.IntWalk
import Derived.Deep.AppendSrc
import Derived.Laws.OwnMore
namespace Go.Proofs.YtdnpafdgglpagaaGreatDoor.K
open Go
set_option linter.unusedVariables false
set_option linter.unusedSimpArgs false
structure SOp where
 dst:Option Tmp
 op:Op
 guard:Option (Nat × Bool)
def stripOp:Op->Op
 | .call ⟨.value f,args,_⟩=>.call ⟨.value f,args,#[]⟩
 | o=>o
def sop (o:Oper):SOp:=⟨o.dst,stripOp o.op,o.guard⟩
inductive SC where
 | skip
 | reg (ops:List SOp)
 | dreg (ops:List SOp) (after:List (List Nat))
 | seq (a b:SC)
 | cond (c:Operand) (t e:SC)
 | block (id:Nat) (b:SC)
 | loop (b:SC)
 | exit (id:Nat)
 | ret
 | label (l:Nat)
 | goto (l:Nat)
 | scope (b:SC)
 | other
def strip:Code->SC
 | .skip=>.skip
 | .region _ ops draw=>if draw then .dreg (ops.toList.map sop) (ops.toList.map fun o=>(o.after.toList.filter (Region.binds .any)).map (·.on)) else .reg (ops.toList.map sop)
 | .seq a b=>.seq (strip a) (strip b)
 | .cond c t e=>.cond c (strip t) (strip e)
 | .block i b=>.block i (strip b)
 | .loop b=>.loop (strip b)
 | .exit i=>.exit i
 | .ret=>.ret
 | .label l=>.label l
 | .goto l=>.goto l
 | .scope b=>.scope (strip b)
 | _=>.other
def SC.wp (P:Program) (s:SC) (Q:Exit->Act->World->Prop) (a:Act) (w:World):Prop:=∀ c,strip c=s->c.wp P Q a w
section
variable {P:Program} {Q:Exit->Act->World->Prop} {a:Act} {w:World}
theorem SC.wp_mono {s:SC} {Q':Exit->Act->World->Prop} (h:s.wp P Q a w) (hq:∀ e a w,Q e a w->Q' e a w):s.wp P Q' a w :=
 fun c hc=>Go.wp_mono (h c hc) hq
theorem wSk (h:Q .normal a w):SC.skip.wp P Q a w:=by
 intro c hc
 cases c <;> simp [strip] at hc
 ·exact Go.wp_skip h
 ·split at hc <;> simp at hc
theorem wSq {x y:SC} (h:x.wp P (Exit.then (y.wp P Q) Q) a w):(SC.seq x y).wp P Q a w:=by
 intro c hc
 cases c <;> simp [strip] at hc
 ·split at hc <;> simp at hc
 ·rename_i c1 c2
  refine Go.wp_seq (Go.wp_mono (h c1 hc.1) ?_)
  intro e a w hq
  cases e <;> first | exact hq | exact hq c2 hc.2
theorem wCd {o:Operand} {x y:SC} {t:Bool} (ho:a.eval o=.bool t) (h:(if t then x else y).wp P Q a w):(SC.cond o x y).wp P Q a w:=by
 intro c hc
 cases c <;> simp [strip] at hc
 ·split at hc <;> simp at hc
 ·obtain ⟨rfl,rfl,rfl⟩:=hc
  refine Go.wp_cond ho ?_
  cases t
  ·exact h _ rfl
  ·exact h _ rfl
theorem wBk {id:Nat} {x:SC} (h:x.wp P (Exit.inBlock id Q) a w):(SC.block id x).wp P Q a w:=by
 intro c hc
 cases c <;> simp [strip] at hc
 ·split at hc <;> simp at hc
 ·obtain ⟨rfl,rfl⟩:=hc
  exact Go.wp_block (h _ rfl)
theorem wXt {id:Nat} (h:Q (.exit id) a w):(SC.exit id).wp P Q a w:=by
 intro c hc
 cases c <;> simp [strip] at hc
 ·split at hc <;> simp at hc
 ·subst hc
  exact Go.wp_exit h
theorem wRt (h:Q .ret a w):SC.ret.wp P Q a w:=by
 intro c hc
 cases c <;> simp [strip] at hc
 ·split at hc <;> simp at hc
 ·exact Go.wp_ret h
theorem wLp {x:SC} (I:Act->World->Prop) (μ:Act->World->Nat) (h₀:I a w)
  (round:∀ a w,I a w->x.wp P (Exit.then (fun a' w'=>I a' w'/\μ a' w' < μ a w) Q) a w):(SC.loop x).wp P Q a w:=by
 intro c hc
 cases c <;> simp [strip] at hc
 ·split at hc <;> simp at hc
 ·subst hc
  exact Go.wp_loop I μ h₀ fun a w hI=>round a w hI _ rfl
end
def opw (P:Program) (s:SOp) (a:Act) (w:World) (K:Act->World->Prop):Prop :=
 ∀ (o:Oper) (next:Act->World->Prop) (Q:Exit->Act->World->Prop),sop o=s->(∀ a w,K a w->next a w)->o.wp P a w next Q
def getT (a:Act) (t:Nat):Value:=a.tmps.getD t undef
def gv (v:Value) (want b:Bool):Prop:=v=.bool b∨(v=undef/\b=!want)
def opsw (P:Program) (all:List SOp):List SOp->(Act->World->Prop)->Act->World->Prop
 | [],K,a,w=>K a w
 | s :: r,K,a,w =>
  match s.guard with
  | none=>opw P s a w (opsw P all r K)
  | some (j,want)=>∃ (dj:Nat) (b:Bool),(all[j]?).bind (·.dst)=some dj/\dj < a.tmps.size/\gv (getT a dj) want b /\
    if b=want then opw P s a w (opsw P all r K) else opsw P all r K (a.put s.dst undef) w
theorem wanted_of_gv {ops:Array Oper} {a:Act} {o:Oper} {j dj:Nat} {want b:Bool} (hg:o.guard=some (j,want)) (hj:((ops.toList.map sop)[j]?).bind (·.dst)=some dj) (hlt:dj < a.tmps.size) (h:gv (getT a dj) want b) :
  Region.wanted o (yielded ops a.tmps)=(b == want):=by
 have hj':(ops[j]?).bind (·.dst)=some dj:=by
  simp only [List.getElem?_map,Array.getElem?_toList] at hj
  cases ho:ops[j]? with
  | none=>simp [ho] at hj
  | some x=>simpa [ho,sop] using hj
 have ht:a.tmps[dj]?=some (getT a dj):=by
  have:getT a dj=a.tmps[dj]:=by simp [getT,Array.getD,hlt]
  rw [Array.getElem?_eq_getElem hlt,<- this]
 rcases h with h | ⟨h,rfl⟩
 ·have hy:yielded ops a.tmps j=some b:=by simp [yielded,hj',ht,h]
  simp only [Region.wanted,hg,hy]
  cases b <;> cases want <;> rfl
 ·have hy:yielded ops a.tmps j=none:=by simp [yielded,hj',ht,h,undef]
  simp only [Region.wanted,hg,hy]
  cases want <;> rfl
theorem opsw_list {P:Program} {ops:Array Oper} {Q:Exit->Act->World->Prop} {all:List SOp} (hall:ops.toList.map sop=all):∀ (l:List Oper) (a:Act) (w:World),opsw P all (l.map sop) (Q .normal) a w->wpList P ops Q l a w
 | [],_,_,h=>h
 | o :: l,a,w,h=>by
  unfold wpList
  simp only [List.map_cons,opsw] at h
  have hgo:(sop o).guard=o.guard:=rfl
  rw [hgo] at h
  cases hg:o.guard with
  | none =>
   rw [hg] at h
   simp only [Region.wanted,hg,if_true]
   exact .inl (h o _ Q rfl (fun a w h=>opsw_list hall l a w h))
  | some g =>
   obtain ⟨j,want⟩:=g
   rw [hg] at h
   obtain ⟨dj,b,hj,hlt,hb,h⟩:=h
   subst hall
   rw [wanted_of_gv hg hj hlt hb]
   by_cases hw:b=want
   ·rw [if_pos hw] at h
    subst hw
    simp only [beq_self_eq_true,if_true]
    exact .inl (h o _ Q rfl (fun a w h=>opsw_list rfl l a w h))
   ·rw [if_neg hw] at h
    rw [if_neg (by simpa using hw)]
    exact opsw_list rfl l _ w h
theorem wRg {P:Program} {Q:Exit->Act->World->Prop} {a:Act} {w:World} {l:List SOp} (h:opsw P l l (Q .normal) a w):(SC.reg l).wp P Q a w:=by
 intro c hc
 cases c <;> simp [strip] at hc
 ·rename_i id ops draw
  split at hc
  ·simp at hc
  ·rename_i hd
   simp at hc
   have hd':draw=false:=by simpa using hd
   subst hd'
   exact wp_region_list (opsw_list hc _ _ _ (by rw [hc];exact h))
theorem eTm (a:Act) (t:Nat):a.eval (.tmp t)=getT a t:=rfl
theorem eCo (a:Act) (v:Value):a.eval (.const v)=v:=rfl
theorem eval_func (a:Act) (f:FuncId):a.eval (.func f)=.func (.func f) #[] #[]:=rfl
theorem put_some (a:Act) (d:Nat) (v:Value):a.put (some d) v={ a with tmps:=a.tmps.setIfInBounds d v }:=rfl
theorem pNo (a:Act) (v:Value):a.put none v=a:=rfl
theorem gTp {a:Act} {d:Nat} {v:Value} (h:d < a.tmps.size):getT (a.put (some d) v) d=v:=by
 simp [getT,put_some,Array.getD,h]
theorem gTn {a:Act} {d t:Nat} {v:Value} (h:t ≠ d):getT (a.put (some d) v) t=getT a t:=by
 simp [getT,put_some,Array.getElem?_setIfInBounds_ne (Ne.symm h)]
theorem sPu (a:Act) (d:Option Nat) (v:Value):(a.put d v).tmps.size=a.tmps.size:=by
 cases d <;> simp [Act.put]
theorem dPu (a:Act) (d:Option Nat) (v:Value):(a.put d v).defers=a.defers:=by
 cases d <;> rfl
section
variable {P:Program} {a:Act} {w:World} {K:Act->World->Prop} {d:Option Tmp} {g:Option (Nat × Bool)}
theorem opw_of {s:SOp} (h:∀ (o:Oper) (next:Act->World->Prop) (Q:Exit->Act->World->Prop),o.dst=s.dst->stripOp o.op=s.op->(∀ a w,K a w->next a w)->o.upon P a next Q ((execOp a.eval o).run P w)):opw P s a w K:=by
 intro o next Q hs hn
 subst hs
 exact h o next Q rfl rfl hn
theorem stripOp_eq {o x:Op} (hx:∀ f args t,x ≠ .call ⟨.value f,args,t⟩) (h:stripOp o=x):o=x:=by
 unfold stripOp at h
 split at h
 ·exact absurd h.symm (hx _ _ _)
 ·exact h
theorem oVa {op:Op} {v:Value} {w':World} (hx:∀ f args t,op ≠ .call ⟨.value f,args,t⟩)
  (hr:∀ o:Oper,o.op=op->(execOp a.eval o).run P w=.ok (.value v) w') (h:K (a.put d v) w'):opw P ⟨d,op,g⟩ a w K:=by
 refine opw_of fun o next Q hd ho hn=>?_
 rw [hr o (stripOp_eq hx ho),Oper.upon_value,hd]
 exact hn _ _ h
theorem opw_skip {op:Op} {w':World} (hx:∀ f args t,op ≠ .call ⟨.value f,args,t⟩)
  (hr:∀ o:Oper,o.op=op->(execOp a.eval o).run P w=.ok .skip w') (h:K (a.put d undef) w'):opw P ⟨d,op,g⟩ a w K:=by
 refine opw_of fun o next Q hd ho hn=>?_
 rw [hr o (stripOp_eq hx ho),Oper.upon_skip,hd]
 exact hn _ _ h
theorem opw_move {x:Operand} (h:K (a.put d (a.eval x)) w):opw P ⟨d,.move x,g⟩ a w K :=
 oVa (by simp) (fun o ho=>by simp [execOp,ho]) h
theorem opw_assign {x:Operand} (h:K (a.put d (a.eval x)) w):opw P ⟨d,.assign x,g⟩ a w K :=
 oVa (by simp) (fun o ho=>by simp [execOp,ho]) h
theorem opw_nilCheck {x:Operand} {ad:Addr} (hx:a.eval x=.pointer (some ad)) (h:K (a.put d (.pointer (some ad))) w):opw P ⟨d,.nilCheck x,g⟩ a w K :=
 oVa (by simp) (fun o ho=>by simp [execOp,ho,hx]) h
theorem run_callFunc {f : FuncId} {args : Array Value} {fn : Func} (hf : P.funcs[f]? = some fn) (hb : fn.body.isSome = true) (hnm : (fn.name == "runtime.NumGoroutine") = false) :
  (callFunc f args).run P w=.ok (.enter f args) w:=by
 have hb':fn.body.isNone=false:=by cases h:fn.body <;> simp_all
 simp only [callFunc,program,bind,Sem.bind,Sem.run,hf,hnm,hb',Bool.false_eq_true,if_false,pure]
theorem opw_call {f : FuncId} {args : Array Operand} {fn : Func} {R : Ending -> World -> Prop} (hf : P.funcs[f]? = some fn) (hb : fn.body.isSome = true) (hnm : (fn.name == "runtime.NumGoroutine") = false)
  (hc:Calls P f (args.map a.eval) w R) (hR:∀ e w',R e w'->∃ v,e=.returned v/\K (a.put d v) w'):opw P ⟨d,.call ⟨.value (.func f),args,#[]⟩,g⟩ a w K:=by
 refine opw_of fun o next Q hd ho hn=>?_
 have ho':∃ t,o.op=.call ⟨.value (.func f),args,t⟩:=by
  unfold stripOp at ho
  split at ho
  ·rename_i heq
   simp at ho
   obtain ⟨rfl,rfl⟩:=ho
   exact ⟨_,heq⟩
  ·rename_i hne
   exact absurd ho (hne _ _ _)
 obtain ⟨t,ho'⟩:=ho'
 have hr:(execOp a.eval o).run P w=.ok (.enter f (args.map a.eval)) w:=by
  have h0:=run_callFunc (P:=P) (w:=w) (args:=args.map a.eval) hf hb hnm
  simp [execOp,ho',resolve,Deferred.ofValue,invoke,eval_func,h0]
 rw [hr,Oper.upon_enter]
 refine hc.mono ?_
 intro e w' hq
 obtain ⟨v,rfl,hk⟩:=hR e w' hq
 rw [hd]
 exact hn _ _ hk
end
set_option maxHeartbeats 200000
def oneB (P:Program) (T:TypeId):Bool :=
 match P.info? T,P.underlying T with
 | some i,some (.struct _)=>false && i.size == 1
 | some i,some (.array _ _)=>false && i.size == 1
 | some i,some _=>i.size == 1
 | _,_=>false
def aggB (P:Program) (T:TypeId) (n:Nat):Bool :=
 match P.info? T,P.underlying T with
 | some i,some (.struct _)=>i.size == n
 | some i,some (.array _ _)=>i.size == n
 | _,_=>false
def fieldB (P:Program) (S f off:Nat):Bool :=
 match P.underlying S with
 | some (.struct fields)=>match fields.toList[f]? with
  | some fld=>fld.offset == off && match P.info? fld.type with
   | some i=>i.size != 0
   | none=>false
  | none=>false
 | _=>false
def sliceB (P:Program) (T E n:Nat):Bool :=
 match P.underlying T with
 | some (.slice e)=>e == E && match P.info? E with
  | some i=>i.size == n
  | none=>false
 | _=>false
def intB (P:Program) (T:TypeId) (k:IntKind):Bool :=
 match P.underlying T with
 | some (.int k')=>k' == k
 | _=>false
section
variable {P:Program} {a:Act} {w:World} {K:Act->World->Prop} {d:Option Tmp} {g:Option (Nat × Bool)}
theorem one_of {T:TypeId} (h:oneB P T=true):∃ i dd,P.info? T=some i/\i.size=1/\P.underlying T=some dd/\(∀ f,dd ≠ .struct f)/\(∀ n e,dd ≠ .array n e):=by
 unfold oneB at h
 split at h
 ·simp at h
 ·simp at h
 ·rename_i i dd hs ha h1 h2
  exact ⟨i,dd,h1,by simpa using h,h2,fun f e=>hs f e,fun n e e'=>ha n e e'⟩
 ·simp at h
theorem run_isAgg_one {T:TypeId} (h:oneB P T=true):(isAgg T).run P w=.ok false w:=by
 obtain ⟨i,dd,_,_,hu,hs,ha⟩:=one_of h
 cases dd <;> simp [isAgg,run_underlying hu] <;> first | exact absurd rfl (hs _) | exact absurd rfl (ha _ _)
theorem run_load_one {T:TypeId} {ad:Addr} {v:Value} (h:oneB P T=true) (hc:w.cell? ad=some v):(Instr.loadAt T (.pointer (some ad))).run P w=.ok v w:=by
 have h0:=run_isAgg_one (w:=w) h
 simp [Instr.loadAt,Instr.sureAddr,loadVar,h0,load,Sem.run,hc]
theorem opw_load_one {T:TypeId} {x:Operand} {ad:Addr} {v:Value} (hT:oneB P T=true) (hx:a.eval x=.pointer (some ad)) (hc:w.cell? ad=some v) (h:K (a.put d v) w) :
  opw P ⟨d,.load T x,g⟩ a w K :=
 oVa (by simp) (fun o ho=>by simp [execOp,ho,hx,run_load_one hT hc]) h
theorem cells_oneCell {v:Value} (h:v.oneCell'=true):v.cells=#[v]:=by cases v <;> simp_all [Value.oneCell',Value.cells]
theorem run_store_one {T:TypeId} {ad:Addr} {v v0:Value} (h:oneB P T=true) (h1:v.oneCell'=true) (hc:w.cell? ad=some v0) (hf:w.frozen? ad=false) :
  (Instr.storeAt T (.pointer (some ad)) v).run P w=.ok () (w.setCell ad v):=by
 obtain ⟨i,dd,hi,hs,_⟩:=one_of h
 have e:ad.add 0=ad:=by simp [Addr.add]
 have hst:(Sem.store Mode.plain ad v (Sem.pure ())).run P w=.ok () (w.setCell ad v):=by
  cases v <;> simp_all [Sem.run,Value.oneCell']
 simp [Instr.storeAt,Instr.sureAddr,storeVar,sizeOf,typeInfo,hi,hs,cells_oneCell h1,storeCells,store,e,hst]
theorem opw_store_one {T:TypeId} {x y:Operand} {ad:Addr} {v v0:Value} (hT:oneB P T=true) (hx:a.eval x=.pointer (some ad)) (hy:a.eval y=v) (h1:v.oneCell'=true) (hc:w.cell? ad=some v0) (hf:w.frozen? ad=false)
  (h:K (a.put d undef) (w.setCell ad v)):opw P ⟨d,.store T x y,g⟩ a w K :=
 opw_skip (by simp) (fun o ho=>by simp [execOp,ho,hx,hy,run_store_one hT h1 hc hf]) h
theorem add_none (b o n:Nat):(⟨b,o,none⟩:Addr).add n=⟨b,o+n,none⟩:=by
 unfold Addr.add
 split <;> simp_all
theorem run_field {S f off b o:Nat} (h:fieldB P S f off=true):(Instr.fieldAt S (.pointer (some ⟨b,o,none⟩)) f).run P w=.ok (.pointer (some ⟨b,o+off,none⟩)) w:=by
 unfold fieldB at h
 split at h <;> try (simp at h;done)
 rename_i fields hu
 split at h <;> try (simp at h;done)
 rename_i fld hf
 have hf':fields[f]?=some fld:=by simpa using hf
 simp at h
 obtain ⟨h1,h2⟩:=h
 split at h2 <;> try (simp at h2;done)
 rename_i i hi
 simp at h2
 subst h1
 simp [Instr.fieldAt,run_underlying hu,hf',Instr.sureAddr,fieldPlace,sizeOf,typeInfo,hi,h2,add_none]
theorem opw_field {S f off b o:Nat} {x:Operand} (hS:fieldB P S f off=true) (hx:a.eval x=.pointer (some ⟨b,o,none⟩)) (h:K (a.put d (.pointer (some ⟨b,o+off,none⟩))) w) :
  opw P ⟨d,.fieldAddr S x f,g⟩ a w K :=
 oVa (by simp) (fun p hp=>by simp [execOp,hp,hx,run_field hS]) h
theorem slice_of {T E n:Nat} (h:sliceB P T E n=true):P.underlying T=some (.slice E)/\∃ i,P.info? E=some i/\i.size=n:=by
 unfold sliceB at h
 split at h <;> try (simp at h;done)
 rename_i e hu
 simp at h
 obtain ⟨rfl,h2⟩:=h
 split at h2 <;> try (simp at h2;done)
 rename_i i hi
 exact ⟨hu,i,hi,by simpa using h2⟩
theorem opw_index {T E n b o len cap j:Nat} {k:IntKind} {x y:Operand} (hT:sliceB P T E n=true) (hx:a.eval x=.slice (some ⟨b,o,none⟩) len cap) (hy:a.eval y=.int k (j:Int)) (hj:j < len)
  (h:K (a.put d (.pointer (some ⟨b,o+j * n,none⟩))) w):opw P ⟨d,.indexAddr T x y,g⟩ a w K:=by
 obtain ⟨hu,i,hi,hs⟩:=slice_of hT
 refine oVa (by simp) (fun p hp=>?_) h
 simp [execOp,hp,hx,hy,Instr.indexAt,asIntOf,run_underlying hu,hj,sizeOf,typeInfo,hi,hs,add_none]
theorem opw_len {T E n len cap:Nat} {base:Option Addr} {x:Operand} {ts:Array TypeId} (hT:sliceB P T E n=true) (hx:a.eval x=.slice base len cap) (ht:ts=#[T])
  (h:K (a.put d (.int .i64 (len:Int))) w):opw P ⟨d,.call ⟨.builtin .len,#[x],ts⟩,g⟩ a w K:=by
 subst ht
 obtain ⟨hu,_⟩:=slice_of hT
 refine oVa (by simp) (fun p hp=>?_) h
 simp [execOp,hp,hx,resolve,invoke,builtin,Builtin.len_,run_underlying hu,goInt]
theorem opw_convert {S T:TypeId} {k k':IntKind} {x:Operand} {n:Int} (hS:intB P S k'=true) (hT:intB P T k=true) (hx:a.eval x=.int k' n) (h:K (a.put d (.int k (k.wrap n))) w) :
  opw P ⟨d,.convert S T x,g⟩ a w K:=by
 unfold intB at hS hT
 split at hS <;> try (simp at hS;done)
 split at hT <;> try (simp at hT;done)
 rename_i h1 _ _ h2
 simp at hS hT
 subst hS;subst hT
 exact oVa (by simp) (fun p hp=>by simp [execOp,hp,hx,convert,run_underlying h1,run_underlying h2,Conv.intToInt]) h
theorem run_eqGuard_int (op:BinOp) (t:TypeId) (x y:Operand) (k:IntKind) (m n:Int):(eqGuard op t x y (.int k m) (.int k n)).run P w=.ok () w:=by
 cases op <;> simp [eqGuard]
theorem opw_cmp {op:BinOp} {T T':TypeId} {k:IntKind} {x y:Operand} {m n:Int} {r:Bool} (hx:a.eval x=.int k m) (hy:a.eval y=.int k n)
  (hr:(op=.lss/\r=decide (m < n))∨(op=.leq/\r=decide (m<=n))∨(op=.gtr/\r=decide (m > n))∨(op=.geq/\r=decide (m ≥ n))∨(op=.eql/\r=(m == n))∨(op=.neq/\r=(m != n)))
  (h:K (a.put d (.bool r)) w):opw P ⟨d,.binOp op T x y T',g⟩ a w K:=by
 refine oVa (by simp) (fun p hp=>?_) h
 rcases hr with ⟨rfl,rfl⟩ | ⟨rfl,rfl⟩ | ⟨rfl,rfl⟩ | ⟨rfl,rfl⟩ | ⟨rfl,rfl⟩ | ⟨rfl,rfl⟩ <;>
  simp [execOp,hp,hx,hy,run_eqGuard_int,binOp,Op.intCmp]
theorem opw_arith {op:BinOp} {T T':TypeId} {k:IntKind} {x y:Operand} {m n r:Int} (hx:a.eval x=.int k m) (hy:a.eval y=.int k n)
  (hr:(op=.add/\r=k.wrap (m+n))∨(op=.sub/\r=k.wrap (m - n)))
  (h:K (a.put d (.int k r)) w):opw P ⟨d,.binOp op T x y T',g⟩ a w K:=by
 refine oVa (by simp) (fun p hp=>?_) h
 rcases hr with ⟨rfl,rfl⟩ | ⟨rfl,rfl⟩ <;>
  simp [execOp,hp,hx,hy,run_eqGuard_int,binOp,Op.intArith]
theorem opw_not {T:TypeId} {x:Operand} {b:Bool} (hx:a.eval x=.bool b) (h:K (a.put d (.bool !b)) w):opw P ⟨d,.unOp .not T x,g⟩ a w K :=
 oVa (by simp) (fun p hp=>by simp [execOp,hp,hx,Op.unary]) h
theorem opw_pick {c x y:Operand} {b:Bool} (hc:a.eval c=.bool b) (h:K (a.put d (if b then a.eval x else a.eval y)) w):opw P ⟨d,.pick c x y,g⟩ a w K :=
 oVa (by simp) (fun p hp=>by simp [execOp,hp,hc,asBool]) h
end
end Go.Proofs.YtdnpafdgglpagaaGreatDoor.K
namespace Go.Proofs.YtdnpafdgglpagaaGreatDoor.T
set_option linter.unusedVariables false
set_option linter.unusedSimpArgs false
abbrev Bytes:=List UInt8
inductive Tree where
 | mk (n:Int) (s:Bytes) (null:Bool) (l:List Tree) (u:List (Nat × Bytes))
def Tree.n:Tree->Int | .mk n _ _ _ _=>n
def Tree.s:Tree->Bytes | .mk _ s _ _ _=>s
def Tree.null:Tree->Bool | .mk _ _ b _ _=>b
def Tree.l:Tree->List Tree | .mk _ _ _ l _=>l
def Tree.u:Tree->List (Nat × Bytes) | .mk _ _ _ _ u=>u
def Tree.zero:Tree:=.mk 0 [] false [] []
instance:Inhabited Tree:=⟨Tree.zero⟩
inductive PK where
 | bool | i8 | i16 | i32 | i64 | u16 | uuid | str | bytes
 deriving DecidableEq
structure Hd where
 from_:Int
 to:Int
 null:Int
 dflt:Int
 idx:Nat
 off:Nat
 typ:Nat
 enum:Bool
mutual
inductive Ty where
 | prim (k:PK)
 | list (typ el size:Nat) (of:Ty)
 | struct (typ size dflt:Nat) (tags:Option (Nat × Nat)) (fs kn:Fs)
inductive Fs where
 | nil
 | cons (h:Hd) (ty:Ty) (rest:Fs)
end
def Fs.len:Fs->Nat
 | .nil=>0
 | .cons _ _ r=>Fs.len r+1
def Hd.has (h:Hd) (ver:Int):Bool:=decide (h.from_<=ver) && (decide (h.to < 0) || decide (ver<=h.to))
def Hd.isNull (h:Hd) (ver:Int) (t:Tree):Bool:=t.null && (decide (0<=h.null) && decide (h.null<=ver))
def byteOf (n:Int):UInt8:=UInt8.ofNat (n % 256).toNat
def fixed (n:Int):Nat->Bytes
 | 0=>[]
 | k+1=>byteOf (n / 256 ^ k) :: fixed n k
def uvarint (n:Nat):Bytes :=
 if h:n<=127 then [UInt8.ofNat n] else UInt8.ofNat (n % 128+128) :: uvarint (n / 128)
termination_by n
decreasing_by omega
def most:Nat:=32767
def whole (b:Bytes):Bytes:=b.take most
def counted (flex null:Bool) (n:Nat) (size:Nat):Bytes :=
 if flex then (if null then [0] else uvarint (n+1)) else (if null then fixed (-1) size else fixed n size)
def PK.width:PK->Nat
 | .i8=>1 | .i16=>2 | .u16=>2 | .i32=>4 | _=>8
def wPrim (flex null:Bool) (t:Tree):PK->Bytes
 | .bool=>[byteOf (t.n % 2)]
 | .uuid=>(t.s ++ List.replicate 16 0).take 16
 | .str=>let s:=if null then [] else whole t.s;counted flex null s.length 2 ++ s
 | .bytes=>let s:=if null then [] else whole t.s;counted flex null s.length 4 ++ s
 | k=>fixed t.n k.width
def insTag (t:Nat × Bytes):List (Nat × Bytes)->List (Nat × Bytes)
 | []=>[t]
 | x :: r=>if x.1 < t.1 then x :: insTag t r else if x.1=t.1 then x :: r else t :: x :: r
def unknown (l:List (Nat × Bytes)):List (Nat × Bytes):=(l.take most).foldl (fun acc t=>insTag t acc) []
def wTag (t:Nat × Bytes):Bytes:=uvarint t.1 ++ uvarint (whole t.2).length ++ whole t.2
def wTags (flex:Bool) (u:List (Nat × Bytes)):Bytes :=
 if flex then uvarint (unknown u).length ++ (unknown u).flatMap wTag else []
def unkB (u:List (Nat × Bytes)):List (Nat × Bytes):=((u.take most).filter fun t=>decide (1<=t.1)).foldl (fun acc t=>insTag t acc) []
def wTagsB (flex:Bool) (kn:List (Option Bytes)) (u:List (Nat × Bytes)):Bytes :=
 match kn with
 | []=>wTags flex u
 | none :: _=>if flex then uvarint (unkB u).length ++ (unkB u).flatMap wTag else []
 | some c :: _=>if flex then uvarint (1+(unkB u).length) ++ (uvarint 0 ++ (uvarint c.length ++ (c ++ (unkB u).flatMap wTag))) else []
mutual
def dT (h:Hd):Ty->Tree
 | .struct _ _ _ _ fs _=>.mk h.dflt [] (decide (0<=h.null)) (dFs fs) []
 | _=>.mk h.dflt [] (decide (0<=h.null)) [] []
def dFs:Fs->List Tree
 | .nil=>[]
 | .cons h ty r=>dT h ty :: dFs r
end
mutual
def wTy (ver:Int) (flex:Bool):Ty->Bool->Tree->Bytes
 | .prim k,null,t=>wPrim flex null t k
 | .list _ _ _ of,null,t=>(fun l=>counted flex null l.length 4 ++ l.flatMap (fun x=>wTy ver flex of false x)) (if null then [] else t.l.take most)
 | .struct _ _ _ _ fs kn,_,t=>wFs ver flex fs t.l ++ wTagsB flex (wKn ver flex kn (t.l.drop (Fs.len fs))) t.u
def wFs (ver:Int) (flex:Bool):Fs->List Tree->Bytes
 | .nil,_=>[]
 | .cons h ty r,ts =>
  (if h.has ver then
   (match ty with
    | .struct _ _ _ _ _ _ =>
     if 0<=h.null then (if h.isNull ver (ts.headD Tree.zero) then [255] else 1 :: wTy ver flex ty false (ts.headD Tree.zero))
     else wTy ver flex ty false (ts.headD Tree.zero)
    | _=>wTy ver flex ty (h.isNull ver (ts.headD Tree.zero)) (ts.headD Tree.zero))
   else []) ++ wFs ver flex r ts.tail
def wKn (ver:Int) (flex:Bool):Fs->List Tree->List (Option Bytes)
 | .nil,_=>[]
 | .cons h ty _,ks=>[if wTy ver flex ty false (ks.headD Tree.zero)=wTy ver flex ty false (dT h ty) then none else some (wTy ver flex ty false (ks.headD Tree.zero))]
end
def wField (ver:Int) (flex:Bool) (h:Hd) (ty:Ty) (t:Tree):Bytes :=
 match ty with
 | .struct _ _ _ _ _ _=>if 0<=h.null then (if h.isNull ver t then [255] else 1 :: wTy ver flex ty false t) else wTy ver flex ty false t
 | _=>wTy ver flex ty (h.isNull ver t) t
theorem wFs_cons (ver:Int) (flex:Bool) (h:Hd) (ty:Ty) (r:Fs) (ts:List Tree) :
  wFs ver flex (.cons h ty r) ts=(if h.has ver then wField ver flex h ty (ts.headD Tree.zero) else []) ++ wFs ver flex r ts.tail:=by
 cases ty <;> simp [wFs,wField]
end Go.Proofs.YtdnpafdgglpagaaGreatDoor.T
namespace Go.Proofs.YtdnpafdgglpagaaGreatDoor.K
open Go Go.Proofs.YtdnpafdgglpagaaGreatDoor.T
set_option linter.unusedVariables false
set_option linter.unusedSimpArgs false
structure Ids where
 tI16:Nat
 tInt:Nat
 tU32:Nat
 tI8:Nat
 tU8s:Nat
 tI32:Nat
 tBool:Nat
 aBool:Nat
 aI8:Nat
 aI16:Nat
 aI32:Nat
 aI64:Nat
 aU16:Nat
 aUuid:Nat
 aStr:Nat
 aCStr:Nat
 aNStr:Nat
 aCNStr:Nat
 aBytes:Nat
 aCBytes:Nat
 aNBytes:Nat
 aCNBytes:Nat
 aArr:Nat
 aCArr:Nat
 aNArr:Nat
 aCNArr:Nat
 aUvar:Nat
 tagsLen:Nat
 tagsEach:Nat
 tU32s:Nat
 kNew:Nat
 kSame:Nat
structure Ctx where
 ver:Nat
 flex:Nat
 never:Bool
 rd:Nat
def mv (t s:Nat):SOp:=⟨some t,.move (.tmp s),none⟩
def asg (d s:Nat):SOp:=⟨some d,.assign (.tmp s),none⟩
def nilc (t s:Nat):SOp:=⟨some t,.nilCheck (.tmp s),none⟩
def fa (t S s f:Nat):SOp:=⟨some t,.fieldAddr S (.tmp s) f,none⟩
def ld (t T s:Nat):SOp:=⟨some t,.load T (.tmp s),none⟩
def cal (t f:Nat) (args:List Nat):SOp:=⟨some t,.call ⟨.value (.func f),(args.map Operand.tmp).toArray,#[]⟩,none⟩
def lenOp (t T s:Nat):SOp:=⟨some t,.call ⟨.builtin .len,#[.tmp s],#[T]⟩,none⟩
def bin (op:BinOp) (t T x:Nat) (y:Operand):SOp:=⟨some t,.binOp op T (.tmp x) y T,none⟩
def seqs:List SC->SC
 | []=>.skip
 | [a]=>a
 | a :: b :: r=>.seq a (seqs (b :: r))
def vTmps (h:Hd):Nat:=if h.from_=0/\h.to < 0 then 0 else if h.to < 0 then 2 else 6
def vCond (I:Ids) (c:Ctx) (h:Hd) (t:Nat) (body:SC):SC :=
 if h.from_=0/\h.to < 0 then body
 else if h.to < 0 then
  .seq (.reg [mv t c.ver,bin .geq (t+1) I.tI16 t (.const (.int .i16 h.from_))]) (.cond (.tmp (t+1)) body .skip)
 else
  .seq (.reg [mv t c.ver,bin .geq (t+1) I.tI16 t (.const (.int .i16 h.from_)),mv (t+2) (t+1),
   ⟨some (t+3),.move (.tmp c.ver),some (2,true)⟩,⟨some (t+4),.binOp .leq I.tI16 (.tmp (t+3)) (.const (.int .i16 h.to)) I.tI16,some (2,true)⟩,
   ⟨some (t+5),.pick (.tmp (t+2)) (.tmp (t+4)) (.const (.bool false)),none⟩]) (.cond (.tmp (t+5)) body .skip)
def fTmps (c:Ctx) (m n:Nat):Nat:=if c.never then n else 1+m+n
def fCond (c:Ctx) (t m:Nat) (x y:Nat->SC):SC :=
 if c.never then y t else .seq (.reg [mv t c.flex]) (.cond (.tmp t) (x (t+1)) (y (t+1+m)))
def aCall (f x t:Nat):SC:=.reg [mv t 1,mv (t+1) x,cal (t+2) f [t,t+1],asg 1 (t+2)]
def aFn (I:Ids) (nul:Bool):PK->Nat × Nat
 | .bool=>(I.aBool,I.aBool) | .i8=>(I.aI8,I.aI8) | .i16=>(I.aI16,I.aI16) | .i32=>(I.aI32,I.aI32) | .i64=>(I.aI64,I.aI64)
 | .u16=>(I.aU16,I.aU16) | .uuid=>(I.aUuid,I.aUuid)
 | .str=>if nul then (I.aCNStr,I.aNStr) else (I.aCStr,I.aStr)
 | .bytes=>if nul then (I.aCNBytes,I.aNBytes) else (I.aCBytes,I.aBytes)
def PK.parted:PK->Bool
 | .str=>true | .bytes=>true | _=>false
def aAppT (c:Ctx) (k:PK):Nat:=if PK.parted k then fTmps c 3 3 else 3
def aApp (I:Ids) (c:Ctx) (nul:Bool) (k:PK) (x t:Nat):SC :=
 if PK.parted k then fCond c t 3 (aCall (aFn I nul k).1 x) (aCall (aFn I nul k).2 x) else aCall (aFn I nul k).2 x t
def aLoad (S p f T v t:Nat):SC:=.reg [mv t p,nilc (t+1) t,fa (t+2) S (t+1) f,ld (t+3) T (t+2),asg v (t+3)]
def aLen (I:Ids) (c:Ctx) (nul:Bool) (T v t:Nat):SC :=
 if nul then
  fCond c t 6
   (fun t=>.reg [mv t 1,mv (t+1) v,lenOp (t+2) T (t+1),mv (t+3) v,bin .eql (t+4) T (t+3) (.const (.slice none 0 0)),cal (t+5) I.aCNArr [t,t+2,t+4],asg 1 (t+5)])
   (fun t=>.reg [mv t 1,mv (t+1) v,lenOp (t+2) T (t+1),mv (t+3) v,bin .eql (t+4) T (t+3) (.const (.slice none 0 0)),cal (t+5) I.aNArr [t,t+2,t+4],asg 1 (t+5)])
 else
  fCond c t 4
   (fun t=>.reg [mv t 1,mv (t+1) v,lenOp (t+2) T (t+1),cal (t+3) I.aCArr [t,t+2],asg 1 (t+3)])
   (fun t=>.reg [mv t 1,mv (t+1) v,lenOp (t+2) T (t+1),cal (t+3) I.aArr [t,t+2],asg 1 (t+3)])
def aLenT (c:Ctx) (nul:Bool):Nat:=if nul then fTmps c 6 6 else fTmps c 4 4
def aTagsT:Nat:=14
def aTags (I:Ids) (c:Ctx) (S p f t:Nat):SC :=
 .seq (.reg [mv t c.flex]) (.cond (.tmp t)
  (.seq (.reg [mv (t+1) 1,mv (t+2) p,nilc (t+3) (t+2),fa (t+4) S (t+3) f,cal (t+5) I.tagsLen [t+4],⟨some (t+6),.convert I.tInt I.tU32 (.tmp (t+5)),none⟩,
    ⟨some (t+7),.binOp .add I.tU32 (.const (.int .u32 0)) (.tmp (t+6)) I.tU32,none⟩,cal (t+8) I.aUvar [t+1,t+7],asg 1 (t+8)])
   (.reg [mv (t+9) p,nilc (t+10) (t+9),fa (t+11) S (t+10) f,mv (t+12) 1,cal (t+13) I.tagsEach [t+11,t+12],asg 1 (t+13)]))
  .skip)
def aTagsL (I:Ids) (c:Ctx) (S p:Nat) (tags:Option (Nat × Nat)) (t:Nat):List SC :=
 match tags with
 | none=>[]
 | some (f,_)=>[aTags I c S p f t]
def tagsT (tags:Option (Nat × Nat)):Nat:=if tags.isSome then aTagsT else 0
def aByte (I:Ids) (n:Int) (t:Nat):SC :=
 .reg [mv t 1,⟨some (t+1),.buildSlice I.tU8s 1 #[(0,.const (.int .u8 n))],none⟩,⟨some (t+2),.call ⟨.builtin .append,#[.tmp t,.tmp (t+1)],#[I.tU8s,I.tU8s]⟩,none⟩,asg 1 (t+2)]
def aLoop (T s ix t b et:Nat) (body:List SC) (tInt:Nat):SC :=
 .seq (.reg [mv t s,lenOp (t+1) T t,⟨some (t+2),.move (.const (.int .i64 0)),none⟩])
  (.block b (.loop (.seq (.reg [bin .lss (t+3) tInt (t+2) (.tmp (t+1))]) (.seq (.cond (.tmp (t+3)) .skip (.exit b))
   (.seq (.block (b+1) (seqs (.reg [mv (t+4) (t+2),asg ix (t+4)] :: body)))
    (.reg [bin .add (t+5+et) tInt (t+2) (.const (.int .i64 1)),mv (t+2) (t+5+et)]))))))
def tagF:Option (Nat × Nat)->Nat
 | none=>0
 | some (f,_)=>f
def aFlat (I:Ids) (S x v t:Nat):Fs->List SC
 | .nil=>[]
 | .cons h _ r=>.seq (.reg [fa t S x h.idx,ld (t+1) h.typ t,asg v (t+1)]) (aCall I.aI32 v (t+2)) :: aFlat I S x (v+1) (t+5) r
def aFlatTags (I:Ids) (c:Ctx) (S x f t:Nat):SC :=
 .seq (.reg [mv t c.flex]) (.cond (.tmp t)
  (.seq (.reg [mv (t+1) 1,fa (t+2) S x f,cal (t+3) I.tagsLen [t+2],⟨some (t+4),.convert I.tInt I.tU32 (.tmp (t+3)),none⟩,
    ⟨some (t+5),.binOp .add I.tU32 (.const (.int .u32 0)) (.tmp (t+4)) I.tU32,none⟩,cal (t+6) I.aUvar [t+1,t+5],asg 1 (t+6)])
   (.reg [fa (t+7) S x f,mv (t+8) 1,cal (t+9) I.tagsEach [t+7,t+8],asg 1 (t+9)]))
  .skip)
def aKnCondL (I:Ids) (S p:Nat) (h:Hd) (T t:Nat):SC :=
 .reg [mv (t+1) p,nilc (t+2) (t+1),fa (t+3) S (t+2) h.idx,ld (t+4) h.typ (t+3),lenOp (t+5) T (t+4),bin .gtr (t+6) I.tInt (t+5) (.const (.int .i64 0))]
def aKnCondS (I:Ids) (S p:Nat) (h:Hd) (S' t:Nat):SC :=
 .dreg [mv (t+1) p,nilc (t+2) (t+1),fa (t+3) S (t+2) h.idx,ld (t+4) S' (t+3),cal (t+5) I.kNew [],cal (t+6) I.kSame [t+4,t+5],⟨some (t+7),.unOp .not I.tBool (.tmp (t+6)),none⟩]
  [[],[0],[1],[2],[],[3,4,4],[5]]
def aKnLoadS (S p:Nat) (h:Hd) (S' x t:Nat):SC :=
 .reg [mv t p,nilc (t+1) t,fa (t+2) S (t+1) h.idx,ld (t+3) S' (t+2),⟨some x,.alloc S',none⟩,⟨none,.store S' (.tmp x) (.tmp (t+3)),none⟩]
def aKnSized (I:Ids) (v ts l:Nat):SC :=
 .seq (.reg [mv ts (v+4),⟨some (ts+1),.unOp .not I.tBool (.tmp ts),none⟩]) (.cond (.tmp (ts+1))
  (.seq (.dreg [mv (ts+2) 1,mv (ts+3) (v+5),⟨some (ts+4),.slice I.tU8s (.tmp (ts+2)) none (some (.tmp (ts+3))) none,none⟩,mv (ts+5) 1,mv (ts+6) (v+5),⟨some (ts+7),.slice I.tU8s (.tmp (ts+5)) (some (.tmp (ts+6))) none none,none⟩,
    lenOp (ts+8) I.tU8s (ts+7),⟨some (ts+9),.convert I.tInt I.tU32 (.tmp (ts+8)),none⟩,cal (ts+10) I.aUvar [ts+4,ts+9],asg 1 (ts+10)]
    [[],[],[0,1],[],[],[3,4],[5],[6],[2,7],[8,8,0,1,2,3,4,5,6,7,8]])
   (.seq (.reg [⟨some (v+4),.assign (.const (.bool true)),none⟩]) (.goto l))) .skip)
def aKnScope (I:Ids) (v tc l:Nat) (val:SC) (body:List SC) (ts:Nat):SC :=
 .scope (seqs ([val,.reg [mv (tc+4) 1,⟨some (tc+5),.call ⟨.value (.func I.aUvar),#[.tmp (tc+4),.const (.int .u32 0)],#[]⟩,none⟩,asg 1 (tc+5)],
  .reg [⟨some (v+4),.assign (.const (.bool false)),none⟩],.reg [mv (tc+6) 1,lenOp (tc+7) I.tU8s (tc+6),asg (v+5) (tc+7)],.label l] ++ (body ++ [aKnSized I v ts l])))
def aKnLoop (I:Ids) (v tl b:Nat) (scope:SC) (tend:Nat):SC :=
 .seq (.reg [mv tl v,lenOp (tl+1) I.tU32s tl,⟨some (tl+2),.move (.const (.int .i64 0)),none⟩])
  (.block b (.loop (.seq (.reg [bin .lss (tl+3) I.tInt (tl+2) (.tmp (tl+1))]) (.seq (.cond (.tmp (tl+3)) .skip (.exit b))
   (.seq (.block (b+1) (.seq (.reg [⟨some (tl+4),.indexAddr I.tU32s (.tmp tl) (.tmp (tl+2)),none⟩,ld (tl+5) I.tU32 (tl+4),asg (v+2) (tl+5)]) (.seq (.reg [mv (tl+6) (v+2)])
     (.block (b+2) (.seq (.reg [⟨some (tl+8),.binOp .eql I.tU32 (.tmp (tl+6)) (.const (.int .u32 0)) I.tU32,none⟩,asg (tl+7) (tl+8)]) (.cond (.tmp (tl+7)) scope .skip))))))
    (.reg [bin .add tend I.tInt (tl+2) (.const (.int .i64 1)),mv (tl+2) tend]))))))
def aKnSC (I:Ids) (c:Ctx) (S p f v t b l n:Nat) (cond val:SC) (body:List SC) (ts:Nat):SC :=
 .seq (.reg [mv t c.flex]) (.cond (.tmp t) (seqs [
  .reg [⟨some v,.assign (.const (.slice none 0 0)),none⟩],
  .seq cond (.cond (.tmp (t+n)) (.reg [mv (t+n+1) v,⟨some (t+n+2),.buildSlice I.tU32s 1 #[(0,.const (.int .u32 0))],none⟩,
   ⟨some (t+n+3),.call ⟨.builtin .append,#[.tmp (t+n+1),.tmp (t+n+2)],#[I.tU32s,I.tU32s]⟩,none⟩,asg v (t+n+3)]) .skip),
  .reg [mv (t+n+4) 1,mv (t+n+5) v,lenOp (t+n+6) I.tU32s (t+n+5),mv (t+n+7) p,nilc (t+n+8) (t+n+7),fa (t+n+9) S (t+n+8) f,cal (t+n+10) I.tagsLen [t+n+9],
   ⟨some (t+n+11),.binOp .add I.tInt (.tmp (t+n+6)) (.tmp (t+n+10)) I.tInt,none⟩,⟨some (t+n+12),.convert I.tInt I.tU32 (.tmp (t+n+11)),none⟩,cal (t+n+13) I.aUvar [t+n+4,t+n+12],asg 1 (t+n+13)],
  aKnLoop I v (t+n+14) b (aKnScope I v (t+n+23) l val body ts) (ts+11),
  .reg [mv (ts+12) p,nilc (ts+13) (ts+12),fa (ts+14) S (ts+13) f,mv (ts+15) 1,cal (ts+16) I.tagsEach [ts+14,ts+15],asg 1 (ts+16)]]) .skip)
mutual
def nV:Ty->Nat
 | .prim _=>1
 | .list _ _ _ of=>2+nV of
 | .struct _ _ _ _ fs kn=>1+nVs fs+nVk kn
def nVs:Fs->Nat
 | .nil=>0
 | .cons h ty r=>nV ty+(if h.enum then 1 else 0)+nVs r
def nVk:Fs->Nat
 | .nil=>0
 | .cons _ ty _=>6+nVc ty
def nVc:Ty->Nat
 | .prim _=>0
 | .list _ _ _ of=>1+nV of
 | .struct _ _ _ _ fs _=>Fs.len fs
end
mutual
def nB:Ty->Nat
 | .prim _=>0
 | .list _ _ _ of=>2+nB of
 | .struct _ _ _ _ fs kn=>nBs fs+nBk kn
def nBs:Fs->Nat
 | .nil=>0
 | .cons _ ty r=>nB ty+nBs r
def nBk:Fs->Nat
 | .nil=>0
 | .cons _ ty _=>3+nBc ty
def nBc:Ty->Nat
 | .list _ _ _ of=>2+nB of
 | _=>0
end
mutual
def aET (c:Ctx):Ty->Nat
 | .prim k=>4+aAppT c k
 | .list _ _ _ _=>0
 | .struct _ _ _ tags fs kn=>3+aFT c fs+aKT c tags kn
def aVT (c:Ctx) (h:Hd):Ty->Nat
 | .prim k=>4+(if h.enum then 1 else 0)+aAppT c k
 | .list _ _ _ of=>4+aLenT c (decide (0<=h.null))+5+aET c of+1
 | .struct _ _ _ tags fs kn=>(if 0<=h.null then 12 else 3)+aFT c fs+aKT c tags kn
def aFT (c:Ctx):Fs->Nat
 | .nil=>0
 | .cons h ty r=>vTmps h+aVT c h ty+aFT c r
def aKT (c:Ctx) (tags:Option (Nat × Nat)):Fs->Nat
 | .nil=>tagsT tags
 | .cons _ ty _=>aKTc c ty
def aKTc (c:Ctx):Ty->Nat
 | .prim _=>0
 | .list _ _ _ of=>60+aLenT c false+aET c of
 | .struct _ _ _ _ fs _=>65+5 * Fs.len fs
end
mutual
def aElem (I:Ids) (c:Ctx) (T E s i v t b:Nat):Ty->List SC
 | .prim k =>
  if k=.uuid then
   [.reg [mv t s,mv (t+1) i,⟨some (t+2),.indexAddr T (.tmp t) (.tmp (t+1)),none⟩,ld (t+3) E (t+2),⟨some v,.alloc E,none⟩,⟨none,.store E (.tmp v) (.tmp (t+3)),none⟩],.reg [mv (t+4) 1,ld (t+5) E v,cal (t+6) I.aUuid [t+4,t+5],asg 1 (t+6)]] else
  [.reg [mv t s,mv (t+1) i,⟨some (t+2),.indexAddr T (.tmp t) (.tmp (t+1)),none⟩,ld (t+3) E (t+2),asg v (t+3)],aApp I c false k v (t+4)]
 | .list _ _ _ _=>[.other]
 | .struct S _ _ tags fs kn =>
  .reg [mv t s,mv (t+1) i,⟨some (t+2),.indexAddr T (.tmp t) (.tmp (t+1)),none⟩,asg v (t+2)] :: (aFs I c S v (v+1) (t+3) b fs ++ aTagsK I c S v tags (v+1+nVs fs) (t+3+aFT c fs) (b+nBs fs) 0 kn)
def aVal (I:Ids) (c:Ctx) (S p:Nat) (h:Hd) (v t b:Nat):Ty->SC
 | .prim k =>
  if k=.uuid then
   .seq (.reg [mv t p,nilc (t+1) t,fa (t+2) S (t+1) h.idx,ld (t+3) h.typ (t+2),⟨some v,.alloc h.typ,none⟩,⟨none,.store h.typ (.tmp v) (.tmp (t+3)),none⟩])
    (.reg [mv (t+4) 1,ld (t+5) h.typ v,cal (t+6) I.aUuid [t+4,t+5],asg 1 (t+6)])
  else if h.enum then
   .seq (aLoad S p h.idx h.typ v t) (.seq (.reg [mv (t+4) v,asg (v+1) (t+4)]) (aApp I c (decide (0<=h.null)) k (v+1) (t+5)))
  else .seq (aLoad S p h.idx h.typ v t) (aApp I c (decide (0<=h.null)) k v (t+4))
 | .list T E _ of =>
  .seq (aLoad S p h.idx h.typ v t) (.seq (aLen I c (decide (0<=h.null)) T v (t+4))
   (aLoop T v (v+1) (t+4+aLenT c (decide (0<=h.null))) b (aET c of) (aElem I c T E v (v+1) (v+2) (t+4+aLenT c (decide (0<=h.null))+5) (b+2) of) I.tInt))
 | .struct S' _ _ tags fs kn =>
  if 0<=h.null then
   .seq (aLoad S p h.idx h.typ v t) (.seq (.reg [mv (t+4) v,bin .eql (t+5) h.typ (t+4) (.const (.pointer none))])
    (.cond (.tmp (t+5)) (aByte I 255 (t+6)) (seqs (aByte I 1 (t+9) :: (aFs I c S' v (v+1) (t+12) b fs ++ aTagsK I c S' v tags (v+1+nVs fs) (t+12+aFT c fs) (b+nBs fs) 0 kn)))))
  else
   seqs (.reg [mv t p,nilc (t+1) t,fa (t+2) S (t+1) h.idx,asg v (t+2)] :: (aFs I c S' v (v+1) (t+3) b fs ++ aTagsK I c S' v tags (v+1+nVs fs) (t+3+aFT c fs) (b+nBs fs) 0 kn))
def aFs (I:Ids) (c:Ctx) (S p v t b:Nat):Fs->List SC
 | .nil=>[]
 | .cons h ty r =>
  vCond I c h t (aVal I c S p h v (t+vTmps h) b ty) ::
   aFs I c S p (v+nV ty+(if h.enum then 1 else 0)) (t+vTmps h+aVT c h ty) (b+nB ty) r
def aTagsK (I:Ids) (c:Ctx) (S p:Nat) (tags:Option (Nat × Nat)) (v t b l:Nat):Fs->List SC
 | .nil=>aTagsL I c S p tags t
 | .cons h ty _=>aKn I c S p tags h v t b l ty
def aKn (I:Ids) (c:Ctx) (S p:Nat) (tags:Option (Nat × Nat)) (h:Hd) (v t b l:Nat):Ty->List SC
 | .prim _=>[.other]
 | .list T E _ of=>[aKnSC I c S p (tagF tags) v t b l 6 (aKnCondL I S p h T t) (aLoad S p h.idx h.typ (v+3) (t+29))
   [aLen I c false T (v+3) (t+37),aLoop T (v+3) (v+6) (t+37+aLenT c false) (b+3) (aET c of) (aElem I c T E (v+3) (v+6) (v+7) (t+42+aLenT c false) (b+5) of) I.tInt] (t+43+aLenT c false+aET c of)]
 | .struct S' _ _ tags' fs _=>[aKnSC I c S p (tagF tags) v t b l 7 (aKnCondS I S p h S' t) (aKnLoadS S p h S' (v+3) (t+30))
   (aFlat I S' (v+3) (v+6) (t+38) fs ++ [aFlatTags I c S' (v+3) (tagF tags') (t+38+5 * Fs.len fs)]) (t+48+5 * Fs.len fs)]
end
def ctxOf:Option Int->Ctx
 | none=>⟨5,5,true,0⟩
 | some _=>⟨5,6,false,0⟩
def v0Of:Option Int->Nat
 | none=>6
 | some _=>7
def t1Of (t:Nat):Option Int->Nat
 | none=>t+5
 | some _=>t+8
def flexPart (I:Ids) (t:Nat):Option Int->List SC
 | none=>[]
 | some n=>[.reg [mv (t+5) 5,bin .geq (t+6) I.tI16 (t+5) (.const (.int .i16 n)),asg 6 (t+6)],.reg [mv (t+7) 6]]
def aTop (I:Ids) (S t:Nat) (flex:Option Int) (tags:Option (Nat × Nat)) (fs kn:Fs):SC :=
 seqs ([.reg [⟨some 4,.assign (.const (.slice none 0 0)),none⟩],aLoad S 0 0 I.tI16 5 t,.reg [mv (t+4) 5]] ++ (flexPart I t flex ++
  ((aFs I (ctxOf flex) S 0 (v0Of flex) (t1Of t flex) 0 fs ++ aTagsK I (ctxOf flex) S 0 tags (v0Of flex+nVs fs) (t1Of t flex+aFT (ctxOf flex) fs) (nBs fs) 1 kn) ++
  [.reg [mv (t1Of t flex+aFT (ctxOf flex) fs+aKT (ctxOf flex) tags kn) 1,asg 4 (t1Of t flex+aFT (ctxOf flex) fs+aKT (ctxOf flex) tags kn)],.ret])))
end Go.Proofs.YtdnpafdgglpagaaGreatDoor.K
namespace Go.Proofs.YtdnpafdgglpagaaGreatDoor.K
open Go Go.RowKit Go.Proofs.YtdnpafdgglpagaaGreatDoor.T
set_option linter.unusedVariables false
set_option linter.unusedSimpArgs false
def cell (u:UInt8):Value:=.int .u8 u.toNat
def cellsOf (bs:Bytes):List Value:=bs.map cell
theorem cellsOf_append (a b:Bytes):cellsOf (a ++ b)=cellsOf a ++ cellsOf b:=by simp [cellsOf]
theorem cLen (a:Bytes):(cellsOf a).length=a.length:=by simp [cellsOf]
def BytesAt (w:World) (F:Nat->Prop) (base:Option Addr) (bs:Bytes):Prop :=
 bs=[]∨∃ b o,base=some ⟨b,o,none⟩/\F b/\∀ j u,bs[j]?=some u->w.cell? ⟨b,o+j,none⟩=some (cell u)
def PVal (w:World) (F:Nat->Prop) (nul:Bool) (t:Tree):PK->Value->Prop
 | .bool,v=>∃ x,v=.bool x/\t.n % 2=if x then 1 else 0
 | .i8,v=>v=.int .i8 t.n
 | .i16,v=>v=.int .i16 t.n
 | .i32,v=>v=.int .i32 t.n
 | .i64,v=>v=.int .i64 t.n
 | .u16,v=>v=.int .u16 t.n
 | .uuid,_=>False
 | .str,v =>
  if nul then (if t.null then v=.pointer none
   else ∃ b' o' s,v=.pointer (some ⟨b',o',none⟩)/\F b'/\w.cell? ⟨b',o',none⟩=some (.string s)/\s.data.toList=t.s/\t.s.length<=most)
  else ∃ s,v=.string s/\s.data.toList=t.s/\t.s.length<=most
 | .bytes,v=>∃ base cap,v=.slice base (if nul && t.null then 0 else t.s.length) cap /\
   (if nul && t.null then base=none else BytesAt w F base t.s/\t.s.length<=most/\(nul=true->base ≠ none))
def uuidOf (t:Tree):Bytes:=(t.s ++ List.replicate 16 0).take 16
def HPrim (w:World) (F:Nat->Prop) (nul:Bool) (b o:Nat) (t:Tree) (k:PK):Prop :=
 if k=.uuid then ∀ j u,(uuidOf t)[j]?=some u->w.cell? ⟨b,o+j,none⟩=some (cell u)
 else ∃ v,w.cell? ⟨b,o,none⟩=some v/\PVal w F nul t k v
def TagsEs (w:World) (F:Nat->Prop) (es:Array MapEntry) (clock:Nat) (u:List (Nat × Bytes)):Prop :=
 (es.toList.map (·.key)).Perm (u.map fun x=>Value.int .u32 (x.1:Int))/\MapKept.Stamped es clock /\
 ∀ e ∈ es.toList,∀ x ∈ u,e.key=.int .u32 (x.1:Int)->∃ base cap,e.val=.slice base x.2.length cap/\BytesAt w F base x.2
def HTags (G:List (Nat × Bytes)->Prop) (w:World) (F:Nat->Prop) (b o:Nat) (u:List (Nat × Bytes)):Prop :=
 G u/\unknown u=u/\u.length<=most/\(∀ x ∈ u,x.1 < 4294967296/\x.2.length<=most) /\
 ((w.cell? ⟨b,o,none⟩=some (.map none)/\u=[]) ∨
  ∃ r es clock,w.cell? ⟨b,o,none⟩=some (.map (some r))/\F r/\w.heap[r]?=some (.map es clock)/\u ≠ []/\TagsEs w F es clock u)
def rngFs:Fs->List Tree->Prop
 | .nil,_=>True
 | .cons _ _ r,ts=>(-2147483648<=(ts.headD Tree.zero).n/\(ts.headD Tree.zero).n < 2147483648)/\rngFs r ts.tail
def rngTy (ty:Ty) (t:Tree):Prop:=match ty with | .struct _ _ _ _ fs _=>rngFs fs t.l | _=>True
mutual
def HTy (G:List (Nat × Bytes)->Prop) (w:World) (F:Nat->Prop) (ver:Int) (flex:Bool):Ty->Bool->Nat->Nat->Tree->Prop
 | .prim k,nul,b,o,t=>HPrim w F nul b o t k
 | .list _ _ size of,nul,b,o,t=>∃ base cap,w.cell? ⟨b,o,none⟩=some (.slice base (if nul && t.null then 0 else t.l.length) cap) /\
   (if nul && t.null then base=none else
    t.l.length<=most/\(nul=true->base ≠ none) /\
    ((base=none/\t.l=[])∨∃ b' o',base=some ⟨b',o',none⟩/\F b'/\∀ i x,t.l[i]?=some x->HTy G w F ver flex of false b' (o'+i * size) x))
 | .struct _ _ _ tags fs kn,nul,b,o,t =>
  if nul then
   (if t.null then w.cell? ⟨b,o,none⟩=some (.pointer none)
    else ∃ b' o',w.cell? ⟨b,o,none⟩=some (.pointer (some ⟨b',o',none⟩))/\F b'/\HFs G w F ver flex fs b' o' t.l/\(match tags with | none=>t.u=[] | some (_,off)=>flex=true->HTags G w F b' (o'+off) t.u)/\HKn G w F ver flex kn b' o' (t.l.drop (Fs.len fs)) t.u)
  else HFs G w F ver flex fs b o t.l/\(match tags with | none=>t.u=[] | some (_,off)=>flex=true->HTags G w F b (o+off) t.u)/\HKn G w F ver flex kn b o (t.l.drop (Fs.len fs)) t.u
def HFs (G:List (Nat × Bytes)->Prop) (w:World) (F:Nat->Prop) (ver:Int) (flex:Bool):Fs->Nat->Nat->List Tree->Prop
 | .nil,_,_,_=>True
 | .cons h ty r,b,o,ts=>(h.has ver=true->HTy G w F ver flex ty (decide (0<=h.null)) b (o+h.off) (ts.headD Tree.zero))/\HFs G w F ver flex r b o ts.tail
def HKn (G:List (Nat × Bytes)->Prop) (w:World) (F:Nat->Prop) (ver:Int) (flex:Bool):Fs->Nat->Nat->List Tree->List (Nat × Bytes)->Prop
 | .nil,_,_,_,_=>True
 | .cons h ty _,b,o,ks,u=>flex=true->HTy G w F ver flex ty false b (o+h.off) (ks.headD Tree.zero)/\rngTy ty (ks.headD Tree.zero)/\∀ x ∈ u,1<=x.1
end
def FnOK (P : Program) (f : FuncId) : Prop := ∃ fn, P.funcs[f]? = some fn /\ fn.body.isSome = true /\ (fn.name == "runtime.NumGoroutine") = false
def Own (tU8:Nat) (w:World) (B:Nat) (dv:Value) (xs:Bytes):Prop:=w.ownsRow B tU8 1 dv xs.length (cellsOf xs)
def lim:Nat:=4294967295
def AP (P:Program) (tU8:Nat) (f:FuncId) (args:Array Value) (pre:World->Nat->Prop) (out:Bytes):Prop :=
 FnOK P f/\∀ (w:World) (B:Nat) (dv:Value) (xs:Bytes),Own tU8 w B dv xs->B<=w.heap.size->xs.length+out.length<=lim->pre w B ->
  Calls P f (#[dv] ++ args) w fun e w'=>∃ dv',e=.returned dv'/\Own tU8 w' B dv' (xs ++ out)/\Below B w w'/\B<=w'.heap.size
def BelG (B:Nat) (dv dv':Value) (w w':World):Prop:=Below B w w'/\(∀ k,k < w.heap.size->some k ≠ dv.ownBlock->w'.heap[k]?=w.heap[k]?)/\(dv'.ownBlock=dv.ownBlock∨∃ b,dv'.ownBlock=some b/\w.heap.size<=b)
theorem BelG.trans {B:Nat} {d1 d2 d3:Value} {w1 w2 w3:World} (h:BelG B d1 d2 w1 w2) (h':BelG B d2 d3 w2 w3):BelG B d1 d3 w1 w3:=by
 have hs:=h.1.size
 refine ⟨h.1.trans h'.1,fun k hk hne=>?_,?_⟩
 ·rw [h'.2.1 k (by omega) ?_]
  ·exact h.2.1 k hk hne
  ·rcases h.2.2 with e | ⟨b,e,hb⟩
   ·rw [e];exact hne
   ·rw [e];intro e2;cases e2;omega
 ·rcases h'.2.2 with e | ⟨b,e,hb⟩
  ·rcases h.2.2 with e2 | ⟨b,e2,hb⟩
   ·exact .inl (e.trans e2)
   ·exact .inr ⟨b,e.trans e2,hb⟩
  ·exact .inr ⟨b,e,by omega⟩
theorem BelG.alloc {B:Nat} {d d':Value} {w w':World} {o:Obj} (hB:B<=w.heap.size) (h:BelG B d d' (w.alloc o) w'):BelG B d d' w w':=by
 have hs:=h.1.size
 have e1:(w.alloc o).heap.size=w.heap.size+1:=by simp
 refine ⟨((Below.refl B w).alloc hB _).trans h.1,fun k hk hne=>?_,?_⟩
 ·rw [h.2.1 k (by omega) hne]
  exact Below.heap_alloc w _ k hk
 ·rcases h.2.2 with e | ⟨b,e,hb⟩
  ·exact .inl e
  ·exact .inr ⟨b,e,by omega⟩
def AP2 (P:Program) (tU8:Nat) (f:FuncId) (args:Array Value) (out:Bytes):Prop :=
 FnOK P f/\∀ (w:World) (B:Nat) (dv:Value) (xs:Bytes),Own tU8 w B dv xs->B<=w.heap.size->xs.length+out.length<=lim ->
  Calls P f (#[dv] ++ args) w fun e w'=>∃ dv',e=.returned dv'/\Own tU8 w' B dv' (xs ++ out)/\BelG B dv dv' w w'/\B<=w'.heap.size
structure KA (G:List (Nat × Bytes)->Prop) (P:Program) (I:Ids) (tU8:Nat):Prop where
 bool:I.aBool ≠ 0->∀ x:Bool,AP P tU8 I.aBool #[.bool x] (fun _ _=>True) [if x then 1 else 0]
 i8:I.aI8 ≠ 0->∀ n:Int,AP P tU8 I.aI8 #[.int .i8 n] (fun _ _=>True) (fixed n 1)
 i16:I.aI16 ≠ 0->∀ n:Int,AP P tU8 I.aI16 #[.int .i16 n] (fun _ _=>True) (fixed n 2)
 i32:I.aI32 ≠ 0->∀ n:Int,AP P tU8 I.aI32 #[.int .i32 n] (fun _ _=>True) (fixed n 4)
 i32b:I.aI32 ≠ 0->∀ n:Int,AP2 P tU8 I.aI32 #[.int .i32 n] (fixed n 4)
 i64:I.aI64 ≠ 0->∀ n:Int,AP P tU8 I.aI64 #[.int .i64 n] (fun _ _=>True) (fixed n 8)
 u16:I.aU16 ≠ 0->∀ n:Int,AP P tU8 I.aU16 #[.int .u16 n] (fun _ _=>True) (fixed n 2)
 uuid:I.aUuid ≠ 0->∀ bs:Bytes,bs.length=16->AP P tU8 I.aUuid #[.agg (cellsOf bs).toArray] (fun _ _=>True) bs
 str:I.aStr ≠ 0->∀ s:ByteArray,s.data.toList.length<=most->AP P tU8 I.aStr #[.string s] (fun _ _=>True) (counted false false s.data.toList.length 2 ++ s.data.toList)
 cstr:I.aCStr ≠ 0->∀ s:ByteArray,s.data.toList.length<=most->AP P tU8 I.aCStr #[.string s] (fun _ _=>True) (counted true false s.data.toList.length 2 ++ s.data.toList)
 nstr0:I.aNStr ≠ 0->AP P tU8 I.aNStr #[.pointer none] (fun _ _=>True) (counted false true 0 2)
 nstr:I.aNStr ≠ 0->∀ (b o:Nat) (s:ByteArray),s.data.toList.length<=most->AP P tU8 I.aNStr #[.pointer (some ⟨b,o,none⟩)] (fun w B=>b < B/\w.cell? ⟨b,o,none⟩=some (.string s)) (counted false false s.data.toList.length 2 ++ s.data.toList)
 cnstr0:I.aCNStr ≠ 0->AP P tU8 I.aCNStr #[.pointer none] (fun _ _=>True) (counted true true 0 2)
 cnstr:I.aCNStr ≠ 0->∀ (b o:Nat) (s:ByteArray),s.data.toList.length<=most->AP P tU8 I.aCNStr #[.pointer (some ⟨b,o,none⟩)] (fun w B=>b < B/\w.cell? ⟨b,o,none⟩=some (.string s)) (counted true false s.data.toList.length 2 ++ s.data.toList)
 bytes:I.aBytes ≠ 0->∀ (base:Option Addr) (cap:Nat) (bs:Bytes),bs.length<=most->AP P tU8 I.aBytes #[.slice base bs.length cap] (fun w B=>BytesAt w (· < B) base bs) (counted false false bs.length 4 ++ bs)
 cbytes:I.aCBytes ≠ 0->∀ (base:Option Addr) (cap:Nat) (bs:Bytes),bs.length<=most->AP P tU8 I.aCBytes #[.slice base bs.length cap] (fun w B=>BytesAt w (· < B) base bs) (counted true false bs.length 4 ++ bs)
 nbytes:I.aNBytes ≠ 0->∀ (base:Option Addr) (cap:Nat) (bs:Bytes),bs.length<=most->base ≠ none->AP P tU8 I.aNBytes #[.slice base bs.length cap] (fun w B=>BytesAt w (· < B) base bs) (counted false false bs.length 4 ++ bs)
 nbytes0:I.aNBytes ≠ 0->∀ (cap:Nat),AP P tU8 I.aNBytes #[.slice none 0 cap] (fun _ _=>True) (counted false true 0 4)
 cnbytes:I.aCNBytes ≠ 0->∀ (base:Option Addr) (cap:Nat) (bs:Bytes),bs.length<=most->base ≠ none->AP P tU8 I.aCNBytes #[.slice base bs.length cap] (fun w B=>BytesAt w (· < B) base bs) (counted true false bs.length 4 ++ bs)
 cnbytes0:I.aCNBytes ≠ 0->∀ (cap:Nat),AP P tU8 I.aCNBytes #[.slice none 0 cap] (fun _ _=>True) (counted true true 0 4)
 arr:I.aArr ≠ 0->∀ n:Nat,n<=most->AP P tU8 I.aArr #[.int .i64 n] (fun _ _=>True) (counted false false n 4)
 carr:I.aCArr ≠ 0->∀ n:Nat,n<=most->AP P tU8 I.aCArr #[.int .i64 n] (fun _ _=>True) (counted true false n 4)
 narr:I.aNArr ≠ 0->∀ (n:Nat) (x:Bool),n<=most->AP P tU8 I.aNArr #[.int .i64 n,.bool x] (fun _ _=>True) (counted false x n 4)
 cnarr:I.aCNArr ≠ 0->∀ (n:Nat) (x:Bool),n<=most->AP P tU8 I.aCNArr #[.int .i64 n,.bool x] (fun _ _=>True) (counted true x n 4)
 uvar:I.aUvar ≠ 0->∀ n:Nat,n < 4294967296->AP P tU8 I.aUvar #[.int .u32 n] (fun _ _=>True) (uvarint n)
 uvar2:I.aUvar ≠ 0->∀ n:Nat,n < 4294967296->AP2 P tU8 I.aUvar #[.int .u32 n] (uvarint n)
 tagsLen:I.tagsLen ≠ 0->FnOK P I.tagsLen/\∀ (w:World) (F:Nat->Prop) (b o:Nat) (u:List (Nat × Bytes)),HTags G w F b o u ->
  Calls P I.tagsLen #[.pointer (some ⟨b,o,none⟩)] w fun e w'=>e=.returned (.int .i64 u.length)/\w=w'
 tagsEach:I.tagsEach ≠ 0->FnOK P I.tagsEach/\∀ (w:World) (B b o:Nat) (u:List (Nat × Bytes)) (dv:Value) (xs:Bytes),HTags G w (· < B) b o u->b < w.heap.size->dv.ownBlock ≠ some b->Own tU8 w B dv xs->B<=w.heap.size ->
  xs.length+(u.flatMap wTag).length<=lim ->
  Calls P I.tagsEach #[.pointer (some ⟨b,o,none⟩),dv] w fun e w'=>∃ dv',e=.returned dv'/\Own tU8 w' B dv' (xs ++ u.flatMap wTag)/\BelG B dv dv' w w'/\B<=w'.heap.size
 kNew:I.kNew ≠ 0->FnOK P I.kNew/\∀ w:World,Calls P I.kNew #[] w fun e w'=>e=.returned (.agg #[.int .i32 (-1),.int .i32 (-1),.map none])/\Below w.heap.size w w'
 kSame:I.kSame ≠ 0->FnOK P I.kSame/\∀ (w:World) (a b:Int) (m:Option Nat),Calls P I.kSame #[.agg #[.int .i32 a,.int .i32 b,.map m],.agg #[.int .i32 (-1),.int .i32 (-1),.map none]] w fun e w'=>e=.returned (.bool (decide (a=-1/\b=-1/\m=none)))/\Below w.heap.size w w'
end Go.Proofs.YtdnpafdgglpagaaGreatDoor.K
namespace Go.Proofs.YtdnpafdgglpagaaGreatDoor.K
open Go Go.RowKit Go.Proofs.YtdnpafdgglpagaaGreatDoor.T
attribute [local simp] eTm eCo pNo gTp gTn
set_option linter.unusedVariables false
set_option linter.unusedSimpArgs false
structure Fix where
 P:Program
 I:Ids
 tU8:Nat
 G:List (Nat × Bytes)->Prop
 c:Ctx
 w0:World
 B:Nat
 ver:Int
 flex:Bool
 T0:Nat
 N:Nat
structure Fix.ok (X:Fix):Prop where
 ka:KA X.G X.P X.I X.tU8
 ver1:X.c.ver ≠ 1
 flex1:X.c.flex ≠ 1
 verT:X.c.ver < X.T0
 flexT:X.c.flex < X.T0
 oneT:1 < X.T0
 never:X.c.never=true->X.flex=false
 size:X.B<=X.w0.heap.size
 hver:0<=X.ver
 mixed:X.P.follows .mixedOrders=true
structure AInv (X:Fix) (a:Act) (w:World) (xs:Bytes):Prop where
 size:a.tmps.size=X.N
 defers:a.defers=[]
 ver:getT a X.c.ver=.int .i16 X.ver
 flex:X.c.never=false->getT a X.c.flex=.bool X.flex
 own:Own X.tU8 w X.B (getT a 1) xs
 below:Below X.B X.w0 w
 heap:X.B<=w.heap.size
def Same (X:Fix) (a a':Act) (lo t:Nat):Prop:=∀ s,s ≠ 1->(s < lo∨(X.T0<=s/\s < t))->getT a' s=getT a s
theorem Same.refl (X:Fix) (a:Act) (lo t:Nat):Same X a a lo t:=fun _ _ _=>rfl
theorem Same.trans {X:Fix} {a b c:Act} {lo t lo' t':Nat} (h:Same X a b lo t) (h':Same X b c lo' t') (hl:lo<=lo') (ht:t<=t'):Same X a c lo t :=
 fun s h1 h2=>(h' s h1 (by omega)).trans (h s h1 h2)
theorem Same.mono {X:Fix} {a b:Act} {lo t lo' t':Nat} (h:Same X a b lo' t') (hl:lo<=lo') (ht:t<=t'):Same X a b lo t :=
 fun s h1 h2=>h s h1 (by omega)
def AFragP (X:Fix) (s:SC) (pre post:Act->Prop) (lo t:Nat) (out:Bytes):Prop :=
 ∀ (a:Act) (w:World) (xs:Bytes) (Q:Exit->Act->World->Prop),AInv X a w xs->pre a->xs.length+out.length<=lim ->
  (∀ a' w',AInv X a' w' (xs ++ out)->Same X a a' lo t->post a'->Q .normal a' w')->s.wp X.P Q a w
abbrev AFrag (X:Fix) (s:SC) (pre:Act->Prop) (lo t:Nat) (out:Bytes):Prop:=AFragP X s pre (fun _=>True) lo t out
section
variable {X:Fix} {a:Act} {w:World} {xs:Bytes}
theorem AInv.step {a':Act} {w':World} {ys:Bytes} {lo t:Nat} (hX:X.ok) (h:AInv X a w xs) (hs:a'.tmps.size=a.tmps.size) (hd:a'.defers=a.defers) (hsame:Same X a a' lo t) (hlv:X.c.ver < lo) (hlf:X.c.flex < lo)
  (ho:Own X.tU8 w' X.B (getT a' 1) ys) (hb:Below X.B w w') (hh:X.B<=w'.heap.size):AInv X a' w' ys :=
 ⟨hs.trans h.size,hd.trans h.defers,(hsame _ hX.ver1 (.inl hlv)).trans h.ver,fun hn=>(hsame _ hX.flex1 (.inl hlf)).trans (h.flex hn),ho,h.below.trans hb,hh⟩
theorem oNo {P:Program} {all:List SOp} {s:SOp} {r:List SOp} {K:Act->World->Prop} (hg:s.guard=none) (h:opw P s a w (opsw P all r K)):opsw P all (s :: r) K a w:=by
 unfold opsw
 rw [hg]
 exact h
theorem ops_mv {P:Program} {all:List SOp} {t s:Nat} {r:List SOp} {K:Act->World->Prop} (h:opsw P all r K (a.put (some t) (getT a s)) w):opsw P all (mv t s :: r) K a w :=
 oNo rfl (opw_move h)
theorem ops_asg {P:Program} {all:List SOp} {t s:Nat} {r:List SOp} {K:Act->World->Prop} (h:opsw P all r K (a.put (some t) (getT a s)) w):opsw P all (asg t s :: r) K a w :=
 oNo rfl (opw_assign h)
theorem ops_nilc {P:Program} {all:List SOp} {t s:Nat} {ad:Addr} {r:List SOp} {K:Act->World->Prop} (hx:getT a s=.pointer (some ad)) (h:opsw P all r K (a.put (some t) (.pointer (some ad))) w):opsw P all (nilc t s :: r) K a w :=
 oNo rfl (opw_nilCheck hx h)
theorem ops_fa {P:Program} {all:List SOp} {t S s f off b o:Nat} {r:List SOp} {K:Act->World->Prop} (hS:fieldB P S f off=true) (hx:getT a s=.pointer (some ⟨b,o,none⟩)) (h:opsw P all r K (a.put (some t) (.pointer (some ⟨b,o+off,none⟩))) w):opsw P all (fa t S s f :: r) K a w :=
 oNo rfl (opw_field hS hx h)
theorem ops_ld {P:Program} {all:List SOp} {t T s:Nat} {ad:Addr} {v:Value} {r:List SOp} {K:Act->World->Prop} (hT:oneB P T=true) (hx:getT a s=.pointer (some ad)) (hc:w.cell? ad=some v) (h:opsw P all r K (a.put (some t) v) w):opsw P all (ld t T s :: r) K a w :=
 oNo rfl (opw_load_one hT hx hc h)
theorem ops_len {P:Program} {all:List SOp} {t T E n s len cap:Nat} {base:Option Addr} {r:List SOp} {K:Act->World->Prop} (hT:sliceB P T E n=true) (hx:getT a s=.slice base len cap) (h:opsw P all r K (a.put (some t) (.int .i64 (len:Int))) w):opsw P all (lenOp t T s :: r) K a w :=
 oNo rfl (opw_len hT hx rfl h)
theorem ops_cal {P:Program} {all:List SOp} {t f:Nat} {args:List Nat} {r:List SOp} {K:Act->World->Prop} {R:Ending->World->Prop} (hf:FnOK P f) (hc:Calls P f ((args.map (getT a)).toArray) w R)
  (hR:∀ e w',R e w'->∃ v,e=.returned v/\opsw P all r K (a.put (some t) v) w'):opsw P all (cal t f args :: r) K a w:=by
 obtain ⟨fn,h1,h2,h3⟩:=hf
 refine oNo rfl (opw_call (R:=R) h1 h2 h3 ?_ hR)
 have:((List.map Operand.tmp args).toArray).map a.eval=((args.map (getT a)).toArray):=by simp [eTm,Function.comp_def]
 rw [this]
 exact hc
theorem oNi {P:Program} {all:List SOp} {K:Act->World->Prop} (h:K a w):opsw P all [] K a w:=h
theorem aCall_ok {f x t:Nat} {out:Bytes} {v:Value} {pre:World->Nat->Prop} (hX:X.ok) (hAP:AP X.P X.tU8 f #[v] pre out) (hxt:x < X.T0/\x ≠ 1) (ht:X.T0<=t) (htN:t+3<=X.N)
  (hpre:∀ w,Below X.B X.w0 w->pre w X.B):AFrag X (aCall f x t) (fun a=>getT a x=v) X.T0 t out:=by
 intro a w xs Q hi hx hl hQ
 have h1:=hX.oneT
 have hsz:=hi.size
 refine wRg ?_
 refine ops_mv (ops_mv ?_)
 refine ops_cal hAP.1 (R:=fun e w'=>∃ dv',e=.returned dv'/\Own X.tU8 w' X.B dv' (xs ++ out)/\Below X.B w w'/\X.B<=w'.heap.size) ?_ ?_
 ·have hc:=hAP.2 w X.B (getT a 1) xs hi.own hi.heap hl (hpre w hi.below)
  have e:(([t,t+1].map (getT ((a.put (some t) (getT a 1)).put (some (t+1)) (getT (a.put (some t) (getT a 1)) x))):List Value)).toArray=#[getT a 1] ++ #[v]:=by
   simp (disch:=(try simp only [sPu]);omega) [gTp,gTn,hx]
  rw [e]
  exact hc
 ·rintro e w' ⟨dv',rfl,ho,hb,hh⟩
  refine ⟨dv',rfl,ops_asg (oNi ?_)⟩
  refine hQ _ _ (hi.step hX (lo:=X.T0) (t:=t) (by simp [sPu]) (by simp [dPu]) ?_ hX.verT hX.flexT ?_ hb hh) ?_ trivial
  ·intro s hs1 hs2
   simp (disch:=(try simp only [sPu]);omega) [gTn]
  ·simp (disch:=(try simp only [sPu]);omega) [gTp]
   exact ho
  ·intro s hs1 hs2
   simp (disch:=(try simp only [sPu]);omega) [gTn]
theorem AFragP.seq {x y:SC} {pre mid pre2 post:Act->Prop} {lo t lo2 t2:Nat} {o1 o2:Bytes} (h1:AFragP X x pre mid lo t o1) (h2:AFragP X y pre2 post lo2 t2 o2)
  (hm:∀ a a',pre a->Same X a a' lo t->mid a'->pre2 a') (hl:lo<=lo2) (ht:t<=t2):AFragP X (.seq x y) pre post lo t (o1 ++ o2):=by
 intro a w xs Q hi hp hlen hQ
 refine wSq (h1 a w xs _ hi hp (by simp at hlen;omega) ?_)
 intro a' w' hi' hs' hmid
 refine h2 a' w' _ Q hi' (hm _ _ hp hs' hmid) (by simp at hlen ⊢;omega) ?_
 intro a2 w2 hi2 hs2 hpost
 exact hQ a2 w2 (by rw [<- List.append_assoc];exact hi2) (hs'.trans hs2 hl ht) hpost
theorem AFragP.mono {x:SC} {pre pre' post post':Act->Prop} {lo t lo' t':Nat} {o:Bytes} (h:AFragP X x pre post lo t o) (hp:∀ a,pre' a->pre a) (hq:∀ a,post a->post' a) (hl:lo'<=lo) (ht:t'<=t):AFragP X x pre' post' lo' t' o :=
 fun a w xs Q hi hpre hlen hQ=>h a w xs Q hi (hp a hpre) hlen fun a' w' hi' hs' hpost=>hQ a' w' hi' (hs'.mono hl ht) (hq _ hpost)
theorem AFrag.skip {pre:Act->Prop} {lo t:Nat}:AFrag X .skip pre lo t [] :=
 fun a w xs Q hi _ _ hQ=>wSk (hQ a w (by simpa using hi) (Same.refl _ _ _ _) trivial)
theorem AFragP.quiet {l:List SOp} {pre post:Act->Prop} {lo t:Nat} (hX:X.ok) (hlv:X.c.ver < lo) (hlf:X.c.flex < lo)
  (h:∀ a w xs K,AInv X a w xs->pre a->(∀ a',a'.tmps.size=a.tmps.size->a'.defers=a.defers->Same X a a' lo t->getT a' 1=getT a 1->post a'->K a' w)->opsw X.P l l K a w) :
  AFragP X (.reg l) pre post lo t []:=by
 intro a w xs Q hi hp _ hQ
 refine wRg (h a w xs _ hi hp ?_)
 intro a' hs hd hsame h1 hpost
 refine hQ a' w (hi.step hX hs hd hsame hlv hlf ?_ (Below.refl _ _) hi.heap) hsame hpost
 rw [h1,List.append_nil]
 exact hi.own
theorem fCond_ok {t m lo:Nat} {x y:Nat->SC} {pre:Act->Prop} {out:Bytes} (hX:X.ok) (hlo:lo<=X.T0) (hlv:X.c.ver < lo) (hlf:X.c.flex < lo) (ht:X.T0<=t) (htN:t < X.N)
  (hst:∀ a a',Same X a a' lo t->pre a->pre a')
  (hx:X.c.never=false->X.flex=true->AFrag X (x (t+1)) pre lo (t+1) out) (hy:X.flex=false->∀ t',t<=t'->t'<=t+1+m->(t'=t ↔ X.c.never=true)->(t'=t∨t'=t+1+m)->AFrag X (y t') pre lo t' out) :
  AFrag X (fCond X.c t m x y) pre lo t out:=by
 unfold fCond
 by_cases hn:X.c.never=true
 ·rw [if_pos hn]
  exact hy (hX.never hn) t (Nat.le_refl _) (by omega) (by simp [hn]) (.inl rfl)
 ·rw [if_neg hn]
  have hn':X.c.never=false:=by simpa using hn
  intro a w xs Q hi hp hlen hQ
  have hsz:=hi.size
  refine wSq (wRg (ops_mv (oNi ?_)))
  have hS:Same X a (a.put (some t) (getT a X.c.flex)) lo t:=by
   intro s hs1 hs2
   simp (disch:=omega) [gTn]
  have hi':AInv X (a.put (some t) (getT a X.c.flex)) w xs:=by
   refine hi.step hX (sPu _ _ _) (dPu _ _ _) hS hlv hlf ?_ (Below.refl _ _) hi.heap
   have:=hX.oneT
   rw [gTn (by omega)]
   exact hi.own
  refine wCd (t:=X.flex) (by rw [eTm,gTp (by omega)];exact hi.flex hn') ?_
  by_cases hf:X.flex=true
  ·rw [if_pos hf]
   exact hx hn' hf _ w xs Q hi' (hst _ _ hS hp) hlen fun a' w' h1 h2 h3=>hQ a' w' h1 (hS.trans h2 (Nat.le_refl _) (by omega)) h3
  ·rw [if_neg hf]
   exact hy (by simpa using hf) (t+1+m) (by omega) (by omega) (by constructor <;> intro h <;> simp_all;omega) (.inr rfl) _ w xs Q hi' (hst _ _ hS hp) hlen fun a' w' h1 h2 h3=>hQ a' w' h1 (hS.trans h2 (Nat.le_refl _) (by omega)) h3
theorem vCond_ok {h:Hd} {t lo:Nat} {body:SC} {pre:Act->Prop} {out:Bytes} (hX:X.ok) (hlo:lo<=X.T0) (hlv:X.c.ver < lo) (hlf:X.c.flex < lo) (ht:X.T0<=t) (htN:t+vTmps h<=X.N)
  (hst:∀ a a',Same X a a' lo t->pre a->pre a')
  (hb:h.has X.ver=true->AFrag X body pre lo (t+vTmps h) out) :
  AFrag X (vCond X.I X.c h t body) pre lo t (if h.has X.ver then out else []):=by
 have h1:=hX.oneT
 unfold vCond
 by_cases c1:h.from_=0/\h.to < 0
 ·rw [if_pos c1]
  have hh:h.has X.ver=true:=by simp [Hd.has,c1.1,c1.2,hX.hver]
  rw [if_pos hh]
  exact (hb hh).mono (fun _ h=>h) (fun _ h=>h) (Nat.le_refl _) (by omega)
 ·rw [if_neg c1]
  unfold vTmps at htN hb
  rw [if_neg c1] at htN hb
  by_cases c2:h.to < 0
  ·rw [if_pos c2] at htN hb ⊢
   intro a w xs Q hi hp hlen hQ
   have hsz:=hi.size
   refine wSq (wRg (ops_mv (oNo rfl (opw_cmp (op:=.geq) (k:=.i16) (m:=X.ver) (n:=h.from_) (r:=decide (X.ver ≥ h.from_)) ?_ rfl (by simp) (oNi ?_)))))
   ·rw [eTm,gTp (by omega)]
    exact hi.ver
   have hS:Same X a ((a.put (some t) (getT a X.c.ver)).put (some (t+1)) (.bool (decide (X.ver ≥ h.from_)))) lo t:=by
    intro s hs1 hs2
    simp (disch:=omega) [gTn]
   have hi':AInv X ((a.put (some t) (getT a X.c.ver)).put (some (t+1)) (.bool (decide (X.ver ≥ h.from_)))) w xs:=by
    refine hi.step hX (by simp [sPu]) (by simp [dPu]) hS hlv hlf ?_ (Below.refl _ _) hi.heap
    simp (disch:=omega) [gTn]
    exact hi.own
   refine wCd (t:=decide (X.ver ≥ h.from_)) (by simp (disch:=(try simp only [sPu]);omega) [eTm,gTp]) ?_
   by_cases hv:h.from_<=X.ver
   ·have hh:h.has X.ver=true:=by simp [Hd.has,c2,hv]
    rw [if_pos (by simpa using hv)]
    rw [if_pos hh] at hlen hQ
    exact hb hh _ w xs Q hi' (hst _ _ hS hp) hlen fun a' w' h1 h2 h3=>hQ a' w' h1 (hS.trans h2 (Nat.le_refl _) (by omega)) h3
   ·have hh:h.has X.ver=false:=by simp [Hd.has,hv]
    rw [if_neg (by simpa using hv)]
    rw [if_neg (by simp [hh])] at hlen hQ
    exact AFrag.skip (pre:=fun _=>True) (lo:=lo) (t:=t) _ w xs Q hi' trivial hlen fun a' w' h1 h2 h3=>hQ a' w' h1 (hS.trans h2 (Nat.le_refl _) (Nat.le_refl _)) h3
  ·rw [if_neg c2] at htN hb ⊢
   intro a w xs Q hi hp hlen hQ
   have hsz:=hi.size
   refine wSq (wRg (ops_mv (oNo rfl (opw_cmp (op:=.geq) (k:=.i16) (m:=X.ver) (n:=h.from_) (r:=decide (X.ver ≥ h.from_)) ?_ rfl (by simp) (ops_mv ?_)))))
   ·rw [eTm,gTp (by omega)]
    exact hi.ver
   generalize ha1:((a.put (some t) (getT a X.c.ver)).put (some (t+1)) (.bool (decide (X.ver ≥ h.from_))))=a1
   have ha1v:getT a1 (t+1)=.bool (decide (X.ver ≥ h.from_)):=by
    rw [<- ha1];simp (disch:=(try simp only [sPu]);omega) [gTp]
   have ha1s:a1.tmps.size=X.N:=by rw [<- ha1];simp [sPu,hsz]
   have ha1d:a1.defers=a.defers:=by rw [<- ha1];simp [dPu]
   have hS1:∀ s,s ≠ t->s ≠ t+1->getT a1 s=getT a s:=by
    intro s h1 h2
    rw [<- ha1];simp (disch:=omega) [gTn]
   rw [ha1v]
   have hfin:∀ a',a'.tmps.size=a1.tmps.size->a'.defers=a1.defers->(∀ s,s < t->getT a' s=getT a1 s)->∀ b:Bool,(b=decide (h.has X.ver=true))->getT a' (t+5)=.bool b ->
     (SC.cond (.tmp (t+5)) body .skip).wp X.P Q a' w:=by
    intro a' hs hd hlow b hbv hv
    have hS:Same X a a' lo t:=by
     intro s hs1 hs2
     rw [hlow s (by omega),hS1 s (by omega) (by omega)]
    have hi':AInv X a' w xs:=by
     refine hi.step hX (by rw [hs,ha1s,hsz]) (by rw [hd,ha1d]) hS hlv hlf ?_ (Below.refl _ _) hi.heap
     rw [hlow 1 (by omega),hS1 1 (by omega) (by omega)]
     exact hi.own
    refine wCd (t:=b) (by rw [eTm,hv]) ?_
    by_cases hh:h.has X.ver=true
    ·rw [if_pos (by simp [hbv,hh])]
     rw [if_pos hh] at hlen hQ
     exact hb hh _ w xs Q hi' (hst _ _ hS hp) hlen fun a' w' h1 h2 h3=>hQ a' w' h1 (hS.trans h2 (Nat.le_refl _) (by omega)) h3
    ·rw [if_neg (by simp [hbv,hh])]
     rw [if_neg hh] at hlen hQ
     exact AFrag.skip (pre:=fun _=>True) (lo:=lo) (t:=t) _ w xs Q hi' trivial hlen fun a' w' h1 h2 h3=>hQ a' w' h1 (hS.trans h2 (Nat.le_refl _) (Nat.le_refl _)) h3
   have hver1:getT a1 X.c.ver=.int .i16 X.ver:=by rw [hS1 _ (by omega) (by omega)];exact hi.ver
   unfold opsw
   refine ⟨t+2,decide (X.ver ≥ h.from_),rfl,by simp only [sPu];omega,.inl (by simp (disch:=(try simp only [sPu]);omega) [gTp]),?_⟩
   by_cases hv:h.from_<=X.ver
   ·rw [if_pos (by simpa using hv)]
    refine opw_move ?_
    unfold opsw
    refine ⟨t+2,decide (X.ver ≥ h.from_),rfl,by simp only [sPu];omega,.inl (by simp (disch:=(try simp only [sPu]);omega) [gTp,gTn]),?_⟩
    rw [if_pos (by simpa using hv)]
    refine opw_cmp (op:=.leq) (k:=.i16) (m:=X.ver) (n:=h.to) (r:=decide (X.ver<=h.to)) ?_ rfl (by simp) ?_
    ·rw [eTm,eTm,gTp (by simp only [sPu];omega),gTn (by omega)]
     exact hver1
    refine oNo rfl (opw_pick (b:=decide (X.ver ≥ h.from_)) ?_ (oNi ?_))
    ·simp (disch:=(try simp only [sPu]);omega) [eTm,gTp,gTn]
    refine hfin _ (by simp [sPu]) (by simp [dPu]) ?_ (decide (X.ver<=h.to)) ?_ ?_
    ·intro s hs
     simp (disch:=omega) [gTn]
    ·simp [Hd.has,hv,c2]
    ·have hd:decide (X.ver ≥ h.from_)=true:=by simpa using hv
     simp (disch:=(try simp only [sPu]);omega) [eTm,gTp,gTn,hd]
   ·rw [if_neg (by simpa using hv)]
    unfold opsw
    refine ⟨t+2,decide (X.ver ≥ h.from_),rfl,by simp only [sPu];omega,.inl (by simp (disch:=(try simp only [sPu]);omega) [gTp,gTn]),?_⟩
    rw [if_neg (by simpa using hv)]
    refine oNo rfl (opw_pick (b:=decide (X.ver ≥ h.from_)) ?_ (oNi ?_))
    ·simp (disch:=(try simp only [sPu]);omega) [eTm,gTp,gTn]
    refine hfin _ (by simp [sPu]) (by simp [dPu]) ?_ false ?_ ?_
    ·intro s hs
     simp (disch:=omega) [gTn]
    ·simp [Hd.has,hv]
    ·have hd:decide (X.ver ≥ h.from_)=false:=by simpa using hv
     simp (disch:=(try simp only [sPu]);omega) [eCo,gTp,hd]
theorem aLoad_ok {S p f T v t off b o:Nat} {u:Value} {lo:Nat} (hX:X.ok) (hlo:lo<=v) (hlv:X.c.ver < lo) (hlf:X.c.flex < lo) (hv:v < X.T0) (hv1:v ≠ 1) (ht:X.T0<=t) (htN:t+4<=X.N) (hS:fieldB X.P S f off=true) (hT:oneB X.P T=true)
  (hb:b < X.B) (hc:X.w0.cell? ⟨b,o+off,none⟩=some u) :
  AFragP X (aLoad S p f T v t) (fun a=>getT a p=.pointer (some ⟨b,o,none⟩)) (fun a=>getT a v=u) lo t []:=by
 have h1:=hX.oneT
 refine AFragP.quiet hX hlv hlf ?_
 intro a w xs K hi hp hK
 have hsz:=hi.size
 refine ops_mv (ops_nilc (ad:=⟨b,o,none⟩) (by rw [gTp (by omega)];exact hp) (ops_fa hS (b:=b) (o:=o) (by rw [gTp (by simp only [sPu];omega)]) ?_))
 refine ops_ld hT (ad:=⟨b,o+off,none⟩) (v:=u) (by rw [gTp (by simp only [sPu];omega)]) (by rw [hi.below.cell hb];exact hc) (ops_asg (oNi ?_))
 refine hK _ (by simp [sPu]) (by simp [dPu]) ?_ ?_ ?_
 ·intro s hs1 hs2
  simp (disch:=omega) [gTn]
 ·simp (disch:=omega) [gTn]
 ·simp (disch:=(try simp only [sPu]);omega) [gTp]
def okApp (I:Ids) (c:Ctx) (nul:Bool):PK->Bool
 | .uuid=>false
 | .str=>(c.never || (aFn I nul .str).1 != 0) && (aFn I nul .str).2 != 0
 | .bytes=>(c.never || (aFn I nul .bytes).1 != 0) && (aFn I nul .bytes).2 != 0
 | k=>!nul && (aFn I nul k).2 != 0
theorem bytesAt_below {w0 w:World} {B:Nat} {base:Option Addr} {bs:Bytes} (h:BytesAt w0 (· < B) base bs) (hb:Below B w0 w):BytesAt w (· < B) base bs:=by
 rcases h with h | ⟨b,o,h1,h2,h3⟩
 ·exact .inl h
 ·exact .inr ⟨b,o,h1,h2,fun j u hu=>by rw [hb.cell h2];exact h3 j u hu⟩
theorem stable_slot {x lo t:Nat} {v:Value} (hx:x < lo) (hx1:x ≠ 1):∀ a a',Same X a a' lo t->getT a x=v->getT a' x=v :=
 fun _ _ hs h=>(hs x hx1 (.inl hx)).trans h
theorem aApp_ok {nul:Bool} {k:PK} {x t lo:Nat} {tr:Tree} {v:Value} (hX:X.ok) (hok:okApp X.I X.c nul k=true) (hv:PVal X.w0 (· < X.B) nul tr k v)
  (hlo:lo<=X.T0) (hlv:X.c.ver < lo) (hlf:X.c.flex < lo) (hxl:x < lo) (hx1:x ≠ 1) (ht:X.T0<=t) (htN:t+aAppT X.c k<=X.N) :
  AFrag X (aApp X.I X.c nul k x t) (fun a=>getT a x=v) lo t (wPrim X.flex (nul && tr.null) tr k):=by
 have hxT:x < X.T0/\x ≠ 1:=⟨by omega,hx1⟩
 have plain:∀ (f:Nat) (pre:World->Nat->Prop) (out:Bytes),AP X.P X.tU8 f #[v] pre out->(∀ w,Below X.B X.w0 w->pre w X.B)->X.T0<=t->t+3<=X.N->AFrag X (aCall f x t) (fun a=>getT a x=v) lo t out :=
  fun f pre out hAP hp h1 h2=>(aCall_ok hX hAP hxT h1 h2 hp).mono (fun _ h=>h) (fun _ h=>h) hlo (Nat.le_refl _)
 have parted:∀ (f1 f2:Nat) (pre1 pre2:World->Nat->Prop) (out:Bytes),(X.c.never=false->X.flex=true->AP X.P X.tU8 f1 #[v] pre1 out)->(X.flex=false->AP X.P X.tU8 f2 #[v] pre2 out) ->
   (∀ w,Below X.B X.w0 w->pre1 w X.B)->(∀ w,Below X.B X.w0 w->pre2 w X.B)->t+fTmps X.c 3 3<=X.N->AFrag X (fCond X.c t 3 (aCall f1 x) (aCall f2 x)) (fun a=>getT a x=v) lo t out:=by
  intro f1 f2 pre1 pre2 out h1 h2 hp1 hp2 hN
  unfold fTmps at hN
  refine fCond_ok hX hlo hlv hlf ht (by split at hN <;> omega) (stable_slot hxl hx1) (fun hn hf=>?_) (fun hf t' ht1 ht2 hiff hor=>?_)
  ·exact (aCall_ok hX (h1 hn hf) hxT (by omega) (by rw [if_neg (by simp [hn])] at hN;omega) hp1).mono (fun _ h=>h) (fun _ h=>h) hlo (Nat.le_refl _)
  ·refine (aCall_ok hX (h2 hf) hxT (by omega) ?_ hp2).mono (fun _ h=>h) (fun _ h=>h) hlo (Nat.le_refl _)
   by_cases hn:X.c.never=true
   ·rw [if_pos hn] at hN
    have:=hiff.2 hn
    omega
   ·rw [if_neg hn] at hN
    rcases hor with h | h
    ·exact absurd (hiff.1 h) hn
    ·omega
 unfold aApp
 cases k with
 | bool =>
  obtain ⟨y,rfl,hy⟩:=hv
  simp [okApp,aFn] at hok
  simp only [PK.parted,Bool.false_eq_true,if_false,aFn]
  have:=plain X.I.aBool _ _ (hX.ka.bool hok.2 y) (fun _ _=>trivial) ht (by simp [aAppT,PK.parted] at htN;omega)
  have e:wPrim X.flex (nul && tr.null) tr .bool=[if y then 1 else 0]:=by cases y <;> simp_all [wPrim] <;> rfl
  rw [e]
  exact this
 | i8 =>
  obtain rfl:=hv
  simp [okApp,aFn] at hok
  exact plain X.I.aI8 _ _ (hX.ka.i8 hok.2 _) (fun _ _=>trivial) ht (by simp [aAppT,PK.parted] at htN;omega)
 | i16 =>
  obtain rfl:=hv
  simp [okApp,aFn] at hok
  exact plain X.I.aI16 _ _ (hX.ka.i16 hok.2 _) (fun _ _=>trivial) ht (by simp [aAppT,PK.parted] at htN;omega)
 | i32 =>
  obtain rfl:=hv
  simp [okApp,aFn] at hok
  exact plain X.I.aI32 _ _ (hX.ka.i32 hok.2 _) (fun _ _=>trivial) ht (by simp [aAppT,PK.parted] at htN;omega)
 | i64 =>
  obtain rfl:=hv
  simp [okApp,aFn] at hok
  exact plain X.I.aI64 _ _ (hX.ka.i64 hok.2 _) (fun _ _=>trivial) ht (by simp [aAppT,PK.parted] at htN;omega)
 | u16 =>
  obtain rfl:=hv
  simp [okApp,aFn] at hok
  exact plain X.I.aU16 _ _ (hX.ka.u16 hok.2 _) (fun _ _=>trivial) ht (by simp [aAppT,PK.parted] at htN;omega)
 | uuid=>exact hv.elim
 | str =>
  simp only [aAppT,PK.parted,if_true] at htN ⊢
  cases nul with
  | true =>
   simp [okApp,aFn] at hok
   simp only [PVal,if_true] at hv
   simp only [aFn,if_true,Bool.true_and]
   by_cases hnl:tr.null=true
   ·rw [if_pos hnl] at hv
    subst hv
    have e:∀ fl:Bool,wPrim fl tr.null tr .str=counted fl true 0 2:=by intro fl;simp [wPrim,hnl]
    refine parted _ _ (fun _ _=>True) (fun _ _=>True) _ (fun hn hf=>?_) (fun hf=>?_) (fun _ _=>trivial) (fun _ _=>trivial) htN
    ·rw [e,hf];exact hX.ka.cnstr0 (by simpa [hn] using hok.1)
    ·rw [e,hf];exact hX.ka.nstr0 hok.2
   ·rw [if_neg hnl] at hv
    obtain ⟨b',o',s,rfl,hF,hc,hs,hl⟩:=hv
    have e:∀ fl:Bool,wPrim fl tr.null tr .str=counted fl false s.data.toList.length 2 ++ s.data.toList:=by
     intro fl
     have hw:whole tr.s=tr.s:=List.take_of_length_le hl
     simp only [wPrim,hnl,Bool.false_eq_true,if_false,hw,hs]
    refine parted _ _ (fun w B=>b' < B/\w.cell? ⟨b',o',none⟩=some (.string s)) (fun w B=>b' < B/\w.cell? ⟨b',o',none⟩=some (.string s)) _ (fun hn hf=>?_) (fun hf=>?_) (fun w hb=>⟨hF,by rw [hb.cell hF];exact hc⟩) (fun w hb=>⟨hF,by rw [hb.cell hF];exact hc⟩) htN
    ·rw [e,hf];exact hX.ka.cnstr (by simpa [hn] using hok.1) b' o' s (by rw [hs];exact hl)
    ·rw [e,hf];exact hX.ka.nstr hok.2 b' o' s (by rw [hs];exact hl)
  | false =>
   simp [okApp,aFn] at hok
   simp only [PVal,Bool.false_eq_true,if_false] at hv
   simp only [aFn,Bool.false_eq_true,if_false,Bool.false_and]
   obtain ⟨s,rfl,hs,hl⟩:=hv
   have e:∀ fl:Bool,wPrim fl false tr .str=counted fl false s.data.toList.length 2 ++ s.data.toList:=by
    intro fl
    have hw:whole tr.s=tr.s:=List.take_of_length_le hl
    simp only [wPrim,Bool.false_eq_true,if_false,hw,hs]
   refine parted _ _ (fun _ _=>True) (fun _ _=>True) _ (fun hn hf=>?_) (fun hf=>?_) (fun _ _=>trivial) (fun _ _=>trivial) htN
   ·rw [e,hf];exact hX.ka.cstr (by simpa [hn] using hok.1) s (by rw [hs];exact hl)
   ·rw [e,hf];exact hX.ka.str hok.2 s (by rw [hs];exact hl)
 | bytes =>
  simp only [aAppT,PK.parted,if_true] at htN ⊢
  obtain ⟨base,cap,rfl,hv⟩:=hv
  cases nul with
  | true =>
   simp [okApp,aFn] at hok
   simp only [aFn,if_true,Bool.true_and] at hv ⊢
   by_cases hnl:tr.null=true
   ·rw [if_pos hnl] at hv
    subst hv
    have e:∀ fl:Bool,wPrim fl true tr .bytes=counted fl true 0 4:=by intro fl;simp [wPrim]
    simp only [hnl,if_true] at parted ⊢
    refine parted _ _ (fun _ _=>True) (fun _ _=>True) _ (fun hn hf=>?_) (fun hf=>?_) (fun _ _=>trivial) (fun _ _=>trivial) htN
    ·rw [e,hf];exact hX.ka.cnbytes0 (by simpa [hn] using hok.1) cap
    ·rw [e,hf];exact hX.ka.nbytes0 hok.2 cap
   ·rw [if_neg hnl] at hv
    obtain ⟨hv,hl,hne⟩:=hv
    have hnf:tr.null=false:=by simpa using hnl
    have e:∀ fl:Bool,wPrim fl false tr .bytes=counted fl false tr.s.length 4 ++ tr.s:=by
     intro fl
     have hw:whole tr.s=tr.s:=List.take_of_length_le hl
     simp only [wPrim,Bool.false_eq_true,if_false,hw]
    simp only [hnf,Bool.false_eq_true,if_false,Bool.and_false] at parted ⊢
    refine parted _ _ (fun w B=>BytesAt w (· < B) base tr.s) (fun w B=>BytesAt w (· < B) base tr.s) _ (fun hn hf=>?_) (fun hf=>?_) (fun w hb=>bytesAt_below hv hb) (fun w hb=>bytesAt_below hv hb) htN
    ·rw [e,hf];exact hX.ka.cnbytes (by simpa [hn] using hok.1) base cap tr.s hl (hne trivial)
    ·rw [e,hf];exact hX.ka.nbytes hok.2 base cap tr.s hl (hne trivial)
  | false =>
   simp [okApp,aFn] at hok
   simp only [aFn,Bool.false_eq_true,if_false,Bool.false_and] at hv parted ⊢
   obtain ⟨hv,hl,-⟩:=hv
   have e:∀ fl:Bool,wPrim fl false tr .bytes=counted fl false tr.s.length 4 ++ tr.s:=by
    intro fl
    have hw:whole tr.s=tr.s:=List.take_of_length_le hl
    simp only [wPrim,Bool.false_eq_true,if_false,hw]
   refine parted _ _ (fun w B=>BytesAt w (· < B) base tr.s) (fun w B=>BytesAt w (· < B) base tr.s) _ (fun hn hf=>?_) (fun hf=>?_) (fun w hb=>bytesAt_below hv hb) (fun w hb=>bytesAt_below hv hb) htN
   ·rw [e,hf];exact hX.ka.cbytes (by simpa [hn] using hok.1) base cap tr.s hl
   ·rw [e,hf];exact hX.ka.bytes hok.2 base cap tr.s hl
end
set_option maxHeartbeats 200000
def ptrB (P:Program) (T:TypeId):Bool :=
 match P.underlying T with
 | some (.pointer _)=>true
 | _=>false
def u8sB (P:Program) (T tU8:TypeId):Bool :=
 match P.underlying T,P.info? tU8 with
 | some (.slice e),some i=>e == tU8 && (match i.zero with | some (.int .u8 0)=>true | _=>false) && i.size == 1 && i.bytes == 1
 | _,_=>false
section
variable {P:Program} {a:Act} {w:World} {K:Act->World->Prop} {d:Option Tmp} {g:Option (Nat × Bool)}
theorem opw_eqlnil_slice {T E n:Nat} {x:Operand} {base:Option Addr} {len cap:Nat} (hT:sliceB P T E n=true) (hx:a.eval x=.slice base len cap) (h:K (a.put d (.bool base.isNone)) w) :
  opw P ⟨d,.binOp .eql T x (.const (.slice none 0 0)) T,g⟩ a w K:=by
 obtain ⟨hu,_⟩:=slice_of hT
 refine oVa (by simp) (fun p hp=>?_) h
 have hr:(Op.equal T (.slice base len cap) (.slice none 0 0)).run P w=.ok base.isNone w:=by
  have key:∀ dd,(Op.equalIn (dd+1) T (.slice base len cap) (.slice none 0 0)).run P w=.ok base.isNone w:=by
   intro dd
   cases base <;> simp [Op.equalIn,run_underlying hu]
  exact key 9999
 simp only [execOp,hp,hx,eCo,binOp,eqGuard]
 simp [hr]
theorem opw_eqlnil_ptr {T:Nat} {x:Operand} {q:Option Addr} (hT:ptrB P T=true) (hx:a.eval x=.pointer q) (h:K (a.put d (.bool q.isNone)) w) :
  opw P ⟨d,.binOp .eql T x (.const (.pointer none)) T,g⟩ a w K:=by
 unfold ptrB at hT
 split at hT <;> try (simp at hT;done)
 rename_i e hu
 refine oVa (by simp) (fun p hp=>?_) h
 have hr:(Op.equal T (.pointer q) (.pointer none)).run P w=.ok q.isNone w:=by
  have key:∀ dd,(Op.equalIn (dd+1) T (.pointer q) (.pointer none)).run P w=.ok q.isNone w:=by
   intro dd
   cases q <;> simp [Op.equalIn,run_underlying hu]
  exact key 9999
 simp only [execOp,hp,hx,eCo,binOp,eqGuard]
 simp [hr]
theorem u8s_of {T tU8:Nat} (h:u8sB P T tU8=true):P.underlying T=some (.slice tU8)/\∃ i,P.info? tU8=some i/\i.zero=some (.int .u8 0)/\i.size=1/\i.bytes=1:=by
 unfold u8sB at h
 split at h <;> try (simp at h;done)
 rename_i e i hu hi
 simp at h
 obtain ⟨⟨⟨rfl,h2⟩,h3⟩,h4⟩:=h
 refine ⟨hu,i,hi,?_,h3,h4⟩
 split at h2 <;> simp_all
theorem opw_byteSlice {T tU8:Nat} {n:Int} (hT:u8sB P T tU8=true) (h:K (a.put d (.slice (some ⟨w.heap.size,0,none⟩) 1 1)) (w.alloc (.cells #[.int .u8 n] tU8))) :
  opw P ⟨d,.buildSlice T 1 #[(0,.const (.int .u8 n))],g⟩ a w K:=by
 obtain ⟨hu,i,hi,hz,hs,_⟩:=u8s_of hT
 refine oVa (w':=w.alloc (.cells #[.int .u8 n] tU8)) (by simp) (fun p hp=>?_) h
 have hr1:Array.range 1=#[0]:=by decide
 have hfill:Instr.fill (fun j=>some (j,1)) #[Value.int .u8 0] [(0,Value.int .u8 n)]=some #[.int .u8 n]:=by
  simp [Instr.fill,Value.cells]
 simp [execOp,hp,Instr.buildSlice,run_underlying hu,sizeOf,typeInfo,zeroValue,hi,hz,hs,Value.cells,eCo,newRow,hr1,hfill]
end
section
variable {X:Fix} {a:Act} {w:World} {xs:Bytes}
theorem own_u8 {tU8:Nat} {w:World} {B:Nat} {dv:Value} {xs:Bytes} (h:Own tU8 w B dv xs):∀ k,dv.ownBlock=some k->B<=k:=fun k hk=>(h.lt k hk).1
theorem aByte_ok {n:Int} {t lo:Nat} {u:UInt8} (hX:X.ok) (hn:n=(u.toNat:Int)) (hlo:lo<=X.T0) (hlv:X.c.ver < lo) (hlf:X.c.flex < lo) (ht:X.T0<=t) (htN:t+3<=X.N) (hT:u8sB X.P X.I.tU8s X.tU8=true) :
  AFrag X (aByte X.I n t) (fun _=>True) lo t [u]:=by
 intro a w xs Q hi hp hlen hQ
 have h1:=hX.oneT
 have hsz:=hi.size
 obtain ⟨hu,i,hinf,hz,hs,hby⟩:=u8s_of hT
 refine wRg (ops_mv (oNo rfl (opw_byteSlice hT (oNo rfl ?_))))
 have hown:Own X.tU8 (w.alloc (.cells #[.int .u8 n] X.tU8)) X.B (getT a 1) xs:=hi.own.alloc _
 have hc:∀ j v,[cell u][j]?=some v->(w.alloc (.cells #[.int .u8 n] X.tU8)).cell? ((⟨w.heap.size,0,none⟩:Addr).add j)=some v:=by
  intro j v hv
  cases j with
  | zero =>
   simp at hv
   subst hv
   rw [show (⟨w.heap.size,0,none⟩:Addr).add 0=⟨w.heap.size,0,none⟩ from add_none _ _ _,cell_of_row _ _ _ _ _ _ (heap_alloc_new w (.cells #[.int .u8 n] X.tU8))]
   simp [cell,hn]
  | succ j=>simp at hv
 obtain ⟨v',w',hr,h2,h3,_⟩:=run_append_own (P:=X.P) (w.alloc (.cells #[.int .u8 n] X.tU8)) X.B X.I.tU8s X.I.tU8s X.tU8 i (.int .u8 0) 1 1 hu hinf hz hs hby rfl (by decide)
  (getT a 1) xs.length (cellsOf xs) hown ⟨w.heap.size,0,none⟩ 1 1 [cell u] rfl hc (by simp [cell,Value.oneCell']) (by simp [lim] at hlen;simp [maxLen];omega) (by simp [lim] at hlen;omega) (by have:=hi.heap;simp;omega)
 refine oVa (v:=v') (w':=w') (by simp) ?_ (ops_asg (oNi ?_))
 ·intro o ho
  have e1:getT ((a.put (some t) (getT a 1)).put (some (t+1)) (.slice (some ⟨w.heap.size,0,none⟩) 1 1)) t=getT a 1:=by
   simp (disch:=(try simp only [sPu]);omega) [gTp,gTn]
  have e2:getT ((a.put (some t) (getT a 1)).put (some (t+1)) (.slice (some ⟨w.heap.size,0,none⟩) 1 1)) (t+1)=.slice (some ⟨w.heap.size,0,none⟩) 1 1:=by
   simp (disch:=(try simp only [sPu]);omega) [gTp]
  have hr':(Builtin.append_ #[X.I.tU8s,X.I.tU8s] o.type #[getT a 1,.slice (some ⟨w.heap.size,0,none⟩) 1 1]).run X.P (w.alloc (.cells #[.int .u8 n] X.tU8))=.ok v' w':=hr
  simp [execOp,ho,resolve,invoke,builtin,eTm,e1,e2,hr']
 have hb:Below X.B w w':=((Below.refl X.B w).alloc hi.heap _).grown h3 (by have:=hi.heap;simp;omega) (fun k hk=>own_u8 hown k hk)
 have hh:X.B<=w'.heap.size:=by
  have:=h3.size
  have:=hi.heap
  simp at *
  omega
 refine hQ _ _ (hi.step hX (lo:=lo) (t:=t) (by simp [sPu]) (by simp [dPu]) ?_ hlv hlf ?_ hb hh) ?_ trivial
 ·intro s hs1 hs2
  simp (disch:=(try simp only [sPu]);omega) [gTn]
 ·simp (disch:=(try simp only [sPu]);omega) [gTp]
  have:Own X.tU8 w' X.B v' (xs ++ [u]):=by
   unfold Own
   rw [cellsOf_append]
   simpa [cellsOf] using h2
  exact this
 ·intro s hs1 hs2
  simp (disch:=(try simp only [sPu]);omega) [gTn]
end
section
variable {X:Fix} {a:Act} {w:World} {xs:Bytes}
theorem flatten_take_succ {l:List Bytes} {i:Nat} {o:Bytes} (h:l[i]?=some o):(l.take (i+1)).flatten=(l.take i).flatten ++ o:=by
 rw [List.take_add_one,h]
 simp
theorem flatten_take_le (l:List Bytes) (i:Nat):(l.take i).flatten.length<=l.flatten.length:=by
 have h:l.flatten=(l.take i).flatten ++ (l.drop i).flatten:=by
  rw [<- List.flatten_append,List.take_append_drop]
 rw [h]
 simp
theorem aLoop_ok {T E n s ix t b et lo cap:Nat} {body:List SC} {outs:List Bytes} {base:Option Addr} (hX:X.ok) (hlo:lo<=ix) (hix:s < ix) (hsT:ix < X.T0) (hs0:s ≠ 1/\s ≠ 0) (hlv:X.c.ver < lo) (hlf:X.c.flex < lo) (ht:X.T0<=t) (htN:t+6+et<=X.N)
  (hT:sliceB X.P T E n=true) (hcnt:outs.length<=most)
  (hbody:∀ (i:Nat) (out:Bytes),outs[i]?=some out->AFrag X (seqs (.reg [mv (t+4) (t+2),asg ix (t+4)] :: body)) (fun a=>getT a s=.slice base outs.length cap/\getT a (t+2)=.int .i64 (i:Int)) ix (t+4) out) :
  AFrag X (aLoop T s ix t b et body X.I.tInt) (fun a=>getT a s=.slice base outs.length cap) lo t outs.flatten:=by
 intro a w xs Q hi hp hlen hQ
 have h1:=hX.oneT
 have hsz:=hi.size
 have hlim:lim=4294967295:=rfl
 have hmost:most=32767:=rfl
 unfold aLoop
 refine wSq (wRg (ops_mv (ops_len hT (base:=base) (len:=outs.length) (cap:=cap) (by rw [gTp (by omega)];exact hp) (oNo rfl (opw_move (oNi ?_))))))
 rw [eCo]
 refine wBk (wLp
  (fun a1 w1=>∃ i,i<=outs.length/\AInv X a1 w1 (xs ++ (outs.take i).flatten)/\Same X a a1 lo t/\getT a1 s=.slice base outs.length cap/\getT a1 (t+1)=.int .i64 (outs.length:Int)/\getT a1 (t+2)=.int .i64 (i:Int))
  (fun a1 _=>outs.length - (intOf (getT a1 (t+2))).toNat) ?_ ?_)
 ·refine ⟨0,Nat.zero_le _,?_,?_,?_,?_,?_⟩
  ·refine hi.step hX (lo:=lo) (t:=t) (by simp [sPu]) (by simp [dPu]) ?_ hlv hlf ?_ (Below.refl _ _) hi.heap
   ·intro q hq1 hq2
    simp (disch:=omega) [gTn]
   ·simp (disch:=omega) [gTn]
    exact hi.own
  ·intro q hq1 hq2
   simp (disch:=omega) [gTn]
  ·simp (disch:=omega) [gTn]
   exact hp
  ·simp (disch:=(try simp only [sPu]);omega) [gTp,gTn]
  ·simp (disch:=(try simp only [sPu]);omega) [gTp]
 ·rintro a1 w1 ⟨i,hile,hi1,hsame1,hs1,ht1,ht2⟩
  have hsz1:=hi1.size
  refine wSq (wRg (oNo rfl (opw_cmp (op:=.lss) (k:=.i64) (m:=(i:Int)) (n:=(outs.length:Int)) (r:=decide (i < outs.length)) (by rw [eTm];exact ht2) (by rw [eTm];exact ht1) (by simp) (oNi ?_))))
  refine wSq (wCd (t:=decide (i < outs.length)) (by rw [eTm,gTp (by omega)]) ?_)
  have hS2:∀ q,q ≠ t+3->getT (a1.put (some (t+3)) (.bool (decide (i < outs.length)))) q=getT a1 q:=fun q hq=>gTn hq
  have hi2:AInv X (a1.put (some (t+3)) (.bool (decide (i < outs.length)))) w1 (xs ++ (outs.take i).flatten):=by
   refine hi1.step hX (lo:=lo) (t:=t) (by simp [sPu]) (by simp [dPu]) ?_ hlv hlf ?_ (Below.refl _ _) hi1.heap
   ·intro q hq1 hq2
    exact hS2 q (by omega)
   ·rw [hS2 1 (by omega)]
    exact hi1.own
  by_cases hlt:i < outs.length
  ·rw [if_pos (by simpa using hlt)]
   refine wSk ?_
   obtain ⟨out,hout⟩:∃ out,outs[i]?=some out:=⟨outs[i],List.getElem?_eq_getElem hlt⟩
   have hle:=flatten_take_le outs (i+1)
   rw [flatten_take_succ hout,List.length_append] at hle
   refine wSq (wBk (hbody i out hout _ w1 _ _ hi2 ⟨by rw [hS2 s (by omega)];exact hs1,by rw [hS2 (t+2) (by omega)];exact ht2⟩ (by rw [List.length_append];omega) ?_))
   intro a3 w3 hi3 hsame3 _
   have hsz3:=hi3.size
   have ht23:getT a3 (t+2)=.int .i64 (i:Int):=by rw [hsame3 (t+2) (by omega) (by omega),hS2 (t+2) (by omega)];exact ht2
   refine wRg (oNo rfl (opw_arith (op:=.add) (k:=.i64) (m:=(i:Int)) (n:=1) (r:=((i+1:Nat):Int)) (by rw [eTm];exact ht23) rfl (.inl ⟨rfl,?_⟩) (ops_mv (oNi ?_))))
   ·rw [IntWalk.i64_in _ (by omega)]
    simp
   have hS4:∀ q,q ≠ t+5+et->q ≠ t+2->getT ((a3.put (some (t+5+et)) (.int .i64 ((i+1:Nat):Int))).put (some (t+2)) (getT (a3.put (some (t+5+et)) (.int .i64 ((i+1:Nat):Int))) (t+5+et))) q=getT a3 q:=by
    intro q hq1 hq2
    simp (disch:=omega) [gTn]
   have hv4:getT ((a3.put (some (t+5+et)) (.int .i64 ((i+1:Nat):Int))).put (some (t+2)) (getT (a3.put (some (t+5+et)) (.int .i64 ((i+1:Nat):Int))) (t+5+et))) (t+2)=.int .i64 ((i+1:Nat):Int):=by
    simp (disch:=(try simp only [sPu]);omega) [gTp]
   refine ⟨⟨i+1,hlt,?_,?_,?_,?_,hv4⟩,?_⟩
   ·rw [flatten_take_succ hout,<- List.append_assoc]
    refine hi3.step hX (lo:=lo) (t:=t) (by simp [sPu]) (by simp [dPu]) ?_ hlv hlf ?_ (Below.refl _ _) hi3.heap
    ·intro q hq1 hq2
     exact hS4 q (by omega) (by omega)
    ·rw [hS4 1 (by omega) (by omega)]
     exact hi3.own
   ·intro q hq1 hq2
    rw [hS4 q (by omega) (by omega),hsame3 q hq1 (by omega),hS2 q (by omega)]
    exact hsame1 q hq1 hq2
   ·rw [hS4 s (by omega) (by omega),hsame3 s (by omega) (by omega),hS2 s (by omega)]
    exact hs1
   ·rw [hS4 (t+1) (by omega) (by omega),hsame3 (t+1) (by omega) (by omega),hS2 (t+1) (by omega)]
    exact ht1
   ·rw [hv4,ht2]
    simp [intOf]
    omega
  ·rw [if_neg (by simpa using hlt)]
   refine wXt ?_
   have he:i=outs.length:=by omega
   subst he
   rw [List.take_length] at hi2
   show Exit.inBlock b Q (.exit b) _ _
   simp only [Exit.inBlock,if_true]
   refine hQ _ _ hi2 ?_ trivial
   intro q hq1 hq2
   rw [hS2 q (by omega)]
   exact hsame1 q hq1 hq2
end
def arrB (P:Program) (T n:Nat):Bool :=
 aggB P T n && (match P.info? T with
  | some i=>match i.zero with
   | some z=>z.cells.size == n
   | none=>false
  | none=>false)
def okTags (P:Program) (I:Ids) (c:Ctx) (S:Nat):Option (Nat × Nat)->Bool
 | none=>c.never
 | some (f,off)=>!c.never && fieldB P S f off && intB P I.tInt .i64 && intB P I.tU32 .u32 && I.tagsLen != 0 && I.tagsEach != 0 && I.aUvar != 0
def okLen (I:Ids) (c:Ctx) (nul:Bool):Bool:=if nul then (c.never || I.aCNArr != 0) && I.aNArr != 0 else (c.never || I.aCArr != 0) && I.aArr != 0
def u32sB (P:Program) (T T32:TypeId):Bool :=
 match P.underlying T,P.info? T32 with
 | some (.slice e),some i=>e == T32 && (match i.zero with | some (.int .u32 0)=>true | _=>false) && i.size == 1 && decide (i.bytes<=1000) && intB P T32 .u32
 | _,_=>false
def zag (P:Program) (T n:Nat):Bool:=arrB P T n
def flat2 (P:Program) (S:Nat):Fs->Bool
 | .cons h1 (.prim .i32) (.cons h2 (.prim .i32) .nil)=>fieldB P S h1.idx h1.off && fieldB P S h2.idx h2.off && oneB P h1.typ && oneB P h2.typ && h1.off == 0 && h2.off == 1 &&
   decide (h1.from_=0/\h1.to < 0/\h1.null < 0/\h1.dflt=-1/\h1.enum=false) && decide (h2.from_=0/\h2.to < 0/\h2.null < 0/\h2.dflt=-1/\h2.enum=false)
 | _=>false
mutual
def okElem (P:Program) (I:Ids) (c:Ctx) (tU8 E size:Nat):Ty->Bool
 | .prim k=>if k=.uuid then size == 16 && arrB P E 16 && I.aUuid != 0 else size == 1 && oneB P E && okApp I c false k
 | .list _ _ _ _=>false
 | .struct S sz _ tags fs kn=>S == E && sz == size && okTags P I c S tags && okFs P I c tU8 S fs && okKnA P I c tU8 S tags kn
def okVal (P:Program) (I:Ids) (c:Ctx) (tU8:Nat) (h:Hd):Ty->Bool
 | .prim k =>
  if k=.uuid then decide (h.null < 0) && !h.enum && arrB P h.typ 16 && I.aUuid != 0
  else oneB P h.typ && (!h.enum || decide (k=.i8)) && okApp I c (decide (0<=h.null)) k
 | .list T E size of=>!h.enum && h.typ == T && oneB P T && sliceB P T E size && okLen I c (decide (0<=h.null)) && okElem P I c tU8 E size of
 | .struct S _ _ tags fs kn=>!h.enum && (decide (h.null < 0) || (oneB P h.typ && ptrB P h.typ && u8sB P I.tU8s tU8)) && okTags P I c S tags && okFs P I c tU8 S fs && okKnA P I c tU8 S tags kn
def okFs (P:Program) (I:Ids) (c:Ctx) (tU8 S:Nat):Fs->Bool
 | .nil=>true
 | .cons h ty r=>fieldB P S h.idx h.off && (decide (h.null < 0) || decide (h.null<=h.from_)) && okVal P I c tU8 h ty && okFs P I c tU8 S r
def okKnA (P:Program) (I:Ids) (c:Ctx) (tU8 S:Nat) (tags:Option (Nat × Nat)):Fs->Bool
 | .nil=>true
 | .cons h ty r=>tags.isSome && fieldB P S h.idx h.off && decide (h.null < 0) && (match r with | .nil=>true | _=>false) && u32sB P I.tU32s I.tU32 && oneB P I.tU32 && u8sB P I.tU8s tU8 && okKnT P I c tU8 h ty
def okKnT (P:Program) (I:Ids) (c:Ctx) (tU8:Nat) (h:Hd):Ty->Bool
 | .prim _=>false
 | .list T E size of=>h.typ == T && oneB P T && sliceB P T E size && okLen I c false && okElem P I c tU8 E size of
 | .struct S' sz _ tags' fs' kn'=>sz == 3 && zag P S' 3 && okTags P I c S' tags' && flat2 P S' fs' && (match tags',kn' with | some (_,2),.nil=>true | _,_=>false) && I.aI32 != 0 && I.kNew != 0 && I.kSame != 0
end
section
variable {P:Program} {a:Act} {w:World} {K:Act->World->Prop} {d:Option Tmp} {g:Option (Nat × Bool)}
theorem agg_of {T n:Nat} (h:aggB P T n=true):∃ i,P.info? T=some i/\i.size=n/\(isAgg T).run P w=.ok true w:=by
 unfold aggB at h
 split at h <;> try (simp at h;done)
 ·rename_i i f hi hu
  exact ⟨i,hi,by simpa using h,by simp [isAgg,run_underlying hu]⟩
 ·rename_i i m e hi hu
  exact ⟨i,hi,by simpa using h,by simp [isAgg,run_underlying hu]⟩
theorem run_load_agg {T b o:Nat} {cs:List Value} (hT:aggB P T cs.length=true) (hc:∀ j v,cs[j]?=some v->w.cell? ⟨b,o+j,none⟩=some v) :
  (Instr.loadAt T (.pointer (some ⟨b,o,none⟩))).run P w=.ok (.agg cs.toArray) w:=by
 obtain ⟨i,hi,hs,ha⟩:=agg_of (w:=w) hT
 have hl:=run_loadCells_list (P:=P) w ⟨b,o,none⟩ cs (fun j v hv=>by rw [add_none];exact hc j v hv)
 simp [Instr.loadAt,Instr.sureAddr,loadVar,ha,sizeOf,typeInfo,hi,hs,hl]
theorem opw_load_agg {T b o:Nat} {x:Operand} {cs:List Value} (hT:aggB P T cs.length=true) (hx:a.eval x=.pointer (some ⟨b,o,none⟩)) (hc:∀ j v,cs[j]?=some v->w.cell? ⟨b,o+j,none⟩=some v)
  (h:K (a.put d (.agg cs.toArray)) w):opw P ⟨d,.load T x,g⟩ a w K :=
 oVa (by simp) (fun p hp=>by simp [execOp,hp,hx,run_load_agg hT hc]) h
theorem arr_of {T n:Nat} (h:arrB P T n=true):aggB P T n=true/\∃ i z,P.info? T=some i/\i.zero=some z/\z.cells.size=n:=by
 unfold arrB at h
 simp only [Bool.and_eq_true] at h
 refine ⟨h.1,?_⟩
 obtain ⟨-,h⟩:=h
 split at h <;> try (simp at h;done)
 rename_i i hi
 split at h <;> try (simp at h;done)
 rename_i z hz
 exact ⟨i,z,hi,hz,by simpa using h⟩
theorem opw_alloc {T:Nat} {i:TypeInfo} {z:Value} (hi:P.info? T=some i) (hz:i.zero=some z) (h:K (a.put d (.pointer (some ⟨w.heap.size,0,none⟩))) (w.alloc (.cells z.cells T))) :
  opw P ⟨d,.alloc T,g⟩ a w K:=by
 refine oVa (w':=w.alloc (.cells z.cells T)) (by simp) (fun p hp=>?_) h
 simp [execOp,hp,Instr.alloc,zeroValue,typeInfo,hi,hz,newVar,newRow]
theorem opw_store_agg {T b:Nat} {E:TypeId} {x y:Operand} {cur:Array Value} {cs:List Value} (hT:aggB P T cs.length=true) (hx:a.eval x=.pointer (some ⟨b,0,none⟩)) (hy:a.eval y=.agg cs.toArray)
  (hb:w.heap[b]?=some (.cells cur E (0,0))) (hc:cur.size=cs.length) (h1:∀ v ∈ cs,v.oneCell'=true) (h:K (a.put d undef) (w.setRow b cs.toArray)) :
  opw P ⟨d,.store T x y,g⟩ a w K:=by
 obtain ⟨i,hi,hs,_⟩:=agg_of (w:=w) hT
 refine opw_skip (w':=w.setRow b cs.toArray) (by simp) (fun p hp=>?_) h
 have hst:=run_storeCells_at P b 0 E cs 0 cur w hb (by omega) h1
 have hd:cur.toList.drop cs.length=[]:=by simp;omega
 simp [hd] at hst
 simp [execOp,hp,hx,hy,Instr.storeAt,Instr.sureAddr,storeVar,sizeOf,typeInfo,hi,hs,Value.cells,hst]
end
section
variable {X:Fix} {a:Act} {w:World} {xs:Bytes}
inductive AList (X:Fix) (pre:Act->Prop) (lo t:Nat):List SC->Bytes->Prop where
 | nil:AList X pre lo t [] []
 | cons {x:SC} {l:List SC} {o1 o2:Bytes} (h1:AFrag X x pre lo t o1) (h2:AList X pre lo t l o2):AList X pre lo t (x :: l) (o1 ++ o2)
theorem AList.append {pre:Act->Prop} {lo t:Nat} {l l':List SC} {o o':Bytes} (h:AList X pre lo t l o) (h':AList X pre lo t l' o'):AList X pre lo t (l ++ l') (o ++ o'):=by
 induction h with
 | nil=>exact h'
 | cons h1 _ ih=>rw [List.cons_append,List.append_assoc];exact .cons h1 ih
theorem AList.mono {pre:Act->Prop} {lo t lo' t':Nat} {l:List SC} {o:Bytes} (h:AList X pre lo t l o) (hl:lo'<=lo) (ht:t'<=t):AList X pre lo' t' l o:=by
 induction h with
 | nil=>exact .nil
 | cons h1 _ ih=>exact .cons (h1.mono (fun _ h=>h) (fun _ h=>h) hl ht) ih
theorem AList.frag {pre:Act->Prop} {lo t:Nat} {l:List SC} {o:Bytes} (h:AList X pre lo t l o) (hst:∀ a a',Same X a a' lo t->pre a->pre a'):AFrag X (seqs l) pre lo t o:=by
 induction h with
 | nil=>exact AFrag.skip
 | cons h1 h2 ih =>
  cases h2 with
  | nil=>simpa [seqs] using h1
  | cons h3 h4=>exact h1.seq ih (fun a a' hp hs _=>hst a a' hs hp) (Nat.le_refl _) (Nat.le_refl _)
theorem AList.behind {x:SC} {pre mid pre2:Act->Prop} {lo t lo2 t2:Nat} {l:List SC} {o1 o2:Bytes} (h1:AFragP X x pre mid lo t o1) (h2:AList X pre2 lo2 t2 l o2) (hst:∀ a a',Same X a a' lo2 t2->pre2 a->pre2 a')
  (hm:∀ a a',pre a->Same X a a' lo t->mid a'->pre2 a') (hl:lo<=lo2) (ht:t<=t2):AFrag X (seqs (x :: l)) pre lo t (o1 ++ o2):=by
 cases h2 with
 | nil=>simpa [seqs] using h1.mono (fun _ h=>h) (fun _ _=>trivial) (Nat.le_refl _) (Nat.le_refl _)
 | cons h3 h4=>exact h1.seq ((AList.cons h3 h4).frag hst) hm hl ht
theorem cells_cell {bs:Bytes} {w:World} {b o:Nat} (h:∀ j u,bs[j]?=some u->w.cell? ⟨b,o+j,none⟩=some (cell u)):∀ j v,(cellsOf bs)[j]?=some v->w.cell? ⟨b,o+j,none⟩=some v:=by
 intro j v hv
 simp only [cellsOf,List.getElem?_map,Option.map_eq_some_iff] at hv
 obtain ⟨u,hu,rfl⟩:=hv
 exact h j u hu
theorem uuidOf_length (t:Tree):(uuidOf t).length=16:=by simp [uuidOf]
theorem aUuid_ok {S p v t b o lo:Nat} {h:Hd} {tr:Tree} (hX:X.ok) (hlo:lo<=v) (hlv:X.c.ver < lo) (hlf:X.c.flex < lo) (hv:v < X.T0) (hv1:v ≠ 1) (ht:X.T0<=t) (htN:t+7<=X.N) (hS:fieldB X.P S h.idx h.off=true)
  (hT:arrB X.P h.typ 16=true) (hU:X.I.aUuid ≠ 0) (hb:b < X.B) (hc:∀ j u,(uuidOf tr)[j]?=some u->X.w0.cell? ⟨b,o+h.off+j,none⟩=some (cell u)) :
  AFrag X (aVal X.I X.c S p h v t 0 (.prim .uuid)) (fun a=>getT a p=.pointer (some ⟨b,o,none⟩)) lo t (uuidOf tr):=by
 intro a w xs Q hi hp hlen hQ
 have h1:=hX.oneT
 have hsz:=hi.size
 obtain ⟨hagg,i,z,hinf,hz,hzs⟩:=arr_of hT
 have hl16:(cellsOf (uuidOf tr)).length=16:=by rw [cLen,uuidOf_length]
 have hagg':aggB X.P h.typ (cellsOf (uuidOf tr)).length=true:=by rw [hl16];exact hagg
 unfold aVal
 rw [if_pos rfl]
 refine wSq (wRg (ops_mv (ops_nilc (ad:=⟨b,o,none⟩) (by rw [gTp (by omega)];exact hp) (ops_fa hS (b:=b) (o:=o) (by rw [gTp (by simp only [sPu];omega)]) ?_))))
 refine oNo rfl (opw_load_agg hagg' (b:=b) (o:=o+h.off) (by rw [eTm,gTp (by simp only [sPu];omega)]) ?_ (oNo rfl (opw_alloc hinf hz (oNo rfl ?_))))
 ·refine cells_cell ?_
  intro j u hu
  rw [hi.below.cell hb]
  exact hc j u hu
 refine opw_store_agg (b:=w.heap.size) (E:=h.typ) (cur:=z.cells) hagg' ?_ ?_ (heap_alloc_new w _) (by rw [hl16];exact hzs) ?_ (oNi ?_)
 ·rw [eTm,gTp (by simp only [sPu];omega)]
 ·rw [eTm,gTn (by omega),gTp (by simp only [sPu];omega)]
 ·intro v hv
  simp only [cellsOf,List.mem_map] at hv
  obtain ⟨u,_,rfl⟩:=hv
  rfl
 generalize hw1:(w.alloc (.cells z.cells h.typ)).setRow w.heap.size (cellsOf (uuidOf tr)).toArray=w1
 have hrow:w1.heap[w.heap.size]?=some (.cells (cellsOf (uuidOf tr)).toArray h.typ (0,0)):=by
  rw [<- hw1]
  exact setRow_heap _ _ _ _ _ _ (heap_alloc_new w _)
 have hold:∀ k,k < w.heap.size->w1.heap[k]?=w.heap[k]?:=by
  intro k hk
  rw [<- hw1,setRow_other _ _ _ _ (by omega)]
  exact Below.heap_alloc _ _ _ hk
 have hbel:Below w.heap.size w w1:=⟨by rw [<- hw1];rfl,by rw [<- hw1];rfl,by rw [<- hw1];rfl,by rw [<- hw1];simp,hold⟩
 have hsz1:w1.heap.size=w.heap.size+1:=by rw [<- hw1];simp
 have hheap:=hi.heap
 have hb1:Below X.B w w1:=hbel.mono hheap
 have hh1:X.B<=w1.heap.size:=by omega
 have hown1:Own X.tU8 w1 X.B (getT a 1) xs:=by
  obtain ⟨q1,q2⟩:=hi.own
  refine ⟨q1,?_⟩
  rcases q2 with q2 | ⟨g,cap,cur,e1,e2,e3,e4⟩
  ·exact .inl q2
  ·exact .inr ⟨g,cap,cur,e1,e2,by rw [hold g (Array.getElem?_eq_some_iff.1 e3).1];exact e3,e4⟩
 rw [pNo]
 generalize ha1:(((((a.put (some t) (getT a p)).put (some (t+1)) (.pointer (some ⟨b,o,none⟩))).put (some (t+2)) (.pointer (some ⟨b,o+h.off,none⟩))).put (some (t+3)) (.agg (cellsOf (uuidOf tr)).toArray)).put (some v) (.pointer (some ⟨w.heap.size,0,none⟩)))=a1
 have hs1:a1.tmps.size=X.N:=by rw [<- ha1];simp [sPu,hsz]
 have hd1:a1.defers=a.defers:=by rw [<- ha1];simp [dPu]
 have hv1':getT a1 v=.pointer (some ⟨w.heap.size,0,none⟩):=by rw [<- ha1];simp (disch:=(try simp only [sPu]);omega) [gTp]
 have hS1:∀ s,s ≠ v->s < t->getT a1 s=getT a s:=by
  intro s h1 h2
  rw [<- ha1]
  simp (disch:=omega) [gTn]
 clear ha1 hw1
 refine wRg (ops_mv (oNo rfl ?_))
 refine opw_load_agg hagg' (b:=w.heap.size) (o:=0) ?_ ?_ ?_
 ·rw [eTm,gTn (by omega)]
  exact hv1'
 ·intro j u hu
  rw [Nat.zero_add,cell_of_row _ _ _ _ _ _ hrow]
  simpa using hu
 have hAP:=hX.ka.uuid hU (uuidOf tr) (uuidOf_length tr)
 refine ops_cal hAP.1 (R:=fun e w'=>∃ dv',e=.returned dv'/\Own X.tU8 w' X.B dv' (xs ++ uuidOf tr)/\Below X.B w1 w'/\X.B<=w'.heap.size) ?_ ?_
 ·have hc2:=hAP.2 w1 X.B (getT a 1) xs hown1 hh1 hlen trivial
  have e:(([t+4,t+5].map (getT ((a1.put (some (t+4)) (getT a1 1)).put (some (t+5)) (.agg (cellsOf (uuidOf tr)).toArray))):List Value)).toArray=#[getT a 1] ++ #[.agg (cellsOf (uuidOf tr)).toArray]:=by
   simp (disch:=(try simp only [sPu]);omega) [gTp,gTn,hS1 1]
  rw [e]
  exact hc2
 ·rintro e w' ⟨dv',rfl,ho,hbl,hh⟩
  refine ⟨dv',rfl,ops_asg (oNi ?_)⟩
  refine hQ _ _ (hi.step hX (lo:=lo) (t:=t) (by simp [sPu,hs1,hsz]) (by simp [dPu,hd1]) ?_ hlv hlf ?_ (hb1.trans hbl) hh) ?_ trivial
  ·intro s hs1 hs2
   simp (disch:=(try simp only [sPu]);omega) [gTn]
   exact hS1 s (by omega) (by omega)
  ·simp (disch:=(try simp only [sPu]);omega) [gTp]
   exact ho
  ·intro s hs1 hs2
   simp (disch:=(try simp only [sPu]);omega) [gTn]
   exact hS1 s (by omega) (by omega)
theorem aUuidE_ok {T E s i v t b o lo bk cap cnt idx:Nat} {tr:Tree} (hX:X.ok) (hlo:lo<=v) (hlv:X.c.ver < lo) (hlf:X.c.flex < lo) (hv:v < X.T0) (hv1:v ≠ 1) (ht:X.T0<=t) (htN:t+7<=X.N) (hsl:sliceB X.P T E 16=true) (hidx:idx < cnt) (hsv:s < v) (hiv:i < v)
  (hT:arrB X.P E 16=true) (hU:X.I.aUuid ≠ 0) (hb:b < X.B) (hc:∀ j u,(uuidOf tr)[j]?=some u->X.w0.cell? ⟨b,o+idx * 16+j,none⟩=some (cell u)) :
  AFrag X (seqs (aElem X.I X.c T E s i v t bk (.prim .uuid))) (fun a=>getT a s=.slice (some ⟨b,o,none⟩) cnt cap/\getT a i=.int .i64 (idx:Int)) lo t (uuidOf tr):=by
 intro a w xs Q hi hp hlen hQ
 have h1:=hX.oneT
 have hsz:=hi.size
 obtain ⟨hagg,ii,z,hinf,hz,hzs⟩:=arr_of hT
 have hl16:(cellsOf (uuidOf tr)).length=16:=by rw [cLen,uuidOf_length]
 have hagg':aggB X.P E (cellsOf (uuidOf tr)).length=true:=by rw [hl16];exact hagg
 simp only [aElem,if_true,seqs]
 refine wSq (wRg (ops_mv (ops_mv (oNo rfl (opw_index hsl (b:=b) (o:=o) (len:=cnt) (cap:=cap) (j:=idx) (k:=.i64) ?_ ?_ hidx ?_)))))
 ·simp (disch:=(try simp only [sPu]);omega) [eTm,gTp,gTn]
  exact hp.1
 ·simp (disch:=(try simp only [sPu]);omega) [eTm,gTp,gTn]
  exact hp.2
 refine oNo rfl (opw_load_agg hagg' (b:=b) (o:=o+idx * 16) (by rw [eTm,gTp (by simp only [sPu];omega)]) ?_ (oNo rfl (opw_alloc hinf hz (oNo rfl ?_))))
 ·refine cells_cell ?_
  intro j u hu
  rw [hi.below.cell hb]
  exact hc j u hu
 refine opw_store_agg (b:=w.heap.size) (E:=E) (cur:=z.cells) hagg' ?_ ?_ (heap_alloc_new w _) (by rw [hl16];exact hzs) ?_ (oNi ?_)
 ·rw [eTm,gTp (by simp only [sPu];omega)]
 ·rw [eTm,gTn (by omega),gTp (by simp only [sPu];omega)]
 ·intro v hv
  simp only [cellsOf,List.mem_map] at hv
  obtain ⟨u,_,rfl⟩:=hv
  rfl
 generalize hw1:(w.alloc (.cells z.cells E)).setRow w.heap.size (cellsOf (uuidOf tr)).toArray=w1
 have hrow:w1.heap[w.heap.size]?=some (.cells (cellsOf (uuidOf tr)).toArray E (0,0)):=by
  rw [<- hw1]
  exact setRow_heap _ _ _ _ _ _ (heap_alloc_new w _)
 have hold:∀ k,k < w.heap.size->w1.heap[k]?=w.heap[k]?:=by
  intro k hk
  rw [<- hw1,setRow_other _ _ _ _ (by omega)]
  exact Below.heap_alloc _ _ _ hk
 have hbel:Below w.heap.size w w1:=⟨by rw [<- hw1];rfl,by rw [<- hw1];rfl,by rw [<- hw1];rfl,by rw [<- hw1];simp,hold⟩
 have hsz1:w1.heap.size=w.heap.size+1:=by rw [<- hw1];simp
 have hheap:=hi.heap
 have hb1:Below X.B w w1:=hbel.mono hheap
 have hh1:X.B<=w1.heap.size:=by omega
 have hown1:Own X.tU8 w1 X.B (getT a 1) xs:=by
  obtain ⟨q1,q2⟩:=hi.own
  refine ⟨q1,?_⟩
  rcases q2 with q2 | ⟨g,cap,cur,e1,e2,e3,e4⟩
  ·exact .inl q2
  ·exact .inr ⟨g,cap,cur,e1,e2,by rw [hold g (Array.getElem?_eq_some_iff.1 e3).1];exact e3,e4⟩
 rw [pNo]
 generalize ha1:(((((a.put (some t) (getT a s)).put (some (t+1)) (getT (a.put (some t) (getT a s)) i)).put (some (t+2)) (.pointer (some ⟨b,o+idx * 16,none⟩))).put (some (t+3)) (.agg (cellsOf (uuidOf tr)).toArray)).put (some v) (.pointer (some ⟨w.heap.size,0,none⟩)))=a1
 have hs1:a1.tmps.size=X.N:=by rw [<- ha1];simp [sPu,hsz]
 have hd1:a1.defers=a.defers:=by rw [<- ha1];simp [dPu]
 have hv1':getT a1 v=.pointer (some ⟨w.heap.size,0,none⟩):=by rw [<- ha1];simp (disch:=(try simp only [sPu]);omega) [gTp]
 have hS1:∀ s,s ≠ v->s < t->getT a1 s=getT a s:=by
  intro s' h1 h2
  rw [<- ha1]
  simp (disch:=omega) [gTn]
 clear ha1 hw1
 refine wRg (ops_mv (oNo rfl ?_))
 refine opw_load_agg hagg' (b:=w.heap.size) (o:=0) ?_ ?_ ?_
 ·rw [eTm,gTn (by omega)]
  exact hv1'
 ·intro j u hu
  rw [Nat.zero_add,cell_of_row _ _ _ _ _ _ hrow]
  simpa using hu
 have hAP:=hX.ka.uuid hU (uuidOf tr) (uuidOf_length tr)
 refine ops_cal hAP.1 (R:=fun e w'=>∃ dv',e=.returned dv'/\Own X.tU8 w' X.B dv' (xs ++ uuidOf tr)/\Below X.B w1 w'/\X.B<=w'.heap.size) ?_ ?_
 ·have hc2:=hAP.2 w1 X.B (getT a 1) xs hown1 hh1 hlen trivial
  have e:(([t+4,t+5].map (getT ((a1.put (some (t+4)) (getT a1 1)).put (some (t+5)) (.agg (cellsOf (uuidOf tr)).toArray))):List Value)).toArray=#[getT a 1] ++ #[.agg (cellsOf (uuidOf tr)).toArray]:=by
   simp (disch:=(try simp only [sPu]);omega) [gTp,gTn,hS1 1]
  rw [e]
  exact hc2
 ·rintro e w' ⟨dv',rfl,ho,hbl,hh⟩
  refine ⟨dv',rfl,ops_asg (oNi ?_)⟩
  refine hQ _ _ (hi.step hX (lo:=lo) (t:=t) (by simp [sPu,hs1,hsz]) (by simp [dPu,hd1]) ?_ hlv hlf ?_ (hb1.trans hbl) hh) ?_ trivial
  ·intro s hs1 hs2
   simp (disch:=(try simp only [sPu]);omega) [gTn]
   exact hS1 s (by omega) (by omega)
  ·simp (disch:=(try simp only [sPu]);omega) [gTp]
   exact ho
  ·intro s hs1 hs2
   simp (disch:=(try simp only [sPu]);omega) [gTn]
   exact hS1 s (by omega) (by omega)
theorem aLen_ok {nul:Bool} {T E n v t lo cnt cap:Nat} {base:Option Addr} (hX:X.ok) (hlo:lo<=X.T0) (hlv:X.c.ver < lo) (hlf:X.c.flex < lo) (hv:v < lo) (hv1:v ≠ 1) (ht:X.T0<=t) (htN:t+aLenT X.c nul<=X.N) (hT:sliceB X.P T E n=true)
  (hok:okLen X.I X.c nul=true) (hcnt:cnt<=most) :
  AFrag X (aLen X.I X.c nul T v t) (fun a=>getT a v=.slice base cnt cap) lo t (counted X.flex (nul && base.isNone) cnt 4):=by
 have h1:=hX.oneT
 have plain:∀ (f t:Nat) (out:Bytes),AP X.P X.tU8 f #[.int .i64 (cnt:Int)] (fun _ _=>True) out->X.T0<=t->t+4<=X.N ->
   AFrag X (.reg [mv t 1,mv (t+1) v,lenOp (t+2) T (t+1),cal (t+3) f [t,t+2],asg 1 (t+3)]) (fun a=>getT a v=.slice base cnt cap) lo t out:=by
  intro f t out hAP ht htN a w xs Q hi hp hlen hQ
  have hsz:=hi.size
  refine wRg (ops_mv (ops_mv (ops_len hT (base:=base) (len:=cnt) (cap:=cap) (by rw [gTp (by simp only [sPu];omega),gTn (by omega)];exact hp) ?_)))
  refine ops_cal hAP.1 (R:=fun e w'=>∃ dv',e=.returned dv'/\Own X.tU8 w' X.B dv' (xs ++ out)/\Below X.B w w'/\X.B<=w'.heap.size) ?_ ?_
  ·have hc:=hAP.2 w X.B (getT a 1) xs hi.own hi.heap hlen trivial
   refine Eq.mp (congrArg (fun z=>Calls X.P f z w _) ?_) hc
   simp (disch:=(try simp only [sPu]);omega) [gTp,gTn]
  ·rintro e w' ⟨dv',rfl,ho,hb,hh⟩
   refine ⟨dv',rfl,ops_asg (oNi ?_)⟩
   refine hQ _ _ (hi.step hX (lo:=lo) (t:=t) (by simp [sPu]) (by simp [dPu]) ?_ hlv hlf ?_ hb hh) ?_ trivial
   ·intro s hs1 hs2
    simp (disch:=(try simp only [sPu]);omega) [gTn]
   ·simp (disch:=(try simp only [sPu]);omega) [gTp]
    exact ho
   ·intro s hs1 hs2
    simp (disch:=(try simp only [sPu]);omega) [gTn]
 have nulls:∀ (f t:Nat) (out:Bytes),AP X.P X.tU8 f #[.int .i64 (cnt:Int),.bool base.isNone] (fun _ _=>True) out->X.T0<=t->t+6<=X.N ->
   AFrag X (.reg [mv t 1,mv (t+1) v,lenOp (t+2) T (t+1),mv (t+3) v,bin .eql (t+4) T (t+3) (.const (.slice none 0 0)),cal (t+5) f [t,t+2,t+4],asg 1 (t+5)]) (fun a=>getT a v=.slice base cnt cap) lo t out:=by
  intro f t out hAP ht htN a w xs Q hi hp hlen hQ
  have hsz:=hi.size
  refine wRg (ops_mv (ops_mv (ops_len hT (base:=base) (len:=cnt) (cap:=cap) (by rw [gTp (by simp only [sPu];omega),gTn (by omega)];exact hp) (ops_mv (oNo rfl (opw_eqlnil_slice hT (base:=base) (len:=cnt) (cap:=cap) ?_ ?_))))))
  ·simp (disch:=(try simp only [sPu]);omega) [eTm,gTp,gTn]
   exact hp
  refine ops_cal hAP.1 (R:=fun e w'=>∃ dv',e=.returned dv'/\Own X.tU8 w' X.B dv' (xs ++ out)/\Below X.B w w'/\X.B<=w'.heap.size) ?_ ?_
  ·have hc:=hAP.2 w X.B (getT a 1) xs hi.own hi.heap hlen trivial
   refine Eq.mp (congrArg (fun z=>Calls X.P f z w _) ?_) hc
   simp (disch:=(try simp only [sPu]);omega) [gTp,gTn]
  ·rintro e w' ⟨dv',rfl,ho,hb,hh⟩
   refine ⟨dv',rfl,ops_asg (oNi ?_)⟩
   refine hQ _ _ (hi.step hX (lo:=lo) (t:=t) (by simp [sPu]) (by simp [dPu]) ?_ hlv hlf ?_ hb hh) ?_ trivial
   ·intro s hs1 hs2
    simp (disch:=(try simp only [sPu]);omega) [gTn]
   ·simp (disch:=(try simp only [sPu]);omega) [gTp]
    exact ho
   ·intro s hs1 hs2
    simp (disch:=(try simp only [sPu]);omega) [gTn]
 unfold aLen
 cases nul with
 | true =>
  simp only [aLenT,if_true,okLen,fTmps,Bool.and_eq_true,bne_iff_ne,ne_eq,Bool.or_eq_true,Bool.true_and] at htN hok ⊢
  refine fCond_ok hX hlo hlv hlf ht (by split at htN <;> omega) (stable_slot hv hv1) (fun hn hf=>?_) (fun hf t' ht1 ht2 hiff hor=>?_)
  ·rw [hf]
   exact nulls _ _ _ (hX.ka.cnarr (by simpa [hn] using hok.1) cnt _ hcnt) (by omega) (by rw [if_neg (by simp [hn])] at htN;omega)
  ·rw [hf]
   refine nulls _ _ _ (hX.ka.narr hok.2 cnt _ hcnt) (by omega) ?_
   by_cases hn:X.c.never=true
   ·rw [if_pos hn] at htN
    have:=hiff.2 hn
    omega
   ·rw [if_neg hn] at htN
    rcases hor with h | h
    ·exact absurd (hiff.1 h) hn
    ·omega
 | false =>
  simp only [aLenT,Bool.false_eq_true,if_false,okLen,fTmps,Bool.and_eq_true,bne_iff_ne,ne_eq,Bool.or_eq_true,Bool.false_and] at htN hok ⊢
  refine fCond_ok hX hlo hlv hlf ht (by split at htN <;> omega) (stable_slot hv hv1) (fun hn hf=>?_) (fun hf t' ht1 ht2 hiff hor=>?_)
  ·rw [hf]
   exact plain _ _ _ (hX.ka.carr (by simpa [hn] using hok.1) cnt hcnt) (by omega) (by rw [if_neg (by simp [hn])] at htN;omega)
  ·rw [hf]
   refine plain _ _ _ (hX.ka.arr hok.2 cnt hcnt) (by omega) ?_
   by_cases hn:X.c.never=true
   ·rw [if_pos hn] at htN
    have:=hiff.2 hn
    omega
   ·rw [if_neg hn] at htN
    rcases hor with h | h
    ·exact absurd (hiff.1 h) hn
    ·omega
theorem hTags_below {w0 w:World} {B b o:Nat} {u:List (Nat × Bytes)} (h:HTags X.G w0 (· < B) b o u) (hbB:b < B) (hb:Below B w0 w):HTags X.G w (· < B) b o u:=by
 obtain ⟨h0,h1,h2,h3,h4⟩:=h
 refine ⟨h0,h1,h2,h3,?_⟩
 rcases h4 with ⟨h4,h5⟩ | ⟨r,es,clock,h4,hr,h5,hne,h6,h6s,h7⟩
 ·exact .inl ⟨by rw [hb.cell hbB];exact h4,h5⟩
 ·refine .inr ⟨r,es,clock,by rw [hb.cell hbB];exact h4,hr,by rw [hb.block r hr];exact h5,hne,h6,h6s,?_⟩
  intro e he x hx hk
  obtain ⟨base,cap,q1,q2⟩:=h7 e he x hx hk
  exact ⟨base,cap,q1,bytesAt_below q2 hb⟩
theorem aTags_ok {S p f off t b o lo:Nat} {u:List (Nat × Bytes)} (hX:X.ok) (hlo:lo<=X.T0) (hlv:X.c.ver < lo) (hlf:X.c.flex < lo) (hp:p < lo) (hp1:p ≠ 1) (ht:X.T0<=t) (htN:t+14<=X.N) (hb:b < X.B)
  (hok:okTags X.P X.I X.c S (some (f,off))=true) (hu:X.flex=true->HTags X.G X.w0 (· < X.B) b (o+off) u) :
  AFrag X (aTags X.I X.c S p f t) (fun a=>getT a p=.pointer (some ⟨b,o,none⟩)) lo t (wTags X.flex u):=by
 have h1:=hX.oneT
 simp only [okTags,Bool.and_eq_true,Bool.not_eq_true',bne_iff_ne,ne_eq] at hok
 obtain ⟨⟨⟨⟨⟨⟨hn,hS⟩,hI⟩,hU⟩,hl0⟩,he0⟩,hu0⟩:=hok
 intro a w xs Q hi hpp hlen hQ
 have hsz:=hi.size
 unfold aTags
 refine wSq (wRg (ops_mv (oNi ?_)))
 refine wCd (t:=X.flex) (by rw [eTm,gTp (by omega)];exact hi.flex hn) ?_
 have hS0:∀ s,s ≠ t->getT (a.put (some t) (getT a X.c.flex)) s=getT a s:=fun s hs=>gTn hs
 generalize ha0:a.put (some t) (getT a X.c.flex)=a0 at hS0
 have hs0:a0.tmps.size=X.N:=by rw [<- ha0];simp [sPu,hsz]
 have hd0:a0.defers=a.defers:=by rw [<- ha0];simp [dPu]
 by_cases hf:X.flex=true
 ·have hT:=hu hf
  obtain ⟨-,hk,hk2,hk3,-⟩:=id hT
  rw [if_pos hf]
  have hout:wTags X.flex u=uvarint u.length ++ u.flatMap wTag:=by simp [wTags,hf,hk]
  rw [hout] at hlen hQ
  obtain ⟨hfl,hcl⟩:=hX.ka.tagsLen hl0
  obtain ⟨hfe,hce⟩:=hX.ka.tagsEach he0
  have hAP:=hX.ka.uvar hu0 u.length (by simp only [most] at hk2;omega)
  have hT1:=hTags_below hT hb hi.below
  refine wSq (wRg (ops_mv (ops_mv (ops_nilc (ad:=⟨b,o,none⟩) ?_ (ops_fa hS (b:=b) (o:=o) (by rw [gTp (by simp only [sPu];omega)]) ?_)))))
  ·rw [gTp (by simp only [sPu];omega),gTn (by omega),hS0 _ (by omega)]
   exact hpp
  refine ops_cal hfl (R:=fun e w'=>e=.returned (.int .i64 u.length)/\w=w') ?_ ?_
  ·have hc:=hcl w (· < X.B) b (o+off) u hT1
   refine Eq.mp (congrArg (fun z=>Calls X.P X.I.tagsLen z w _) ?_) hc
   simp (disch:=(try simp only [sPu]);omega) [gTp]
  rintro e w' ⟨rfl,rfl⟩
  refine ⟨_,rfl,oNo rfl (opw_convert hI hU (n:=(u.length:Int)) (by simp (disch:=(try simp only [sPu]);omega) [eTm,gTp]) (oNo rfl (opw_arith (op:=.add) (k:=.u32) (m:=0) (n:=(u.length:Int)) (r:=(u.length:Int)) rfl ?_ (.inl ⟨rfl,?_⟩) ?_)))⟩
  ·rw [eTm,gTp (by simp only [sPu];omega),IntWalk.u32_in _ (by simp only [most] at hk2;omega)]
  ·rw [IntWalk.u32_in _ (by simp only [most] at hk2;omega)]
   simp
  refine ops_cal hAP.1 (R:=fun e w'=>∃ dv',e=.returned dv'/\Own X.tU8 w' X.B dv' (xs ++ uvarint u.length)/\Below X.B w w'/\X.B<=w'.heap.size) ?_ ?_
  ·have hc:=hAP.2 w X.B (getT a 1) xs hi.own hi.heap (by simp at hlen ⊢;omega) trivial
   refine Eq.mp (congrArg (fun z=>Calls X.P X.I.aUvar z w _) ?_) hc
   simp (disch:=(try simp only [sPu]);omega) [gTp,gTn,hS0 1]
  rintro e w' ⟨dv',rfl,ho,hbl,hh⟩
  refine ⟨dv',rfl,ops_asg (oNi ?_)⟩
  generalize hg1:((((((((a0.put (some (t+1)) (getT a0 1)).put (some (t+2)) (getT (a0.put (some (t+1)) (getT a0 1)) p)).put (some (t+3)) (.pointer (some ⟨b,o,none⟩))).put (some (t+4)) (.pointer (some ⟨b,o+off,none⟩))).put (some (t+5)) (.int .i64 u.length)).put (some (t+6)) (.int .u32 (IntKind.u32.wrap (u.length:Int)))).put (some (t+7)) (.int .u32 u.length)).put (some (t+8)) dv')=a1
  have hs1:a1.tmps.size=X.N:=by rw [<- hg1];simp [sPu,hs0]
  have hd1:a1.defers=a.defers:=by rw [<- hg1];simp [dPu,hd0]
  have hv1:getT a1 (t+8)=dv':=by rw [<- hg1];simp (disch:=(try simp only [sPu]);omega) [gTp]
  have hS1:∀ s,s < t->getT a1 s=getT a s:=by
   intro s hs
   rw [<- hg1]
   simp (disch:=omega) [gTn]
   exact hS0 s (by omega)
  clear hg1
  have hT2:=hTags_below hT hb (hi.below.trans hbl)
  refine wRg (ops_mv (ops_nilc (ad:=⟨b,o,none⟩) ?_ (ops_fa hS (b:=b) (o:=o) (by rw [gTp (by simp only [sPu];omega)]) (ops_mv ?_))))
  ·rw [gTp (by simp only [sPu];omega),gTn (by omega),hS1 _ (by omega)]
   exact hpp
  refine ops_cal hfe (R:=fun e w2=>∃ dv2,e=.returned dv2/\Own X.tU8 w2 X.B dv2 (xs ++ uvarint u.length ++ u.flatMap wTag)/\BelG X.B dv' dv2 w' w2/\X.B<=w2.heap.size) ?_ ?_
  ·have hc:=hce w' X.B b (o+off) u dv' (xs ++ uvarint u.length) hT2 (by omega) (fun e=>by have:=(ho.lt b e).1;omega) ho hh (by simp at hlen ⊢;omega)
   refine Eq.mp (congrArg (fun z=>Calls X.P X.I.tagsEach z w' _) ?_) hc
   simp (disch:=(try simp only [sPu]);omega) [gTp,gTn,hv1]
  rintro e w2 ⟨dv2,rfl,ho2,⟨hbl2,-⟩,hh2⟩
  refine ⟨dv2,rfl,ops_asg (oNi ?_)⟩
  refine hQ _ _ (hi.step hX (lo:=lo) (t:=t) (by simp [sPu,hs1,hsz]) (by simp [dPu,hd1]) ?_ hlv hlf ?_ (hbl.trans hbl2) hh2) ?_ trivial
  ·intro s hs1 hs2
   simp (disch:=(try simp only [sPu]);omega) [gTn]
   exact hS1 s (by omega)
  ·simp (disch:=(try simp only [sPu]);omega) [gTp]
   rw [<- List.append_assoc]
   exact ho2
  ·intro s hs1 hs2
   simp (disch:=(try simp only [sPu]);omega) [gTn]
   exact hS1 s (by omega)
 ·rw [if_neg hf]
  have hout:wTags X.flex u=[]:=by simp [wTags,hf]
  rw [hout] at hlen hQ
  refine wSk (hQ _ _ ?_ ?_ trivial)
  ·rw [List.append_nil]
   refine hi.step hX (lo:=lo) (t:=t) (by omega) hd0 ?_ hlv hlf ?_ (Below.refl _ _) hi.heap
   ·intro s hs1 hs2
    exact hS0 s (by omega)
   ·rw [hS0 1 (by omega)]
    exact hi.own
  ·intro s hs1 hs2
   exact hS0 s (by omega)
end
end Go.Proofs.YtdnpafdgglpagaaGreatDoor.K
namespace Go.Proofs.YtdnpafdgglpagaaGreatDoor.K
open Go Go.RowKit Go.Proofs.YtdnpafdgglpagaaGreatDoor.T
set_option linter.unusedSimpArgs false
set_option linter.unusedVariables false
set_option maxHeartbeats 4000000
theorem run_append_src2 {P:Program} (w:World) (base:Nat) (t tx ty e:TypeId) (i:TypeInfo) (z:Value) (size bytes:Nat) (ht:P.underlying t=some (.slice e)) (hi:P.info? e=some i) (hz:i.zero=some z)
  (hsize:i.size=size) (hby:i.bytes=bytes) (hzs:z.cells.size=size) (hsz:0 < size)
  (v:Value) (n:Nat) (xs:List Value) (hown:w.ownsRow base e size v n xs)
  (x:Value) (m:Nat) (news:List Value) (hs:Src P size tx x m news w)
  (h63:n+m<=maxLen) (hbytes:(n+m) * bytes<=140737488355328) (hbase:base<=w.heap.size) :
  ∃ v' w',(Builtin.append_ #[t,tx] ty #[v,x]).run P w=.ok v' w'/\w'.ownsRow base e size v' (n+m) (xs ++ news)/\w.grownBy w' v.ownBlock/\(v'.ownBlock=v.ownBlock∨∃ b,v'.ownBlock=some b/\w.heap.size<=b):=by
 subst hsize
 subst hby
 have hl:=hs.newsLen
 have h1:=hs.one
 have hsmall:n+m<=9223372036854775807:=by simp only [maxLen] at h63;omega
 have hlen:(xs ++ news).length=(n+m) * i.size:=by rw [List.length_append,hown.1,hl,Nat.add_mul]
 have grown:∀ (old:Nat),old < n+m->∀ (row:Option Nat),
   (w.drew.alloc (.cells ((xs ++ news).toArray ++ Builtin.zeroCells z.cells (grownCap w (n+m) old e - (n+m))) e)).ownsRow base e i.size
    (.slice (some ⟨w.heap.size,0,none⟩) (n+m) (grownCap w (n+m) old e)) (n+m) (xs ++ news) /\
   w.grownBy (w.drew.alloc (.cells ((xs ++ news).toArray ++ Builtin.zeroCells z.cells (grownCap w (n+m) old e - (n+m))) e)) row:=by
  intro old ho row
  have hge:=grownCap_ge w (n+m) old e
  have hcm:grownCap w (n+m) old e<=maxLen:=grownCap_le_maxLen w (n+m) old e h63
  refine ⟨⟨hlen,.inr ⟨w.heap.size,_,_,rfl,hbase,heap_alloc_new w.drew _,hge,hcm,?_,?_⟩⟩,⟨rfl,rfl,rfl,by simp,fun k hk _=>Below.heap_alloc w.drew _ k hk⟩⟩
  ·rw [Array.size_append,List.size_toArray,hlen,size_zeroCells,hzs,<- Nat.add_mul]
   congr 1
   omega
  ·rw [Array.toList_append,<- hlen]
   exact List.take_left
 rcases hown.2 with ⟨rfl,rfl⟩ | ⟨g,cap,cur,rfl,hbg,hg,hnc,hcm,hcs,htake⟩
 ·have hx:xs=[]:=List.eq_nil_of_length_eq_zero (by simpa using hown.1)
  subst hx
  by_cases hm:m=0
  ·subst hm
   have hn:news=[]:=List.eq_nil_of_length_eq_zero (by simpa using hl)
   subst hn
   refine ⟨.slice none 0 0,w,?_,World.ownsRow_nil w base e i.size,⟨rfl,rfl,rfl,Nat.le_refl _,fun _ _ _=>rfl⟩,.inl rfl⟩
   rcases hs.kind with ⟨e',hk⟩ | hk <;> simp [Builtin.append_,run_underlying ht,run_underlying hk,sizeOf,typeInfo,hi,hs.len,hs.cells]
  ·have hr:=run_append_grow_src (P:=P) w t tx ty e i z ht hi hz none 0 0 [] (run_firstCells_none w.drew i.size 0 0 0) x m news hs (by omega) (by omega) (growslice_fits (by omega) (by simpa using hbytes))
   have hgr:=grown 0 (by omega) (Value.ownBlock (.slice none 0 0))
   simp only [Nat.zero_add,List.nil_append] at hgr hr ⊢
   exact ⟨_,_,hr,hgr.1,hgr.2,.inr ⟨w.heap.size,rfl,Nat.le_refl _⟩⟩
 ·by_cases hroom:n+m<=cap
  ·have hfit:n * i.size+news.length<=cur.size:=by rw [hl,hcs,<- Nat.add_mul];exact Nat.mul_le_mul_right _ hroom
   have hst:=run_storeCells_at P g (n * i.size) e news 0 cur w hg (by simpa using hfit) h1
   simp only [Nat.add_zero] at hst
   have hr:(Builtin.append_ #[t,tx] ty #[.slice (some ⟨g,0,none⟩) n cap,x]).run P w=.ok (.slice (some ⟨g,0,none⟩) (n+m) cap) (w.setRow g (cur.toList.take (n * i.size) ++ news ++ cur.toList.drop (n * i.size+news.length)).toArray):=by
    rcases hs.kind with ⟨e',hk⟩ | hk <;> simp [Builtin.append_,run_underlying ht,run_underlying hk,sizeOf,typeInfo,hi,hs.len,hroom,hs.cells,add_none] <;> simp [hst]
   refine ⟨_,_,hr,⟨hlen,.inr ⟨g,cap,_,rfl,hbg,setRow_heap w g cur _ e _ hg,hroom,hcm,?_,?_⟩⟩,⟨rfl,rfl,rfl,by simp,fun k _ hk=>setRow_other w g k _ (fun e=>hk (by simp [Value.ownBlock,e]))⟩,.inl rfl⟩
   ·simp only [List.size_toArray,List.length_append,List.length_take,List.length_drop,Array.length_toList]
    omega
   ·rw [htake,<- hlen]
    exact List.take_left
  ·have holds:∀ j u,xs[j]?=some u->w.cell? ((⟨g,0,none⟩:Addr).add j)=some u:=hown.cells (g:=g) rfl
   have hr:=run_append_grow_src (P:=P) w t tx ty e i z ht hi hz (some ⟨g,0,none⟩) n cap xs (run_firstCells_some w.drew i.size n ⟨g,0,none⟩ n cap xs hown.1 (by simpa using holds)) x m news hs (by omega) (by omega) (growslice_fits (by omega) hbytes)
   have hgr:=grown cap (by omega) (Value.ownBlock (.slice (some ⟨g,0,none⟩) n cap))
   exact ⟨_,_,hr,hgr.1,hgr.2,.inr ⟨w.heap.size,rfl,Nat.le_refl _⟩⟩
theorem AP2.ap {P:Program} {tU8:Nat} {f:FuncId} {args:Array Value} {out:Bytes} (h:AP2 P tU8 f args out):AP P tU8 f args (fun _ _=>True) out :=
 ⟨h.1,fun w B dv xs h1 h2 h3 _=>(h.2 w B dv xs h1 h2 h3).mono fun e w' ⟨dv',q1,q2,q3,q4⟩=>⟨dv',q1,q2,q3.1,q4⟩⟩
end Go.Proofs.YtdnpafdgglpagaaGreatDoor.K
