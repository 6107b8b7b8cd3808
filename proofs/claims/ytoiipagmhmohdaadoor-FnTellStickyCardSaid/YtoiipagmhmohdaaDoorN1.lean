/- Generic texts: K11 K12 S1 S2 K13. No condition. -/
import Derived.Test.YtoiipagmhmohdaaDoorN0
import Derived.Deep.AppendSrc
import Derived.OrdersHeld
import Derived.Laws.IdiomCopy
import Derived.Laws.OwnMore
namespace Go.Proofs.YtoiipagmhmohdaaDoor.K
open Go Go.RowKit Go.Proofs.YtoiipagmhmohdaaDoor.T
set_option linter.unusedVariables false
attribute [local simp] eTm eCo pNo gTp gTn
set_option linter.unusedSimpArgs false
theorem fCa {P:Program} {f:FuncId} {fn:Func} {s:SC} {args:Array Value} {w:World} {R:Ending→World→Prop} {N:Nat} (hf:P.funcs[f]?=some fn) (hb:fn.body.map strip=some s) (hn:fn.ntmps=N)
    (hN:args.size≤N) (h:∀ a0:Act,a0.tmps.size=N→a0.defers=[]→(∀ i v,args[i]?=some v→getT a0 i=v)→s.wp P (bodyPost P fn R) a0 w):Calls P f args w R:=by
  obtain ⟨c,hc,hs⟩:∃ c,fn.body=some c∧strip c=s:=by
    cases hc:fn.body with
    | none=>simp [hc] at hb
    | some c=>exact ⟨c,rfl,by simpa [hc] using hb⟩
  refine calls_of_wp hf hc (h _ ?_ rfl ?_ c hs)
  · simp;omega
  · intro i v hv
    have hlt:i < args.size:=(Array.getElem?_eq_some_iff.1 hv).1
    simp only [getT,Array.getD_eq_getD_getElem?]
    rw [Array.getElem?_append_left hlt,hv]
    rfl
theorem fnOK_of {P : Program} {f : FuncId} {fn : Func} {s : SC} (hf : P.funcs[f]? = some fn) (hb : fn.body.map strip = some s) (hnm : (fn.name == "runtime.NumGoroutine") = false) : FnOK P f := by
  refine ⟨fn,hf,?_,hnm⟩
  cases hc:fn.body with
  | none=>simp [hc] at hb
  | some c=>rfl
theorem ret_tmp {P:Program} {fn:Func} {R:Ending→World→Prop} {a:Act} {w:World} {r:Nat} (hr:fn.results=#[.tmp r]) (hd:a.defers=[]) (hR:R (.returned (getT a r)) w):bodyPost P fn R .ret a w :=
  bodyPost_ret (results_tmp hr _ _ _) hd hR
theorem fill_seq:∀ (vs pre rest:List Value),vs.length=rest.length→(∀ v ∈ vs,v.cells=#[v]) →
    Instr.fill (fun i=>some (i,1)) (pre ++ rest).toArray ((List.range' pre.length vs.length).zip vs)=some (pre ++ vs).toArray
  | [],pre,rest,hl,_=>by
    cases rest with
    | nil=>simp [Instr.fill]
    | cons x r=>simp at hl
  | v :: vs,pre,rest,hl,hc=>by
    cases rest with
    | nil=>simp at hl
    | cons x r =>
      have hv:=hc v (by simp)
      have ih:=fill_seq vs (pre ++ [v]) r (by simpa using hl) (fun u hu=>hc u (by simp [hu]))
      simp only [List.length_append,List.length_cons,List.length_nil,Nat.zero_add,List.append_assoc,List.cons_append,List.nil_append] at ih
      simp only [List.length_cons,List.range'_succ,List.zip_cons_cons,Instr.fill,hv]
      simp
      exact ih
theorem opw_buildU8s {P:Program} {a:Act} {w:World} {K:Act→World→Prop} {d:Option Tmp} {g:Option (Nat × Bool)} {T tU8 n:Nat} {parts:Array (Nat × Operand)} {bs:Bytes} (hT:u8sB P T tU8=true) (hn:n=bs.length) (hs:n≤16777216) (hn0:0 < n)
    (hp:(parts.map fun x=>(x.1,a.eval x.2)).toList=(List.range' 0 bs.length).zip (cellsOf bs))
    (h:K (a.put d (.slice (some ⟨w.heap.size,0,none⟩) bs.length bs.length)) (w.alloc (.cells (cellsOf bs).toArray tU8))) :
    opw P ⟨d,.buildSlice T n parts,g⟩ a w K:=by
  subst hn
  obtain ⟨hu,i,hi,hz,hsz,_⟩:=u8s_of hT
  refine oVa (w':=w.alloc (.cells (cellsOf bs).toArray tU8)) (by simp) (fun p hp2=>?_) h
  have hzero:(Array.range bs.length).map (fun j=>#[Value.int .u8 0][j % 1]!)=(List.replicate bs.length (Value.int .u8 0)).toArray:=by
    apply Array.ext
    · simp
    · intro j h1 h2
      simp [Nat.mod_one]
  have hfill:=fill_seq (cellsOf bs) [] (List.replicate bs.length (Value.int .u8 0)) (by simp [cLen]) (by
    intro v hv
    simp only [cellsOf,List.mem_map] at hv
    obtain ⟨u,_,rfl⟩:=hv
    rfl)
  simp only [List.nil_append,List.length_nil,cLen] at hfill
  have hne:¬ bs.length=0:=by omega
  have hparts:(parts.map fun x=>(x.1,a.eval x.2)).toList=(List.range' 0 bs.length).zip (cellsOf bs):=hp
  simp only [execOp,hp2,Instr.buildSlice,sizeOf,typeInfo,zeroValue]
  simp [run_underlying hu,hi,hz,hsz,Value.cells,newRow,hne]
  rw [if_neg (by omega)]
  simp only [Array.toList_map] at hparts
  simp at hzero hfill
  simp [hzero,hparts,hfill]
theorem byteOf_cell (m:Int):cell (T.byteOf m)=.int .u8 (m % 256):=by
  unfold cell T.byteOf
  congr 1
  have h1:0≤m % 256:=Int.emod_nonneg _ (by decide)
  have h2:m % 256 < 256:=Int.emod_lt_of_pos _ (by decide)
  rw [UInt8.toNat_ofNat_of_lt' (by show (m % 256).toNat < 256;omega)]
  omega
theorem wrap_u8 (m:Int):IntKind.u8.wrap m=m % 256:=by
  simp only [IntKind.wrap,IntKind.bits,IntKind.signed,Bool.false_and]
  rfl
section
variable {P:Program} {tU8:Nat}
end
end Go.Proofs.YtoiipagmhmohdaaDoor.K
namespace Go.Proofs.YtoiipagmhmohdaaDoor.K
open Go Go.RowKit Go.Proofs.YtoiipagmhmohdaaDoor.T
attribute [local simp] eTm eCo pNo gTp gTn
set_option linter.unusedSimpArgs false
set_option linter.unusedVariables false
def IsLen (n L:Nat):Prop:=∀ k,L≤k ↔ n < 2 ^ k
theorem IsLen.shift {n L m:Nat} (h:IsLen (n / 2 ^ m) L) (hn:2 ^ m≤n):IsLen n (m+L):=by
  intro k
  have hpos:0 < 2 ^ m:=Nat.pow_pos (by decide)
  constructor
  · intro hk
    have h1:=(h (k - m)).1 (by omega)
    rw [Nat.div_lt_iff_lt_mul hpos,← Nat.pow_add] at h1
    rwa [show k - m+m=k by omega] at h1
  · intro hk
    by_cases hm:m≤k
    · have:n / 2 ^ m < 2 ^ (k - m):=by
        rw [Nat.div_lt_iff_lt_mul hpos,← Nat.pow_add,show k - m+m=k by omega]
        exact hk
      have:=(h (k - m)).2 this
      omega
    · have:2 ^ k≤2 ^ m:=Nat.pow_le_pow_right (by decide) (by omega)
      omega
def strB (P:Program) (T:TypeId):Bool :=
  match P.underlying T with
  | some .string=>true
  | _=>false
theorem str_of {P:Program} {T:TypeId} (h:strB P T=true):P.underlying T=some .string:=by
  unfold strB at h
  split at h <;> simp_all
section
variable {P:Program} {tU8:Nat}
end
section
variable {P:Program} {a:Act} {w:World} {K:Act→World→Prop} {d:Option Tmp} {g:Option (Nat × Bool)}
end
section
variable {P:Program} {tU8:Nat}
end
end Go.Proofs.YtoiipagmhmohdaaDoor.K
namespace Go.Proofs.YtoiipagmhmohdaaDoor.K
open Go
set_option linter.unusedSimpArgs false
set_option linter.unusedVariables false
def sLooks (ops:List SOp) (o:SOp):List Tmp :=
  (o.op.operands.toList.filterMap fun | .tmp t=>some t | _=>none) ++
  (match o.guard with
   | some (g,_)=>((ops[g]?).bind (·.dst)).toList
   | none=>[])
def sApart (ops:List SOp) (x y:SOp):Bool :=
  (match x.dst with
   | some d=>!(sLooks ops y).contains d && y.dst != some d
   | none=>true) &&
  (match y.dst with
   | some d=>!(sLooks ops x).contains d
   | none=>true)
def sReady (after:List (List Nat)) (listed:Array Bool):List Nat :=
  (List.range after.length).filter fun i =>
    !listed.getD i true && ((after[i]?).map (·.all fun j=>listed.getD j false)).getD false
def sFree (ops:List SOp) (after:List (List Nat)) (listed:Array Bool) (i:Nat):Bool :=
  match ops[i]? with
  | none=>false
  | some oi=>(List.range after.length).all fun j=>j == i || listed.getD j true || match ops[j]?,after[j]? with
      | some oj,some l=>l.contains i || sApart ops oi oj
      | _,_=>true
def sNoSel (ops:List SOp):Bool:=ops.all fun o=>match o.op with | .select ..=>false | _=>true
theorem operands_strip (o:Op):(stripOp o).operands=o.operands:=by
  unfold stripOp
  split <;> rfl
section
variable {P:Program} {ops:Array Oper}
def aft (o:Oper):List Nat:=(o.after.toList.filter (Region.binds .any)).map (·.on)
theorem looks_strip (o:Oper):sLooks (ops.toList.map sop) (sop o)=o.looksAt ops:=by
  unfold sLooks Oper.looksAt
  show List.filterMap _ (stripOp o.op).operands.toList ++ _=_
  rw [operands_strip]
  congr 1
  show (match o.guard with | some (g,_)=>(((ops.toList.map sop)[g]?).bind (·.dst)).toList | none=>[])=_
  cases o.guard with
  | none=>rfl
  | some g =>
    simp only [List.getElem?_map,Array.getElem?_toList]
    cases ops[g.1]? <;> rfl
theorem apart_strip (x y:Oper):sApart (ops.toList.map sop) (sop x) (sop y)=x.apart ops y:=by
  unfold sApart Oper.apart
  rw [looks_strip,looks_strip]
  rfl
theorem all_filter_on (l:List Edge) (listed:Array Bool):(l.filter (Region.binds .any)).all (fun e=>listed.getD e.on false)=l.all fun e=>!Region.binds .any e || listed.getD e.on false:=by
  induction l with
  | nil=>rfl
  | cons e l ih =>
    simp only [List.filter_cons,List.all_cons]
    cases h:Region.binds .any e <;> simp [ih]
theorem ready_strip (listed:Array Bool):sReady (ops.toList.map aft) listed=Region.ready .any ops listed:=by
  unfold sReady Region.ready
  rw [List.length_map,Array.length_toList]
  congr 1
  funext i
  congr 1
  simp only [List.getElem?_map,Array.getElem?_toList]
  cases ops[i]? with
  | none=>rfl
  | some o =>
    simp only [Option.map_some,Option.getD_some,aft,List.all_map]
    rw [← Array.all_toList]
    exact all_filter_on _ _
theorem any_filter_on (l:List Edge) (i:Nat):((l.filter (Region.binds .any)).map (·.on)).contains i=l.any fun e=>Region.binds .any e && e.on == i:=by
  induction l with
  | nil=>rfl
  | cons e l ih =>
    simp only [List.filter_cons,List.any_cons]
    cases h:Region.binds .any e
    · simpa using ih
    · simp only [if_true,List.map_cons,List.contains_cons,ih,Bool.true_and]
      congr 1
      exact Bool.beq_comm
theorem free_strip (listed:Array Bool) (i:Nat):sFree (ops.toList.map sop) (ops.toList.map aft) listed i=Region.free .any ops listed i:=by
  unfold sFree Region.free
  rw [List.length_map,Array.length_toList]
  simp only [List.getElem?_map,Array.getElem?_toList]
  cases hi:ops[i]? with
  | none=>rfl
  | some oi =>
    simp only [Option.map_some]
    congr 1
    funext j
    congr 1
    cases hj:ops[j]? with
    | none=>rfl
    | some oj =>
      simp only [Option.map_some]
      rw [apart_strip]
      congr 1
      rw [← Array.any_toList]
      exact any_filter_on _ _
theorem noSel_strip:sNoSel (ops.toList.map sop)=Region.noSelect ops:=by
  unfold sNoSel Region.noSelect
  rw [List.all_map,← Array.all_toList]
  congr 1
  funext o
  show (match stripOp o.op with | .select ..=>false | _=>true)=_
  unfold stripOp
  cases o.op <;> try rfl
  rename_i c
  obtain ⟨f,x,y⟩:=c
  cases f <;> rfl
def opq (P:Program) (S:World→Prop) (s:SOp) (a:Act) (v:Value):Prop :=
  ∀ o:Oper,sop o=s→∀ w,S w→(execOp a.eval o).run P w=.ok (.value v) w
def dregw (P:Program) (S:World→Prop) (ops:List SOp):List (Nat × Bool)→(Act→World→Prop)→Act→World→Prop
  | [],K,a,w=>K a w
  | (i,q) :: r,K,a,w=>∃ s,ops[i]?=some s ∧
    match s.guard with
    | none=>if q then ∃ v,opq P S s a v∧dregw P S ops r K (a.put s.dst v) w else opw P s a w (fun a' w'=>S w'∧dregw P S ops r K a' w')
    | some (j,want)=>∃ (dj:Nat) (b:Bool),(ops[j]?).bind (·.dst)=some dj∧dj < a.tmps.size∧gv (getT a dj) want b ∧
        if b=want then (if q then ∃ v,opq P S s a v∧dregw P S ops r K (a.put s.dst v) w else opw P s a w (fun a' w'=>S w'∧dregw P S ops r K a' w'))
        else dregw P S ops r K (a.put s.dst undef) w
def chk (ops:List SOp) (after:List (List Nat)):List (Nat × Bool)→Array Bool→Bool
  | [],listed=>(sReady after listed).isEmpty
  | (i,q) :: r,listed=>(if q then sFree ops after listed i && (sReady after listed).contains i else decide (sReady after listed=[i])) && chk ops after r (listed.setIfInBounds i true)
theorem dreg_sound {S:World→Prop} {Q:Exit→Act→World→Prop} {K:Act→World→Prop} (hQ:∀ c a w,¬ Q (.panic c) a w) (hK:∀ a w,K a w→Q .normal a w) (hns:Region.noSelect ops=true) :
    ∀ (π:List (Nat × Bool)) (fuel:Nat) (listed:Array Bool) (a:Act) (w:World),π.length≤fuel→chk (ops.toList.map sop) (ops.toList.map aft) π listed=true→S w →
      dregw P S (ops.toList.map sop) π K a w→wpAnyH P .any ops Q S fuel listed a w
  | [],fuel,listed,a,w,_,hc,_,h=>by
    simp only [chk,ready_strip,List.isEmpty_iff] at hc
    exact wpAnyH_done hc (hK _ _ h) fuel
  | (i,q) :: r,fuel,listed,a,w,hl,hc,hS,h=>by
    obtain ⟨fuel,rfl⟩:∃ f,fuel=f+1:=⟨fuel - 1,by simp at hl;omega⟩
    have hl':r.length≤fuel:=by simp at hl;omega
    simp only [chk,Bool.and_eq_true,ready_strip,free_strip] at hc
    obtain ⟨hc1,hc2⟩:=hc
    unfold dregw at h
    obtain ⟨s,hs,h⟩:=h
    simp only [List.getElem?_map,Array.getElem?_toList] at hs
    obtain ⟨o,ho,rfl⟩:=Option.map_eq_some_iff.1 hs
    have act:Region.wanted o (yielded ops a.tmps)=true→(if q=true then ∃ v,opq P S (sop o) a v∧dregw P S (ops.toList.map sop) r K (a.put (sop o).dst v) w else opw P (sop o) a w (fun a' w'=>S w'∧dregw P S (ops.toList.map sop) r K a' w'))→wpAnyH P .any ops Q S (fuel+1) listed a w:=by
      intro hw h
      cases q with
      | true =>
        simp only [if_true,Bool.and_eq_true] at hc1 h
        obtain ⟨v,hv,h⟩:=h
        exact wpAnyH_take ho hns hc1.1 hc1.2 (fun c a w hq=>absurd hq (hQ _ _ _)) (.inl ⟨hw,fun w hS=>hv o rfl w hS⟩) hS (dreg_sound hQ hK hns r fuel _ _ w hl' hc2 hS h)
      | false =>
        simp only [if_false,Bool.false_eq_true,decide_eq_true_eq] at hc1 h
        refine wpAnyH_all hc1 (by simp) ?_
        intro i' hi'
        simp at hi'
        subst hi'
        unfold wpOp
        simp only [ho]
        rw [if_pos hw]
        exact .inl (h o _ Q rfl fun a' w' hq=>⟨hq.1,dreg_sound hQ hK hns r fuel _ _ w' hl' hc2 hq.1 hq.2⟩)
    have hgo:(sop o).guard=o.guard:=rfl
    rw [hgo] at h
    cases hg:o.guard with
    | none =>
      rw [hg] at h
      exact act (by simp only [Region.wanted,hg]) h
    | some g =>
      obtain ⟨j,want⟩:=g
      rw [hg] at h
      obtain ⟨dj,b,hj,hlt,hb,h⟩:=h
      have hyj:=wanted_of_gv hg hj hlt hb
      by_cases hbw:b=want
      · rw [if_pos hbw] at h
        exact act (by rw [hyj];subst hbw;simp) h
      · rw [if_neg hbw] at h
        have hw:Region.wanted o (yielded ops a.tmps)=false:=by rw [hyj];simpa using hbw
        have hrest:=dreg_sound (Q:=Q) hQ hK hns r fuel _ _ w hl' hc2 hS h
        cases q with
        | true =>
          simp only [if_true,Bool.and_eq_true] at hc1
          exact wpAnyH_take ho hns hc1.1 hc1.2 (fun c a w hq=>absurd hq (hQ _ _ _)) (.inr ⟨hw,rfl⟩) hS hrest
        | false =>
          simp only [if_false,Bool.false_eq_true,decide_eq_true_eq] at hc1
          refine wpAnyH_all hc1 (by simp) ?_
          intro i' hi'
          simp at hi'
          subst hi'
          unfold wpOp
          simp only [ho]
          rw [if_neg (by simp [hw])]
          exact ⟨hS,hrest⟩
end
theorem SC.wp_dreg {P:Program} {Q:Exit→Act→World→Prop} {a:Act} {w:World} {l:List SOp} {after:List (List Nat)} (hm:P.follows .mixedOrders=true) (S:World→Prop) (π:List (Nat × Bool))
    (hns:sNoSel l=true) (hc:chk l after π (Array.replicate after.length false)=true) (hlen:π.length≤after.length) (hS:S w.drew)
    (h:dregw P S l π (Q .normal) a w.drew):(SC.dreg l after).wp P Q a w:=by
  intro c hcd
  cases c <;> simp [strip] at hcd
  rename_i id ops draw
  split at hcd
  · rename_i hd
    subst hd
    simp only [SC.dreg.injEq] at hcd
    obtain ⟨rfl,rfl⟩:=hcd
    let Q':Exit→Act→World→Prop:=fun e a w=>match e with | .panic _=>False | _=>Q e a w
    have hQ':∀ e a w,Q' e a w→Q e a w:=by
      intro e a w h
      cases e <;> first | exact h | exact h.elim
    refine Go.wp_mono ?_ hQ'
    rw [noSel_strip] at hns
    have haft:(ops.toList.map fun o=>(o.after.toList.filter (Region.binds .any)).map (·.on))=ops.toList.map aft:=rfl
    rw [haft] at hc hlen
    have hsz:(ops.toList.map aft).length=ops.size:=by simp
    rw [hsz] at hc hlen
    exact wp_region_held hm (dreg_sound (S:=S) (K:=Q .normal) (Q:=Q') (fun c a w h=>h.elim) (fun a w h=>h) hns π ops.size _ a _ hlen hc hS h)
  · simp at hcd
end Go.Proofs.YtoiipagmhmohdaaDoor.K
namespace Go.Proofs.YtoiipagmhmohdaaDoor.K
open Go Go.RowKit Go.Proofs.YtoiipagmhmohdaaDoor.T
set_option linter.unusedSimpArgs false
set_option linter.unusedVariables false
theorem run_append_src {P:Program} (w:World) (base:Nat) (t tx ty e:TypeId) (i:TypeInfo) (z:Value) (size bytes:Nat) (ht:P.underlying t=some (.slice e)) (hi:P.info? e=some i) (hz:i.zero=some z)
    (hsize:i.size=size) (hby:i.bytes=bytes) (hzs:z.cells.size=size) (hsz:0 < size)
    (v:Value) (n:Nat) (xs:List Value) (hown:w.ownsRow base e size v n xs)
    (x:Value) (m:Nat) (news:List Value) (hs:Src P size tx x m news w)
    (h63:n+m≤maxLen) (hbytes:(n+m) * bytes≤140737488355328) (hbase:base≤w.heap.size) :
    ∃ v' w',(Builtin.append_ #[t,tx] ty #[v,x]).run P w=.ok v' w'∧w'.ownsRow base e size v' (n+m) (xs ++ news)∧w.grownBy w' v.ownBlock:=by
  obtain ⟨v',w',h1,h2,h3,_⟩:=run_append_src2 w base t tx ty e i z size bytes ht hi hz hsize hby hzs hsz v n xs hown x m news hs h63 hbytes hbase
  exact ⟨v',w',h1,h2,h3⟩
section
variable {P:Program} {a:Act} {w:World} {K:Act→World→Prop} {d:Option Tmp} {g:Option (Nat × Bool)}
theorem opw_appendU8 {T Tx tU8 B:Nat} {x y:Operand} {dv xv:Value} {xs bs:Bytes} {ts:Array TypeId} (hT:u8sB P T tU8=true) (hx:a.eval x=dv) (hy:a.eval y=xv) (hts:ts=#[T,Tx]) (ho:Own tU8 w B dv xs) (hB:B≤w.heap.size)
    (hs:Src P 1 Tx xv bs.length (cellsOf bs) w) (hlen:xs.length+bs.length≤lim)
    (h:∀ dv' w',Own tU8 w' B dv' (xs ++ bs)→Below B w w'→B≤w'.heap.size→w.grownBy w' dv.ownBlock→K (a.put d dv') w'):opw P ⟨d,.call ⟨.builtin .append,#[x,y],ts⟩,g⟩ a w K:=by
  subst hts
  obtain ⟨hu,i,hi,hz,hs1,hby⟩:=u8s_of hT
  have hlim:lim=70368744177664:=rfl
  refine opw_of fun o next Q hd hop hn=>?_
  obtain ⟨v',w',hr,h2,h3⟩:=run_append_src (P:=P) w B T Tx o.type tU8 i (.int .u8 0) 1 1 hu hi hz hs1 hby rfl (by decide) dv xs.length (cellsOf xs) ho xv bs.length (cellsOf bs) hs (by simp only [maxLen];omega) (by omega) hB
  have hop':o.op=.call ⟨.builtin .append,#[x,y],#[T,Tx]⟩:=stripOp_eq (by simp) hop
  have hr':(execOp a.eval o).run P w=.ok (.value v') w':=by
    simp [execOp,hop',resolve,invoke,builtin,hx,hy,hr]
  rw [hr',Oper.upon_value,hd]
  refine hn _ _ (h v' w' ?_ ((Below.refl B w).grown h3 hB (fun k hk=>own_u8 ho k hk)) (Nat.le_trans hB h3.size) h3)
  unfold Own
  rw [cellsOf_append,List.length_append]
  exact h2
theorem opw_box {T:Nat} {x:Operand} {v:Value} (hx:a.eval x=v) (h:K (a.put d (.pointer (some ⟨w.heap.size,0,none⟩))) (w.alloc (.cells v.cells T))) :
    opw P ⟨d,.box T x,g⟩ a w K:=by
  refine oVa (w':=w.alloc (.cells v.cells T)) (by simp) (fun p hp=>?_) h
  simp [execOp,hp,Instr.box,hx,newVar,newRow]
theorem opsw_yes {all:List SOp} {s:SOp} {r:List SOp} {j dj:Nat} {want:Bool} (hg:s.guard=some (j,want)) (hj:(all[j]?).bind (·.dst)=some dj) (hlt:dj < a.tmps.size) (hb:getT a dj=.bool want)
    (h:opw P s a w (opsw P all r K)):opsw P all (s :: r) K a w:=by
  unfold opsw
  rw [hg]
  exact ⟨dj,want,hj,hlt,.inl hb,by rw [if_pos rfl];exact h⟩
theorem opsw_no {all:List SOp} {s:SOp} {r:List SOp} {j dj:Nat} {want:Bool} (hg:s.guard=some (j,want)) (hj:(all[j]?).bind (·.dst)=some dj) (hlt:dj < a.tmps.size) (hb:getT a dj=.bool !want∨getT a dj=undef)
    (h:opsw P all r K (a.put s.dst undef) w):opsw P all (s :: r) K a w:=by
  unfold opsw
  rw [hg]
  exact ⟨dj,!want,hj,hlt,hb.imp id (fun h=>⟨h,rfl⟩),by rw [if_neg (by cases want <;> simp)];exact h⟩
end
end Go.Proofs.YtoiipagmhmohdaaDoor.K
namespace Go.Proofs.YtoiipagmhmohdaaDoor.K
open Go Go.RowKit Go.Proofs.YtoiipagmhmohdaaDoor.T
attribute [local simp] eTm eCo pNo gTp gTn
set_option linter.unusedSimpArgs false
set_option linter.unusedVariables false
section
variable {P:Program} {tU8:Nat}
theorem src_str {T:TypeId} (hT:strB P T=true) (s:ByteArray) (w:World):Src P 1 T (.string s) s.data.toList.length (cellsOf s.data.toList) w:=by
  have h:=Src.ofString (P:=P) w (str_of hT) s
  have e:s.size=s.data.toList.length:=by rw [Array.length_toList];rfl
  rwa [e] at h
theorem wrap_i64' (m:Int):IntKind.i64.wrap m=if 9223372036854775808≤m % 18446744073709551616 then m % 18446744073709551616 - 18446744073709551616 else m % 18446744073709551616:=by
  simp [IntKind.wrap,IntKind.bits,IntKind.signed]
end
end Go.Proofs.YtoiipagmhmohdaaDoor.K
