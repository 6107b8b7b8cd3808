/- Generic texts: Z1 Z2. No condition. -/
import Derived.Test.YtmapoohbongifaaGreatDoorM9
import Derived.ChangeArms
import Derived.Deep.Slices
import Derived.OpenShut
namespace Go.Proofs.YtmapoohbongifaaGreatDoor.K
open Go Go.RowKit Go.Proofs.YtmapoohbongifaaGreatDoor.T
open Go.ChangeShapes Go.WideShapes Go.Deep
set_option linter.unusedSimpArgs false
set_option linter.unusedVariables false
structure BulkC {H:Type} (B:DataW H→Nat):Prop where
  one:∀ d,1≤B d
  slice:∀ es sp,1+(es.map B).sum≤B (.slice es sp)
  agg:∀ ps,1+(ps.map B).sum≤B (.agg ps)
def sl8 (P:Program) (t:TypeId):Bool:=match P.underlying t with
  | some (.slice e)=>(match P.underlying e with | some (.int .u8)=>true | _=>false) && P.cellsOf e == 1 && P.cellsOf t == 1
  | _=>false
def isK (P:Program) (t:TypeId) (k:IntKind):Bool:=(match P.underlying t with | some (.int k')=>k' == k | _=>false) && P.cellsOf t == 1
def slO (P:Program) (t e:TypeId):Bool:=(match P.underlying t with | some (.slice e')=>e' == e | _=>false) && P.cellsOf t == 1
def isBo (P:Program) (t:TypeId):Bool:=(match P.underlying t with | some .bool=>true | _=>false) && P.cellsOf t == 1
def otB (P:Program) (T Tg:TypeId):Bool :=
  P.cellsOf T == 5 && P.cellsOf Tg == 2 &&
  (match P.underlying T with
   | some (.struct fs)=>(match fs.toList with
     | [f0,f1,f2,f3,f4]=>f0.offset == 0 && f1.offset == 1 && f2.offset == 2 && f3.offset == 3 && f4.offset == 4 && isK P f0.type .i64 && sl8 P f1.type && isBo P f2.type && slO P f3.type T && slO P f4.type Tg
     | _=>false)
   | _=>false) &&
  (match P.underlying Tg with
   | some (.struct fs)=>(match fs.toList with
     | [g0,g1]=>g0.offset == 0 && g1.offset == 1 && isK P g0.type .u32 && sl8 P g1.type
     | _=>false)
   | _=>false)
theorem sl8_of {P:Program} {t:TypeId} (h:sl8 P t=true):∃ e,P.underlying t=some (.slice e)∧P.underlying e=some (.int .u8)∧P.cellsOf e=1∧P.cellsOf t=1:=by
  unfold sl8 at h
  split at h
  · rename_i e he
    simp only [Bool.and_eq_true,beq_iff_eq] at h
    obtain ⟨⟨h1,h2⟩,h3⟩:=h
    split at h1
    · rename_i h4;exact ⟨e,he,h4,h2,h3⟩
    · cases h1
  · cases h
theorem isK_of {P:Program} {t:TypeId} {k:IntKind} (h:isK P t k=true):P.underlying t=some (.int k)∧P.cellsOf t=1:=by
  simp only [isK,Bool.and_eq_true,beq_iff_eq] at h
  obtain ⟨h1,h2⟩:=h
  split at h1
  · rename_i k' hk;have:k'=k:=by simpa using h1
    subst this;exact ⟨hk,h2⟩
  · cases h1
theorem slO_of {P:Program} {t e:TypeId} (h:slO P t e=true):P.underlying t=some (.slice e)∧P.cellsOf t=1:=by
  simp only [slO,Bool.and_eq_true,beq_iff_eq] at h
  obtain ⟨h1,h2⟩:=h
  split at h1
  · rename_i k' hk;have:k'=e:=by simpa using h1
    subst this;exact ⟨hk,h2⟩
  · cases h1
theorem isBo_of {P:Program} {t:TypeId} (h:isBo P t=true):P.underlying t=some .bool∧P.cellsOf t=1:=by
  simp only [isBo,Bool.and_eq_true,beq_iff_eq] at h
  obtain ⟨h1,h2⟩:=h
  split at h1
  · rename_i hk;exact ⟨hk,h2⟩
  · cases h1
theorem sum_le {α β:Type} (f:α→Nat) (g:β→Nat):∀ (l1:List α) (l2:List β),l1.length=l2.length→(∀ (i:Nat) x y,l1[i]?=some x→l2[i]?=some y→f x≤g y)→(l1.map f).sum≤(l2.map g).sum
  | [],[],_,_=>by simp
  | x :: l1,y :: l2,hl,h=>by
    simp only [List.map_cons,List.sum_cons]
    have h0:=h 0 x y rfl rfl
    have:=sum_le f g l1 l2 (by simpa using hl) fun i a b ha hb=>h (i+1) a b (by simpa using ha) (by simpa using hb)
    omega
  | [],_ :: _,hl,_=>by simp at hl
  | _ :: _,[],hl,_=>by simp at hl
theorem bulkL_sum:∀ ts:List Tree,bulkL ts=(ts.map Tree.bulk).sum
  | []=>rfl
  | t :: r=>by simp only [bulkL,List.map_cons,List.sum_cons,bulkL_sum r]
theorem bulkU_sum:∀ ts:List (Nat × Bytes),bulkU ts=(ts.map fun x=>1+x.2.length).sum
  | []=>rfl
  | t :: r=>by simp only [bulkU,List.map_cons,List.sum_cons,bulkU_sum r]
theorem sum_ones {α:Type} (f:α→Nat) (h:∀ x,1≤f x):∀ l:List α,l.length≤(l.map f).sum
  | []=>by simp
  | x :: r=>by simp only [List.map_cons,List.sum_cons,List.length_cons];have:=h x;have:=sum_ones f h r;omega
section
variable {H:Type} {enc:TypeId × Value→H} {P:Program} {w:World} {B:DataW H→Nat}
theorem addr_of {a:Addr} {n:Nat} {cs:List Value} (h:w.cells? 0 a n=some cs) (hn:0 < n):a=⟨a.block,a.off,none⟩∧a.block < w.heap.size:=by
  obtain ⟨_,hl,hc⟩:=World.cells?_some h
  have h0:=hc 0 hn
  have e0:a.add 0=a:=by simp [Addr.add]
  rw [e0,List.getElem?_eq_getElem (by omega)] at h0
  have hs:a.spot=none∧a.block < w.heap.size:=by
    simp only [World.cell?] at h0
    split at h0
    · rename_i hb
      split at h0
      · cases h0
      · rename_i hs
        exact ⟨by cases hq:a.spot <;> simp_all,(Array.getElem?_eq_some_iff.1 hb).1⟩
    · cases h0
  refine ⟨?_,hs.2⟩
  cases a
  simp only at hs
  rw [hs.1]
theorem range_of {b o n:Nat} {cs:List Value} (h:w.cells? 0 ⟨b,o,none⟩ n=some cs):rangeV w b o n=some cs:=by
  obtain ⟨_,hl,hc⟩:=World.cells?_some h
  rw [← hl]
  refine rangeV_of cs o fun j v hj=>?_
  have hlt:j < cs.length:=(List.getElem?_eq_some_iff.1 hj).1
  rw [← hj,← hc j (by omega),add_none]
theorem open_els {t e k fuel:Nat} {cs:List Value} {x:DataW H × List MemPlace} (ht:P.underlying t=some (.slice e)) (hk:P.cellsOf e=k) (hk0:0 < k) (h:DataW.trod enc P w 0 (fun _=>true) true fuel t cs=some x) (hB:BulkC B) :
    ∃ (base:Option Addr) (cap n b o:Nat) (es:List (DataW H × List MemPlace)),fuel=n+1∧cs=[.slice base es.length cap]∧es.length≤cap∧1+(es.map fun y=>B y.1).sum≤B x.1∧(es ≠ []→base=some ⟨b,o,none⟩∧b < w.heap.size) ∧
      ∀ (i:Nat) (y:DataW H × List MemPlace),es[i]?=some y→∃ cs',rangeV w b (o+i * k) k=some cs'∧cs'.length=k∧DataW.trod enc P w 0 (fun _=>true) true n e cs'=some y:=by
  rcases DataW.trod_slice ht h with ⟨rfl,rfl⟩ | ⟨a,len,cap,elems,rest,n,rfl,rfl,rfl,hb,hl,hm,hlen,hel,hsp,hns⟩
  · cases fuel with
    | zero=>simp [DataW.trod] at h
    | succ n=>exact ⟨none,0,n,0,0,[],rfl,rfl,Nat.le_refl _,by simpa using hB.one _,fun h=>absurd rfl h,fun i y hy=>by simp at hy⟩
  · subst hk
    have hev:∀ (i:Nat) (y:DataW H × List MemPlace),elems[i]?=some y→∃ cs',w.cells? 0 (a.add (i * P.cellsOf e)) (P.cellsOf e)=some cs'∧DataW.trod enc P w 0 (fun _=>true) true n e cs'=some y:=by
      intro i y hy
      have hi:i < len:=by rw [← hlen];exact (List.getElem?_eq_some_iff.1 hy).1
      have:=hel i hi
      rw [hy] at this
      exact Option.bind_eq_some_iff.1 this
    have hsum:1+(elems.map fun y=>B y.1).sum≤B (.slice (elems.map (·.1)) (rest.map (·.1))):=by
      have:=hB.slice (elems.map (·.1)) (rest.map (·.1))
      rwa [List.map_map] at this
    refine ⟨some a,cap,n,a.block,a.off,elems,rfl,by rw [hlen],by omega,hsum,fun hne=>?_,fun i y hy=>?_⟩
    · obtain ⟨y,hy⟩:∃ y,elems[0]?=some y:=by
        cases elems with
        | nil=>exact absurd rfl hne
        | cons y r=>exact ⟨y,rfl⟩
      obtain ⟨cs',hc,_⟩:=hev 0 y hy
      rw [Nat.zero_mul,show a.add 0=a by simp [Addr.add]] at hc
      obtain ⟨e1,e2⟩:=addr_of hc hk0
      exact ⟨by rw [← e1],e2⟩
    · have ha:a=⟨a.block,a.off,none⟩:=by
        obtain ⟨y0,hy0⟩:∃ y,elems[0]?=some y:=by
          cases elems with
          | nil=>simp at hy
          | cons y r=>exact ⟨y,rfl⟩
        obtain ⟨cs',hc,_⟩:=hev 0 y0 hy0
        rw [Nat.zero_mul,show a.add 0=a by simp [Addr.add]] at hc
        exact (addr_of hc hk0).1
      obtain ⟨cs',hc,h2⟩:=hev i y hy
      rw [ha,add_none] at hc
      exact ⟨cs',range_of hc,(World.cells?_some hc).2.1,h2⟩
theorem open_u8s {t fuel:Nat} {cs:List Value} {x:DataW H × List MemPlace} (ht:sl8 P t=true) (h:DataW.trod enc P w 0 (fun _=>true) true fuel t cs=some x) (hB:BulkC B) :
    ∃ (base:Option Addr) (cap:Nat) (bs:Bytes),cs=[.slice base bs.length cap]∧bs.length≤cap∧1+bs.length≤B x.1∧BytesAt w (· < w.heap.size) base bs:=by
  obtain ⟨e,h1,h2,h3,_⟩:=sl8_of ht
  obtain ⟨base,cap,n,b,o,es,rfl,rfl,q1,q2,q3,q4⟩:=open_els h1 h3 (by decide) h hB
  obtain ⟨U,hU⟩:=choose_lt (α:=UInt8) (n:=es.length) (p:=fun i u=>w.cell? ⟨b,o+i,none⟩=some (cell u)) (fun i hi=>by
    obtain ⟨cs',c1,c2,c3⟩:=q4 i es[i] (List.getElem?_eq_getElem hi)
    obtain ⟨m,rfl,_,hwf⟩:=DataW.trod_int h2 c3
    have hbd:=bounds_u8 hwf
    obtain ⟨_,hcell⟩:=rangeV_get _ _ _ c1
    have hc:=hcell 0 _ rfl
    refine ⟨UInt8.ofNat m.toNat,?_⟩
    rw [Nat.mul_one,Nat.add_zero] at hc
    rw [hc]
    have:((UInt8.ofNat m.toNat).toNat:Int)=m:=by simp;omega
    simp only [cell,this])
  refine ⟨base,cap,(List.range es.length).map U,by simp,by simpa using q1,?_,?_⟩
  · have:=sum_ones (fun y:DataW H × List MemPlace=>B y.1) (fun y=>hB.one _) es
    simp only [List.length_map,List.length_range]
    omega
  · by_cases hne:es=[]
    · subst hne;exact .inl rfl
    · obtain ⟨e1,e2⟩:=q3 hne
      refine .inr ⟨b,o,e1,e2,fun j u hu=>?_⟩
      rw [List.getElem?_map] at hu
      obtain ⟨j',hj',rfl⟩:=Option.map_eq_some_iff.1 hu
      obtain ⟨hj1,hj2⟩:=List.getElem?_eq_some_iff.1 hj'
      rw [List.getElem_range] at hj2
      subst hj2
      exact hU j (by simpa using hj1)
theorem open_utags {t Tg g0t g1t fuel:Nat} {g0 g1:Field} {cs:List Value} {x:DataW H × List MemPlace} (ht:P.underlying t=some (.slice Tg)) (hc:P.cellsOf Tg=2) {fs:Array Field} (hs:P.underlying Tg=some (.struct fs)) (hfs:fs.toList=[g0,g1]) (o0:g0.offset=0) (o1:g1.offset=1) (k0:isK P g0.type .u32=true) (k1:sl8 P g1.type=true)
    (h:DataW.trod enc P w 0 (fun _=>true) true fuel t cs=some x) (hB:BulkC B) :
    ∃ (base:Option Addr) (cap:Nat) (u:List (Nat × Bytes)),cs=[.slice base u.length cap]∧u.length≤cap∧1+bulkU u≤B x.1∧UTagsAt w (· < w.heap.size) base u∧∀ y ∈ u,y.1 < 4294967296:=by
  obtain ⟨base,cap,n,b,o,es,rfl,rfl,q1,q2,q3,q4⟩:=open_els ht hc (by decide) h hB
  obtain ⟨hk0,hk0c⟩:=isK_of k0
  obtain ⟨_,_,_,_,hk1c⟩:=sl8_of k1
  have hf0:fs[0]?=some g0:=by rw [← Array.getElem?_toList,hfs];rfl
  have hf1:fs[1]?=some g1:=by rw [← Array.getElem?_toList,hfs];rfl
  obtain ⟨U,hU⟩:=choose_lt (α:=Nat × Bytes) (n:=es.length) (p:=fun i u=>u.1 < 4294967296∧(∃ vb vc,rangeV w b (o+i * 2) 2=some [.int .u32 (u.1:Int),.slice vb u.2.length vc]∧BytesAt w (· < w.heap.size) vb u.2∧u.2.length≤vc)∧∀ y,es[i]?=some y→1+u.2.length≤B y.1) (fun i hi=>by
    obtain ⟨cs',c1,c2,c3⟩:=q4 i es[i] (List.getElem?_eq_getElem hi)
    obtain ⟨xs,m,rfl,hx,hl,hxl,hxs⟩:=DataW.trod_struct hs c3
    have s0:=hxs 0 g0 hf0
    have s1:=hxs 1 g1 hf1
    match cs',c2 with
    | [v0,v1],_ =>
    have hsz:fs.size=2:=by rw [← Array.length_toList,hfs];rfl
    match xs,(hxl.trans hsz) with
    | [x0,x1],_ =>
    simp only [o0,o1,hk0c,hk1c,List.drop_zero,List.drop_succ_cons,List.take_succ_cons,List.take_zero,List.getElem?_cons_zero,List.getElem?_cons_succ] at s0 s1
    obtain ⟨z,e0,_,hwf⟩:=DataW.trod_int hk0 s0
    obtain ⟨vb,vc,bs,e1,p1,p2,p3⟩:=open_u8s k1 s1 hB
    have hbd:=bounds_u32 hwf
    simp only [List.cons.injEq,and_true] at e0 e1
    subst e0;subst e1
    refine ⟨(z.toNat,bs),by simp only;omega,⟨vb,vc,?_,p3,p1⟩,fun y hy=>?_⟩
    · rw [c1];simp only;rw [show ((z.toNat:Nat):Int)=z by omega]
    · rw [List.getElem?_eq_getElem hi] at hy
      cases hy
      rw [hx]
      have:=hB.agg ([x0,x1].map (·.1))
      simp only [List.map_cons,List.map_nil,List.sum_cons,List.sum_nil] at this ⊢
      omega)
  have hget:∀ (i:Nat) (y:Nat × Bytes),((List.range es.length).map U)[i]?=some y→i < es.length∧y=U i:=by
    intro j u hu
    rw [List.getElem?_map] at hu
    obtain ⟨j',hj',rfl⟩:=Option.map_eq_some_iff.1 hu
    obtain ⟨hj1,hj2⟩:=List.getElem?_eq_some_iff.1 hj'
    rw [List.getElem_range] at hj2
    subst hj2
    exact ⟨by simpa using hj1,rfl⟩
  refine ⟨base,cap,(List.range es.length).map U,by simp,by simpa using q1,?_,?_,?_⟩
  · have:=sum_le (fun x:Nat × Bytes=>1+x.2.length) (fun y:DataW H × List MemPlace=>B y.1) ((List.range es.length).map U) es (by simp) (fun i x y hx hy=>by
      obtain ⟨hi,rfl⟩:=hget i x hx
      exact (hU i hi).2.2 y hy)
    rw [bulkU_sum]
    omega
  · by_cases hne:es=[]
    · subst hne;exact .inl rfl
    · obtain ⟨e1,e2⟩:=q3 hne
      refine .inr ⟨b,o,e1,e2,fun i x hx=>?_⟩
      obtain ⟨hi,rfl⟩:=hget i x hx
      obtain ⟨p1,⟨vb,vc,p2,p3,p4⟩,_⟩:=hU i hi
      exact ⟨p1,vb,vc,p2,p3,p4⟩
  · intro y hy
    obtain ⟨i,hi⟩:=List.getElem?_of_mem hy
    obtain ⟨hi',rfl⟩:=hget i y hi
    exact (hU i hi').1
theorem open_tree {T Tg:Nat} (hot:otB P T Tg=true) (hB:BulkC B):∀ (fuel:Nat) (cs:List Value) (x:DataW H × List MemPlace),DataW.trod enc P w 0 (fun _=>true) true fuel T cs=some x →
    ∃ t,TV (fun _=>True) w (· < w.heap.size) t (.agg cs.toArray)∧KAll t∧t.bulk≤B x.1:=by
  intro fuel
  induction fuel using Nat.strongRecOn with
  | ind fuel ih =>
  intro cs x h
  simp only [otB,Bool.and_eq_true,beq_iff_eq] at hot
  obtain ⟨⟨⟨hc5,hc2⟩,hT⟩,hTg⟩:=hot
  split at hT
  · rename_i fs hfs
    split at hT
    · rename_i f0 f1 f2 f3 f4 hl5
      simp only [Bool.and_eq_true,beq_iff_eq] at hT
      obtain ⟨⟨⟨⟨⟨⟨⟨⟨⟨o0,o1⟩,o2⟩,o3⟩,o4⟩,k0⟩,k1⟩,k2⟩,k3⟩,k4⟩:=hT
      split at hTg
      · rename_i gs hgs
        split at hTg
        · rename_i g0 g1 hl2
          simp only [Bool.and_eq_true,beq_iff_eq] at hTg
          obtain ⟨⟨⟨p0,p1⟩,r0⟩,r1⟩:=hTg
          obtain ⟨hk0,hk0c⟩:=isK_of k0
          obtain ⟨_,_,_,_,hk1c⟩:=sl8_of k1
          obtain ⟨hk2,hk2c⟩:=isBo_of k2
          obtain ⟨hk3,hk3c⟩:=slO_of k3
          obtain ⟨hk4,hk4c⟩:=slO_of k4
          have hf:∀ (i:Nat) (f:Field),[f0,f1,f2,f3,f4][i]?=some f→fs[i]?=some f:=fun i f hf=>by rw [← Array.getElem?_toList,hl5];exact hf
          obtain ⟨xs,m,rfl,rfl,hl,hxl,hxs⟩:=DataW.trod_struct hfs h
          rw [hc5] at hl
          have hsz:fs.size=5:=by rw [← Array.length_toList,hl5];rfl
          have s0:=hxs 0 f0 (hf 0 f0 rfl)
          have s1:=hxs 1 f1 (hf 1 f1 rfl)
          have s2:=hxs 2 f2 (hf 2 f2 rfl)
          have s3:=hxs 3 f3 (hf 3 f3 rfl)
          have s4:=hxs 4 f4 (hf 4 f4 rfl)
          match cs,hl with
          | [v0,v1,v2,v3,v4],_ =>
          match xs,(hxl.trans hsz) with
          | [x0,x1,x2,x3,x4],_ =>
          simp only [o0,o1,o2,o3,o4,hk0c,hk1c,hk2c,hk3c,hk4c,List.drop_zero,List.drop_succ_cons,List.take_succ_cons,List.take_zero,List.getElem?_cons_zero,List.getElem?_cons_succ] at s0 s1 s2 s3 s4
          obtain ⟨z,e0,_,_⟩:=DataW.trod_int hk0 s0
          obtain ⟨sb,sc,bs,e1,a1,a2,a3⟩:=open_u8s k1 s1 hB
          obtain ⟨bo,e2,_⟩:=DataW.trod_bool hk2 s2
          obtain ⟨ub,uc,u,e4,u1,u2,u3,u4⟩:=open_utags hk4 hc2 hgs hl2 p0 p1 r0 r1 s4 hB (g0t:=0) (g1t:=0)
          obtain ⟨lb,lc,n,b,o,es,rfl,e3,q1,q2,q3,q4⟩:=open_els hk3 hc5 (by decide) s3 hB
          simp only [List.cons.injEq,and_true] at e0 e1 e2 e3 e4
          subst e0;subst e1;subst e2;subst e3;subst e4
          obtain ⟨TT,hTT⟩:=choose_lt (α:=Tree × List Value) (n:=es.length) (p:=fun i z=>rangeV w b (o+i * 5) 5=some z.2∧TV (fun _=>True) w (· < w.heap.size) z.1 (.agg z.2.toArray)∧KAll z.1∧∀ y,es[i]?=some y→z.1.bulk≤B y.1) (fun i hi=>by
            obtain ⟨cs',c1,c2,c3⟩:=q4 i es[i] (List.getElem?_eq_getElem hi)
            obtain ⟨t,t1,t2,t3⟩:=ih n (by omega) cs' _ c3
            exact ⟨(t,cs'),c1,t1,t2,fun y hy=>by rw [List.getElem?_eq_getElem hi] at hy;cases hy;exact t3⟩)
          have hget:∀ (i:Nat) (y:Tree),((List.range es.length).map fun i=>(TT i).1)[i]?=some y→i < es.length∧y=(TT i).1:=by
            intro j u hu
            rw [List.getElem?_map] at hu
            obtain ⟨j',hj',rfl⟩:=Option.map_eq_some_iff.1 hu
            obtain ⟨hj1,hj2⟩:=List.getElem?_eq_some_iff.1 hj'
            rw [List.getElem_range] at hj2
            subst hj2
            exact ⟨by simpa using hj1,rfl⟩
          refine ⟨.mk z bs bo ((List.range es.length).map fun i=>(TT i).1) u,?_,?_,?_⟩
          · have htv:=TV.mk (G:=fun _=>True) (w:=w) (F:=fun k=>k < w.heap.size) z bs bo ((List.range es.length).map fun i=>(TT i).1) u sb lb ub sc lc uc b o (fun i=>(TT i).2) a3 a1 (by simpa using q1) u1
              (fun hne=>q3 (by intro e;subst e;exact hne rfl)) (fun i hi=>(hTT i (by simpa using hi)).1)
              (fun i x hx=>by obtain ⟨hi,rfl⟩:=hget i x hx;exact (hTT i hi).2.1) trivial u3
            simpa [treV] using htv
          · exact .mk _ _ _ _ _ (fun i x hx=>by obtain ⟨hi,rfl⟩:=hget i x hx;exact (hTT i hi).2.2.1) u4
          · have hsum:=sum_le Tree.bulk (fun y:DataW H × List MemPlace=>B y.1) ((List.range es.length).map fun i=>(TT i).1) es (by simp) (fun i x y hx hy=>by
              obtain ⟨hi,rfl⟩:=hget i x hx
              exact (hTT i hi).2.2.2 y hy)
            have hag:=hB.agg ([x0,x1,x2,x3,x4].map (·.1))
            simp only [List.map_cons,List.map_nil,List.sum_cons,List.sum_nil] at hag
            simp only [Tree.bulk,bulkL_sum]
            simp only [List.map_cons,List.map_nil]
            have:=hB.one x0.1
            have:=hB.one x2.1
            omega
        · cases hTg
      · cases hTg
    · cases hT
  · cases hT
end
end Go.Proofs.YtmapoohbongifaaGreatDoor.K
namespace Go.Proofs.YtmapoohbongifaaGreatDoor.K
open Go Go.RowKit Go.Proofs.YtmapoohbongifaaGreatDoor.T
set_option linter.unusedVariables false
set_option linter.unusedSimpArgs false
def zeroB (P:Program) (T:Nat) (q:List Value→Bool):Bool:=match P.info? T with
  | some i=>(match i.zero with
    | some z=>q z.cells.toList
    | none=>false)
  | none=>false
theorem zeroB_of {P:Program} {T:Nat} {q:List Value→Bool} (h:zeroB P T q=true):∃ i z,P.info? T=some i∧i.zero=some z∧q z.cells.toList=true:=by
  unfold zeroB at h
  split at h
  · rename_i i hi
    split at h
    · rename_i z hz
      exact ⟨i,z,hi,hz,h⟩
    · cases h
  · cases h
theorem info_ex {P:Program} {T:Nat} (h:zeroB P T (fun _=>true)=true):∃ i z,P.info? T=some i∧i.zero=some z:=by
  obtain ⟨i,z,h1,h2,_⟩:=zeroB_of h
  exact ⟨i,z,h1,h2⟩
def isNilMap:List Value→Bool
  | [.map none]=>true
  | _=>false
theorem info_ex2 {P:Program} {T:Nat} (h:zeroB P T isNilMap=true):∃ i z,P.info? T=some i∧i.zero=some z∧z.cells=#[.map none]:=by
  obtain ⟨i,z,h1,h2,h3⟩:=zeroB_of h
  refine ⟨i,z,h1,h2,?_⟩
  unfold isNilMap at h3
  split at h3
  · rename_i e
    rw [← Array.toArray_toList (xs:=z.cells),e]
  · cases h3
def isZ8:List Value→Bool
  | []=>true
  | .int .u8 0 :: r=>isZ8 r
  | _=>false
theorem isZ8_of:∀ l:List Value,isZ8 l=true→l=cellsOf (List.replicate l.length 0)
  | [],_=>rfl
  | v :: r,h=>by
    unfold isZ8 at h
    split at h
    · rename_i e;cases e
    · rename_i r' e
      cases e
      have:=isZ8_of r h
      rw [List.length_cons,List.replicate_succ]
      simp only [cellsOf,List.map_cons] at this ⊢
      rw [← this]
      rfl
    · cases h
theorem info_ex3 {P:Program} {T:Nat} (h:zeroB P T (fun l=>isZ8 l && l.length == 16)=true):∃ i z,P.info? T=some i∧i.zero=some z∧z.cells=(cellsOf (List.replicate 16 0)).toArray:=by
  obtain ⟨i,z,h1,h2,h3⟩:=zeroB_of h
  simp only [Bool.and_eq_true,beq_iff_eq] at h3
  refine ⟨i,z,h1,h2,?_⟩
  have:=isZ8_of _ h3.1
  rw [h3.2] at this
  rw [← Array.toArray_toList (xs:=z.cells),this]
def zcOf (P:Program) (T:TypeId):Array Value :=
  match (P.info? T).bind (·.zero) with
  | some z=>z.cells
  | none=>#[]
theorem zc_of {P:Program} {T:TypeId} (h:((P.info? T).bind (·.zero)).isSome=true):∃ i z,P.info? T=some i∧i.zero=some z∧z.cells=zcOf P T:=by
  obtain ⟨z,hz⟩:=Option.isSome_iff_exists.1 h
  obtain ⟨i,hi,hz'⟩:=Option.bind_eq_some_iff.1 hz
  exact ⟨i,z,hi,hz',by simp [zcOf,hz]⟩
end Go.Proofs.YtmapoohbongifaaGreatDoor.K
