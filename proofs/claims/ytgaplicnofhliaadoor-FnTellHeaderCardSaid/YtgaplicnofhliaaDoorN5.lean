/- Generic texts: Z1 Z2 R1 R2 R12 Z4 D1 K9 K10 R3 R4. No condition. -/
import Derived.Test.YtgaplicnofhliaaDoorN4
import Derived.ChangeArms
import Derived.Deep.Slices
import Derived.OpenShut
import Derived.Lib.AppendZeros
namespace Go.Proofs.YtgaplicnofhliaaDoor.K
open Go Go.RowKit Go.Proofs.YtgaplicnofhliaaDoor.T
open Go.ChangeShapes Go.WideShapes Go.Deep
set_option linter.unusedSimpArgs false
set_option linter.unusedVariables false
structure BulkC {H:Type} (B:DataW H→Nat):Prop where
  one:∀ d,1≤B d
  slice:∀ es sp,1+(es.map B).sum≤B (.slice es sp)
  agg:∀ ps,1+(ps.map B).sum≤B (.agg ps)
def sl8 (P:Program) (t:TypeId):Bool:=match P.underlying t with
  | some (.slice e)=>(match P.underlying e with | some (.int .u8)=>true | _=>false) && P.cellsOf e == 1 && P.cellsOf t == 1
  | _=>false
def isK (P:Program) (t:TypeId) (k:IntKind):Bool:=(match P.underlying t with | some (.int k')=>k' == k | _=>false) && P.cellsOf t == 1
def slO (P:Program) (t e:TypeId):Bool:=(match P.underlying t with | some (.slice e')=>e' == e | _=>false) && P.cellsOf t == 1
def isBo (P:Program) (t:TypeId):Bool:=(match P.underlying t with | some .bool=>true | _=>false) && P.cellsOf t == 1
def otB (P:Program) (T Tg:TypeId):Bool :=
  P.cellsOf T == 5 && P.cellsOf Tg == 2 &&
  (match P.underlying T with
   | some (.struct fs)=>(match fs.toList with
     | [f0,f1,f2,f3,f4]=>f0.offset == 0 && f1.offset == 1 && f2.offset == 2 && f3.offset == 3 && f4.offset == 4 && isK P f0.type .i64 && sl8 P f1.type && isBo P f2.type && slO P f3.type T && slO P f4.type Tg
     | _=>false)
   | _=>false) &&
  (match P.underlying Tg with
   | some (.struct fs)=>(match fs.toList with
     | [g0,g1]=>g0.offset == 0 && g1.offset == 1 && isK P g0.type .u32 && sl8 P g1.type
     | _=>false)
   | _=>false)
theorem sl8_of {P:Program} {t:TypeId} (h:sl8 P t=true):∃ e,P.underlying t=some (.slice e)∧P.underlying e=some (.int .u8)∧P.cellsOf e=1∧P.cellsOf t=1:=by
  unfold sl8 at h
  split at h
  · rename_i e he
    simp only [Bool.and_eq_true,beq_iff_eq] at h
    obtain ⟨⟨h1,h2⟩,h3⟩:=h
    split at h1
    · rename_i h4;exact ⟨e,he,h4,h2,h3⟩
    · cases h1
  · cases h
theorem isK_of {P:Program} {t:TypeId} {k:IntKind} (h:isK P t k=true):P.underlying t=some (.int k)∧P.cellsOf t=1:=by
  simp only [isK,Bool.and_eq_true,beq_iff_eq] at h
  obtain ⟨h1,h2⟩:=h
  split at h1
  · rename_i k' hk;have:k'=k:=by simpa using h1
    subst this;exact ⟨hk,h2⟩
  · cases h1
theorem slO_of {P:Program} {t e:TypeId} (h:slO P t e=true):P.underlying t=some (.slice e)∧P.cellsOf t=1:=by
  simp only [slO,Bool.and_eq_true,beq_iff_eq] at h
  obtain ⟨h1,h2⟩:=h
  split at h1
  · rename_i k' hk;have:k'=e:=by simpa using h1
    subst this;exact ⟨hk,h2⟩
  · cases h1
theorem isBo_of {P:Program} {t:TypeId} (h:isBo P t=true):P.underlying t=some .bool∧P.cellsOf t=1:=by
  simp only [isBo,Bool.and_eq_true,beq_iff_eq] at h
  obtain ⟨h1,h2⟩:=h
  split at h1
  · rename_i hk;exact ⟨hk,h2⟩
  · cases h1
theorem sum_le {α β:Type} (f:α→Nat) (g:β→Nat):∀ (l1:List α) (l2:List β),l1.length=l2.length→(∀ (i:Nat) x y,l1[i]?=some x→l2[i]?=some y→f x≤g y)→(l1.map f).sum≤(l2.map g).sum
  | [],[],_,_=>by simp
  | x :: l1,y :: l2,hl,h=>by
    simp only [List.map_cons,List.sum_cons]
    have h0:=h 0 x y rfl rfl
    have:=sum_le f g l1 l2 (by simpa using hl) fun i a b ha hb=>h (i+1) a b (by simpa using ha) (by simpa using hb)
    omega
  | [],_ :: _,hl,_=>by simp at hl
  | _ :: _,[],hl,_=>by simp at hl
theorem bulkL_sum:∀ ts:List Tree,bulkL ts=(ts.map Tree.bulk).sum
  | []=>rfl
  | t :: r=>by simp only [bulkL,List.map_cons,List.sum_cons,bulkL_sum r]
theorem bulkU_sum:∀ ts:List (Nat × Bytes),bulkU ts=(ts.map fun x=>1+x.2.length).sum
  | []=>rfl
  | t :: r=>by simp only [bulkU,List.map_cons,List.sum_cons,bulkU_sum r]
theorem sum_ones {α:Type} (f:α→Nat) (h:∀ x,1≤f x):∀ l:List α,l.length≤(l.map f).sum
  | []=>by simp
  | x :: r=>by simp only [List.map_cons,List.sum_cons,List.length_cons];have:=h x;have:=sum_ones f h r;omega
section
variable {H:Type} {enc:TypeId × Value→H} {P:Program} {w:World} {B:DataW H→Nat}
theorem addr_of {a:Addr} {n:Nat} {cs:List Value} (h:w.cells? 0 a n=some cs) (hn:0 < n):a=⟨a.block,a.off,none⟩∧a.block < w.heap.size:=by
  obtain ⟨_,hl,hc⟩:=World.cells?_some h
  have h0:=hc 0 hn
  have e0:a.add 0=a:=by simp [Addr.add]
  rw [e0,List.getElem?_eq_getElem (by omega)] at h0
  have hs:a.spot=none∧a.block < w.heap.size:=by
    simp only [World.cell?] at h0
    split at h0
    · rename_i hb
      split at h0
      · cases h0
      · rename_i hs
        exact ⟨by cases hq:a.spot <;> simp_all,(Array.getElem?_eq_some_iff.1 hb).1⟩
    · cases h0
  refine ⟨?_,hs.2⟩
  cases a
  simp only at hs
  rw [hs.1]
theorem range_of {b o n:Nat} {cs:List Value} (h:w.cells? 0 ⟨b,o,none⟩ n=some cs):rangeV w b o n=some cs:=by
  obtain ⟨_,hl,hc⟩:=World.cells?_some h
  rw [← hl]
  refine rangeV_of cs o fun j v hj=>?_
  have hlt:j < cs.length:=(List.getElem?_eq_some_iff.1 hj).1
  rw [← hj,← hc j (by omega),add_none]
theorem open_els {t e k fuel:Nat} {cs:List Value} {x:DataW H × List MemPlace} (ht:P.underlying t=some (.slice e)) (hk:P.cellsOf e=k) (hk0:0 < k) (h:DataW.trod enc P w 0 (fun _=>true) true fuel t cs=some x) (hB:BulkC B) :
    ∃ (base:Option Addr) (cap n b o:Nat) (es:List (DataW H × List MemPlace)),fuel=n+1∧cs=[.slice base es.length cap]∧es.length≤cap∧1+(es.map fun y=>B y.1).sum≤B x.1∧(es ≠ []→base=some ⟨b,o,none⟩∧b < w.heap.size) ∧
      ∀ (i:Nat) (y:DataW H × List MemPlace),es[i]?=some y→∃ cs',rangeV w b (o+i * k) k=some cs'∧cs'.length=k∧DataW.trod enc P w 0 (fun _=>true) true n e cs'=some y:=by
  rcases DataW.trod_slice ht h with ⟨rfl,rfl⟩ | ⟨a,len,cap,elems,rest,n,rfl,rfl,rfl,hb,hl,hm,hlen,hel,hsp,hns⟩
  · cases fuel with
    | zero=>simp [DataW.trod] at h
    | succ n=>exact ⟨none,0,n,0,0,[],rfl,rfl,Nat.le_refl _,by simpa using hB.one _,fun h=>absurd rfl h,fun i y hy=>by simp at hy⟩
  · subst hk
    have hev:∀ (i:Nat) (y:DataW H × List MemPlace),elems[i]?=some y→∃ cs',w.cells? 0 (a.add (i * P.cellsOf e)) (P.cellsOf e)=some cs'∧DataW.trod enc P w 0 (fun _=>true) true n e cs'=some y:=by
      intro i y hy
      have hi:i < len:=by rw [← hlen];exact (List.getElem?_eq_some_iff.1 hy).1
      have:=hel i hi
      rw [hy] at this
      exact Option.bind_eq_some_iff.1 this
    have hsum:1+(elems.map fun y=>B y.1).sum≤B (.slice (elems.map (·.1)) (rest.map (·.1))):=by
      have:=hB.slice (elems.map (·.1)) (rest.map (·.1))
      rwa [List.map_map] at this
    refine ⟨some a,cap,n,a.block,a.off,elems,rfl,by rw [hlen],by omega,hsum,fun hne=>?_,fun i y hy=>?_⟩
    · obtain ⟨y,hy⟩:∃ y,elems[0]?=some y:=by
        cases elems with
        | nil=>exact absurd rfl hne
        | cons y r=>exact ⟨y,rfl⟩
      obtain ⟨cs',hc,_⟩:=hev 0 y hy
      rw [Nat.zero_mul,show a.add 0=a by simp [Addr.add]] at hc
      obtain ⟨e1,e2⟩:=addr_of hc hk0
      exact ⟨by rw [← e1],e2⟩
    · have ha:a=⟨a.block,a.off,none⟩:=by
        obtain ⟨y0,hy0⟩:∃ y,elems[0]?=some y:=by
          cases elems with
          | nil=>simp at hy
          | cons y r=>exact ⟨y,rfl⟩
        obtain ⟨cs',hc,_⟩:=hev 0 y0 hy0
        rw [Nat.zero_mul,show a.add 0=a by simp [Addr.add]] at hc
        exact (addr_of hc hk0).1
      obtain ⟨cs',hc,h2⟩:=hev i y hy
      rw [ha,add_none] at hc
      exact ⟨cs',range_of hc,(World.cells?_some hc).2.1,h2⟩
theorem open_u8s {t fuel:Nat} {cs:List Value} {x:DataW H × List MemPlace} (ht:sl8 P t=true) (h:DataW.trod enc P w 0 (fun _=>true) true fuel t cs=some x) (hB:BulkC B) :
    ∃ (base:Option Addr) (cap:Nat) (bs:Bytes),cs=[.slice base bs.length cap]∧bs.length≤cap∧1+bs.length≤B x.1∧BytesAt w (· < w.heap.size) base bs:=by
  obtain ⟨e,h1,h2,h3,_⟩:=sl8_of ht
  obtain ⟨base,cap,n,b,o,es,rfl,rfl,q1,q2,q3,q4⟩:=open_els h1 h3 (by decide) h hB
  obtain ⟨U,hU⟩:=choose_lt (α:=UInt8) (n:=es.length) (p:=fun i u=>w.cell? ⟨b,o+i,none⟩=some (cell u)) (fun i hi=>by
    obtain ⟨cs',c1,c2,c3⟩:=q4 i es[i] (List.getElem?_eq_getElem hi)
    obtain ⟨m,rfl,_,hwf⟩:=DataW.trod_int h2 c3
    have hbd:=bounds_u8 hwf
    obtain ⟨_,hcell⟩:=rangeV_get _ _ _ c1
    have hc:=hcell 0 _ rfl
    refine ⟨UInt8.ofNat m.toNat,?_⟩
    rw [Nat.mul_one,Nat.add_zero] at hc
    rw [hc]
    have:((UInt8.ofNat m.toNat).toNat:Int)=m:=by simp;omega
    simp only [cell,this])
  refine ⟨base,cap,(List.range es.length).map U,by simp,by simpa using q1,?_,?_⟩
  · have:=sum_ones (fun y:DataW H × List MemPlace=>B y.1) (fun y=>hB.one _) es
    simp only [List.length_map,List.length_range]
    omega
  · by_cases hne:es=[]
    · subst hne;exact .inl rfl
    · obtain ⟨e1,e2⟩:=q3 hne
      refine .inr ⟨b,o,e1,e2,fun j u hu=>?_⟩
      rw [List.getElem?_map] at hu
      obtain ⟨j',hj',rfl⟩:=Option.map_eq_some_iff.1 hu
      obtain ⟨hj1,hj2⟩:=List.getElem?_eq_some_iff.1 hj'
      rw [List.getElem_range] at hj2
      subst hj2
      exact hU j (by simpa using hj1)
theorem open_utags {t Tg g0t g1t fuel:Nat} {g0 g1:Field} {cs:List Value} {x:DataW H × List MemPlace} (ht:P.underlying t=some (.slice Tg)) (hc:P.cellsOf Tg=2) {fs:Array Field} (hs:P.underlying Tg=some (.struct fs)) (hfs:fs.toList=[g0,g1]) (o0:g0.offset=0) (o1:g1.offset=1) (k0:isK P g0.type .u32=true) (k1:sl8 P g1.type=true)
    (h:DataW.trod enc P w 0 (fun _=>true) true fuel t cs=some x) (hB:BulkC B) :
    ∃ (base:Option Addr) (cap:Nat) (u:List (Nat × Bytes)),cs=[.slice base u.length cap]∧u.length≤cap∧1+bulkU u≤B x.1∧UTagsAt w (· < w.heap.size) base u∧∀ y ∈ u,y.1 < 4294967296:=by
  obtain ⟨base,cap,n,b,o,es,rfl,rfl,q1,q2,q3,q4⟩:=open_els ht hc (by decide) h hB
  obtain ⟨hk0,hk0c⟩:=isK_of k0
  obtain ⟨_,_,_,_,hk1c⟩:=sl8_of k1
  have hf0:fs[0]?=some g0:=by rw [← Array.getElem?_toList,hfs];rfl
  have hf1:fs[1]?=some g1:=by rw [← Array.getElem?_toList,hfs];rfl
  obtain ⟨U,hU⟩:=choose_lt (α:=Nat × Bytes) (n:=es.length) (p:=fun i u=>u.1 < 4294967296∧(∃ vb vc,rangeV w b (o+i * 2) 2=some [.int .u32 (u.1:Int),.slice vb u.2.length vc]∧BytesAt w (· < w.heap.size) vb u.2∧u.2.length≤vc)∧∀ y,es[i]?=some y→1+u.2.length≤B y.1) (fun i hi=>by
    obtain ⟨cs',c1,c2,c3⟩:=q4 i es[i] (List.getElem?_eq_getElem hi)
    obtain ⟨xs,m,rfl,hx,hl,hxl,hxs⟩:=DataW.trod_struct hs c3
    have s0:=hxs 0 g0 hf0
    have s1:=hxs 1 g1 hf1
    match cs',c2 with
    | [v0,v1],_ =>
    have hsz:fs.size=2:=by rw [← Array.length_toList,hfs];rfl
    match xs,(hxl.trans hsz) with
    | [x0,x1],_ =>
    simp only [o0,o1,hk0c,hk1c,List.drop_zero,List.drop_succ_cons,List.take_succ_cons,List.take_zero,List.getElem?_cons_zero,List.getElem?_cons_succ] at s0 s1
    obtain ⟨z,e0,_,hwf⟩:=DataW.trod_int hk0 s0
    obtain ⟨vb,vc,bs,e1,p1,p2,p3⟩:=open_u8s k1 s1 hB
    have hbd:=bounds_u32 hwf
    simp only [List.cons.injEq,and_true] at e0 e1
    subst e0;subst e1
    refine ⟨(z.toNat,bs),by simp only;omega,⟨vb,vc,?_,p3,p1⟩,fun y hy=>?_⟩
    · rw [c1];simp only;rw [show ((z.toNat:Nat):Int)=z by omega]
    · rw [List.getElem?_eq_getElem hi] at hy
      cases hy
      rw [hx]
      have:=hB.agg ([x0,x1].map (·.1))
      simp only [List.map_cons,List.map_nil,List.sum_cons,List.sum_nil] at this ⊢
      omega)
  have hget:∀ (i:Nat) (y:Nat × Bytes),((List.range es.length).map U)[i]?=some y→i < es.length∧y=U i:=by
    intro j u hu
    rw [List.getElem?_map] at hu
    obtain ⟨j',hj',rfl⟩:=Option.map_eq_some_iff.1 hu
    obtain ⟨hj1,hj2⟩:=List.getElem?_eq_some_iff.1 hj'
    rw [List.getElem_range] at hj2
    subst hj2
    exact ⟨by simpa using hj1,rfl⟩
  refine ⟨base,cap,(List.range es.length).map U,by simp,by simpa using q1,?_,?_,?_⟩
  · have:=sum_le (fun x:Nat × Bytes=>1+x.2.length) (fun y:DataW H × List MemPlace=>B y.1) ((List.range es.length).map U) es (by simp) (fun i x y hx hy=>by
      obtain ⟨hi,rfl⟩:=hget i x hx
      exact (hU i hi).2.2 y hy)
    rw [bulkU_sum]
    omega
  · by_cases hne:es=[]
    · subst hne;exact .inl rfl
    · obtain ⟨e1,e2⟩:=q3 hne
      refine .inr ⟨b,o,e1,e2,fun i x hx=>?_⟩
      obtain ⟨hi,rfl⟩:=hget i x hx
      obtain ⟨p1,⟨vb,vc,p2,p3,p4⟩,_⟩:=hU i hi
      exact ⟨p1,vb,vc,p2,p3,p4⟩
  · intro y hy
    obtain ⟨i,hi⟩:=List.getElem?_of_mem hy
    obtain ⟨hi',rfl⟩:=hget i y hi
    exact (hU i hi').1
theorem open_tree {T Tg:Nat} (hot:otB P T Tg=true) (hB:BulkC B):∀ (fuel:Nat) (cs:List Value) (x:DataW H × List MemPlace),DataW.trod enc P w 0 (fun _=>true) true fuel T cs=some x →
    ∃ t,TV (fun _=>True) w (· < w.heap.size) t (.agg cs.toArray)∧KAll t∧t.bulk≤B x.1:=by
  intro fuel
  induction fuel using Nat.strongRecOn with
  | ind fuel ih =>
  intro cs x h
  simp only [otB,Bool.and_eq_true,beq_iff_eq] at hot
  obtain ⟨⟨⟨hc5,hc2⟩,hT⟩,hTg⟩:=hot
  split at hT
  · rename_i fs hfs
    split at hT
    · rename_i f0 f1 f2 f3 f4 hl5
      simp only [Bool.and_eq_true,beq_iff_eq] at hT
      obtain ⟨⟨⟨⟨⟨⟨⟨⟨⟨o0,o1⟩,o2⟩,o3⟩,o4⟩,k0⟩,k1⟩,k2⟩,k3⟩,k4⟩:=hT
      split at hTg
      · rename_i gs hgs
        split at hTg
        · rename_i g0 g1 hl2
          simp only [Bool.and_eq_true,beq_iff_eq] at hTg
          obtain ⟨⟨⟨p0,p1⟩,r0⟩,r1⟩:=hTg
          obtain ⟨hk0,hk0c⟩:=isK_of k0
          obtain ⟨_,_,_,_,hk1c⟩:=sl8_of k1
          obtain ⟨hk2,hk2c⟩:=isBo_of k2
          obtain ⟨hk3,hk3c⟩:=slO_of k3
          obtain ⟨hk4,hk4c⟩:=slO_of k4
          have hf:∀ (i:Nat) (f:Field),[f0,f1,f2,f3,f4][i]?=some f→fs[i]?=some f:=fun i f hf=>by rw [← Array.getElem?_toList,hl5];exact hf
          obtain ⟨xs,m,rfl,rfl,hl,hxl,hxs⟩:=DataW.trod_struct hfs h
          rw [hc5] at hl
          have hsz:fs.size=5:=by rw [← Array.length_toList,hl5];rfl
          have s0:=hxs 0 f0 (hf 0 f0 rfl)
          have s1:=hxs 1 f1 (hf 1 f1 rfl)
          have s2:=hxs 2 f2 (hf 2 f2 rfl)
          have s3:=hxs 3 f3 (hf 3 f3 rfl)
          have s4:=hxs 4 f4 (hf 4 f4 rfl)
          match cs,hl with
          | [v0,v1,v2,v3,v4],_ =>
          match xs,(hxl.trans hsz) with
          | [x0,x1,x2,x3,x4],_ =>
          simp only [o0,o1,o2,o3,o4,hk0c,hk1c,hk2c,hk3c,hk4c,List.drop_zero,List.drop_succ_cons,List.take_succ_cons,List.take_zero,List.getElem?_cons_zero,List.getElem?_cons_succ] at s0 s1 s2 s3 s4
          obtain ⟨z,e0,_,_⟩:=DataW.trod_int hk0 s0
          obtain ⟨sb,sc,bs,e1,a1,a2,a3⟩:=open_u8s k1 s1 hB
          obtain ⟨bo,e2,_⟩:=DataW.trod_bool hk2 s2
          obtain ⟨ub,uc,u,e4,u1,u2,u3,u4⟩:=open_utags hk4 hc2 hgs hl2 p0 p1 r0 r1 s4 hB (g0t:=0) (g1t:=0)
          obtain ⟨lb,lc,n,b,o,es,rfl,e3,q1,q2,q3,q4⟩:=open_els hk3 hc5 (by decide) s3 hB
          simp only [List.cons.injEq,and_true] at e0 e1 e2 e3 e4
          subst e0;subst e1;subst e2;subst e3;subst e4
          obtain ⟨TT,hTT⟩:=choose_lt (α:=Tree × List Value) (n:=es.length) (p:=fun i z=>rangeV w b (o+i * 5) 5=some z.2∧TV (fun _=>True) w (· < w.heap.size) z.1 (.agg z.2.toArray)∧KAll z.1∧∀ y,es[i]?=some y→z.1.bulk≤B y.1) (fun i hi=>by
            obtain ⟨cs',c1,c2,c3⟩:=q4 i es[i] (List.getElem?_eq_getElem hi)
            obtain ⟨t,t1,t2,t3⟩:=ih n (by omega) cs' _ c3
            exact ⟨(t,cs'),c1,t1,t2,fun y hy=>by rw [List.getElem?_eq_getElem hi] at hy;cases hy;exact t3⟩)
          have hget:∀ (i:Nat) (y:Tree),((List.range es.length).map fun i=>(TT i).1)[i]?=some y→i < es.length∧y=(TT i).1:=by
            intro j u hu
            rw [List.getElem?_map] at hu
            obtain ⟨j',hj',rfl⟩:=Option.map_eq_some_iff.1 hu
            obtain ⟨hj1,hj2⟩:=List.getElem?_eq_some_iff.1 hj'
            rw [List.getElem_range] at hj2
            subst hj2
            exact ⟨by simpa using hj1,rfl⟩
          refine ⟨.mk z bs bo ((List.range es.length).map fun i=>(TT i).1) u,?_,?_,?_⟩
          · have htv:=TV.mk (G:=fun _=>True) (w:=w) (F:=fun k=>k < w.heap.size) z bs bo ((List.range es.length).map fun i=>(TT i).1) u sb lb ub sc lc uc b o (fun i=>(TT i).2) a3 a1 (by simpa using q1) u1
              (fun hne=>q3 (by intro e;subst e;exact hne rfl)) (fun i hi=>(hTT i (by simpa using hi)).1)
              (fun i x hx=>by obtain ⟨hi,rfl⟩:=hget i x hx;exact (hTT i hi).2.1) trivial u3
            simpa [treV] using htv
          · exact .mk _ _ _ _ _ (fun i x hx=>by obtain ⟨hi,rfl⟩:=hget i x hx;exact (hTT i hi).2.2.1) u4
          · have hsum:=sum_le Tree.bulk (fun y:DataW H × List MemPlace=>B y.1) ((List.range es.length).map fun i=>(TT i).1) es (by simp) (fun i x y hx hy=>by
              obtain ⟨hi,rfl⟩:=hget i x hx
              exact (hTT i hi).2.2.2 y hy)
            have hag:=hB.agg ([x0,x1,x2,x3,x4].map (·.1))
            simp only [List.map_cons,List.map_nil,List.sum_cons,List.sum_nil] at hag
            simp only [Tree.bulk,bulkL_sum]
            simp only [List.map_cons,List.map_nil]
            have:=hB.one x0.1
            have:=hB.one x2.1
            omega
        · cases hTg
      · cases hTg
    · cases hT
  · cases hT
end
end Go.Proofs.YtgaplicnofhliaaDoor.K
namespace Go.Proofs.YtgaplicnofhliaaDoor.K
open Go Go.RowKit Go.Proofs.YtgaplicnofhliaaDoor.T
set_option linter.unusedVariables false
set_option linter.unusedSimpArgs false
def zeroB (P:Program) (T:Nat) (q:List Value→Bool):Bool:=match P.info? T with
  | some i=>(match i.zero with
    | some z=>q z.cells.toList
    | none=>false)
  | none=>false
theorem zeroB_of {P:Program} {T:Nat} {q:List Value→Bool} (h:zeroB P T q=true):∃ i z,P.info? T=some i∧i.zero=some z∧q z.cells.toList=true:=by
  unfold zeroB at h
  split at h
  · rename_i i hi
    split at h
    · rename_i z hz
      exact ⟨i,z,hi,hz,h⟩
    · cases h
  · cases h
theorem info_ex {P:Program} {T:Nat} (h:zeroB P T (fun _=>true)=true):∃ i z,P.info? T=some i∧i.zero=some z:=by
  obtain ⟨i,z,h1,h2,_⟩:=zeroB_of h
  exact ⟨i,z,h1,h2⟩
def isNilMap:List Value→Bool
  | [.map none]=>true
  | _=>false
theorem info_ex2 {P:Program} {T:Nat} (h:zeroB P T isNilMap=true):∃ i z,P.info? T=some i∧i.zero=some z∧z.cells=#[.map none]:=by
  obtain ⟨i,z,h1,h2,h3⟩:=zeroB_of h
  refine ⟨i,z,h1,h2,?_⟩
  unfold isNilMap at h3
  split at h3
  · rename_i e
    rw [← Array.toArray_toList (xs:=z.cells),e]
  · cases h3
def isZ8:List Value→Bool
  | []=>true
  | .int .u8 0 :: r=>isZ8 r
  | _=>false
theorem isZ8_of:∀ l:List Value,isZ8 l=true→l=cellsOf (List.replicate l.length 0)
  | [],_=>rfl
  | v :: r,h=>by
    unfold isZ8 at h
    split at h
    · rename_i e;cases e
    · rename_i r' e
      cases e
      have:=isZ8_of r h
      rw [List.length_cons,List.replicate_succ]
      simp only [cellsOf,List.map_cons] at this ⊢
      rw [← this]
      rfl
    · cases h
theorem info_ex3 {P:Program} {T:Nat} (h:zeroB P T (fun l=>isZ8 l && l.length == 16)=true):∃ i z,P.info? T=some i∧i.zero=some z∧z.cells=(cellsOf (List.replicate 16 0)).toArray:=by
  obtain ⟨i,z,h1,h2,h3⟩:=zeroB_of h
  simp only [Bool.and_eq_true,beq_iff_eq] at h3
  refine ⟨i,z,h1,h2,?_⟩
  have:=isZ8_of _ h3.1
  rw [h3.2] at this
  rw [← Array.toArray_toList (xs:=z.cells),this]
def zcOf (P:Program) (T:TypeId):Array Value :=
  match (P.info? T).bind (·.zero) with
  | some z=>z.cells
  | none=>#[]
theorem zc_of {P:Program} {T:TypeId} (h:((P.info? T).bind (·.zero)).isSome=true):∃ i z,P.info? T=some i∧i.zero=some z∧z.cells=zcOf P T:=by
  obtain ⟨z,hz⟩:=Option.isSome_iff_exists.1 h
  obtain ⟨i,hi,hz'⟩:=Option.bind_eq_some_iff.1 hz
  exact ⟨i,z,hi,hz',by simp [zcOf,hz]⟩
end Go.Proofs.YtgaplicnofhliaaDoor.K
namespace Go.Proofs.YtgaplicnofhliaaDoor.K
open Go Go.Proofs.YtgaplicnofhliaaDoor.T
set_option linter.unusedVariables false
set_option linter.unusedSimpArgs false
structure RIds where
  tRd:Nat
  tTags:Nat
  tI8:Nat
  tI16:Nat
  tI32:Nat
  tBool:Nat
  rBool:Nat
  rI8:Nat
  rI16:Nat
  rI32:Nat
  rI64:Nat
  rU16:Nat
  rUuid:Nat
  rStr:Nat
  rUStr:Nat
  rCStr:Nat
  rUCStr:Nat
  rNStr:Nat
  rUNStr:Nat
  rCNStr:Nat
  rUCNStr:Nat
  rBytes:Nat
  rCBytes:Nat
  rNBytes:Nat
  rArr:Nat
  rCArr:Nat
  rOk:Nat
  rCompl:Nat
  rTags:Nat
def rGet (f v t:Nat):SC:=.reg [cal t f [7],asg v t]
def rStore (p x t S f T:Nat):SC:=.reg [mv t p,mv (t+1) x,nilc (t+2) t,fa (t+3) S (t+2) f,⟨none,.store T (.tmp (t+3)) (.tmp (t+1)),none⟩]
def cset (v:Nat) (x:Value):SC:=.reg [⟨some v,.assign (.const x),none⟩]
def rTextT (c:Ctx):Nat:=if c.never then 3 else 7
def rText (I:RIds) (c:Ctx) (nul:Bool) (v t:Nat):SC :=
  if nul then
    if c.never then .seq (.reg [mv t 2]) (.cond (.tmp t) (rGet I.rUNStr v (t+1)) (rGet I.rNStr v (t+2)))
    else .seq (.reg [mv t 9]) (.cond (.tmp t) (.seq (.reg [mv (t+1) 2]) (.cond (.tmp (t+1)) (rGet I.rUCNStr v (t+2)) (rGet I.rCNStr v (t+3))))
      (.seq (.reg [mv (t+4) 2]) (.cond (.tmp (t+4)) (rGet I.rUNStr v (t+5)) (rGet I.rNStr v (t+6)))))
  else
    if c.never then .seq (.reg [mv t 2]) (.cond (.tmp t) (rGet I.rUStr v (t+1)) (rGet I.rStr v (t+2)))
    else .seq (.reg [mv t 2]) (.cond (.tmp t) (.seq (.reg [mv (t+1) 9]) (.cond (.tmp (t+1)) (rGet I.rUCStr v (t+2)) (rGet I.rUStr v (t+3))))
      (.seq (.reg [mv (t+4) 9]) (.cond (.tmp (t+4)) (rGet I.rCStr v (t+5)) (rGet I.rStr v (t+6)))))
def emptyS:Value:=.string ⟨#[]⟩
def rNum (I:RIds):PK→Nat
  | .bool=>I.rBool | .i8=>I.rI8 | .i16=>I.rI16 | .i32=>I.rI32 | .i64=>I.rI64 | .u16=>I.rU16 | _=>I.rNBytes
def rPrimT (c:Ctx) (nul:Bool) (k:PK):Nat:=if k=.str then rTextT c else if k=.bytes∧c.never=false then 3 else 1
def rPrim (I:RIds) (c:Ctx) (nul:Bool) (k:PK) (v t:Nat) (rest:SC):SC :=
  if k=.str then .seq (cset v (if nul then .pointer none else emptyS)) (.seq (rText I c nul v t) rest)
  else if k=.bytes∧c.never=false then .seq (cset v (.slice none 0 0)) (.seq (.seq (.reg [mv t 9]) (.cond (.tmp t) (rGet I.rCBytes v (t+1)) (rGet I.rBytes v (t+2)))) rest)
  else if k=.bytes∧nul=false then .seq (rGet I.rBytes v t) rest
  else .seq (rGet (rNum I k) v t) rest
def rTagsL (I:RIds) (S p:Nat) (tags:Option (Nat × Nat)) (t:Nat):List SC :=
  match tags with
  | none=>[]
  | some (f,_)=>[.seq (.reg [mv t 9]) (.cond (.tmp t) (.reg [mv (t+1) p,cal (t+2) I.rTags [7],nilc (t+3) (t+1),fa (t+4) S (t+3) f,⟨none,.store I.tTags (.tmp (t+4)) (.tmp (t+2)),none⟩]) .skip)]
def rTagsT (tags:Option (Nat × Nat)):Nat:=if tags.isSome then 5 else 0
def rLenT (c:Ctx):Nat:=if c.never then 1 else 3
def rLen (I:RIds) (c:Ctx) (l t:Nat):SC :=
  if c.never then rGet I.rArr l t else .seq (.reg [mv t 9]) (.cond (.tmp t) (rGet I.rCArr l (t+1)) (rGet I.rArr l (t+2)))
def rNilT (h:Hd):Nat:=if 0≤h.null then 7 else 0
def rNilL (I:RIds) (c:Ctx) (h:Hd) (T a l t:Nat):List SC :=
  if 0≤h.null then
    [.seq (.reg [mv t c.ver,bin .lss (t+1) I.tI16 t (.const (.int .i16 h.null)),mv (t+2) (t+1),⟨some (t+3),.move (.tmp l),some (2,false)⟩,
        ⟨some (t+4),.binOp .eql I.tI32 (.tmp (t+3)) (.const (.int .i32 0)) I.tI32,some (2,false)⟩,⟨some (t+5),.pick (.tmp (t+2)) (.const (.bool true)) (.tmp (t+4)),none⟩])
      (.cond (.tmp (t+5)) (.reg [⟨some (t+6),.buildSlice T 0 #[],none⟩,asg a (t+6)]) .skip)]
  else []
def rOkC (I:RIds) (t:Nat):SC :=
  .seq (.reg [cal t I.rOk [7],⟨some (t+1),.unOp .not I.tBool (.tmp t),none⟩]) (.cond (.tmp (t+1)) (.seq (.reg [cal (t+2) I.rCompl [7],asg 6 (t+2)]) .ret) .skip)
def rCut (T a t:Nat):SC:=.reg [mv t a,⟨some (t+1),.slice T (.tmp t) none (some (.const (.int .i64 0))) none,none⟩,asg a (t+1)]
def rMake (I:RIds) (T a l t:Nat):SC :=
  .seq (.reg [mv t l,bin .gtr (t+1) I.tI32 t (.const (.int .i32 0))])
    (.cond (.tmp (t+1)) (.reg [mv (t+2) a,mv (t+3) l,⟨some (t+4),.call ⟨.builtin .append,#[.tmp (t+2),.tmp (t+3)],#[T,I.tI32]⟩,none⟩,asg a (t+4)]) .skip)
def rLoop (I:RIds) (l i t et b:Nat) (body:List SC):SC :=
  .seq (cset i (.int .i32 0)) (.block b (.loop (.seq (.seq (.reg [mv t i,mv (t+1) l,⟨some (t+2),.binOp .lss I.tI32 (.tmp t) (.tmp (t+1)) I.tI32,none⟩]) (.cond (.tmp (t+2)) .skip (.exit b)))
    (.seq (.block (b+1) (seqs body)) (.reg [mv (t+3) i,⟨some (t+4),.binOp .add I.tI32 (.tmp (t+3)) (.const (.int .i32 1)) I.tI32,none⟩,asg i (t+4)])))))
mutual
def rV:Hd→Ty→Nat
  | h,.prim _=>if h.enum then 3 else 1
  | _,.list _ _ _ of=>4+rVE of
  | h,.struct _ _ _ _ fs=>(if 0≤h.null then 3 else 2)+rVs fs
def rVE:Ty→Nat
  | .prim _=>1
  | .list _ _ _ _=>0
  | .struct _ _ _ _ fs=>2+rVs fs
def rVs:Fs→Nat
  | .nil=>0
  | .cons h ty r=>rV h ty+rVs r
end
mutual
def rB:Ty→Nat
  | .prim _=>0
  | .list _ _ _ of=>2+rB of
  | .struct _ _ _ _ fs=>rBs fs
def rBs:Fs→Nat
  | .nil=>0
  | .cons _ ty r=>rB ty+rBs r
end
mutual
def rET (c:Ctx):Ty→Nat
  | .prim k=>if k=.uuid then 1+4 else rPrimT c false k+4
  | .list _ _ _ _=>0
  | .struct _ _ _ tags fs=>3+2+1+rFT c fs+rTagsT tags
def rVT (c:Ctx) (h:Hd):Ty→Nat
  | .prim k=>if k=.uuid then 1+4 else if h.enum then 3+4 else rPrimT c (decide (0≤h.null)) k+4
  | .list _ _ _ of=>4+1+rLenT c+rNilT h+3+2+5+5+rET c of+1+4
  | .struct _ _ _ tags fs=>(if 0≤h.null then 6+4+4+2+1 else 3+2+1)+rFT c fs+rTagsT tags
def rFT (c:Ctx):Fs→Nat
  | .nil=>0
  | .cons h ty r=>vTmps h+rVT c h ty+rFT c r
end
def rvCond (I:RIds) (c:Ctx) (h:Hd) (t:Nat) (body:SC):SC :=
  if h.from_=0∧h.to < 0 then body
  else if h.to < 0 then
    .seq (.reg [mv t c.ver,bin .geq (t+1) I.tI16 t (.const (.int .i16 h.from_))]) (.cond (.tmp (t+1)) body .skip)
  else
    .seq (.reg [mv t c.ver,bin .geq (t+1) I.tI16 t (.const (.int .i16 h.from_)),mv (t+2) (t+1),
      ⟨some (t+3),.move (.tmp c.ver),some (2,true)⟩,⟨some (t+4),.binOp .leq I.tI16 (.tmp (t+3)) (.const (.int .i16 h.to)) I.tI16,some (2,true)⟩,
      ⟨some (t+5),.pick (.tmp (t+2)) (.tmp (t+4)) (.const (.bool false)),none⟩]) (.cond (.tmp (t+5)) body .skip)
mutual
def rElem (I:RIds) (c:Ctx) (T E a i v t b:Nat):Ty→List SC
  | .prim k =>
    if k=.uuid then
      [.reg [cal t I.rUuid [7],⟨some v,.alloc E,none⟩,⟨none,.store E (.tmp v) (.tmp t),none⟩],
        .reg [mv (t+1) a,mv (t+2) i,ld (t+3) E v,⟨some (t+4),.indexAddr T (.tmp (t+1)) (.tmp (t+2)),none⟩,⟨none,.store E (.tmp (t+4)) (.tmp (t+3)),none⟩]]
    else
      [rPrim I c false k v t (.reg [mv (t+rPrimT c false k) a,mv (t+rPrimT c false k+1) i,mv (t+rPrimT c false k+2) v,
        ⟨some (t+rPrimT c false k+3),.indexAddr T (.tmp (t+rPrimT c false k)) (.tmp (t+rPrimT c false k+1)),none⟩,⟨none,.store E (.tmp (t+rPrimT c false k+3)) (.tmp (t+rPrimT c false k+2)),none⟩])]
  | .list _ _ _ _=>[.other]
  | .struct S _ d tags fs =>
    [.reg [mv t a,mv (t+1) i,⟨some (t+2),.indexAddr T (.tmp t) (.tmp (t+1)),none⟩,asg v (t+2)],.reg [mv (t+3) v,cal (t+4) d [t+3]],.reg [mv (t+5) v,asg (v+1) (t+5)]] ++
      (rFs I c S (v+1) (v+2) (t+6) b fs ++ rTagsL I S (v+1) tags (t+6+rFT c fs))
def rVal (I:RIds) (c:Ctx) (S p:Nat) (h:Hd) (v t b:Nat):Ty→SC
  | .prim k =>
    if k=.uuid then
      .seq (.reg [cal t I.rUuid [7],⟨some v,.alloc h.typ,none⟩,⟨none,.store h.typ (.tmp v) (.tmp t),none⟩])
        (.reg [mv (t+1) p,ld (t+2) h.typ v,nilc (t+3) (t+1),fa (t+4) S (t+3) h.idx,⟨none,.store h.typ (.tmp (t+4)) (.tmp (t+2)),none⟩])
    else if h.enum then
      .seq (cset v (.int .i8 0)) (.seq (.seq (rGet (rNum I k) (v+1) t) (.reg [mv (t+1) (v+1),asg v (t+1)])) (.seq (.reg [mv (t+2) v,asg (v+2) (t+2)]) (rStore p (v+2) (t+3) S h.idx h.typ)))
    else rPrim I c (decide (0≤h.null)) k v t (rStore p v (t+rPrimT c (decide (0≤h.null)) k) S h.idx h.typ)
  | .list T E _ of =>
    seqs ([.reg [mv t p,nilc (t+1) t,fa (t+2) S (t+1) h.idx,ld (t+3) T (t+2),asg v (t+3)],.reg [mv (t+4) v,asg (v+1) (t+4)],cset (v+2) (.int .i32 0),rLen I c (v+2) (t+5)] ++
      (rNilL I c h T (v+1) (v+2) (t+5+rLenT c) ++
      [rOkC I (t+5+rLenT c+rNilT h),rCut T (v+1) (t+8+rLenT c+rNilT h),rMake I T (v+1) (v+2) (t+10+rLenT c+rNilT h),
        rLoop I (v+2) (v+3) (t+15+rLenT c+rNilT h) (rET c of) b (rElem I c T E (v+1) (v+3) (v+4) (t+20+rLenT c+rNilT h) (b+2) of),
        .reg [mv (t+20+rLenT c+rNilT h+rET c of) (v+1),asg v (t+20+rLenT c+rNilT h+rET c of)],
        rStore p v (t+21+rLenT c+rNilT h+rET c of) S h.idx T]))
  | .struct S' _ d tags fs =>
    if 0≤h.null then
      .seq (rGet I.rI8 v t) (.seq (.reg [mv (t+1) v,bin .neq (t+2) I.tI8 (t+1) (.const (.int .i8 (-1))),mv (t+3) (t+2),⟨some (t+4),.call ⟨.value (.func I.rOk),#[.tmp 7],#[]⟩,some (2,true)⟩,
          ⟨some (t+5),.pick (.tmp (t+3)) (.tmp (t+4)) (.const (.bool false)),none⟩])
        (.cond (.tmp (t+5)) (seqs ([.reg [mv (t+6) p,⟨some (t+7),.alloc S',none⟩,nilc (t+8) (t+6),fa (t+9) S (t+8) h.idx,⟨none,.store h.typ (.tmp (t+9)) (.tmp (t+7)),none⟩],
          .reg [mv (t+10) p,nilc (t+11) (t+10),fa (t+12) S (t+11) h.idx,ld (t+13) h.typ (t+12),asg (v+1) (t+13)],.reg [mv (t+14) (v+1),cal (t+15) d [t+14]],.reg [mv (t+16) (v+1),asg (v+2) (t+16)]] ++
          (rFs I c S' (v+2) (v+3) (t+17) b fs ++ rTagsL I S' (v+2) tags (t+17+rFT c fs)))) .skip))
    else
      seqs ([.reg [mv t p,nilc (t+1) t,fa (t+2) S (t+1) h.idx,asg v (t+2)],.reg [mv (t+3) v,cal (t+4) d [t+3]],.reg [mv (t+5) v,asg (v+1) (t+5)]] ++
        (rFs I c S' (v+1) (v+2) (t+6) b fs ++ rTagsL I S' (v+1) tags (t+6+rFT c fs)))
def rFs (I:RIds) (c:Ctx) (S p v t b:Nat):Fs→List SC
  | .nil=>[]
  | .cons h ty r =>
    rvCond I c h t (rVal I c S p h v (t+vTmps h) b ty) ::
      rFs I c S p (v+rV h ty) (t+vTmps h+rVT c h ty) (b+rB ty) r
end
def rS:Option Int→Nat
  | none=>9
  | some _=>10
def rCtx:Option Int→Ctx
  | none=>⟨8,9,true⟩
  | some _=>⟨8,9,false⟩
def rFlexL (I:RIds) (t:Nat):Option Int→List SC
  | none=>[]
  | some n=>[.reg [mv (t+9) 8,bin .geq (t+10) I.tI16 (t+9) (.const (.int .i16 n)),asg 9 (t+10)],.reg [mv (t+11) 9]]
def rT1 (t:Nat):Option Int→Nat
  | none=>t+9
  | some _=>t+12
def rTop (I:RIds) (S d t:Nat) (flex:Option Int) (tags:Option (Nat × Nat)) (fs:Fs):SC :=
  seqs ([cset 6 .nilIface,.reg [mv t 0,cal (t+1) d [t]],
    .reg [mv (t+2) 1,⟨some (t+3),.build I.tRd #[(0,.tmp (t+2))],none⟩,⟨some 7,.alloc I.tRd,none⟩,⟨none,.store I.tRd (.tmp 7) (.tmp (t+3)),none⟩],
    .reg [mv (t+4) 0,nilc (t+5) (t+4),fa (t+6) S (t+5) 0,ld (t+7) I.tI16 (t+6),asg 8 (t+7)],.reg [mv (t+8) 8]] ++
    (rFlexL I t flex ++ ([.reg [mv (rT1 t flex) 0,asg (rS flex) (rT1 t flex)]] ++
      ((rFs I (rCtx flex) S (rS flex) (rS flex+1) (rT1 t flex+1) 0 fs ++ rTagsL I S (rS flex) tags (rT1 t flex+1+rFT (rCtx flex) fs)) ++
      [.reg [cal (rT1 t flex+1+rFT (rCtx flex) fs+rTagsT tags) I.rCompl [7],asg 6 (rT1 t flex+1+rFT (rCtx flex) fs+rTagsT tags)],.ret]))))
end Go.Proofs.YtgaplicnofhliaaDoor.K
namespace Go.Proofs.YtgaplicnofhliaaDoor.K
open Go Go.RowKit Go.Proofs.YtgaplicnofhliaaDoor.T
set_option linter.unusedSimpArgs false
set_option linter.unusedVariables false
def RdAt (TR:Nat) (w:World) (S:Option Nat) (rb:Nat):Option Bytes→Prop
  | none=>w.heap[rb]?=some (.cells #[.slice none 0 0,.bool true] TR (0,0))
  | some rest=>∃ base cap,w.heap[rb]?=some (.cells #[.slice base rest.length cap,.bool false] TR (0,0))∧rest.length≤cap ∧
      match S with
      | none=>base=none∧rest=[]
      | some sb=>∃ o,base=some ⟨sb,o,none⟩∧∀ j u,rest[j]?=some u→w.cell? ⟨sb,o+j,none⟩=some (cell u)
structure Only (rb:Nat) (w w':World):Prop where
  os:w'.os=w.os
  tape:w'.tape=w.tape
  output:w'.output=w.output
  size:w.heap.size≤w'.heap.size
  block:∀ k,k < w.heap.size→k ≠ rb→w'.heap[k]?=w.heap[k]?
theorem Only.refl (rb:Nat) (w:World):Only rb w w:=⟨rfl,rfl,rfl,Nat.le_refl _,fun _ _ _=>rfl⟩
theorem Only.trans {rb:Nat} {a b c:World} (h:Only rb a b) (k:Only rb b c):Only rb a c :=
  ⟨k.os.trans h.os,k.tape.trans h.tape,k.output.trans h.output,Nat.le_trans h.size k.size,fun i hi hn=>(k.block i (Nat.lt_of_lt_of_le hi h.size) hn).trans (h.block i hi hn)⟩
theorem Only.alloc {rb:Nat} {a w:World} (h:Only rb a w) (o:Obj):Only rb a (w.alloc o) :=
  h.trans ⟨rfl,rfl,rfl,by simp,fun k hk _=>Below.heap_alloc _ _ _ hk⟩
theorem Only.drew {rb:Nat} {a w:World} (h:Only rb a w):Only rb a w.drew:=⟨h.os,h.tape,h.output,h.size,h.block⟩
theorem Only.setRow {rb:Nat} {a w:World} (h:Only rb a w) (cs:Array Value):Only rb a (w.setRow rb cs) :=
  h.trans ⟨rfl,rfl,rfl,by simp,fun k _ hn=>setRow_other _ _ _ _ hn⟩
theorem Only.own {rb b:Nat} {a w:World} (h:Only rb a w) (hb:a.heap.size≤b) (cs:Array Value):Only rb a (w.setRow b cs) :=
  ⟨h.os,h.tape,h.output,by simpa using h.size,fun k hk hn=>(setRow_other _ _ _ _ (by omega)).trans (h.block k hk hn)⟩
theorem Only.below {rb B:Nat} {w w':World} (h:Only rb w w') (hB:B≤rb) (hs:B≤w.heap.size):Below B w w' :=
  ⟨h.os,h.tape,h.output,h.size,fun k hk=>h.block k (by omega) (by omega)⟩
theorem Only.cell {rb:Nat} {w w':World} (h:Only rb w w') {a:Addr} (hk:a.block < w.heap.size) (hn:a.block ≠ rb):w'.cell? a=w.cell? a:=World.cell?_of_block (h.block _ hk hn)
def after {α:Type} (st:Option Bytes) (p:Rd α):Option Bytes:=st.bind fun b=>(p b).map (·.2)
theorem after_ok {α:Type} {b r:Bytes} {x:α} {p:Rd α} (h:p b=some (x,r)):after (some b) p=some r:=by simp [after,h]
theorem after_no {α:Type} {b:Bytes} {p:Rd α} (h:p b=none):after (some b) p=none:=by simp [after,h]
theorem after_bad {α:Type} {p:Rd α}:after none p=none:=rfl
theorem after_rOk {α:Type} (st:Option Bytes) (x:α):after st (rOk x)=st:=by cases st <;> rfl
theorem after_then {α β:Type} (st:Option Bytes) (p:Rd α) (f:α→Rd β) {x:α} {b r:Bytes} (hs:st=some b) (h:p b=some (x,r)):after st (rThen p f)=after (some r) (f x):=by
  subst hs
  simp [after,rThen_of h]
theorem after_then_none {α β:Type} {st:Option Bytes} {p:Rd α} {f:α→Rd β} (h:after st p=none):after st (rThen p f)=none:=by
  cases st with
  | none=>rfl
  | some b =>
    cases hp:p b with
    | none=>simp [after,rThen,hp]
    | some z=>simp [after,hp] at h
def NewF (S:Option Nat) (w w':World):Nat→Prop:=fun k=>S=some k∨(w.heap.size≤k∧k < w'.heap.size)
def RC {α:Type} (P:Program) (TR gb:Nat) (f:FuncId) (p:Rd α) (ty:Value→Prop) (ok:World→(Nat→Prop)→α→Value→Prop):Prop :=
  FnOK P f∧∀ (w:World) (S:Option Nat) (rb:Nat) (st:Option Bytes),gb < w.heap.size→RdAt TR w S rb st→(∀ sb,S=some sb→sb ≠ rb∧sb < w.heap.size) →
    Calls P f #[.pointer (some ⟨rb,0,none⟩)] w fun e w'=>∃ v,e=.returned v∧RdAt TR w' S rb (after st p)∧Only rb w w'∧ty v ∧
      ∀ b x r,st=some b→p b=some (x,r)→ok w' (NewF S w w') x v
def tyP (nul:Bool):PK→Value→Prop
  | .bool,v=>∃ x,v=.bool x
  | .i8,v=>∃ n,v=.int .i8 n
  | .i16,v=>∃ n,v=.int .i16 n
  | .i32,v=>∃ n,v=.int .i32 n
  | .i64,v=>∃ n,v=.int .i64 n
  | .u16,v=>∃ n,v=.int .u16 n
  | .uuid,v=>∃ bs:Bytes,bs.length=16∧v=.agg (cellsOf bs).toArray
  | .str,v=>if nul then ∃ q,v=.pointer q else ∃ s,v=.string s
  | .bytes,v=>∃ b l c,v=.slice b l c
theorem tyP_one {nul:Bool} {k:PK} {v:Value} (hk:k ≠ .uuid) (h:tyP nul k v):v.oneCell'=true:=by
  cases k <;> simp only [tyP] at h
  case uuid=>exact absurd rfl hk
  case str =>
    split at h <;> obtain ⟨x,rfl⟩:=h <;> rfl
  case bytes=>obtain ⟨b,l,c,rfl⟩:=h;rfl
  all_goals obtain ⟨x,rfl⟩:=h;rfl
def okP (nul:Bool) (k:PK) (w:World) (F:Nat→Prop) (t:Tree) (v:Value):Prop:=t.s.length≤most→(if k=.uuid then v=.agg (cellsOf (uuidOf t)).toArray else PVal w F nul t k v)
def PK.num:PK→Bool
  | .bool=>true | .i8=>true | .i16=>true | .i32=>true | .i64=>true | .u16=>true | _=>false
def TagsV (w:World) (F:Nat→Prop) (u:List (Nat × Bytes)) (m:Value):Prop :=
  (m=.map none∧u=[])∨∃ r es clock,m=.map (some r)∧F r∧w.heap[r]?=some (.map es clock)∧TagsEs w F es clock u
structure KR (P:Program) (I:RIds) (TR gb:Nat) (err:Value) (Gl:World→Prop):Prop where
  num:∀ k,PK.num k=true→rNum I k ≠ 0→RC P TR gb (rNum I k) (pPrim false false k) (tyP false k) (okP false k)
  uuid:I.rUuid ≠ 0→RC P TR gb I.rUuid (pPrim false false .uuid) (tyP false .uuid) (okP false .uuid)
  str:I.rStr ≠ 0→RC P TR gb I.rStr (pPrim false false .str) (tyP false .str) (okP false .str)
  cstr:I.rCStr ≠ 0→RC P TR gb I.rCStr (pPrim true false .str) (tyP false .str) (okP false .str)
  nstr:I.rNStr ≠ 0→RC P TR gb I.rNStr (pPrim false true .str) (tyP true .str) (okP true .str)
  cnstr:I.rCNStr ≠ 0→RC P TR gb I.rCNStr (pPrim true true .str) (tyP true .str) (okP true .str)
  bytes:I.rBytes ≠ 0→RC P TR gb I.rBytes (pPrim false false .bytes) (tyP false .bytes) (okP false .bytes)
  cbytes:I.rCBytes ≠ 0→RC P TR gb I.rCBytes (pPrim true false .bytes) (tyP false .bytes) (okP false .bytes)
  nbytes:I.rNBytes ≠ 0→RC P TR gb I.rNBytes (pPrim false true .bytes) (tyP true .bytes) (okP true .bytes)
  arr:I.rArr ≠ 0→RC P TR gb I.rArr (pLen false) (fun v=>∃ n,v=.int .i32 n) (fun _ _ n v=>v=.int .i32 n)
  carr:I.rCArr ≠ 0→RC P TR gb I.rCArr (pLen true) (fun v=>∃ n,v=.int .i32 n) (fun _ _ n v=>v=.int .i32 n)
  tags:I.rTags ≠ 0→RC P TR gb I.rTags (pTags true) (fun v=>∃ m,v=.agg #[m]∧m.oneCell'=true) (fun w F u v=>∃ m,v=.agg #[m]∧TagsV w F u m)
  okF:I.rOk ≠ 0→FnOK P I.rOk
  ok:I.rOk ≠ 0→∀ (w:World) (S:Option Nat) (rb:Nat) (st:Option Bytes),RdAt TR w S rb st→Calls P I.rOk #[.pointer (some ⟨rb,0,none⟩)] w fun e w'=>e=.returned (.bool st.isSome)∧w'=w
  complF:FnOK P I.rCompl
  compl:∀ (w:World) (S:Option Nat) (rb:Nat) (st:Option Bytes),Gl w→RdAt TR w S rb st→Calls P I.rCompl #[.pointer (some ⟨rb,0,none⟩)] w fun e w'=>e=.returned (if st.isSome then .nilIface else err)∧w'=w
end Go.Proofs.YtgaplicnofhliaaDoor.K
namespace Go.Proofs.YtgaplicnofhliaaDoor.K
open Go Go.RowKit Go.Proofs.YtgaplicnofhliaaDoor.T
attribute [local simp] eTm eCo pNo gTp gTn qv qcall vop iop
set_option linter.unusedSimpArgs false
set_option linter.unusedVariables false
set_option maxHeartbeats 1000000
structure RTy where
  TR:Nat
  TB:Nat
  U8:Nat
  I:Nat
  Bo:Nat
def rdOK (P:Program) (R:RTy):Bool :=
  fieldOff P R.TR 0 == some 0 && fieldOff P R.TR 1 == some 1 && oneB P R.TB && sliceN P R.TB == some 1 && oneB P R.Bo && oneB P R.U8 && intK P R.U8 == some .u8 && intK P R.I == some .i64
theorem rd_facts {P:Program} {R:RTy} (h:rdOK P R=true) :
    fieldOff P R.TR 0=some 0∧fieldOff P R.TR 1=some 1∧oneB P R.TB=true∧sliceN P R.TB=some 1∧oneB P R.Bo=true∧oneB P R.U8=true∧intK P R.U8=some .u8∧intK P R.I=some .i64:=by
  simp only [rdOK,Bool.and_eq_true,beq_iff_eq] at h
  obtain ⟨⟨⟨⟨⟨⟨⟨h1,h2⟩,h3⟩,h4⟩,h5⟩,h6⟩,h7⟩,h8⟩:=h
  exact ⟨h1,h2,h3,h4,h5,h6,h7,h8⟩
section
variable {P:Program} {R:RTy} {a:Act} {w:World} {K:Act→World→Prop} {d:Option Tmp} {g:Option (Nat × Bool)}
theorem ops_stR {all r:List SOp} {T b i:Nat} {x y:Operand} {v:Value} {cs:Array Value} {E:TypeId} (h1:oneB P T=true) (hx:a.eval x=.pointer (some ⟨b,i,none⟩)) (hy:a.eval y=v) (hv:v.oneCell'=true) (hrow:w.heap[b]?=some (.cells cs E (0,0))) (hi:i < cs.size)
    (hk:opsw P all r K a (w.setRow b (cs.setIfInBounds i v))):opsw P all (⟨none,.store T x y,none⟩ :: r) K a w:=by
  refine oNo rfl (opw_store_one (ad:=⟨b,i,none⟩) (v:=v) (v0:=cs[i]) h1 hx hy hv (by rw [cell_of_row _ _ _ _ _ _ hrow];exact Array.getElem?_eq_getElem hi) (by simp [World.frozen?,hrow]) ?_)
  rw [pNo,setCell_eq_setRow _ _ _ _ _ _ _ hrow]
  exact hk
def sliceLo (base:Option Addr) (len cap n:Nat):Value:=.slice (if cap=n then base else base.map (·.add n)) (len - n) (cap - n)
theorem opw_sliceLo {T n len cap:Nat} {k:IntKind} {x y:Operand} {base:Option Addr} (hT:sliceN P T=some 1) (hx:a.eval x=.slice base len cap) (hy:a.eval y=.int k (n:Int)) (hn:n≤len) (h:K (a.put d (sliceLo base len cap n)) w) :
    opw P ⟨d,.slice T x (some y) none none,g⟩ a w K:=by
  unfold sliceN at hT
  split at hT <;> try (simp at hT;done)
  rename_i e hu
  obtain ⟨i,hi,hs⟩:=Option.map_eq_some_iff.1 hT
  refine oVa (v:=sliceLo base len cap n) (by simp) (fun p hp=>?_) h
  simp [execOp,hp,hx,hy,Instr.sliceAt,Instr.slice,run_underlying hu,Instr.sliceBounds,Instr.sliceBound,asIntOf,sizeOf,typeInfo,hi,hs,hn,sliceLo]
theorem opw_slice3 {T n len cap:Nat} {k k':IntKind} {x y z:Operand} {base:Option Addr} (hT:sliceN P T=some 1) (hx:a.eval x=.slice base len cap) (hy:a.eval y=.int k (n:Int)) (hz:a.eval z=.int k' (n:Int)) (hn:n≤cap) (h:K (a.put d (.slice base n n)) w) :
    opw P ⟨d,.slice T x none (some y) (some z),g⟩ a w K:=by
  unfold sliceN at hT
  split at hT <;> try (simp at hT;done)
  rename_i e hu
  obtain ⟨i,hi,hs⟩:=Option.map_eq_some_iff.1 hT
  refine oVa (v:=.slice base n n) (by simp) (fun p hp=>?_) h
  have:base.map (fun x=>x.add 0)=base:=by cases base <;> simp [Addr.add]
  simp [execOp,hp,hx,hy,hz,Instr.sliceAt,Instr.slice,run_underlying hu,Instr.sliceBounds,Instr.sliceBound,asIntOf,sizeOf,typeInfo,hi,hs,hn,this]
end
def rdRow (TR:Nat) (w:World) (rb:Nat) (v:Value) (bad:Bool):Prop:=w.heap[rb]?=some (.cells #[v,.bool bad] TR (0,0))
theorem rdRow_cells {TR rb:Nat} {w:World} {v:Value} {bad:Bool} (h:rdRow TR w rb v bad):w.cell? ⟨rb,0,none⟩=some v∧w.cell? ⟨rb,1,none⟩=some (.bool bad):=by
  constructor <;> rw [cell_of_row _ _ _ _ _ _ h] <;> rfl
def SrcAt (w:World) (S:Option Nat) (base:Option Addr) (rest:Bytes):Prop :=
  match S with
  | none=>base=none∧rest=[]
  | some sb=>∃ o,base=some ⟨sb,o,none⟩∧∀ j u,rest[j]?=some u→w.cell? ⟨sb,o+j,none⟩=some (cell u)
theorem rdAt_row {TR rb:Nat} {w:World} {S:Option Nat} {st:Option Bytes} (h:RdAt TR w S rb st) :
    (st=none∧rdRow TR w rb (.slice none 0 0) true)∨∃ rest base cap,st=some rest∧rdRow TR w rb (.slice base rest.length cap) false∧rest.length≤cap∧SrcAt w S base rest:=by
  cases st with
  | none=>exact .inl ⟨rfl,h⟩
  | some rest =>
    obtain ⟨base,cap,h1,h2,h3⟩:=h
    exact .inr ⟨rest,base,cap,rfl,h1,h2,by cases S <;> exact h3⟩
theorem SrcAt.frame {w w':World} {S:Option Nat} {base:Option Addr} {rest:Bytes} (h:SrcAt w S base rest) (hS:∀ sb,S=some sb→w'.heap[sb]?=w.heap[sb]?):SrcAt w' S base rest:=by
  cases S with
  | none=>exact h
  | some sb =>
    obtain ⟨o,h1,h2⟩:=h
    exact ⟨o,h1,fun j u hu=>by rw [World.cell?_of_block (hS sb rfl)];exact h2 j u hu⟩
theorem SrcAt.drop {w:World} {S:Option Nat} {base:Option Addr} {rest:Bytes} {cap n:Nat} (h:SrcAt w S base rest) (hn:n≤rest.length) (hc:rest.length≤cap):SrcAt w S (if cap=n then base else base.map (·.add n)) (rest.drop n):=by
  cases S with
  | none =>
    obtain ⟨rfl,rfl⟩:=h
    simp [SrcAt]
  | some sb =>
    obtain ⟨o,rfl,h2⟩:=h
    by_cases e:cap=n
    · rw [if_pos e]
      refine ⟨o,rfl,fun j u hu=>?_⟩
      rw [List.drop_of_length_le (by omega)] at hu
      simp at hu
    · rw [if_neg e]
      refine ⟨o+n,by simp [add_none],fun j u hu=>?_⟩
      rw [List.getElem?_drop] at hu
      rw [show o+n+j=o+(n+j) by omega]
      exact h2 _ u hu
theorem rdAt_drop {TR rb:Nat} {w:World} {S:Option Nat} {base:Option Addr} {rest:Bytes} {cap n:Nat} {v0:Value} (hr:rdRow TR w rb v0 false) (hc:rest.length≤cap) (hs:SrcAt w S base rest) (hS:∀ sb,S=some sb→sb ≠ rb) (hn:n≤rest.length) :
    RdAt TR (w.setRow rb (#[v0,.bool false].setIfInBounds 0 (sliceLo base rest.length cap n))) S rb (some (rest.drop n)):=by
  refine ⟨(if cap=n then base else base.map (·.add n)),cap - n,?_,by rw [List.length_drop];omega,?_⟩
  · have:=setRow_heap w rb _ (#[v0,.bool false].setIfInBounds 0 (sliceLo base rest.length cap n)) _ _ hr
    rw [this]
    simp [sliceLo,List.length_drop]
  · have:=(hs.drop hn hc).frame (w':=w.setRow rb (#[v0,.bool false].setIfInBounds 0 (sliceLo base rest.length cap n))) fun sb hsb=>setRow_other _ _ _ _ (hS sb hsb)
    cases S <;> exact this
theorem rdAt_bad {TR rb:Nat} {w:World} {S:Option Nat} {cs:Array Value} {fr:Nat × Nat} {c2:Array Value} (hr:w.heap[rb]?=some (.cells cs TR (0,0))) (h2:c2=#[.slice none 0 0,.bool true]):RdAt TR (w.setRow rb c2) S rb none:=by
  subst h2
  exact setRow_heap _ _ _ _ _ _ hr
def rFail (R:RTy) (t r:Nat) (zero:Value):SC :=
  .seq (.reg [mv t 0,nilc (t+1) t,fa (t+2) R.TR (t+1) 1,⟨none,.store R.Bo (.tmp (t+2)) (.const (.bool true)),none⟩])
    (.seq (.reg [mv (t+3) 0,nilc (t+4) (t+3),fa (t+5) R.TR (t+4) 0,⟨none,.store R.TB (.tmp (t+5)) (.const (.slice none 0 0)),none⟩]) (.seq (.reg [⟨some r,.assign (.const zero),none⟩]) .ret))
theorem rFail_ok {P:Program} {R:RTy} {t r rb:Nat} {zero v:Value} {bad:Bool} {a:Act} {w:World} {S:Option Nat} {Q:Exit→Act→World→Prop} (hR:rdOK P R=true) (hr:rdRow R.TR w rb v bad) (h0:getT a 0=.pointer (some ⟨rb,0,none⟩)) (ht:0 < t) (htN:t+6≤a.tmps.size) (hrN:r < a.tmps.size)
    (hQ:∀ a' w',a'.defers=a.defers→getT a' r=zero→RdAt R.TR w' S rb none→Only rb w w'→Q .ret a' w'):(rFail R t r zero).wp P Q a w:=by
  have hf:=rd_facts hR
  have hrow:w.heap[rb]?=some (.cells #[v,.bool bad] R.TR (0,0)):=hr
  refine SC.wp_seq (SC.wp_reg (ops_mv (ops_nilc (ad:=⟨rb,0,none⟩) ?_ (ops_fa (fieldB_of hf.2.1) (b:=rb) (o:=0) ?_ (ops_stR (b:=rb) (i:=1) (v:=.bool true) hf.2.2.2.2.1 ?_ rfl rfl hrow (by simp) (oNi ?_))))))
  · rw [gTp (by omega)];exact h0
  · rw [gTp (by rw [sPu];omega)]
  · rw [eTm,gTp (by simp only [sPu];omega)]
  have hrow2:=setRow_heap w rb _ (#[v,.bool bad].setIfInBounds 1 (.bool true)) _ _ hrow
  simp only [Exit.then]
  refine SC.wp_seq (SC.wp_reg (ops_mv (ops_nilc (ad:=⟨rb,0,none⟩) ?_ (ops_fa (fieldB_of hf.1) (b:=rb) (o:=0) ?_ (ops_stR (b:=rb) (i:=0) (v:=.slice none 0 0) hf.2.2.1 ?_ rfl rfl hrow2 (by simp) (oNi ?_))))))
  · rw [gTp (by simp only [sPu];omega),gTn (by omega),gTn (by omega),gTn (by omega)];exact h0
  · rw [gTp (by simp only [sPu];omega)]
  · rw [eTm,gTp (by simp only [sPu];omega)]
  simp only [Exit.then]
  refine SC.wp_seq (SC.wp_reg (oNo rfl (opw_assign (oNi ?_))))
  rw [eCo]
  simp only [Exit.then]
  refine SC.wp_ret (hQ _ _ (by simp [dPu]) (by rw [gTp (by simp only [sPu];omega)]) ?_ (((Only.refl rb w).setRow _).setRow _))
  refine rdAt_bad (fr:=(0,0)) hrow2 ?_
  simp
def sc_ROk (R:RTy):SC:=.seq (.reg [⟨some 2,.assign (.const (.bool false)),none⟩]) (.seq (.reg [mv 3 0,nilc 4 3,fa 5 R.TR 4 1,ld 6 R.Bo 5,⟨some 7,.unOp .not R.Bo (.tmp 6),none⟩,asg 2 7]) (.ret))
def sc_RComplete (R:RTy) (T2 G0:Nat):SC:=.seq (.reg [⟨some 2,.assign (.const .nilIface),none⟩]) (.seq (.seq (.reg [mv 3 0,nilc 4 3,fa 5 R.TR 4 1,ld 6 R.Bo 5]) (.cond (.tmp 6) (.seq (.reg [⟨some 7,.load T2 (.global G0),none⟩,asg 2 7]) (.ret)) (.skip))) (.seq (.reg [⟨some 2,.assign (.const .nilIface),none⟩]) (.ret)))
section
variable {P:Program} {R:RTy} {f:FuncId} {fn:Func}
theorem rOk_ok (hR:rdOK P R=true) (hf:P.funcs[f]?=some fn) (hb:fn.body.map strip=some (sc_ROk R)) (hn:fn.ntmps=8) (hr:fn.results=#[.tmp 2]) (w:World) (S:Option Nat) (rb:Nat) (st:Option Bytes) (h:RdAt R.TR w S rb st) :
    Calls P f #[.pointer (some ⟨rb,0,none⟩)] w fun e w'=>e=.returned (.bool st.isSome)∧w'=w:=by
  have hst:=rd_facts hR
  obtain ⟨v,hrow⟩:∃ v,rdRow R.TR w rb v (!st.isSome):=by
    rcases rdAt_row h with ⟨rfl,h1⟩ | ⟨rest,base,cap,rfl,h1,_⟩
    · exact ⟨_,h1⟩
    · exact ⟨_,h1⟩
  have hc:=rdRow_cells hrow
  refine fCa hf hb hn (by simp) fun a0 hs hd ha=>?_
  have h0:=ha 0 _ rfl
  simp only [List.getElem_toArray,List.getElem_cons_zero,List.getElem_cons_succ] at h0
  refine SC.wp_seq (SC.wp_reg ?_)
  repeat (apply ops_1;(focus (simp (disch:=(try simp only [sPu]);omega) ;try rfl)))
  refine oNi (SC.wp_seq (SC.wp_reg ?_))
  repeat (apply ops_1;(focus (simp (disch:=(try simp only [sPu]);omega) [hst,h0,hc];try rfl)))
  refine oNi (SC.wp_ret (ret_tmp hr (by simp [dPu,hd]) ⟨?_,rfl⟩))
  simp (disch:=(try simp only [sPu]);omega)
theorem rComplete_ok {T2 G0:Nat} {err:Value} (hR:rdOK P R=true) (hT:oneB P T2=true) (hG:P.globals.size > G0∨True) (hf:P.funcs[f]?=some fn) (hb:fn.body.map strip=some (sc_RComplete R T2 G0)) (hn:fn.ntmps=8) (hr:fn.results=#[.tmp 2]) (w:World) (S:Option Nat) (rb:Nat) (st:Option Bytes)
    (hg:w.cell? ⟨G0,0,none⟩=some err) (h:RdAt R.TR w S rb st) :
    Calls P f #[.pointer (some ⟨rb,0,none⟩)] w fun e w'=>e=.returned (if st.isSome then .nilIface else err)∧w'=w:=by
  have hst:=rd_facts hR
  obtain ⟨v,hrow⟩:∃ v,rdRow R.TR w rb v (!st.isSome):=by
    rcases rdAt_row h with ⟨rfl,h1⟩ | ⟨rest,base,cap,rfl,h1,_⟩
    · exact ⟨_,h1⟩
    · exact ⟨_,h1⟩
  have hc:=rdRow_cells hrow
  refine fCa hf hb hn (by simp) fun a0 hs hd ha=>?_
  have h0:=ha 0 _ rfl
  simp only [List.getElem_toArray,List.getElem_cons_zero,List.getElem_cons_succ] at h0
  refine SC.wp_seq (SC.wp_reg ?_)
  repeat (apply ops_1;(focus (simp (disch:=(try simp only [sPu]);omega) ;try rfl)))
  refine oNi (SC.wp_seq (SC.wp_seq (SC.wp_reg ?_)))
  repeat (apply ops_1;(focus (simp (disch:=(try simp only [sPu]);omega) [hst,h0,hc];try rfl)))
  refine oNi (SC.wp_cond (t:=!st.isSome) (by simp (disch:=(try simp only [sPu]);omega)) ?_)
  cases hs1:st.isSome with
  | false =>
    simp only [Bool.not_false,if_true]
    refine SC.wp_seq (SC.wp_reg (oNo rfl (opw_load_one (ad:=⟨G0,0,none⟩) hT rfl hg ?_)))
    repeat (apply ops_1;(focus (simp (disch:=(try simp only [sPu]);omega) ;try rfl)))
    refine oNi (SC.wp_ret ?_)
    simp only [Exit.then]
    refine ret_tmp hr (by simp [dPu,hd]) ⟨?_,rfl⟩
    simp (disch:=(try simp only [sPu]);omega)
  | true =>
    simp only [Bool.not_true,Bool.false_eq_true,if_false]
    refine SC.wp_skip ?_
    simp only [Exit.then]
    refine SC.wp_seq (SC.wp_reg ?_)
    repeat (apply ops_1;(focus (simp (disch:=(try simp only [sPu]);omega) ;try rfl)))
    refine oNi (SC.wp_ret (ret_tmp hr (by simp [dPu,hd]) ⟨?_,rfl⟩))
    simp (disch:=(try simp only [sPu]);omega)
end
end Go.Proofs.YtgaplicnofhliaaDoor.K
namespace Go.Proofs.YtgaplicnofhliaaDoor.K
open Go Go.RowKit Go.Proofs.YtgaplicnofhliaaDoor.T
open Go.ChangeShapes Go.WideShapes Go.Deep
set_option linter.unusedSimpArgs false
set_option linter.unusedVariables false
theorem open_data {H:Type} {enc:TypeId × Value→H} {P:Program} {w:World} {t b0 fuel:Nat} {v:Value} {x:DataW H × List MemPlace} {B:DataW H→Nat} (ht:sl8 P t=true) (hB:BulkC B) (hval:Value.okWide P w .any b0 t v)
    (h:DataW.trod enc P w 0 (fun _=>true) true fuel t v.cells.toList=some x) :
    ∃ (base:Option Addr) (cap:Nat) (data:Bytes) (S:Option Nat),v=.slice base data.length cap∧SrcAt w S base data∧∀ sb,S=some sb→sb < w.heap.size:=by
  obtain ⟨base,cap,bs,h1,hcap,_,h2⟩:=open_u8s ht h hB
  obtain ⟨e,hu,he,_⟩:=sl8_of ht
  have hv:v=.slice base bs.length cap:=by
    cases v <;> simp [Value.cells] at h1 ⊢
    case slice a b c=>exact h1
    case agg cs =>
      simp only [Value.okWide,hu] at hval
      unfold Cell.okWide at hval
      rw [hu] at hval
      simp [Cell.ok,hu] at hval
  subst hv
  cases base with
  | none =>
    rcases h2 with rfl | ⟨b,o,h3,_⟩
    · exact ⟨none,cap,[],none,rfl,⟨rfl,rfl⟩,fun sb h=>by cases h⟩
    · cases h3
  | some a =>
    have hok:Cell.ok P w .any b0 t (.slice (some a) bs.length cap):=by
      simp only [Value.okWide,hu] at hval
      unfold Cell.okWide at hval
      rw [hu] at hval
      exact hval
    simp only [Cell.ok,hu] at hok
    obtain ⟨_,_,_,hsp,row,cells,hsh,_⟩:=hok
    have hlt:a.block < w.heap.size:=by
      simp only [World.shape?] at hsh
      split at hsh
      · rename_i hb;exact (Array.getElem?_eq_some_iff.1 hb).1
      · cases hsh
    have ha:a=⟨a.block,a.off,none⟩:=by cases a;simp only at hsp;rw [hsp]
    refine ⟨some a,cap,bs,some a.block,rfl,⟨a.off,by rw [← ha],?_⟩,fun sb h=>by cases h;exact hlt⟩
    rcases h2 with rfl | ⟨b,o,h3,_,h4⟩
    · intro j u hj;simp at hj
    · cases h3;exact h4
end Go.Proofs.YtgaplicnofhliaaDoor.K
namespace Go.Proofs.YtgaplicnofhliaaDoor.K
open Go Go.RowKit Go.Proofs.YtgaplicnofhliaaDoor.T
set_option linter.unusedSimpArgs false
set_option linter.unusedVariables false
structure DSt where
  at_:List (Nat × Nat)
  out:List (Nat × Value)
def DSt.look (s:DSt) (t:Nat):Option Nat:=(s.at_.find? fun x=>x.1 == t).map (·.2)
def DSt.put (s:DSt) (t x:Nat):DSt:=⟨(t,x) :: s.at_,s.out⟩
def dOp (P:Program) (N n:Nat) (s:DSt):SOp→Option DSt
  | ⟨some t,.move (.tmp x),none⟩=>if t < N then (s.look x).map (s.put t) else none
  | ⟨some t,.assign (.tmp x),none⟩=>if t < N then (s.look x).map (s.put t) else none
  | ⟨some t,.nilCheck (.tmp x),none⟩=>if t < N then (s.look x).map (s.put t) else none
  | ⟨some t,.fieldAddr S (.tmp x) f,none⟩=>if t < N then (s.look x).bind fun o=>(fieldOff P S f).map fun off=>s.put t (o+off) else none
  | ⟨none,.store T (.tmp x) (.const v),none⟩=>if oneB P T && v.oneCell' then (s.look x).bind fun o=>if o < n then some ⟨s.at_,s.out ++ [(o,v)]⟩ else none else none
  | _=>none
def dOps (P:Program) (N n:Nat):DSt→List SOp→Option DSt
  | s,[]=>some s
  | s,o :: r=>(dOp P N n s o).bind fun s'=>dOps P N n s' r
def dRun (P:Program) (N n:Nat):DSt→SC→Option DSt
  | s,.skip=>some s
  | s,.reg l=>dOps P N n s l
  | s,.seq a b=>(dRun P N n s a).bind fun s'=>dRun P N n s' b
  | _,_=>none
def dSetAll (o:Nat):List (Nat × Value)→Array Value→Array Value
  | [],cs=>cs
  | x :: r,cs=>dSetAll o r (cs.setIfInBounds (o+x.1) x.2)
theorem dSetAll_append (o:Nat):∀ (l r:List (Nat × Value)) (cs:Array Value),dSetAll o (l ++ r) cs=dSetAll o r (dSetAll o l cs)
  | [],_,_=>rfl
  | x :: l,r,cs=>dSetAll_append o l r _
theorem dSetAll_size (o:Nat):∀ (l:List (Nat × Value)) (cs:Array Value),(dSetAll o l cs).size=cs.size
  | [],_=>rfl
  | x :: l,cs=>by simp [dSetAll,dSetAll_size o l]
structure DInv (N:Nat) (w0:World) (b o:Nat) (cs:Array Value) (T:TypeId) (s:DSt) (a:Act) (w:World):Prop where
  size:a.tmps.size=N
  defers:a.defers=[]
  slots:∀ t x,s.look t=some x→getT a t=.pointer (some ⟨b,o+x,none⟩)
  world:w=w0.setRow b (dSetAll o s.out cs)
  row:w.heap[b]?=some (.cells (dSetAll o s.out cs) T (0,0))
theorem dPut {N:Nat} {w0 w:World} {b o x t:Nat} {cs:Array Value} {T:TypeId} {s:DSt} {a:Act} {v:Value} (h:DInv N w0 b o cs T s a w) (ht:t < N) (hv:v=.pointer (some ⟨b,o+x,none⟩)):DInv N w0 b o cs T (s.put t x) (a.put (some t) v) w:=by
  subst hv
  refine ⟨by rw [sPu];exact h.size,by rw [dPu];exact h.defers,fun t' x' hx=>?_,h.world,h.row⟩
  have hsz:=h.size
  simp only [DSt.put,DSt.look,List.find?_cons] at hx
  by_cases e:t=t'
  · subst e
    simp at hx
    subst hx
    rw [gTp (by omega)]
  · rw [gTn (Ne.symm e)]
    have:(t == t')=false:=by simpa using e
    simp only [this] at hx
    exact h.slots t' x' hx
theorem dOps_ok {P:Program} {N n:Nat} {w0:World} {b o:Nat} {cs:Array Value} {T:TypeId} (hn:o+n≤cs.size) {all:List SOp} {K:Act→World→Prop} {s':DSt} (hK:∀ a w,DInv N w0 b o cs T s' a w→K a w) :
    ∀ (l:List SOp) (s:DSt) (a:Act) (w:World),dOps P N n s l=some s'→DInv N w0 b o cs T s a w→opsw P all l K a w
  | [],s,a,w,h,hi=>by
    simp only [dOps,Option.some.injEq] at h
    subst h
    exact hK a w hi
  | op :: r,s,a,w,h,hi=>by
    simp only [dOps] at h
    obtain ⟨s1,h1,h2⟩:=Option.bind_eq_some_iff.1 h
    have ih:=fun a w=>dOps_ok hn (all:=all) hK r s1 a w h2
    unfold dOp at h1
    split at h1 <;> try (simp at h1;done)
    · rename_i t x
      split at h1 <;> try (simp at h1;done)
      rename_i ht
      obtain ⟨y,hy,rfl⟩:=Option.map_eq_some_iff.1 h1
      have hs:=hi.slots _ _ hy
      exact oNo rfl (opw_move (ih _ _ (dPut hi ht (by rw [eTm];exact hs))))
    · rename_i t x
      split at h1 <;> try (simp at h1;done)
      rename_i ht
      obtain ⟨y,hy,rfl⟩:=Option.map_eq_some_iff.1 h1
      have hs:=hi.slots _ _ hy
      exact oNo rfl (opw_assign (ih _ _ (dPut hi ht (by rw [eTm];exact hs))))
    · rename_i t x
      split at h1 <;> try (simp at h1;done)
      rename_i ht
      obtain ⟨y,hy,rfl⟩:=Option.map_eq_some_iff.1 h1
      have hs:=hi.slots _ _ hy
      exact oNo rfl (opw_nilCheck (by rw [eTm];exact hs) (ih _ _ (dPut hi ht rfl)))
    · rename_i t S x f
      split at h1 <;> try (simp at h1;done)
      rename_i ht
      obtain ⟨y,hy,h1⟩:=Option.bind_eq_some_iff.1 h1
      obtain ⟨off,hoff,rfl⟩:=Option.map_eq_some_iff.1 h1
      have hs:=hi.slots _ _ hy
      exact oNo rfl (opw_field (fieldB_of hoff) (by rw [eTm];exact hs) (ih _ _ (dPut hi ht (by rw [Nat.add_assoc]))))
    · rename_i T' x v
      split at h1 <;> try (simp at h1;done)
      rename_i hT
      simp only [Bool.and_eq_true] at hT
      obtain ⟨y,hy,h1⟩:=Option.bind_eq_some_iff.1 h1
      split at h1 <;> try (simp at h1;done)
      rename_i hyn
      simp only [Option.some.injEq] at h1
      subst h1
      have hs:=hi.slots _ _ hy
      have hsz:=dSetAll_size o s.out cs
      have hlt:o+y < (dSetAll o s.out cs).size:=by omega
      refine oNo rfl (opw_store_one (ad:=⟨b,o+y,none⟩) (v:=v) (v0:=(dSetAll o s.out cs)[o+y]) hT.1 (by rw [eTm];exact hs) rfl hT.2 (by rw [cell_of_row _ _ _ _ _ _ hi.row];exact Array.getElem?_eq_getElem hlt) (by simp [World.frozen?,hi.row]) ?_)
      rw [pNo]
      refine ih _ _ ⟨hi.size,hi.defers,hi.slots,?_,?_⟩
      · rw [setCell_eq_setRow _ _ _ _ _ _ _ hi.row,dSetAll_append,hi.world,setRow_setRow]
        rfl
      · rw [setCell_eq_setRow _ _ _ _ _ _ _ hi.row,dSetAll_append]
        exact setRow_heap _ _ _ _ _ _ hi.row
theorem dRun_ok {P:Program} {N n:Nat} {w0:World} {b o:Nat} {cs:Array Value} {T:TypeId} (hn:o+n≤cs.size):∀ (c:SC) (s s':DSt) (a:Act) (w:World) (Q:Exit→Act→World→Prop),dRun P N n s c=some s'→DInv N w0 b o cs T s a w →
    (∀ a w,DInv N w0 b o cs T s' a w→Q .normal a w)→c.wp P Q a w
  | .skip,s,s',a,w,Q,h,hi,hQ=>by
    simp only [dRun,Option.some.injEq] at h
    subst h
    exact SC.wp_skip (hQ a w hi)
  | .reg l,s,s',a,w,Q,h,hi,hQ=>by
    simp only [dRun] at h
    exact SC.wp_reg (dOps_ok hn hQ l s a w h hi)
  | .seq x y,s,s',a,w,Q,h,hi,hQ=>by
    simp only [dRun] at h
    obtain ⟨s1,h1,h2⟩:=Option.bind_eq_some_iff.1 h
    refine SC.wp_seq (dRun_ok hn x s s1 a w _ h1 hi fun a' w' hi'=>?_)
    exact dRun_ok hn y s1 s' a' w' Q h2 hi' hQ
  | .dreg _ _,_,_,_,_,_,h,_,_=>by simp [dRun] at h
  | .cond _ _ _,_,_,_,_,_,h,_,_=>by simp [dRun] at h
  | .block _ _,_,_,_,_,_,h,_,_=>by simp [dRun] at h
  | .loop _,_,_,_,_,_,h,_,_=>by simp [dRun] at h
  | .exit _,_,_,_,_,_,h,_,_=>by simp [dRun] at h
  | .ret,_,_,_,_,_,h,_,_=>by simp [dRun] at h
  | .label _,_,_,_,_,_,h,_,_=>by simp [dRun] at h
  | .goto _,_,_,_,_,_,h,_,_=>by simp [dRun] at h
  | .scope _,_,_,_,_,_,h,_,_=>by simp [dRun] at h
  | .other,_,_,_,_,_,h,_,_=>by simp [dRun] at h
def DefAt (P:Program) (f n:Nat) (out:List (Nat × Value)):Prop :=
  FnOK P f∧∀ (w:World) (b o:Nat) (cs:Array Value) (T:TypeId),w.heap[b]?=some (.cells cs T (0,0))→o+n≤cs.size →
    Calls P f #[.pointer (some ⟨b,o,none⟩)] w fun e w'=>e=.returned (.tuple #[])∧w'=w.setRow b (dSetAll o out cs)
def dOut (P:Program) (N n:Nat) (c:SC):Option (List (Nat × Value)):=(dRun P N n ⟨[(0,0)],[]⟩ c).map (·.out)
theorem defAt_ok {P : Program} {f n N : Nat} {fn : Func} {c : SC} {out : List (Nat × Value)} (hf : P.funcs[f]? = some fn) (hb : fn.body.map strip = some c) (hnm : (fn.name == "runtime.NumGoroutine") = false) (hN : fn.ntmps = N) (h1 : 1 ≤ N) (hr : fn.results = #[])
    (hd:dOut P N n c=some out):DefAt P f n out:=by
  refine ⟨fnOK_of hf hb hnm,fun w b o cs T hc hn=>?_⟩
  obtain ⟨s,hs,rfl⟩:=Option.map_eq_some_iff.1 hd
  refine fCa hf hb hN (by simpa using h1) fun a0 hsz hdf ha=>?_
  have h0:=ha 0 _ rfl
  refine dRun_ok (w0:=w) hn c _ s a0 w _ hs ⟨hsz,hdf,fun t x hx=>?_,?_,hc⟩ fun a w' hi=>?_
  · simp only [DSt.look,List.find?_cons,List.find?_nil] at hx
    by_cases e:0=t
    · subst e
      simp at hx
      subst hx
      simpa using h0
    · have:(0 == t)=false:=by simpa using e
      simp [this] at hx
  · exact (setRow_self _ _ _ _ _ hc).symm
  · refine ⟨hi.defers,.tuple #[],by simp [results,hr],rfl,hi.world⟩
end Go.Proofs.YtgaplicnofhliaaDoor.K
namespace Go.Proofs.YtgaplicnofhliaaDoor.K
open Go Go.RowKit Go.Proofs.YtgaplicnofhliaaDoor.T
set_option linter.unusedVariables false
set_option linter.unusedSimpArgs false
attribute [local simp] eTm eCo pNo gTp gTn qv qcall vop iop
section
variable {X:Fix}
theorem enum_fixed (n:Int):fixed (IntKind.i8.wrap n) 1=fixed n 1:=by
  have:(IntKind.i8.wrap n) % 256=n % 256:=by
    simp only [IntKind.wrap,IntKind.bits,IntKind.signed,Bool.true_and]
    split <;> omega
  simp [fixed,T.byteOf,this]
theorem stable_two {x y lo t:Nat} {v u:Value} (hx:x < lo) (hx1:x ≠ 1) (hy:y < lo∨(X.T0≤y∧y < t)) (hy1:y ≠ 1):∀ a a',Same X a a' lo t→(getT a x=v∧getT a y=u)→(getT a' x=v∧getT a' y=u) :=
  fun _ _ hs h=>⟨(hs x hx1 (.inl hx)).trans h.1,(hs y hy1 hy).trans h.2⟩
theorem getElem?_map_flatten {α:Type} (l:List α) (f:α→Bytes):(l.map f).flatten=l.flatMap f:=by simp [List.flatMap]
theorem AFragP.keep {x:SC} {pre post:Act→Prop} {lo t:Nat} {o:Bytes} (h:AFragP X x pre post lo t o) (hst:∀ a a',Same X a a' lo t→pre a→pre a'):AFragP X x pre (fun a=>pre a∧post a) lo t o :=
  fun a w xs Q hi hp hlen hQ=>h a w xs Q hi hp hlen fun a' w' h1 h2 h3=>hQ a' w' h1 h2 ⟨hst _ _ h2 hp,h3⟩
theorem seqs_cons {x:SC} {l:List SC} (hl:l ≠ []):seqs (x :: l)=.seq x (seqs l):=by
  cases l with
  | nil=>exact absurd rfl hl
  | cons y r=>rfl
theorem aElem_ne (I:Ids) (c:Ctx) (T E s i v t b:Nat) (ty:Ty):aElem I c T E s i v t b ty ≠ []:=by
  cases ty <;> simp [aElem]
  split <;> simp
def TagsAt (G:List (Nat × Bytes)→Prop) (w:World) (F:Nat→Prop) (flex:Bool) (b o:Nat) (tags:Option (Nat × Nat)) (u:List (Nat × Bytes)):Prop :=
  match tags with | none=>u=[] | some (_,off)=>flex=true→HTags G w F b (o+off) u
theorem aTagsL_ok {S p t b o lo:Nat} {tags:Option (Nat × Nat)} {u:List (Nat × Bytes)} (hX:X.ok) (hlo:lo≤X.T0) (hlv:X.c.ver < lo) (hlf:X.c.flex < lo) (hp:p < lo) (hp1:p ≠ 1) (ht:X.T0≤t) (htN:t+tagsT tags≤X.N) (hb:b < X.B)
    (hok:okTags X.P X.I X.c S tags=true) (hu:TagsAt X.G X.w0 (· < X.B) X.flex b o tags u) :
    AList X (fun a=>getT a p=.pointer (some ⟨b,o,none⟩)) lo t (aTagsL X.I X.c S p tags t) (wTags X.flex u):=by
  cases tags with
  | none =>
    have hf:=hX.never hok
    have e:wTags X.flex u=[]:=by simp [wTags,hf]
    rw [e]
    exact .nil
  | some x =>
    obtain ⟨f,off⟩:=x
    simp only [tagsT,Option.isSome_some,if_true,aTagsT] at htN
    have h:=aTags_ok (X:=X) (S:=S) (p:=p) (f:=f) (off:=off) (t:=t) (b:=b) (o:=o) (lo:=lo) (u:=u) hX hlo hlv hlf hp hp1 ht (by omega) hb hok hu
    have:=AList.cons h (AList.nil (X:=X) (pre:=fun a=>getT a p=.pointer (some ⟨b,o,none⟩)) (lo:=lo) (t:=t))
    simpa [aTagsL] using this
mutual
theorem aVal_ok (hX:X.ok):∀ (ty:Ty) (S p:Nat) (h:Hd) (v t bk b o:Nat) (tr:Tree),okVal X.P X.I X.c X.tU8 h ty=true→fieldB X.P S h.idx h.off=true→(h.null < 0∨h.null≤X.ver) →
    HTy X.G X.w0 (· < X.B) X.ver X.flex ty (decide (0≤h.null)) b (o+h.off) tr→b < X.B→p < v→p ≠ 1→X.c.ver < v→X.c.flex < v→2≤v→v+nV ty+(if h.enum then 1 else 0)≤X.T0→X.T0≤t→t+aVT X.c h ty≤X.N →
    AFrag X (aVal X.I X.c S p h v t bk ty) (fun a=>getT a p=.pointer (some ⟨b,o,none⟩)) v t (wField X.ver X.flex h ty tr)
  | .prim k,S,p,h,v,t,bk,b,o,tr,hok,hS,hnull,hH,hb,hp,hp1,hlv,hlf,hv2,hvT,ht,htN=>by
    have hnul:h.isNull X.ver tr=(decide (0≤h.null) && tr.null):=by
      rcases hnull with e | e
      · simp [Hd.isNull,show ¬ (0≤h.null) by omega]
      · simp [Hd.isNull,e,Bool.and_comm]
    have hwf:wField X.ver X.flex h (.prim k) tr=wPrim X.flex (decide (0≤h.null) && tr.null) tr k:=by simp only [wField,wTy,hnul]
    rw [hwf]
    simp only [nV] at hvT
    simp only [aVT] at htN
    simp only [HTy,HPrim] at hH
    unfold okVal at hok
    by_cases hk:k=.uuid
    · subst hk
      rw [if_pos rfl] at hok hH
      simp only [Bool.and_eq_true,decide_eq_true_eq,Bool.not_eq_true',bne_iff_ne,ne_eq] at hok
      obtain ⟨⟨⟨hn,he⟩,hT⟩,hU⟩:=hok
      simp only [aAppT,PK.parted,Bool.false_eq_true,if_false] at htN
      have:=aUuid_ok (X:=X) (S:=S) (p:=p) (v:=v) (t:=t) (b:=b) (o:=o) (lo:=v) (h:=h) (tr:=tr) hX (Nat.le_refl _) hlv hlf (by omega) (by omega) ht (by omega) hS hT hU hb hH
      have e2:wPrim X.flex (decide (0≤h.null) && tr.null) tr .uuid=uuidOf tr:=by simp [wPrim,uuidOf]
      rw [e2]
      simpa only [aVal,if_true] using this
    · rw [if_neg hk] at hok hH
      obtain ⟨u,hc,hpv⟩:=hH
      simp only [Bool.and_eq_true,Bool.or_eq_true,Bool.not_eq_true',decide_eq_true_eq] at hok
      obtain ⟨⟨hT,hen⟩,happ⟩:=hok
      have hload:=aLoad_ok (X:=X) (S:=S) (p:=p) (f:=h.idx) (T:=h.typ) (v:=v) (t:=t) (off:=h.off) (b:=b) (o:=o) (u:=u) (lo:=v) hX (Nat.le_refl _) hlv hlf (by omega) (by omega) ht (by omega) hS hT hb hc
      unfold aVal
      rw [if_neg hk]
      by_cases he:h.enum=true
      · rw [if_pos he] at hvT htN ⊢
        rcases hen with hen | hk8
        · rw [hen] at he;cases he
        · subst hk8
          obtain rfl:=hpv
          have hap:=aApp_ok (X:=X) (nul:=decide (0≤h.null)) (k:=.i8) (x:=v+1) (t:=t+5) (lo:=v+2) (tr:=tr) (v:=.int .i8 tr.n) hX happ rfl (by omega) (by omega) (by omega) (by omega) (by omega) (by omega) (by simp only [aAppT,PK.parted,Bool.false_eq_true,if_false] at htN ⊢;omega)
          have hmid:AFragP X (.reg [mv (t+4) v,asg (v+1) (t+4)]) (fun a=>getT a v=.int .i8 tr.n) (fun a=>getT a (v+1)=.int .i8 tr.n) (v+1) (t+4) []:=by
            refine AFragP.quiet hX (by omega) (by omega) ?_
            intro a w xs K hi hpre hK
            have hsz:=hi.size
            refine ops_mv (ops_asg (oNi ?_))
            refine hK _ (by simp [sPu]) (by simp [dPu]) ?_ ?_ ?_
            · intro s hs1 hs2
              simp (disch:=omega) [gTn]
            · simp (disch:=omega) [gTn]
            · simp (disch:=(try simp only [sPu]);omega) [gTp,hpre]
          have h2:=hmid.seq hap (fun a a' _ _ hq=>hq) (by omega) (by omega)
          have h3:=hload.seq h2 (fun a a' _ _ hq=>hq) (by omega) (by omega)
          exact h3
      · rw [if_neg he] at hvT htN ⊢
        have hap:=aApp_ok (X:=X) (nul:=decide (0≤h.null)) (k:=k) (x:=v) (t:=t+4) (lo:=v+1) (tr:=tr) (v:=u) hX happ hpv (by omega) (by omega) (by omega) (by omega) (by omega) (by omega) (by omega)
        exact hload.seq hap (fun a a' _ _ hq=>hq) (by omega) (by omega)
  | .list T E size of,S,p,h,v,t,bk,b,o,tr,hok,hS,hnull,hH,hb,hp,hp1,hlv,hlf,hv2,hvT,ht,htN=>by
    have hnul:h.isNull X.ver tr=(decide (0≤h.null) && tr.null):=by
      rcases hnull with e | e
      · simp [Hd.isNull,show ¬ (0≤h.null) by omega]
      · simp [Hd.isNull,e,Bool.and_comm]
    have hwf:wField X.ver X.flex h (.list T E size of) tr=wTy X.ver X.flex (.list T E size of) (decide (0≤h.null) && tr.null) tr:=by simp only [wField,hnul]
    rw [hwf]
    simp only [nV] at hvT
    simp only [aVT] at htN
    unfold okVal at hok
    simp only [Bool.and_eq_true,Bool.not_eq_true',beq_iff_eq] at hok
    obtain ⟨⟨⟨⟨⟨he,hTT⟩,hT1⟩,hsl⟩,hlen⟩,hel⟩:=hok
    rw [if_neg (by simp [he])] at hvT
    simp only [HTy] at hH
    obtain ⟨base,cap,hc,hH⟩:=hH
    have hload:=aLoad_ok (X:=X) (S:=S) (p:=p) (f:=h.idx) (T:=h.typ) (v:=v) (t:=t) (off:=h.off) (b:=b) (o:=o) (lo:=v) hX (Nat.le_refl _) hlv hlf (by omega) (by omega) ht (by omega) hS (by rw [hTT];exact hT1) hb hc
    unfold aVal
    generalize hnl:(decide (0≤h.null) && tr.null)=nl at hc hH hload ⊢
    have hisn:(decide (0≤h.null) && base.isNone)=nl∧(if nl=true then 0 else tr.l.length)≤most:=by
      cases nl with
      | true =>
        simp only [if_true] at hH ⊢
        simp only [Bool.and_eq_true] at hnl
        exact ⟨by simp [hH];simpa using hnl.1,Nat.zero_le _⟩
      | false =>
        simp only [Bool.false_eq_true,if_false] at hH ⊢
        refine ⟨?_,hH.1⟩
        by_cases hz:decide (0≤h.null)=true
        · have:=hH.2.1 hz
          cases base <;> simp_all
        · simp only [Bool.not_eq_true] at hz
          rw [hz];rfl
    have hlenOk:=aLen_ok (X:=X) (nul:=decide (0≤h.null)) (T:=T) (E:=E) (n:=size) (v:=v) (t:=t+4) (lo:=v+1) (cnt:=if nl=true then 0 else tr.l.length) (cap:=cap) (base:=base) hX (by omega) (by omega) (by omega) (by omega) (by omega) (by omega) (by omega) hsl hlen hisn.2
    rw [hisn.1] at hlenOk
    have hlen2:AFragP X (aLen X.I X.c (decide (0≤h.null)) T v (t+4)) (fun a=>getT a v=.slice base (if nl=true then 0 else tr.l.length) cap) (fun a=>getT a v=.slice base (if nl=true then 0 else tr.l.length) cap) v (t+4) (counted X.flex nl (if nl=true then 0 else tr.l.length) 4) :=
      (hlenOk.keep (stable_slot (by omega) (by omega))).mono (fun _ h=>h) (fun _ h=>h.1) (by omega) (Nat.le_refl _)
    have hloop:AFrag X (aLoop T v (t+4+aLenT X.c (decide (0≤h.null))) bk (aET X.c of) (aElem X.I X.c T E v (v+1) (v+2) (t+4+aLenT X.c (decide (0≤h.null))+5) (bk+2) of) X.I.tInt)
        (fun a=>getT a v=.slice base (if nl=true then 0 else tr.l.length) cap) v (t+4+aLenT X.c (decide (0≤h.null))) ((if nl=true then [] else tr.l).flatMap (fun x=>wTy X.ver X.flex of false x)):=by
      have hnV:1≤nV of:=by cases of <;> simp [nV] <;> omega
      rw [← getElem?_map_flatten]
      have hcnt:(if nl=true then 0 else tr.l.length)=((if nl=true then [] else tr.l).map (fun x=>wTy X.ver X.flex of false x)).length:=by split <;> simp
      rw [hcnt]
      refine aLoop_ok (X:=X) (lo:=v) hX (Nat.le_refl _) (by omega) (by omega) hlv hlf (by omega) (by omega) hsl (by rw [← hcnt];exact hisn.2) ?_
      intro i out hout
      rw [← hcnt]
      simp only [List.getElem?_map,Option.map_eq_some_iff] at hout
      obtain ⟨x,hx,rfl⟩:=hout
      cases nl with
      | true=>simp at hx
      | false =>
        simp only [Bool.false_eq_true,if_false] at hx hH ⊢
        obtain ⟨-,-,hH⟩:=hH
        have hlt:i < tr.l.length:=(List.getElem?_eq_some_iff.1 hx).1
        rcases hH with ⟨rfl,hnil⟩ | ⟨b',o',rfl,hF,hels⟩
        · rw [hnil] at hlt
          exact absurd hlt (Nat.not_lt_zero _)
        · have hE:=aElem_ok hX of T E size v (v+1) (v+2) (t+4+aLenT X.c (decide (0≤h.null))+5) (bk+2) b' o' cap tr.l.length i x hel hsl (hels i x hx) hF hlt (by omega) (by omega) (by omega) (by omega) (by omega) (by omega) (by omega) (by omega) (by omega) (by omega)
          rw [seqs_cons (aElem_ne _ _ _ _ _ _ _ _ _ _)]
          have hreg:AFragP X (.reg [mv (t+4+aLenT X.c (decide (0≤h.null))+4) (t+4+aLenT X.c (decide (0≤h.null))+2),asg (v+1) (t+4+aLenT X.c (decide (0≤h.null))+4)])
              (fun a=>getT a v=.slice (some ⟨b',o',none⟩) tr.l.length cap∧getT a (t+4+aLenT X.c (decide (0≤h.null))+2)=.int .i64 (i:Int))
              (fun a=>getT a v=.slice (some ⟨b',o',none⟩) tr.l.length cap∧getT a (v+1)=.int .i64 (i:Int)) (v+1) (t+4+aLenT X.c (decide (0≤h.null))+4) []:=by
            refine AFragP.quiet hX (by omega) (by omega) ?_
            intro a w xs K hi hpre hK
            have hsz:=hi.size
            refine ops_mv (ops_asg (oNi ?_))
            refine hK _ (by simp [sPu]) (by simp [dPu]) ?_ ?_ ⟨?_,?_⟩
            · intro s hs1 hs2
              simp (disch:=omega) [gTn]
            · simp (disch:=omega) [gTn]
            · simp (disch:=omega) [gTn]
              exact hpre.1
            · simp (disch:=(try simp only [sPu]);omega) [gTp]
              exact hpre.2
          exact hreg.seq hE (fun a a' _ _ hq=>hq) (by omega) (by omega)
    have hout:wTy X.ver X.flex (.list T E size of) nl tr=counted X.flex nl (if nl=true then 0 else tr.l.length) 4 ++ (if nl=true then [] else tr.l).flatMap (fun x=>wTy X.ver X.flex of false x):=by
      simp only [wTy]
      cases nl with
      | true=>simp
      | false =>
        simp only [Bool.false_eq_true,if_false] at hH ⊢
        rw [List.take_of_length_le hH.1]
    rw [hout]
    have h2:=hlen2.seq hloop (fun a a' _ _ hq=>hq) (Nat.le_refl _) (by omega)
    exact hload.seq h2 (fun a a' _ _ hq=>hq) (Nat.le_refl _) (by omega)
  | .struct S' sz df tags fs,S,p,h,v,t,bk,b,o,tr,hok,hS,hnull,hH,hb,hp,hp1,hlv,hlf,hv2,hvT,ht,htN=>by
    have hnul:h.isNull X.ver tr=(decide (0≤h.null) && tr.null):=by
      rcases hnull with e | e
      · simp [Hd.isNull,show ¬ (0≤h.null) by omega]
      · simp [Hd.isNull,e,Bool.and_comm]
    simp only [nV] at hvT
    simp only [aVT] at htN
    unfold okVal at hok
    simp only [Bool.and_eq_true,Bool.not_eq_true',Bool.or_eq_true,decide_eq_true_eq] at hok
    obtain ⟨⟨⟨he,hn⟩,htag⟩,hfs⟩:=hok
    rw [if_neg (by simp [he])] at hvT
    unfold aVal
    simp only [HTy] at hH
    by_cases hz:0≤h.null
    · rw [if_pos hz] at htN ⊢
      rw [if_pos (by simpa using hz)] at hH
      rcases hn with hn | ⟨⟨hT1,hpt⟩,hu8⟩
      · omega
      have hwf:wField X.ver X.flex h (.struct S' sz df tags fs) tr=if tr.null then [255] else [1] ++ (wFs X.ver X.flex fs tr.l ++ wTags X.flex tr.u):=by
        have hd:h.isNull X.ver tr=tr.null:=by rw [hnul];simp [hz]
        simp only [wField,hz,if_true,hd,wTy,List.cons_append,List.nil_append]
      rw [hwf]
      by_cases hnl:tr.null=true
      · rw [if_pos hnl] at hH ⊢
        have hload:=aLoad_ok (X:=X) (S:=S) (p:=p) (f:=h.idx) (T:=h.typ) (v:=v) (t:=t) (off:=h.off) (b:=b) (o:=o) (lo:=v) hX (Nat.le_refl _) hlv hlf (by omega) (by omega) ht (by omega) hS hT1 hb hH
        have hby:=aByte_ok (X:=X) (n:=255) (t:=t+6) (lo:=v) (u:=255) hX rfl (by omega) hlv hlf (by omega) (by omega) hu8
        have hrest:AFrag X (.seq (.reg [mv (t+4) v,bin .eql (t+5) h.typ (t+4) (.const (.pointer none))])
            (.cond (.tmp (t+5)) (aByte X.I 255 (t+6)) (seqs (aByte X.I 1 (t+9) :: (aFs X.I X.c S' v (v+1) (t+12) bk fs ++ aTagsL X.I X.c S' v tags (t+12+aFT X.c fs))))))
            (fun a=>getT a v=.pointer none) v (t+4) [255]:=by
          intro a w xs Q hi hp hlen hQ
          have hsz:=hi.size
          have h1:=hX.oneT
          refine SC.wp_seq (SC.wp_reg (ops_mv (oNo rfl (opw_eqlnil_ptr hpt (q:=none) (by rw [eTm,gTp (by omega)];exact hp) (oNi ?_)))))
          refine SC.wp_cond (t:=true) (by simp (disch:=(try simp only [sPu]);omega) [eTm,gTp]) ?_
          rw [if_pos rfl]
          have hS2:Same X a ((a.put (some (t+4)) (getT a v)).put (some (t+5)) (.bool (Option.isNone (none:Option Addr)))) v (t+4):=by
            intro s hs1 hs2
            simp (disch:=omega) [gTn]
          refine hby _ w xs _ ?_ trivial hlen fun a' w' h1 h2 h3=>hQ a' w' h1 (hS2.trans h2 (Nat.le_refl _) (by omega)) h3
          refine hi.step hX (by simp [sPu]) (by simp [dPu]) hS2 hlv hlf ?_ (Below.refl _ _) hi.heap
          simp (disch:=omega) [gTn]
          exact hi.own
        exact hload.seq hrest (fun a a' _ _ hq=>hq) (Nat.le_refl _) (by omega)
      · rw [if_neg hnl] at hH ⊢
        obtain ⟨b',o',hc,hF,hHf,hHt⟩:=hH
        have hload:=aLoad_ok (X:=X) (S:=S) (p:=p) (f:=h.idx) (T:=h.typ) (v:=v) (t:=t) (off:=h.off) (b:=b) (o:=o) (lo:=v) hX (Nat.le_refl _) hlv hlf (by omega) (by omega) ht (by omega) hS hT1 hb hc
        have hby:=(aByte_ok (X:=X) (n:=1) (t:=t+9) (lo:=v+1) (u:=1) hX rfl (by omega) (by omega) (by omega) (by omega) (by omega) hu8).mono (pre':=fun a=>getT a v=.pointer (some ⟨b',o',none⟩)) (fun _ _=>trivial) (fun _ h=>h) (Nat.le_refl _) (Nat.le_refl _)
        have hA:=aFs_ok hX fs S' v (v+1) (t+12) bk b' o' tr.l hfs hHf hF (by omega) (by omega) (by omega) (by omega) (by omega) (by omega) (by omega) (by omega)
        have hTg:=aTagsL_ok (X:=X) (S:=S') (p:=v) (t:=t+12+aFT X.c fs) (b:=b') (o:=o') (lo:=v+1) (u:=tr.u) hX (by omega) (by omega) (by omega) (by omega) (by omega) (by omega) (by omega) hF htag hHt
        have hL:=((AList.cons hby ((hA.append (hTg.mono (Nat.le_refl _) (by omega))).mono (Nat.le_refl _) (by omega))).frag (stable_slot (by omega) (by omega)))
        have hrest:AFrag X (.seq (.reg [mv (t+4) v,bin .eql (t+5) h.typ (t+4) (.const (.pointer none))])
            (.cond (.tmp (t+5)) (aByte X.I 255 (t+6)) (seqs (aByte X.I 1 (t+9) :: (aFs X.I X.c S' v (v+1) (t+12) bk fs ++ aTagsL X.I X.c S' v tags (t+12+aFT X.c fs))))))
            (fun a=>getT a v=.pointer (some ⟨b',o',none⟩)) v (t+4) ([1] ++ (wFs X.ver X.flex fs tr.l ++ wTags X.flex tr.u)):=by
          intro a w xs Q hi hp hlen hQ
          have hsz:=hi.size
          have h1:=hX.oneT
          refine SC.wp_seq (SC.wp_reg (ops_mv (oNo rfl (opw_eqlnil_ptr hpt (q:=some ⟨b',o',none⟩) (by rw [eTm,gTp (by omega)];exact hp) (oNi ?_)))))
          refine SC.wp_cond (t:=false) (by simp (disch:=(try simp only [sPu]);omega) [eTm,gTp]) ?_
          rw [if_neg (by simp)]
          have hS2:Same X a ((a.put (some (t+4)) (getT a v)).put (some (t+5)) (.bool (Option.isNone (some (⟨b',o',none⟩:Addr))))) (v+1) (t+4):=by
            intro s hs1 hs2
            simp (disch:=omega) [gTn]
          refine hL _ w xs _ ?_ ((hS2 v (by omega) (by omega)).trans hp) hlen fun a' w' h1 h2 h3=>hQ a' w' h1 ((hS2.trans h2 (Nat.le_refl _) (by omega)).mono (by omega) (Nat.le_refl _)) h3
          refine hi.step hX (by simp [sPu]) (by simp [dPu]) hS2 (by omega) (by omega) ?_ (Below.refl _ _) hi.heap
          simp (disch:=omega) [gTn]
          exact hi.own
        exact hload.seq hrest (fun a a' _ _ hq=>hq) (Nat.le_refl _) (by omega)
    · rw [if_neg hz] at htN ⊢
      rw [if_neg (by simpa using hz)] at hH
      obtain ⟨hHf,hHt⟩:=hH
      have hwf:wField X.ver X.flex h (.struct S' sz df tags fs) tr=[] ++ (wFs X.ver X.flex fs tr.l ++ wTags X.flex tr.u):=by
        simp only [wField,hz,if_false,wTy,List.nil_append]
      rw [hwf]
      have hA:=aFs_ok hX fs S' v (v+1) (t+3) bk b (o+h.off) tr.l hfs hHf hb (by omega) (by omega) (by omega) (by omega) (by omega) (by omega) (by omega) (by omega)
      have hTg:=aTagsL_ok (X:=X) (S:=S') (p:=v) (t:=t+3+aFT X.c fs) (b:=b) (o:=o+h.off) (lo:=v+1) (u:=tr.u) hX (by omega) (by omega) (by omega) (by omega) (by omega) (by omega) (by omega) hb htag hHt
      have hreg:AFragP X (.reg [mv t p,nilc (t+1) t,fa (t+2) S (t+1) h.idx,asg v (t+2)]) (fun a=>getT a p=.pointer (some ⟨b,o,none⟩)) (fun a=>getT a v=.pointer (some ⟨b,o+h.off,none⟩)) v t []:=by
        refine AFragP.quiet hX hlv hlf ?_
        intro a w xs K hi hpre hK
        have hsz:=hi.size
        refine ops_mv (ops_nilc (ad:=⟨b,o,none⟩) (by rw [gTp (by omega)];exact hpre) (ops_fa hS (b:=b) (o:=o) (by rw [gTp (by simp only [sPu];omega)]) (ops_asg (oNi ?_))))
        refine hK _ (by simp [sPu]) (by simp [dPu]) ?_ ?_ ?_
        · intro s hs1 hs2
          simp (disch:=omega) [gTn]
        · simp (disch:=omega) [gTn]
        · simp (disch:=(try simp only [sPu]);omega) [gTp]
      exact AList.behind hreg (hA.append (hTg.mono (Nat.le_refl _) (by omega))) (stable_slot (by omega) (by omega)) (fun a a' _ _ hq=>hq) (by omega) (by omega)
theorem aElem_ok (hX:X.ok):∀ (ty:Ty) (T E size s i v t bk b o cap cnt idx:Nat) (tr:Tree),okElem X.P X.I X.c X.tU8 E size ty=true→sliceB X.P T E size=true →
    HTy X.G X.w0 (· < X.B) X.ver X.flex ty false b (o+idx * size) tr→b < X.B→idx < cnt→s < v→i < v→s ≠ 1→i ≠ 1→X.c.ver < v→X.c.flex < v→2≤v→v+nV ty≤X.T0→X.T0≤t→t+aET X.c ty≤X.N →
    AFrag X (seqs (aElem X.I X.c T E s i v t bk ty)) (fun a=>getT a s=.slice (some ⟨b,o,none⟩) cnt cap∧getT a i=.int .i64 (idx:Int)) v t (wTy X.ver X.flex ty false tr)
  | .prim k,T,E,size,s,i,v,t,bk,b,o,cap,cnt,idx,tr,hok,hsl,hH,hb,hidx,hsv,hiv,hs1,hi1,hlv,hlf,hv2,hvT,ht,htN=>by
    unfold okElem at hok
    by_cases hk:k=.uuid
    · subst hk
      rw [if_pos rfl] at hok
      simp only [Bool.and_eq_true,bne_iff_ne,ne_eq,beq_iff_eq] at hok
      obtain ⟨⟨hsz1,hT1⟩,hU⟩:=hok
      subst hsz1
      simp only [HTy,HPrim,if_true] at hH
      simp only [nV] at hvT
      simp only [aET,aAppT,PK.parted,Bool.false_eq_true,if_false] at htN
      exact aUuidE_ok (X:=X) hX (Nat.le_refl _) hlv hlf (by omega) (by omega) ht (by omega) hsl hidx hsv hiv hT1 hU hb hH
    rw [if_neg hk] at hok
    simp only [Bool.and_eq_true,bne_iff_ne,ne_eq,beq_iff_eq] at hok
    obtain ⟨⟨hsz1,hT1⟩,happ⟩:=hok
    subst hsz1
    simp only [HTy,HPrim,if_neg hk] at hH
    obtain ⟨u,hc,hpv⟩:=hH
    simp only [nV] at hvT
    simp only [aET] at htN
    simp only [aElem,if_neg hk,seqs,wTy]
    have hreg:AFragP X (.reg [mv t s,mv (t+1) i,⟨some (t+2),.indexAddr T (.tmp t) (.tmp (t+1)),none⟩,ld (t+3) E (t+2),asg v (t+3)]) (fun a=>getT a s=.slice (some ⟨b,o,none⟩) cnt cap∧getT a i=.int .i64 (idx:Int)) (fun a=>getT a v=u) v t []:=by
      refine AFragP.quiet hX hlv hlf ?_
      intro a w xs K hi hpre hK
      have hsz:=hi.size
      refine ops_mv (ops_mv (oNo rfl (opw_index hsl (b:=b) (o:=o) (len:=cnt) (cap:=cap) (j:=idx) (k:=.i64) ?_ ?_ hidx (ops_ld hT1 (ad:=⟨b,o+idx * 1,none⟩) (v:=u) ?_ ?_ (ops_asg (oNi ?_))))))
      · simp (disch:=(try simp only [sPu]);omega) [eTm,gTp,gTn]
        exact hpre.1
      · simp (disch:=(try simp only [sPu]);omega) [eTm,gTp,gTn]
        exact hpre.2
      · rw [gTp (by simp only [sPu];omega)]
      · rw [hi.below.cell hb]
        exact hc
      refine hK _ (by simp [sPu]) (by simp [dPu]) ?_ ?_ ?_
      · intro q hq1 hq2
        simp (disch:=omega) [gTn]
      · simp (disch:=omega) [gTn]
      · simp (disch:=(try simp only [sPu]);omega) [gTp]
    have hap:=aApp_ok (X:=X) (nul:=false) (k:=k) (x:=v) (t:=t+4) (lo:=v+1) (tr:=tr) (v:=u) hX happ hpv (by omega) (by omega) (by omega) (by omega) (by omega) (by omega) (by omega)
    exact hreg.seq hap (fun a a' _ _ hq=>hq) (by omega) (by omega)
  | .list _ _ _ _,T,E,size,s,i,v,t,bk,b,o,cap,cnt,idx,tr,hok,hsl,hH,hb,hidx,hsv,hiv,hs1,hi1,hlv,hlf,hv2,hvT,ht,htN=>by
    simp [okElem] at hok
  | .struct S sz df tags fs,T,E,size,s,i,v,t,bk,b,o,cap,cnt,idx,tr,hok,hsl,hH,hb,hidx,hsv,hiv,hs1,hi1,hlv,hlf,hv2,hvT,ht,htN=>by
    unfold okElem at hok
    simp only [Bool.and_eq_true,beq_iff_eq] at hok
    obtain ⟨⟨⟨hSE,hsz1⟩,htag⟩,hfs⟩:=hok
    simp only [HTy,Bool.false_eq_true,if_false] at hH
    obtain ⟨hHf,hHt⟩:=hH
    simp only [nV] at hvT
    simp only [aET] at htN
    simp only [aElem,wTy]
    have hreg:AFragP X (.reg [mv t s,mv (t+1) i,⟨some (t+2),.indexAddr T (.tmp t) (.tmp (t+1)),none⟩,asg v (t+2)]) (fun a=>getT a s=.slice (some ⟨b,o,none⟩) cnt cap∧getT a i=.int .i64 (idx:Int)) (fun a=>getT a v=.pointer (some ⟨b,o+idx * size,none⟩)) v t []:=by
      refine AFragP.quiet hX hlv hlf ?_
      intro a w xs K hi hpre hK
      have hsz:=hi.size
      refine ops_mv (ops_mv (oNo rfl (opw_index hsl (b:=b) (o:=o) (len:=cnt) (cap:=cap) (j:=idx) (k:=.i64) ?_ ?_ hidx (ops_asg (oNi ?_)))))
      · simp (disch:=(try simp only [sPu]);omega) [eTm,gTp,gTn]
        exact hpre.1
      · simp (disch:=(try simp only [sPu]);omega) [eTm,gTp,gTn]
        exact hpre.2
      refine hK _ (by simp [sPu]) (by simp [dPu]) ?_ ?_ ?_
      · intro q hq1 hq2
        simp (disch:=omega) [gTn]
      · simp (disch:=omega) [gTn]
      · simp (disch:=(try simp only [sPu]);omega) [gTp]
    have hA:=aFs_ok hX fs S v (v+1) (t+3) bk b (o+idx * size) tr.l hfs hHf hb (by omega) (by omega) (by omega) (by omega) (by omega) (by omega) (by omega) (by omega)
    have hTg:=aTagsL_ok (X:=X) (S:=S) (p:=v) (t:=t+3+aFT X.c fs) (b:=b) (o:=o+idx * size) (lo:=v+1) (u:=tr.u) hX (by omega) (by omega) (by omega) (by omega) (by omega) (by omega) (by omega) hb htag hHt
    have:=AList.behind hreg (hA.append (hTg.mono (Nat.le_refl _) (by omega))) (stable_slot (by omega) (by omega)) (fun a a' _ _ hq=>hq) (by omega) (by omega)
    simpa using this
theorem aFs_ok (hX:X.ok):∀ (fs:Fs) (S p v t bk b o:Nat) (ts:List Tree),okFs X.P X.I X.c X.tU8 S fs=true→HFs X.G X.w0 (· < X.B) X.ver X.flex fs b o ts→b < X.B→p < v→p ≠ 1→X.c.ver < v→X.c.flex < v→2≤v →
    v+nVs fs≤X.T0→X.T0≤t→t+aFT X.c fs≤X.N→AList X (fun a=>getT a p=.pointer (some ⟨b,o,none⟩)) v t (aFs X.I X.c S p v t bk fs) (wFs X.ver X.flex fs ts)
  | .nil,S,p,v,t,bk,b,o,ts,hok,hH,hb,hp,hp1,hlv,hlf,hv2,hvT,ht,htN=>by
    simp only [aFs,wFs]
    exact .nil
  | .cons h ty r,S,p,v,t,bk,b,o,ts,hok,hH,hb,hp,hp1,hlv,hlf,hv2,hvT,ht,htN=>by
    unfold okFs at hok
    simp only [Bool.and_eq_true,Bool.or_eq_true,decide_eq_true_eq] at hok
    obtain ⟨⟨⟨hS,hnull⟩,hval⟩,hrest⟩:=hok
    simp only [HFs] at hH
    simp only [nVs] at hvT
    simp only [aFT] at htN
    rw [wFs_cons]
    unfold aFs
    refine .cons ?_ ?_
    · refine vCond_ok hX (by omega) hlv hlf ht (by omega) (stable_slot hp hp1) (fun hh=>?_)
      have hfrom:h.from_≤X.ver:=by
        simp only [Hd.has,Bool.and_eq_true,decide_eq_true_eq] at hh
        exact hh.1
      exact (aVal_ok hX ty S p h v (t+vTmps h) bk b o (ts.headD Tree.zero) hval hS (hnull.imp id fun e=>Int.le_trans e hfrom) (hH.1 hh) hb hp hp1 hlv hlf hv2 (by omega) (by omega) (by omega)).mono (fun _ h=>h) (fun _ h=>h) (Nat.le_refl _) (Nat.le_refl _)
    · exact (aFs_ok hX r S p (v+nV ty+(if h.enum then 1 else 0)) (t+vTmps h+aVT X.c h ty) (bk+nB ty) b o ts.tail hrest hH.2 hb (by omega) hp1 (by omega) (by omega) (by omega) (by omega) (by omega) (by omega)).mono (by omega) (by omega)
end
end
end Go.Proofs.YtgaplicnofhliaaDoor.K
namespace Go.Proofs.YtgaplicnofhliaaDoor.K
open Go Go.RowKit Go.Proofs.YtgaplicnofhliaaDoor.T
set_option linter.unusedVariables false
set_option linter.unusedSimpArgs false
attribute [local simp] eTm eCo pNo gTp gTn qv qcall vop iop
section
variable {X:Fix}
theorem AList.wp_append {pre:Act→Prop} {lo t:Nat} {l rest:List SC} {o:Bytes} {Q:Exit→Act→World→Prop} (hne:rest ≠ []) (h:AList X pre lo t l o) (hst:∀ a a',Same X a a' lo t→pre a→pre a') :
    ∀ (a:Act) (w:World) (xs:Bytes),AInv X a w xs→pre a→xs.length+o.length≤lim→(∀ a' w',AInv X a' w' (xs ++ o)→Same X a a' lo t→(seqs rest).wp X.P Q a' w')→(seqs (l ++ rest)).wp X.P Q a w:=by
  induction h with
  | nil =>
    intro a w xs hi hp hlen hQ
    exact hQ a w (by simpa using hi) (Same.refl _ _ _ _)
  | cons h1 _ ih =>
    intro a w xs hi hp hlen hQ
    rw [List.cons_append,seqs_cons (by simp [hne])]
    rw [List.length_append] at hlen
    refine SC.wp_seq (h1 a w xs _ hi hp (by omega) ?_)
    intro a' w' hi' hs' _
    refine ih a' w' _ hi' (hst _ _ hs' hp) (by rw [List.length_append];omega) ?_
    intro a2 w2 hi2 hs2
    exact hQ a2 w2 (by rw [← List.append_assoc];exact hi2) (hs'.trans hs2 (Nat.le_refl _) (Nat.le_refl _))
theorem top_mid {S b o:Nat} {tags:Option (Nat × Nat)} {fs:Fs} {v t:Nat} {ts:List Tree} {u:List (Nat × Bytes)} {Q:Exit→Act→World→Prop} {a:Act} {w:World} (hX:X.ok) (hvT:v+nVs fs≤X.T0) (ht:X.T0≤t) (htN:t+aFT X.c fs+tagsT tags+1≤X.N)
    (hlv:X.c.ver < v) (hlf:X.c.flex < v) (hv:5 < v) (hb:b < X.B) (htags:okTags X.P X.I X.c S tags=true) (hfs:okFs X.P X.I X.c X.tU8 S fs=true)
    (hH:HFs X.G X.w0 (· < X.B) X.ver X.flex fs b o ts) (hT:TagsAt X.G X.w0 (· < X.B) X.flex b o tags u) (hi:AInv X a w []) (hp:getT a 0=.pointer (some ⟨b,o,none⟩))
    (hlim:(wFs X.ver X.flex fs ts ++ wTags X.flex u).length≤lim)
    (hQ:∀ a' w' dv,a'.defers=[]→getT a' 4=dv→Own X.tU8 w' X.B dv (wFs X.ver X.flex fs ts ++ wTags X.flex u)→Below X.B X.w0 w'→Q .ret a' w') :
    (seqs ((aFs X.I X.c S 0 v t 0 fs ++ aTagsL X.I X.c S 0 tags (t+aFT X.c fs)) ++ [.reg [mv (t+aFT X.c fs+tagsT tags) 1,asg 4 (t+aFT X.c fs+tagsT tags)],.ret])).wp X.P Q a w:=by
  have h1:=hX.oneT
  have hA:=aFs_ok hX fs S 0 v t 0 b o ts hfs hH hb (by omega) (by omega) hlv hlf (by omega) hvT ht (by omega)
  have hTg:=aTagsL_ok (X:=X) (S:=S) (p:=0) (t:=t+aFT X.c fs) (b:=b) (o:=o) (lo:=v) (u:=u) hX (by omega) hlv hlf (by omega) (by omega) (by omega) (by omega) hb htags hT
  refine (hA.append (hTg.mono (Nat.le_refl _) (by omega))).wp_append (by simp) (stable_slot (by omega) (by omega)) a w [] hi hp (by simpa using hlim) ?_
  intro a' w' hi' _
  have hsz:=hi'.size
  rw [List.nil_append] at hi'
  refine SC.wp_seq (SC.wp_reg (ops_mv (ops_asg (oNi ?_))))
  refine SC.wp_ret (hQ _ _ (getT a' 1) (by simp [dPu,hi'.defers]) ?_ hi'.own hi'.below)
  rw [gTp (by simp only [sPu];omega),gTp (by omega)]
end
def flexAt (flex:Option Int) (ver:Int):Bool:=match flex with | none=>false | some n=>decide (n≤ver)
def okTop (P:Program) (I:Ids) (tU8 S t N:Nat) (flex:Option Int) (tags:Option (Nat × Nat)) (fs:Fs):Bool :=
  decide (v0Of flex+nVs fs≤t) && decide (t1Of t flex+aFT (ctxOf flex) fs+tagsT tags+1≤N) && fieldB P S 0 0 && oneB P I.tI16 && okTags P I (ctxOf flex) S tags && okFs P I (ctxOf flex) tU8 S fs
theorem appendTo_calls {P:Program} {I:Ids} {tU8:Nat} {G:List (Nat × Bytes)→Prop} {f S t:Nat} {fn:Func} {flex:Option Int} {tags:Option (Nat × Nat)} {fs:Fs} (hka:KA G P I tU8)
    (hf:P.funcs[f]?=some fn) (hb:fn.body.map strip=some (aTop I S t flex tags fs)) (hr:fn.results=#[.tmp 4]) (hok:okTop P I tU8 S t fn.ntmps flex tags fs=true)
    (w:World) (b o:Nat) (ver:Int) (ts:List Tree) (u:List (Nat × Bytes)) (hbB:b < w.heap.size) (hver:w.cell? ⟨b,o,none⟩=some (.int .i16 ver)) (hv0:0≤ver)
    (hH:HFs G w (· < w.heap.size) ver (flexAt flex ver) fs b o ts) (hT:TagsAt G w (· < w.heap.size) (flexAt flex ver) b o tags u)
    (hlim:(wFs ver (flexAt flex ver) fs ts ++ wTags (flexAt flex ver) u).length≤lim) :
    Calls P f #[.pointer (some ⟨b,o,none⟩),.slice none 0 0] w fun e w'=>∃ dv,e=.returned dv∧Own tU8 w' w.heap.size dv (wFs ver (flexAt flex ver) fs ts ++ wTags (flexAt flex ver) u)∧Below w.heap.size w w':=by
  unfold okTop at hok
  simp only [Bool.and_eq_true,decide_eq_true_eq] at hok
  obtain ⟨⟨⟨⟨⟨h1,h2⟩,h3⟩,h4⟩,h5⟩,h6⟩:=hok
  obtain ⟨c,hc,hs⟩:∃ c,fn.body=some c∧strip c=aTop I S t flex tags fs:=by
    cases hc:fn.body with
    | none=>simp [hc] at hb
    | some c=>exact ⟨c,rfl,by simpa [hc] using hb⟩
  refine calls_of_wp hf hc ?_
  generalize hR:bodyPost P fn _=Q
  suffices h:(aTop I S t flex tags fs).wp P Q { tmps:=#[.pointer (some ⟨b,o,none⟩),.slice none 0 0] ++ Array.replicate (fn.ntmps - 2) undef,defers:=[] } w from h c hs
  have hQ:∀ a w' dv,a.defers=[]→getT a 4=dv→Own tU8 w' w.heap.size dv (wFs ver (flexAt flex ver) fs ts ++ wTags (flexAt flex ver) u)→Below w.heap.size w w'→Q .ret a w':=by
    intro a w' dv hd h4 ho hbl
    subst hR
    exact bodyPost_ret (results_tmp hr _ _ _) hd ⟨_,rfl,by rw [← h4] at ho;exact ho,hbl⟩
  clear hR hs hc hb hf hr
  have hown0:Own tU8 w w.heap.size (.slice none 0 0) []:=World.ownsRow_nil _ _ _ _
  have ht5:6≤t∧t+6≤fn.ntmps:=by cases flex <;> simp [v0Of,t1Of] at h1 h2 <;> omega
  generalize ha0:({ tmps:=#[.pointer (some ⟨b,o,none⟩),.slice none 0 0] ++ Array.replicate (fn.ntmps - 2) undef,defers:=[] }:Act)=a0
  have h00:getT a0 0=.pointer (some ⟨b,o,none⟩):=by rw [← ha0];simp [getT,Array.getD]
  have h01:getT a0 1=.slice none 0 0:=by
    rw [← ha0]
    simp only [getT,Array.getD_eq_getD_getElem?]
    rw [Array.getElem?_append_left (by simp)]
    rfl
  have hd0:a0.defers=[]:=by rw [← ha0]
  have hs0:a0.tmps.size=fn.ntmps:=by rw [← ha0];simp;omega
  clear ha0
  have fin:∀ a1:Act,a1.tmps.size=fn.ntmps→a1.defers=[]→getT a1 0=.pointer (some ⟨b,o,none⟩)→getT a1 1=.slice none 0 0→getT a1 5=.int .i16 ver →
      (seqs (flexPart I t flex ++ ((aFs I (ctxOf flex) S 0 (v0Of flex) (t1Of t flex) 0 fs ++ aTagsL I (ctxOf flex) S 0 tags (t1Of t flex+aFT (ctxOf flex) fs)) ++
        [.reg [mv (t1Of t flex+aFT (ctxOf flex) fs+tagsT tags) 1,asg 4 (t1Of t flex+aFT (ctxOf flex) fs+tagsT tags)],.ret]))).wp P Q a1 w:=by
    intro a1 hs1 hd1 h10 h11 h15
    cases flex with
    | none =>
      simp only [v0Of,t1Of,ctxOf,flexAt,flexPart,List.nil_append] at *
      let X:Fix:=⟨P,I,tU8,G,⟨5,5,true⟩,w,w.heap.size,ver,false,t,fn.ntmps⟩
      have hX:X.ok:=⟨hka,(by omega:(5:Nat) ≠ 1),(by omega:(5:Nat) ≠ 1),(by omega:5 < t),(by omega:5 < t),(by omega:1 < t),fun _=>rfl,Nat.le_refl _,hv0⟩
      exact top_mid (X:=X) hX h1 (by show t≤t+5;omega) h2 (by show 5 < 6;omega) (by show 5 < 6;omega) (by omega) hbB h5 h6 hH hT
        ⟨hs1,hd1,h15,(by intro h;cases h),(by rw [h11];exact hown0),Below.refl _ _,Nat.le_refl _⟩ h10 hlim hQ
    | some n =>
      simp only [v0Of,t1Of,ctxOf,flexAt,flexPart] at *
      rw [List.cons_append,seqs_cons (by simp)]
      refine SC.wp_seq (SC.wp_reg (ops_mv (oNo rfl (opw_cmp (op:=.geq) (k:=.i16) (m:=ver) (n:=n) (r:=decide (n≤ver)) ?_ rfl (by simp) (ops_asg (oNi ?_))))))
      · rw [eTm,gTp (by omega)]
        exact h15
      rw [List.cons_append,List.nil_append,seqs_cons (by simp)]
      refine SC.wp_seq (SC.wp_reg (ops_mv (oNi ?_)))
      let X:Fix:=⟨P,I,tU8,G,⟨5,6,false⟩,w,w.heap.size,ver,decide (n≤ver),t,fn.ntmps⟩
      have hX:X.ok:=⟨hka,(by omega:(5:Nat) ≠ 1),(by omega:(6:Nat) ≠ 1),(by omega:5 < t),(by omega:6 < t),(by omega:1 < t),(fun h=>by cases h),Nat.le_refl _,hv0⟩
      refine top_mid (X:=X) hX h1 (by show t≤t+8;omega) h2 (by show 5 < 7;omega) (by show 6 < 7;omega) (by omega) hbB h5 h6 hH hT
        ⟨?_,?_,?_,?_,?_,Below.refl _ _,Nat.le_refl _⟩ ?_ hlim hQ
      · simp [sPu,hs1];rfl
      · simp [dPu,hd1]
      · show getT _ 5=_
        simp (disch:=omega) [gTn]
        exact h15
      · intro _
        show getT _ 6=_
        simp (disch:=(try simp only [sPu]);omega) [gTp,gTn]
        rfl
      · simp (disch:=omega) [gTn]
        rw [h11];exact hown0
      · simp (disch:=omega) [gTn]
        exact h10
  obtain ⟨rest,hrest⟩:∃ rest,rest=(flexPart I t flex ++ ((aFs I (ctxOf flex) S 0 (v0Of flex) (t1Of t flex) 0 fs ++ aTagsL I (ctxOf flex) S 0 tags (t1Of t flex+aFT (ctxOf flex) fs)) ++
        [.reg [mv (t1Of t flex+aFT (ctxOf flex) fs+tagsT tags) 1,asg 4 (t1Of t flex+aFT (ctxOf flex) fs+tagsT tags)],.ret])):=⟨_,rfl⟩
  have htop:aTop I S t flex tags fs=seqs (.reg [⟨some 4,.assign (.const (.slice none 0 0)),none⟩] :: aLoad S 0 0 I.tI16 5 t :: .reg [mv (t+4) 5] :: rest):=by rw [hrest];rfl
  have hne:rest ≠ []:=by rw [hrest];simp
  rw [← hrest] at fin
  clear hrest
  rw [htop,seqs_cons (by simp)]
  refine SC.wp_seq (SC.wp_reg (oNo rfl (opw_assign (oNi ?_))))
  rw [eCo,seqs_cons (by simp)]
  refine SC.wp_seq (SC.wp_reg (ops_mv (ops_nilc (ad:=⟨b,o,none⟩) ?_ (ops_fa h3 (b:=b) (o:=o) (by rw [gTp (by simp only [sPu];omega)]) ?_))))
  · rw [gTp (by simp only [sPu];omega),gTn (by omega)]
    exact h00
  refine ops_ld h4 (ad:=⟨b,o+0,none⟩) (v:=.int .i16 ver) (by rw [gTp (by simp only [sPu];omega)]) (by rw [Nat.add_zero];exact hver) (ops_asg (oNi ?_))
  rw [seqs_cons hne]
  refine SC.wp_seq (SC.wp_reg (ops_mv (oNi ?_)))
  refine fin _ (by simp [sPu,hs0]) (by simp [dPu,hd0]) ?_ ?_ ?_
  · simp (disch:=omega) [gTn,h00]
  · simp (disch:=omega) [gTn,h01]
  · simp (disch:=(try simp only [sPu]);omega) [gTp,gTn]
end Go.Proofs.YtgaplicnofhliaaDoor.K
namespace Go.Proofs.YtgaplicnofhliaaDoor.K
open Go Go.RowKit Go.Proofs.YtgaplicnofhliaaDoor.T
set_option linter.unusedVariables false
set_option linter.unusedSimpArgs false
def wpL (P:Program) (Q:Exit→Act→World→Prop):List SC→Act→World→Prop
  | [],a,w=>Q .normal a w
  | x :: l,a,w=>x.wp P (Exit.then (wpL P Q l) Q) a w
theorem wpL_seqs {P:Program} {Q:Exit→Act→World→Prop}:∀ (l:List SC) (a:Act) (w:World),wpL P Q l a w→(seqs l).wp P Q a w
  | [],a,w,h=>SC.wp_skip h
  | [x],a,w,h=>SC.wp_mono h fun e a w hq=>by cases e <;> exact hq
  | x :: y :: l,a,w,h=>SC.wp_seq (SC.wp_mono h fun e a w hq=>by
      cases e
      case normal=>exact wpL_seqs (y :: l) a w hq
      all_goals exact hq)
def szTy (nul:Bool):Ty→Nat
  | .prim k=>if k=.uuid then 16 else 1
  | .list _ _ _ _=>1
  | .struct _ size _ _ _=>if nul then 1 else size
def nuOf (h:Hd):Bool:=decide (0≤h.null)
mutual
def layTy (nul:Bool):Ty→Bool
  | .prim _=>true
  | .list _ _ size of=>layTy false of && decide (szTy false of≤size)
  | .struct _ size _ tags fs=>layFs 0 (match tags with | none=>size | some (_,off)=>off) fs && (match tags with | none=>true | some (_,off)=>decide (off < size))
def layFs (lo n:Nat):Fs→Bool
  | .nil=>decide (lo≤n)
  | .cons h ty r=>decide (lo≤h.off) && decide (h.off+szTy (nuOf h) ty≤n) && layTy (nuOf h) ty && layFs (h.off+szTy (nuOf h) ty) n r
end
section
variable {G:List (Nat × Bytes)→Prop} {w w':World} {F F':Nat→Prop}
theorem bytesAt_frame {base:Option Addr} {bs:Bytes} (hF:∀ k,F k→F' k∧w'.heap[k]?=w.heap[k]?) (h:BytesAt w F base bs):BytesAt w' F' base bs:=by
  rcases h with h | ⟨b,o,h1,h2,h3⟩
  · exact .inl h
  · exact .inr ⟨b,o,h1,(hF b h2).1,fun j u hu=>by rw [World.cell?_of_block (hF b h2).2];exact h3 j u hu⟩
theorem pVal_frame {nul:Bool} {t:Tree} {k:PK} {v:Value} (hF:∀ k,F k→F' k∧w'.heap[k]?=w.heap[k]?) (h:PVal w F nul t k v):PVal w' F' nul t k v:=by
  cases k <;> simp only [PVal] at h ⊢
  case str =>
    split at h
    · rename_i hn
      split at h
      · rename_i ht
        rw [if_pos hn,if_pos ht]
        exact h
      · rename_i ht
        rw [if_pos hn,if_neg ht]
        obtain ⟨b',o',s,h1,h2,h3,h4⟩:=h
        exact ⟨b',o',s,h1,(hF _ h2).1,by rw [World.cell?_of_block (hF _ h2).2];exact h3,h4⟩
    · rename_i hn
      rw [if_neg hn]
      exact h
  case bytes =>
    obtain ⟨base,cap,h1,h2⟩:=h
    refine ⟨base,cap,h1,?_⟩
    split at h2
    · rename_i hn
      rw [if_pos hn]
      exact h2
    · rename_i hn
      rw [if_neg hn]
      exact ⟨bytesAt_frame hF h2.1,h2.2⟩
  all_goals exact h
theorem tagsV_frame {u:List (Nat × Bytes)} {m:Value} (hF:∀ k,F k→F' k∧w'.heap[k]?=w.heap[k]?) (h:TagsV w F u m):TagsV w' F' u m:=by
  rcases h with h | ⟨r,es,clock,h1,h2,h3,h4,h4s,h5⟩
  · exact .inl h
  · refine .inr ⟨r,es,clock,h1,(hF _ h2).1,by rw [(hF _ h2).2];exact h3,h4,h4s,fun e he x hx hk=>?_⟩
    obtain ⟨base,cap,q1,q2⟩:=h5 e he x hx hk
    exact ⟨base,cap,q1,bytesAt_frame hF q2⟩
theorem hTags_frame {b o:Nat} {u:List (Nat × Bytes)} (hF:∀ k,F k→F' k∧w'.heap[k]?=w.heap[k]?) (hc:w'.cell? ⟨b,o,none⟩=w.cell? ⟨b,o,none⟩) (h:HTags G w F b o u):HTags G w' F' b o u:=by
  obtain ⟨h1,h2,h3,h4,h5⟩:=h
  refine ⟨h1,h2,h3,h4,?_⟩
  rw [hc]
  rcases h5 with h5 | ⟨r,es,clock,q1,q2,q3,q4,q4s,q5⟩
  · exact .inl h5
  · refine .inr ⟨r,es,clock,q1,(hF _ q2).1,by rw [(hF _ q2).2];exact q3,q4,q4s,fun e he x hx hk=>?_⟩
    obtain ⟨base,cap,k1,k2⟩:=q5 e he x hx hk
    exact ⟨base,cap,k1,bytesAt_frame hF k2⟩
mutual
theorem hTy_frame (hF:∀ k,F k→F' k∧w'.heap[k]?=w.heap[k]?) (ver:Int) (flex:Bool):∀ (ty:Ty) (nul:Bool) (b o:Nat) (t:Tree),layTy nul ty=true →
    (∀ j,o≤j→j < o+szTy nul ty→w'.cell? ⟨b,j,none⟩=w.cell? ⟨b,j,none⟩)→HTy G w F ver flex ty nul b o t→HTy G w' F' ver flex ty nul b o t
  | .prim k,nul,b,o,t,_,hc,h=>by
    simp only [HTy,HPrim] at h ⊢
    simp only [szTy] at hc
    split
    · rename_i hk
      subst hk
      rw [if_pos rfl] at h
      intro j u hu
      have hj:j < 16:=by
        have:=(List.getElem?_eq_some_iff.1 hu).1
        rw [uuidOf_length] at this
        exact this
      rw [hc (o+j) (by omega) (by simp;omega)]
      exact h j u hu
    · rename_i hk
      rw [if_neg hk] at h hc
      obtain ⟨v,h1,h2⟩:=h
      exact ⟨v,by rw [hc o (by omega) (by omega)];exact h1,pVal_frame hF h2⟩
  | .list _ _ size of,nul,b,o,t,hl,hc,h=>by
    simp only [HTy] at h ⊢
    simp only [layTy,Bool.and_eq_true] at hl
    simp only [szTy] at hc
    obtain ⟨base,cap,h1,h2⟩:=h
    refine ⟨base,cap,by rw [hc o (by omega) (by omega)];exact h1,?_⟩
    split at h2
    · rename_i hn
      rw [if_pos hn]
      exact h2
    · rename_i hn
      rw [if_neg hn]
      refine ⟨h2.1,h2.2.1,h2.2.2.imp id fun ⟨b',o',q1,q2,q3⟩=>⟨b',o',q1,(hF _ q2).1,fun i x hx=>?_⟩⟩
      exact hTy_frame hF ver flex of false b' (o'+i * size) x hl.1 (fun j _ _=>World.cell?_of_block (hF _ q2).2) (q3 i x hx)
  | .struct _ size _ tags fs,nul,b,o,t,hl,hc,h=>by
    simp only [HTy] at h ⊢
    simp only [layTy,Bool.and_eq_true] at hl
    have key:∀ (b o:Nat),(∀ j,o≤j→j < o+size→w'.cell? ⟨b,j,none⟩=w.cell? ⟨b,j,none⟩)→(HFs G w F ver flex fs b o t.l∧TagsAt G w F flex b o tags t.u) →
        (HFs G w' F' ver flex fs b o t.l∧TagsAt G w' F' flex b o tags t.u):=by
      clear hc h
      intro b o hc h
      unfold TagsAt at h ⊢
      cases tags with
      | none =>
        exact ⟨hFs_frame hF ver flex fs 0 size b o t.l hl.1 (fun j h1 h2=>hc j (by omega) (by omega)) h.1,h.2⟩
      | some x =>
        obtain ⟨f,off⟩:=x
        simp only [decide_eq_true_eq] at hl
        exact ⟨hFs_frame hF ver flex fs 0 off b o t.l hl.1 (fun j h1 h2=>hc j (by omega) (by omega)) h.1,fun hf=>hTags_frame hF (hc _ (by omega) (by omega)) (h.2 hf)⟩
    split
    · rename_i hn
      rw [if_pos hn] at h
      simp only [szTy,hn,if_true] at hc
      split
      · rename_i ht
        rw [if_pos ht] at h
        rw [hc o (by omega) (by omega)]
        exact h
      · rename_i ht
        rw [if_neg ht] at h
        obtain ⟨b',o',q1,q2,q3⟩:=h
        exact ⟨b',o',by rw [hc o (by omega) (by omega)];exact q1,(hF _ q2).1,key b' o' (fun j _ _=>World.cell?_of_block (hF _ q2).2) q3⟩
    · rename_i hn
      rw [if_neg hn] at h
      have hn':nul=false:=by simpa using hn
      simp only [szTy,hn',Bool.false_eq_true,if_false] at hc
      exact key b o hc h
theorem hFs_frame (hF:∀ k,F k→F' k∧w'.heap[k]?=w.heap[k]?) (ver:Int) (flex:Bool):∀ (fs:Fs) (lo n:Nat) (b o:Nat) (ts:List Tree),layFs lo n fs=true →
    (∀ j,o+lo≤j→j < o+n→w'.cell? ⟨b,j,none⟩=w.cell? ⟨b,j,none⟩)→HFs G w F ver flex fs b o ts→HFs G w' F' ver flex fs b o ts
  | .nil,_,_,_,_,_,_,_,_=>by simp [HFs]
  | .cons h ty r,lo,n,b,o,ts,hl,hc,hh=>by
    simp only [HFs] at hh ⊢
    simp only [layFs,Bool.and_eq_true,decide_eq_true_eq] at hl
    obtain ⟨⟨⟨l1,l2⟩,l3⟩,l4⟩:=hl
    refine ⟨fun hv=>hTy_frame hF ver flex ty _ b (o+h.off) _ l3 (fun j h1 h2=>hc j (by omega) (by unfold nuOf at l2;omega)) (hh.1 hv),hFs_frame hF ver flex r _ n b o _ l4 (fun j h1 h2=>hc j (by omega) h2) hh.2⟩
end
end
mutual
def FrTy (w:World) (b:Nat) (nul:Bool):Ty→Nat→Prop
  | .prim _,_=>True
  | .list _ _ _ _,o=>w.cell? ⟨b,o,none⟩=some (.slice none 0 0)
  | .struct _ _ _ _ fs,o=>if nul then w.cell? ⟨b,o,none⟩=some (.pointer none) else FrFs w b fs o
def FrFs (w:World) (b:Nat):Fs→Nat→Prop
  | .nil,_=>True
  | .cons h ty r,o=>FrTy w b (nuOf h) ty (o+h.off)∧FrFs w b r o
end
mutual
theorem frTy_frame {w w':World} {b:Nat}:∀ (nul:Bool) (ty:Ty) (o:Nat),layTy nul ty=true→(∀ j,o≤j→j < o+szTy nul ty→w'.cell? ⟨b,j,none⟩=w.cell? ⟨b,j,none⟩)→FrTy w b nul ty o→FrTy w' b nul ty o
  | nul,.prim _,_,_,_,_=>by simp [FrTy]
  | nul,.list _ _ _ _,o,_,hc,h=>by
    simp only [FrTy] at h ⊢
    simp only [szTy] at hc
    rw [hc o (by omega) (by omega)]
    exact h
  | nul,.struct _ size _ tags fs,o,hl,hc,h=>by
    simp only [FrTy] at h ⊢
    simp only [layTy,Bool.and_eq_true] at hl
    cases nul with
    | true =>
      simp only [szTy,if_true] at hc h ⊢
      rw [hc o (by omega) (by omega)]
      exact h
    | false =>
      simp only [szTy,Bool.false_eq_true,if_false] at hc h ⊢
      cases tags with
      | none=>exact frFs_frame fs 0 size o hl.1 (fun j h1 h2=>hc j (by omega) (by omega)) h
      | some x =>
        obtain ⟨f,off⟩:=x
        simp only [decide_eq_true_eq] at hl
        exact frFs_frame fs 0 off o hl.1 (fun j h1 h2=>hc j (by omega) (by omega)) h
theorem frFs_frame {w w':World} {b:Nat}:∀ (fs:Fs) (lo n o:Nat),layFs lo n fs=true→(∀ j,o+lo≤j→j < o+n→w'.cell? ⟨b,j,none⟩=w.cell? ⟨b,j,none⟩)→FrFs w b fs o→FrFs w' b fs o
  | .nil,_,_,_,_,_,_=>by simp [FrFs]
  | .cons h ty r,lo,n,o,hl,hc,hh=>by
    simp only [FrFs] at hh ⊢
    simp only [layFs,Bool.and_eq_true,decide_eq_true_eq] at hl
    obtain ⟨⟨⟨l1,l2⟩,l3⟩,l4⟩:=hl
    exact ⟨frTy_frame (nuOf h) ty _ l3 (fun j h1 h2=>hc j (by omega) (by omega)) hh.1,frFs_frame r _ n o l4 (fun j h1 h2=>hc j (by omega) h2) hh.2⟩
end
mutual
def frTyB (get:Nat→Option Value) (nul:Bool):Ty→Nat→Bool
  | .prim _,_=>true
  | .list _ _ _ _,o=>match get o with | some (.slice none 0 0)=>true | _=>false
  | .struct _ _ _ _ fs,o=>if nul then (match get o with | some (.pointer none)=>true | _=>false) else frFsB get fs o
def frFsB (get:Nat→Option Value):Fs→Nat→Bool
  | .nil,_=>true
  | .cons h ty r,o=>frTyB get (nuOf h) ty (o+h.off) && frFsB get r o
end
mutual
theorem frTyB_ok {w:World} {b q:Nat} {get:Nat→Option Value} (hg:∀ j v,get j=some v→w.cell? ⟨b,q+j,none⟩=some v):∀ (nul:Bool) (ty:Ty) (o:Nat),frTyB get nul ty o=true→FrTy w b nul ty (q+o)
  | nul,.prim _,_,_=>by simp [FrTy]
  | nul,.list _ _ _ _,o,h=>by
    simp only [frTyB] at h
    simp only [FrTy]
    split at h
    · rename_i hv
      exact hg _ _ hv
    · simp at h
  | nul,.struct _ _ _ _ fs,o,h=>by
    simp only [frTyB] at h
    simp only [FrTy]
    cases nul with
    | true =>
      simp only [if_true] at h ⊢
      split at h
      · rename_i hv
        exact hg _ _ hv
      · simp at h
    | false =>
      simp only [Bool.false_eq_true,if_false] at h ⊢
      exact frFsB_ok hg fs o h
theorem frFsB_ok {w:World} {b q:Nat} {get:Nat→Option Value} (hg:∀ j v,get j=some v→w.cell? ⟨b,q+j,none⟩=some v):∀ (fs:Fs) (o:Nat),frFsB get fs o=true→FrFs w b fs (q+o)
  | .nil,_,_=>by simp [FrFs]
  | .cons h ty r,o,hh=>by
    simp only [frFsB,Bool.and_eq_true] at hh
    simp only [FrFs]
    exact ⟨by rw [Nat.add_assoc];exact frTyB_ok hg (nuOf h) ty _ hh.1,frFsB_ok hg r o hh.2⟩
end
mutual
def outTy (out:List (Nat × Value)) (nul:Bool):Ty→Nat→Bool
  | .prim _,_=>true
  | .list _ _ _ _,o=>out.all fun x=>x.1 != o
  | .struct _ _ _ _ fs,o=>if nul then (out.all fun x=>x.1 != o) else outFs out fs o
def outFs (out:List (Nat × Value)):Fs→Nat→Bool
  | .nil,_=>true
  | .cons h ty r,o=>outTy out (nuOf h) ty (o+h.off) && outFs out r o
end
theorem dSetAll_other {q j:Nat}:∀ (out:List (Nat × Value)) (cs:Array Value),(∀ x ∈ out,q+x.1 ≠ j)→(dSetAll q out cs)[j]?=cs[j]?
  | [],_,_=>rfl
  | x :: r,cs,h=>by
    rw [dSetAll,dSetAll_other r _ (fun y hy=>h y (List.mem_cons_of_mem _ hy))]
    rw [Array.getElem?_setIfInBounds_ne (h x (by simp))]
mutual
theorem outTy_ok {w w':World} {b q:Nat} {out:List (Nat × Value)} (hc:∀ j,(∀ x ∈ out,x.1 ≠ j)→w'.cell? ⟨b,q+j,none⟩=w.cell? ⟨b,q+j,none⟩):∀ (nul:Bool) (ty:Ty) (o:Nat),outTy out nul ty o=true→FrTy w b nul ty (q+o)→FrTy w' b nul ty (q+o)
  | nul,.prim _,_,_,_=>by simp [FrTy]
  | nul,.list _ _ _ _,o,h,hf=>by
    simp only [outTy,List.all_eq_true,bne_iff_ne,ne_eq] at h
    simp only [FrTy] at hf ⊢
    rw [hc o h]
    exact hf
  | nul,.struct _ _ _ _ fs,o,h,hf=>by
    simp only [outTy] at h
    simp only [FrTy] at hf ⊢
    cases nul with
    | true =>
      simp only [if_true,List.all_eq_true,bne_iff_ne,ne_eq] at h hf ⊢
      rw [hc o h]
      exact hf
    | false =>
      simp only [Bool.false_eq_true,if_false] at h hf ⊢
      exact outFs_ok hc fs o h hf
theorem outFs_ok {w w':World} {b q:Nat} {out:List (Nat × Value)} (hc:∀ j,(∀ x ∈ out,x.1 ≠ j)→w'.cell? ⟨b,q+j,none⟩=w.cell? ⟨b,q+j,none⟩):∀ (fs:Fs) (o:Nat),outFs out fs o=true→FrFs w b fs (q+o)→FrFs w' b fs (q+o)
  | .nil,_,_,_=>by simp [FrFs]
  | .cons h ty r,o,hh,hf=>by
    simp only [outFs,Bool.and_eq_true] at hh
    simp only [FrFs] at hf ⊢
    refine ⟨?_,outFs_ok hc r o hh.2 hf.2⟩
    rw [Nat.add_assoc]
    exact outTy_ok hc (nuOf h) ty _ hh.1 (by rw [← Nat.add_assoc];exact hf.1)
end
end Go.Proofs.YtgaplicnofhliaaDoor.K
namespace Go.Proofs.YtgaplicnofhliaaDoor.K
open Go Go.RowKit Go.Proofs.YtgaplicnofhliaaDoor.T
set_option linter.unusedVariables false
set_option linter.unusedSimpArgs false
structure RX where
  P:Program
  I:RIds
  TR:Nat
  S:Option Nat
  rb:Nat
  G:List (Nat × Bytes)→Prop
  c:Ctx
  w0:World
  B:Nat
  ver:Int
  flex:Bool
  T0:Nat
  N:Nat
  err:Value
  Gl:World→Prop
  gb:Nat
structure RX.ok (X:RX):Prop where
  kr:KR X.P X.I X.TR X.gb X.err X.Gl
  hgb:X.gb < X.B
  cver:X.c.ver=8
  ten:9 < X.T0
  never:X.c.never=true→X.flex=false
  hB:X.B≤X.rb
  hver:0≤X.ver
  G:∀ u,X.G u
  gl:∀ w,Below X.B X.w0 w→X.Gl w
structure RInv (X:RX) (a:Act) (w:World) (st:Option Bytes):Prop where
  size:a.tmps.size=X.N
  defers:a.defers=[]
  uns:getT a 2=.bool false
  rd:getT a 7=.pointer (some ⟨X.rb,0,none⟩)
  ver:getT a 8=.int .i16 X.ver
  flex:X.c.never=false→getT a 9=.bool X.flex
  at_:RdAt X.TR w X.S X.rb st
  src:∀ sb,X.S=some sb→sb ≠ X.rb∧sb < w.heap.size
  below:Below X.B X.w0 w
  heap:X.B≤w.heap.size
theorem RdAt.lt {TR rb:Nat} {w:World} {S:Option Nat} {st:Option Bytes} (h:RdAt TR w S rb st):rb < w.heap.size:=by
  cases st with
  | none=>exact (Array.getElem?_eq_some_iff.1 h).1
  | some rest =>
    obtain ⟨base,cap,h1,_⟩:=h
    exact (Array.getElem?_eq_some_iff.1 h1).1
theorem RdAt.frame {TR rb:Nat} {w w':World} {S:Option Nat} {st:Option Bytes} (h:RdAt TR w S rb st) (h1:w'.heap[rb]?=w.heap[rb]?) (h2:∀ sb,S=some sb→w'.heap[sb]?=w.heap[sb]?):RdAt TR w' S rb st:=by
  cases st with
  | none =>
    simp only [RdAt] at h ⊢
    rw [h1]
    exact h
  | some rest =>
    simp only [RdAt] at h ⊢
    obtain ⟨base,cap,q1,q2,q3⟩:=h
    refine ⟨base,cap,by rw [h1];exact q1,q2,?_⟩
    cases S with
    | none=>exact q3
    | some sb =>
      obtain ⟨o,k1,k2⟩:=q3
      exact ⟨o,k1,fun j u hu=>by rw [World.cell?_of_block (h2 sb rfl)];exact k2 j u hu⟩
def RSame (X:RX) (a a':Act) (lo t:Nat):Prop:=∀ s,(s < lo∨(X.T0≤s∧s < t))→getT a' s=getT a s
theorem RSame.refl (X:RX) (a:Act) (lo t:Nat):RSame X a a lo t:=fun _ _=>rfl
theorem RSame.trans {X:RX} {a b c:Act} {lo t lo' t':Nat} (h:RSame X a b lo t) (h':RSame X b c lo' t') (hl:lo≤lo') (ht:t≤t'):RSame X a c lo t :=
  fun s h1=>(h' s (by omega)).trans (h s h1)
theorem RSame.mono {X:RX} {a b:Act} {lo t lo' t':Nat} (h:RSame X a b lo' t') (hl:lo≤lo') (ht:t≤t'):RSame X a b lo t :=
  fun s h1=>h s (by omega)
structure Foot (rb b lo hi:Nat) (w w':World):Prop where
  size:w.heap.size≤w'.heap.size
  block:∀ k,k < w.heap.size→k ≠ rb→k ≠ b→w'.heap[k]?=w.heap[k]?
  row:∀ cs T,w.heap[b]?=some (.cells cs T (0,0))→∃ cs',w'.heap[b]?=some (.cells cs' T (0,0))∧cs'.size=cs.size∧∀ j,(j < lo∨hi≤j)→cs'[j]?=cs[j]?
theorem Foot.refl (rb b lo hi:Nat) (w:World):Foot rb b lo hi w w:=⟨Nat.le_refl _,fun _ _ _ _=>rfl,fun cs T h=>⟨cs,h,rfl,fun _ _=>rfl⟩⟩
theorem Foot.mono {rb b lo hi lo' hi':Nat} {w w':World} (h:Foot rb b lo hi w w') (h1:lo'≤lo) (h2:hi≤hi'):Foot rb b lo' hi' w w' :=
  ⟨h.size,h.block,fun cs T hc=>by
    obtain ⟨cs',q1,q2,q3⟩:=h.row cs T hc
    exact ⟨cs',q1,q2,fun j hj=>q3 j (by omega)⟩⟩
theorem Foot.trans {rb b lo hi:Nat} {w w1 w2:World} (h:Foot rb b lo hi w w1) (h':Foot rb b lo hi w1 w2):Foot rb b lo hi w w2 :=
  ⟨Nat.le_trans h.size h'.size,fun k k1 k2 k3=>(h'.block k (Nat.lt_of_lt_of_le k1 h.size) k2 k3).trans (h.block k k1 k2 k3),fun cs T hc=>by
    obtain ⟨cs',q1,q2,q3⟩:=h.row cs T hc
    obtain ⟨cs2,r1,r2,r3⟩:=h'.row cs' T q1
    exact ⟨cs2,r1,r2.trans q2,fun j hj=>(r3 j hj).trans (q3 j hj)⟩⟩
theorem Foot.of_only {rb b lo hi:Nat} {w w':World} (h:Only rb w w') (hn:b ≠ rb):Foot rb b lo hi w w' :=
  ⟨h.size,fun k k1 k2 _=>h.block k k1 k2,fun cs T hc=>⟨cs,by rw [h.block b (Array.getElem?_eq_some_iff.1 hc).1 hn];exact hc,rfl,fun _ _=>rfl⟩⟩
theorem Foot.other {rb b lo hi b' lo' hi':Nat} {w w1 w2:World} (h:Foot rb b lo hi w w1) (h':Foot rb b' lo' hi' w1 w2) (hb':w.heap.size≤b') (hb:b < w.heap.size) (hn:b ≠ rb):Foot rb b lo hi w w2 :=
  ⟨Nat.le_trans h.size h'.size,fun k k1 k2 k3=>(h'.block k (Nat.lt_of_lt_of_le k1 h.size) k2 (by omega)).trans (h.block k k1 k2 k3),fun cs T hc=>by
    obtain ⟨cs',q1,q2,q3⟩:=h.row cs T hc
    exact ⟨cs',by rw [h'.block b (Nat.lt_of_lt_of_le hb h.size) hn (by omega)];exact q1,q2,q3⟩⟩
def RowAt (w:World) (b q n:Nat):Prop:=∃ cs T,w.heap[b]?=some (.cells cs T (0,0))∧q+n≤cs.size
theorem RowAt.mono {w:World} {b q n q' n':Nat} (h:RowAt w b q n) (h1:q'+n'≤q+n):RowAt w b q' n':=by
  obtain ⟨cs,T,q1,q2⟩:=h
  exact ⟨cs,T,q1,by omega⟩
theorem RowAt.lt {w:World} {b q n:Nat} (h:RowAt w b q n):b < w.heap.size:=by
  obtain ⟨cs,T,q1,q2⟩:=h
  exact (Array.getElem?_eq_some_iff.1 q1).1
theorem Foot.rowAt {rb b lo hi q n:Nat} {w w':World} (h:Foot rb b lo hi w w') (hr:RowAt w b q n):RowAt w' b q n:=by
  obtain ⟨cs,T,q1,q2⟩:=hr
  obtain ⟨cs',r1,r2,_⟩:=h.row cs T q1
  exact ⟨cs',T,r1,by omega⟩
theorem Foot.cell {rb b lo hi q n:Nat} {w w':World} (h:Foot rb b lo hi w w') (hr:RowAt w b q n) {j:Nat} (hj:j < lo∨hi≤j):w'.cell? ⟨b,j,none⟩=w.cell? ⟨b,j,none⟩:=by
  obtain ⟨cs,T,q1,q2⟩:=hr
  obtain ⟨cs',r1,r2,r3⟩:=h.row cs T q1
  rw [cell_of_row _ _ _ _ _ _ q1,cell_of_row _ _ _ _ _ _ r1]
  exact r3 j hj
structure Opn (X:RX) (O:Nat→Prop) (b:Nat) (w:World):Prop where
  orb:O X.rb
  ob:O b
  lt:∀ k,O k→k < w.heap.size
  src:∀ sb,X.S=some sb→¬ O sb
  ne:b ≠ X.rb
  hB:X.B≤b
theorem Opn.mono {X:RX} {O:Nat→Prop} {b:Nat} {w w':World} (h:Opn X O b w) (hs:w.heap.size≤w'.heap.size):Opn X O b w' :=
  ⟨h.orb,h.ob,fun k hk=>Nat.lt_of_lt_of_le (h.lt k hk) hs,h.src,h.ne,h.hB⟩
def FO (O:Nat→Prop) (w:World):Nat→Prop:=fun k=>k < w.heap.size∧¬ O k
theorem Foot.fo {X:RX} {O:Nat→Prop} {b lo hi:Nat} {w w':World} (h:Foot X.rb b lo hi w w') (ho:Opn X O b w):∀ k,FO O w k→FO O w' k∧w'.heap[k]?=w.heap[k]? :=
  fun k ⟨h1,h2⟩=>⟨⟨Nat.lt_of_lt_of_le h1 h.size,h2⟩,h.block k h1 (fun e=>h2 (e ▸ ho.orb)) (fun e=>h2 (e ▸ ho.ob))⟩
theorem newF_fo {X:RX} {O:Nat→Prop} {b:Nat} {w w':World} (ho:Opn X O b w) (hs:w.heap.size≤w'.heap.size) (hsrc:∀ sb,X.S=some sb→sb < w.heap.size):∀ k,NewF X.S w w' k→FO O w' k:=by
  rintro k (h | ⟨h1,h2⟩)
  · exact ⟨Nat.lt_of_lt_of_le (hsrc k h) hs,ho.src k h⟩
  · exact ⟨h2,fun hk=>by have:=ho.lt k hk;omega⟩
section
variable {X:RX} {a a':Act} {w w':World} {st:Option Bytes} {Q:Exit→Act→World→Prop}
theorem RInv.act (h:RInv X a w st) (hs:a'.tmps.size=a.tmps.size) (hd:a'.defers=a.defers) (hk:∀ s,s < 10→getT a' s=getT a s):RInv X a' w st :=
  ⟨hs.trans h.size,hd.trans h.defers,(hk 2 (by omega)).trans h.uns,(hk 7 (by omega)).trans h.rd,(hk 8 (by omega)).trans h.ver,fun hn=>(hk 9 (by omega)).trans (h.flex hn),h.at_,h.src,h.below,h.heap⟩
theorem RInv.foot (h:RInv X a w st) {b lo hi:Nat} (hf:Foot X.rb b lo hi w w') (ho:w'.os=w.os) (ht:w'.tape=w.tape) (hu:w'.output=w.output) (hrb:w'.heap[X.rb]?=w.heap[X.rb]?) (hS:X.S ≠ some b) (hB:X.B≤b) (hX:X.B≤X.rb):RInv X a w' st :=
  ⟨h.size,h.defers,h.uns,h.rd,h.ver,h.flex,
    h.at_.frame hrb (fun sb hsb=>hf.block sb (h.src sb hsb).2 (h.src sb hsb).1 (fun e=>hS (by rw [hsb,e]))),
    fun sb hsb=>⟨(h.src sb hsb).1,Nat.lt_of_lt_of_le (h.src sb hsb).2 hf.size⟩,
    h.below.trans ⟨ho,ht,hu,hf.size,fun k hk=>hf.block k (Nat.lt_of_lt_of_le hk h.heap) (by omega) (by omega)⟩,Nat.le_trans h.heap hf.size⟩
theorem RInv.alloc (h:RInv X a w st) (o:Obj):RInv X a (w.alloc o) st:=by
  have hlt:=h.at_.lt
  exact ⟨h.size,h.defers,h.uns,h.rd,h.ver,h.flex,
    h.at_.frame (Below.heap_alloc _ _ _ hlt) (fun sb hsb=>Below.heap_alloc _ _ _ (h.src sb hsb).2),
    fun sb hsb=>⟨(h.src sb hsb).1,by simp;have:=(h.src sb hsb).2;omega⟩,h.below.alloc h.heap o,by simp;have:=h.heap;omega⟩
theorem RInv.drew (h:RInv X a w st):RInv X a w.drew st:=by
  refine ⟨h.size,h.defers,h.uns,h.rd,h.ver,h.flex,h.at_.frame rfl (fun _ _=>rfl),h.src,h.below.drew,h.heap⟩
theorem RInv.setRow (h:RInv X a w st) {b:Nat} (hn:b ≠ X.rb) (hS:X.S ≠ some b) (hB:X.B≤b) (cs:Array Value):RInv X a (w.setRow b cs) st :=
  ⟨h.size,h.defers,h.uns,h.rd,h.ver,h.flex,
    h.at_.frame (setRow_other _ _ _ _ (Ne.symm hn)) (fun sb hsb=>setRow_other _ _ _ _ (fun e=>hS (by rw [hsb,e]))),
    fun sb hsb=>⟨(h.src sb hsb).1,by simpa using (h.src sb hsb).2⟩,h.below.trans ⟨rfl,rfl,rfl,by simp,fun k hk=>setRow_other _ _ _ _ (by omega)⟩,by simpa using h.heap⟩
theorem foot_setRow {rb b q n:Nat} {cs cs':Array Value} {T:TypeId} (hc:w.heap[b]?=some (.cells cs T (0,0))) (hs:cs'.size=cs.size) (hj:∀ j,(j < q∨q+n≤j)→cs'[j]?=cs[j]?):Foot rb b q (q+n) w (w.setRow b cs') :=
  ⟨by simp,fun k _ _ hb=>setRow_other _ _ _ _ hb,fun c2 T2 h2=>by
    rw [hc] at h2
    simp only [Option.some.injEq,Obj.cells.injEq,and_true] at h2
    obtain ⟨rfl,rfl⟩:=h2
    exact ⟨cs',setRow_heap _ _ _ _ _ _ hc,hs,hj⟩⟩
theorem foot_alloc {rb b lo hi:Nat} (o:Obj):Foot rb b lo hi w (w.alloc o) :=
  ⟨by simp,fun k hk _ _=>Below.heap_alloc _ _ _ hk,fun cs T hc=>⟨cs,by rw [Below.heap_alloc _ _ _ (Array.getElem?_eq_some_iff.1 hc).1];exact hc,rfl,fun _ _=>rfl⟩⟩
theorem foot_drew {rb b lo hi:Nat}:Foot rb b lo hi w w.drew:=⟨Nat.le_refl _,fun _ _ _ _=>rfl,fun cs T hc=>⟨cs,hc,rfl,fun _ _=>rfl⟩⟩
theorem opw_slice00 {T E n:Nat} {d:Option Tmp} {g:Option (Nat × Bool)} {K:Act→World→Prop} (hT:sliceB X.P T E n=true) (hz:∃ i z,X.P.info? E=some i∧i.zero=some z) (h:K (a.put d (.slice (some ⟨w.heap.size,0,none⟩) 0 0)) (w.alloc (.cells #[] E))) :
    opw X.P ⟨d,.buildSlice T 0 #[],g⟩ a w K:=by
  obtain ⟨hu,i,hi,hs⟩:=slice_of hT
  obtain ⟨i',z,hi',hz⟩:=hz
  rw [hi] at hi'
  cases hi'
  refine oVa (w':=w.alloc (.cells #[] E)) (by simp) (fun p hp=>?_) h
  have hr1:Array.range 0=#[]:=by decide
  simp [execOp,hp,Instr.buildSlice,run_underlying hu,sizeOf,typeInfo,zeroValue,hi,hz,newRow,hr1,Instr.fill]
theorem opw_makeN {T E n TN:Nat} {x y:Operand} {d:Option Tmp} {g:Option (Nat × Bool)} {K:Act→World→Prop} {i:TypeInfo} {z:Value} {m:Nat} (hT:sliceB X.P T E n=true) (hN:intK X.P TN=some .i32) (hi:X.P.info? E=some i) (hz:i.zero=some z) (h0:0 < i.size) (hb:i.bytes≤131072)
    (hx:a.eval x=.slice none 0 0) (hy:a.eval y=.int .i32 (m:Int)) (hm:0 < m) (hm2:m < 2147483648)
    (h:∀ cap,m≤cap→K (a.put d (.slice (some ⟨w.heap.size,0,none⟩) m cap)) (w.drew.alloc (.cells (Builtin.zeroCells z.cells m ++ Builtin.zeroCells z.cells (cap - m)) E))) :
    opw X.P ⟨d,.call ⟨.builtin .append,#[x,y],#[T,TN]⟩,g⟩ a w K:=by
  obtain ⟨hu,_⟩:=slice_of hT
  have hu2:=intB_of hN
  unfold intB at hu2
  split at hu2 <;> try (simp at hu2;done)
  rename_i k hk
  have h48:m * i.bytes≤281474976710656:=by
    have:m * i.bytes≤2147483648 * 131072:=Nat.mul_le_mul (by omega) hb
    omega
  refine oVa (v:=.slice (some ⟨w.heap.size,0,none⟩) m (grownCap w m 0 E)) (w':=w.drew.alloc (.cells (Builtin.zeroCells z.cells m ++ Builtin.zeroCells z.cells (grownCap w m 0 E - m)) E)) (by simp) (fun p hp=>?_) (h _ (grownCap_ge w m 0 E))
  have hr:=Lib.run_append_nil_zeros (P:=X.P) w T TN p.type E i z .i32 k hu hk hi hz m hm h0 (by omega) h48
  simp [execOp,hp,hx,hy,resolve,invoke,builtin,hr]
theorem opw_store_aggAt {T b o:Nat} {E:TypeId} {x y:Operand} {cur:Array Value} {cs:List Value} {d:Option Tmp} {g:Option (Nat × Bool)} {K:Act→World→Prop} (hT:aggB X.P T cs.length=true) (hx:a.eval x=.pointer (some ⟨b,o,none⟩)) (hy:a.eval y=.agg cs.toArray)
    (hb:w.heap[b]?=some (.cells cur E (0,0))) (hc:o+cs.length≤cur.size) (h1:∀ v ∈ cs,v.oneCell'=true) (h:K (a.put d undef) (w.setRow b (cur.toList.take o ++ cs ++ cur.toList.drop (o+cs.length)).toArray)) :
    opw X.P ⟨d,.store T x y,g⟩ a w K:=by
  obtain ⟨i,hi,hs,_⟩:=agg_of (w:=w) hT
  refine opw_skip (w':=w.setRow b (cur.toList.take o ++ cs ++ cur.toList.drop (o+cs.length)).toArray) (by simp) (fun p hp=>?_) h
  have hst:=run_storeCells_at X.P b o E cs 0 cur w hb (by omega) h1
  simp only [Nat.add_zero] at hst
  simp only [execOp,hp,hx,hy,Instr.storeAt,Instr.sureAddr,storeVar,sizeOf,typeInfo,hi,hs,Value.cells]
  simp [hst,hi,hs]
end
end Go.Proofs.YtgaplicnofhliaaDoor.K
