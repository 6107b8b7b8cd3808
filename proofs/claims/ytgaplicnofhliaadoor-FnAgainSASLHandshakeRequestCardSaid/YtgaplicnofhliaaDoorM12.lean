/- Generic texts: R33 T6 Z1 Z2. No condition. -/
import Derived.Test.YtgaplicnofhliaaDoorM11
import Derived.Laws.CopyRow
import Derived.Laws.IdiomCopy
import Derived.ChangeArms
import Derived.Deep.Slices
import Derived.OpenShut
namespace Go.Proofs.YtgaplicnofhliaaDoor.K
open Go Go.RowKit Go.Proofs.YtgaplicnofhliaaDoor.T
attribute [local simp] eTm eCo pNo gTp gTn qv qcall vop iop
set_option linter.unusedVariables false
set_option linter.unusedSimpArgs false
set_option maxHeartbeats 2000000
def sc_RUuid (T0 T1 F0:Nat):SC:=.seq (.reg [⟨some 2,.alloc T0,none⟩]) (.seq (.reg [⟨some 3,.alloc T0,none⟩]) (.seq (.dreg [⟨some 4,.slice T0 (.tmp 3) none none none,none⟩,mv 5 0,⟨some 6,.call ⟨.value (.func F0),#[(.tmp 5),(.const (.int .i64 16))],#[]⟩,none⟩,⟨some 7,.call ⟨.builtin .copy,#[(.tmp 4),(.tmp 6)],#[T1,T1]⟩,none⟩] [[],[],[1],[0,2,2]]) (.seq (.reg [ld 8 T0 3,⟨none,.store T0 (.tmp 2) (.tmp 8),none⟩]) (.ret))))
section
variable {P:Program} {R:RTy} {f:FuncId} {fn:Func}
theorem dreg_op {S:World→Prop} {ops:List SOp} {i:Nat} {s:SOp} {r:List (Nat × Bool)} {K:Act→World→Prop} {a:Act} {w:World} (hs:ops[i]?=some s) (hg:s.guard=none) (h:opw P s a w (fun a' w'=>S w'∧dregw P S ops r K a' w')):dregw P S ops ((i,false) :: r) K a w:=by
  unfold dregw
  refine ⟨s,hs,?_⟩
  rw [hg]
  simpa using h
theorem opw_copy {a:Act} {w:World} {K:Act→World→Prop} {d:Option Tmp} {g:Option (Nat × Bool)} {T tU8 b n m cap:Nat} {E:TypeId} {x y:Operand} {cur:Array Value} {S:Option Nat} {base:Option Addr} {bs:Bytes} (hT:u8sB P T tU8=true) (hx:a.eval x=.slice (some ⟨b,0,none⟩) n m) (hy:a.eval y=.slice base bs.length cap) (hs:SrcAt w S base bs) (hb:w.heap[b]?=some (.cells cur E (0,0))) (hn:n≤cur.size)
    (h:K (a.put d (.int .i64 ((min bs.length n:Nat):Int))) (w.setRow b (cellsOf (bs.take (min bs.length n)) ++ cur.toList.drop (min bs.length n)).toArray)):opw P ⟨d,.call ⟨.builtin .copy,#[x,y],#[T,T]⟩,g⟩ a w K:=by
  obtain ⟨hu,i,hi,hz,hs1,_⟩:=u8s_of hT
  have hsz:(P.info? tU8).map (·.size)=some 1:=by rw [hi];simp [hs1]
  refine opw_of fun o next Q hd hop hnn=>?_
  have hop':o.op=.call ⟨.builtin .copy,#[x,y],#[T,T]⟩:=stripOp_eq (by simp) hop
  have hr:(Builtin.copy_ #[T,T] o.type #[.slice (some ⟨b,0,none⟩) n m,.slice base bs.length cap]).run P w=.ok (goInt ((min bs.length n:Nat):Int)) (w.setRow b (cellsOf (bs.take (min bs.length n)) ++ cur.toList.drop (min bs.length n)).toArray):=by
    cases S with
    | none =>
      obtain ⟨rfl,rfl⟩:=hs
      rw [run_copy_none w T T o.type tU8 _ _ _ _ _ _ hu hsz (by simp),show min ([]:Bytes).length n=0 by simp]
      simp [cellsOf,setRow_self w b cur E (0,0) hb]
    | some sb =>
      obtain ⟨q,rfl,hc⟩:=hs
      have hl:(cellsOf (bs.take (min bs.length n))).length=min bs.length n:=by rw [cLen,List.length_take];omega
      have:=run_copy_row (P:=P) w T T o.type tU8 b 0 n m ⟨sb,q,none⟩ bs.length cap cur E (cellsOf (bs.take (min bs.length n))) hu hsz hb hl (fun j v hj=>by
        rw [add_none]
        simp only [cellsOf,List.getElem?_map,Option.map_eq_some_iff] at hj
        obtain ⟨u',hu',rfl⟩:=hj
        refine hc j u' ?_
        rw [List.getElem?_take] at hu'
        split at hu'
        · exact hu'
        · cases hu') (by rw [hl];omega) (by intro v hv;simp only [cellsOf,List.mem_map] at hv;obtain ⟨u',_,rfl⟩:=hv;rfl)
      rw [this]
      simp only [List.take_zero,List.nil_append,Nat.zero_add,hl]
  have hr':(execOp a.eval o).run P w=.ok (.value (goInt ((min bs.length n:Nat):Int))) (w.setRow b (cellsOf (bs.take (min bs.length n)) ++ cur.toList.drop (min bs.length n)).toArray):=by
    simp [execOp,hop',resolve,invoke,builtin,hx,hy,hr]
  rw [hr',Oper.upon_value,hd]
  exact hnn _ _ h
theorem rUuidFn_ok {TR gb T0 T1 tU8 F0:Nat} (hm:P.follows .mixedOrders=true) (hA:arrN P T0=some 16) (hag:aggB P T0 16=true) (hz:∃ i z,P.info? T0=some i∧i.zero=some z∧z.cells=(cellsOf (List.replicate 16 0)).toArray) (hT1:u8sB P T1 tU8=true) (hSp:SpC P TR F0)
    (hf : P.funcs[f]? = some fn) (hb : fn.body.map strip = some (sc_RUuid T0 T1 F0)) (hnm : (fn.name == "runtime.NumGoroutine") = false) (hn : fn.ntmps = 9) (hr : fn.results = #[.cell 2 T0]) :
    RC P TR gb f (pPrim false false .uuid) (tyP false .uuid) (okP false .uuid):=by
  refine ⟨fnOK_of hf hb hnm,fun w S rb st hgb hrd hsrc=>?_⟩
  obtain ⟨iz,z,hiz,hzz,hzc⟩:=hz
  have hrbl:rb < w.heap.size:=RdAt.lt hrd
  refine fCa hf hb hn (by simp) fun a0 hs hd ha=>?_
  have h0:=ha 0 _ rfl
  simp only [List.getElem_toArray,List.getElem_cons_zero,List.getElem_cons_succ] at h0
  refine SC.wp_seq (SC.wp_reg (oNo rfl (opw_alloc hiz hzz (oNi ?_))))
  simp only [Exit.then]
  refine SC.wp_seq (SC.wp_reg (oNo rfl (opw_alloc hiz hzz (oNi ?_))))
  simp only [Exit.then]
  rw [hzc]
  have hn1:=heap_alloc_new w (.cells (cellsOf (List.replicate 16 0)).toArray T0)
  have hn2:=heap_alloc_new (w.alloc (.cells (cellsOf (List.replicate 16 0)).toArray T0)) (.cells (cellsOf (List.replicate 16 0)).toArray T0)
  have hsz1:(w.alloc (.cells (cellsOf (List.replicate 16 0)).toArray T0)).heap.size=w.heap.size+1:=by simp
  rw [hsz1] at hn2 ⊢
  obtain ⟨w2,hw2⟩:∃ w2,w2=(w.alloc (.cells (cellsOf (List.replicate 16 0)).toArray T0)).alloc (.cells (cellsOf (List.replicate 16 0)).toArray T0):=⟨_,rfl⟩
  rw [← hw2] at hn2 ⊢
  have hsz2:w2.heap.size=w.heap.size+2:=by rw [hw2];simp
  have hold:∀ k,k < w.heap.size→w2.heap[k]?=w.heap[k]?:=fun k hk=>by
    rw [hw2,Below.heap_alloc _ _ _ (by simp;omega),Below.heap_alloc _ _ _ hk]
  have hr2:w2.heap[w.heap.size]?=some (.cells (cellsOf (List.replicate 16 0)).toArray T0 (0,0)):=by
    rw [hw2,Below.heap_alloc _ _ _ (by simp)]
    exact hn1
  have hon2:Only rb w w2.drew:=by rw [hw2];exact (((Only.refl rb w).alloc _).alloc _).drew
  have hrd2:RdAt TR w2.drew S rb st:=RdAt.frame hrd (hold _ hrbl) fun sb h=>hold _ (hsrc sb h).2
  refine SC.wp_seq (SC.wp_dreg hm (Below 0 w2.drew) [(1,true),(0,true),(2,false),(3,false)] (by rfl) (by rfl) (by decide) (Below.refl _ _) ?_)
  iterate 2 (first | (apply dr_1;(focus rfl);(focus (simp (disch:=(try simp only [sPu]);omega) [h0,hA];try rfl))) | (apply dr_y;(focus rfl);(focus rfl);(focus ((try simp only [sPu]);omega));(focus (simp (disch:=(try simp only [sPu]);omega) [h0,hA];done));(focus (simp (disch:=(try simp only [sPu]);omega) [h0,hA];try rfl))) | (apply dr_n;(focus rfl);(focus rfl);(focus ((try simp only [sPu]);omega));(focus (first | (left;simp (disch:=(try simp only [sPu]);omega) [h0,hA];done) | (right;simp (disch:=(try simp only [sPu]);omega);done)))))
  refine dreg_call (argsV:=#[.pointer (some ⟨rb,0,none⟩),.int .i64 16]) rfl hSp.1 (hSp.2 w2.drew S rb st 16 hrd2 (fun sb h=>⟨(hsrc sb h).1,by have:=(hsrc sb h).2;show sb < w2.heap.size;omega⟩)) (by simp (disch:=(try simp only [sPu]);omega) [h0]) ?_
  rintro e w3 ⟨S',base,cap,x,rfl,m1,m2,m3,m4,m5⟩
  refine ⟨_,rfl,⟨m2.os,m2.tape,m2.output,m2.size,fun k hk=>by omega⟩,?_⟩
  have hs3:=m2.size
  have hsd:w2.drew.heap.size=w2.heap.size:=rfl
  have hr3:w3.heap[w.heap.size]?=some (.cells (cellsOf (List.replicate 16 0)).toArray T0 (0,0)):=(m2.block _ (by omega) (by omega)).trans hr2
  have hb3:w3.heap[w.heap.size+1]?=some (.cells (cellsOf (List.replicate 16 0)).toArray T0 (0,0)):=(m2.block _ (by omega) (by omega)).trans hn2
  refine dreg_op rfl rfl (opw_copy (b:=w.heap.size+1) (n:=16) (m:=16) (bs:=x) (base:=base) (cap:=cap) (cur:=(cellsOf (List.replicate 16 0)).toArray) hT1 (by simp (disch:=(try simp only [sPu]);omega)) (by simp (disch:=(try simp only [sPu]);omega)) m3 hb3 (by simp [cellsOf]) ?_)
  obtain ⟨bs,hbs⟩:∃ bs:Bytes,bs=x.take (min x.length 16) ++ (List.replicate 16 0).drop (min x.length 16):=⟨_,rfl⟩
  have hbl:bs.length=16:=by rw [hbs];simp;omega
  have hcb:(cellsOf (x.take (min x.length 16)) ++ ((cellsOf (List.replicate 16 0)).toArray).toList.drop (min x.length 16))=cellsOf bs:=by rw [hbs];simp [cellsOf]
  rw [hcb]
  obtain ⟨w4,hw4⟩:∃ w4,w4=w3.setRow (w.heap.size+1) (cellsOf bs).toArray:=⟨_,rfl⟩
  rw [← hw4]
  have hoth4:∀ k,k ≠ w.heap.size+1→w4.heap[k]?=w3.heap[k]?:=fun k hk=>by rw [hw4];exact setRow_other _ _ _ _ hk
  have hb4:w4.heap[w.heap.size+1]?=some (.cells (cellsOf bs).toArray T0 (0,0)):=by rw [hw4];exact setRow_heap _ _ _ _ _ _ hb3
  have hr4:w4.heap[w.heap.size]?=some (.cells (cellsOf (List.replicate 16 0)).toArray T0 (0,0)):=by rw [hoth4 _ (by omega)];exact hr3
  have hon4:Only rb w w4:=by rw [hw4];exact (hon2.trans m2).own (by omega) _
  refine ⟨⟨hon4.os.trans hon2.os.symm,hon4.tape.trans hon2.tape.symm,hon4.output.trans hon2.output.symm,by rw [hw4];simpa using hs3,fun k hk=>by omega⟩,dreg_nil ?_⟩
  simp only [Exit.then]
  have hlb:(cellsOf bs).length=16:=by rw [cLen];exact hbl
  refine SC.wp_seq (SC.wp_reg (oNo rfl (opw_load_agg (cs:=cellsOf bs) (b:=w.heap.size+1) (o:=0) (by rw [hlb];exact hag) (by simp (disch:=(try simp only [sPu]);omega)) (fun j v hj=>by
    rw [Nat.zero_add,cell_of_row _ _ _ _ _ _ hb4,List.getElem?_toArray];exact hj) (oNo rfl (opw_store_agg (cs:=cellsOf bs) (cur:=(cellsOf (List.replicate 16 0)).toArray) (b:=w.heap.size) (E:=T0) (by rw [hlb];exact hag) (by simp (disch:=(try simp only [sPu]);omega)) (by simp (disch:=(try simp only [sPu]);omega)) hr4 (by rw [hlb];simp [cellsOf]) (by intro v hv;simp only [cellsOf,List.mem_map] at hv;obtain ⟨u',_,rfl⟩:=hv;rfl) (oNi ?_))))))
  rw [pNo]
  simp only [Exit.then]
  refine SC.wp_ret ?_
  have hfin:=setRow_heap w4 w.heap.size _ (cellsOf bs).toArray _ _ hr4
  have hoth5:∀ k,k ≠ w.heap.size→(w4.setRow w.heap.size (cellsOf bs).toArray).heap[k]?=w4.heap[k]?:=fun k hk=>setRow_other _ _ _ _ hk
  have haft:after st (pPrim false false .uuid)=after st (pSpan 16):=by
    simp only [pPrim]
    exact after_map
  refine ret_cellAgg (cs:=cellsOf bs) (b:=w.heap.size) hr (by rw [hlb];exact hag) (by simp (disch:=(try simp only [sPu]);omega)) (fun j v hj=>by
    rw [cell_of_row _ _ _ _ _ _ hfin,List.getElem?_toArray];exact hj) (by simp [dPu,hd]) ⟨_,rfl,?_,hon4.own (Nat.le_refl _) _,⟨bs,hbl,rfl⟩,fun b t r hst hp=>?_⟩
  · rw [haft]
    exact RdAt.frame m1 (by rw [hoth5 _ (by omega),hoth4 _ (by omega)]) fun sb h=>by have:=(hsrc sb h).2;rw [hoth5 _ (by omega),hoth4 _ (by omega)]
  · intro hm
    rw [if_pos rfl]
    simp only [pPrim] at hp
    obtain ⟨s,r1,k1,k2⟩:=rThen_some hp
    obtain ⟨rfl,rfl⟩:=rOk_some k2
    obtain ⟨rfl,-⟩:=m4 b s _ hst k1
    have hl:=pSpan_facts k1
    have hx16:x.length=16:=by omega
    have e1:bs=x:=by rw [hbs,hx16,Nat.min_self,List.take_of_length_le (by omega),List.drop_of_length_le (by simp),List.append_nil]
    have e2:uuidOf (tS x)=x:=by simp [uuidOf,tS,Tree.s,List.take_append,hx16]
    rw [e1,e2]
end
end Go.Proofs.YtgaplicnofhliaaDoor.K
namespace Go.Proofs.YtgaplicnofhliaaDoor.T
mutual
def Tree.bulk:Tree→Nat
  | .mk _ s _ l u=>1+s.length+bulkL l+bulkU u
def bulkL:List Tree→Nat
  | []=>0
  | t :: r=>Tree.bulk t+bulkL r
def bulkU:List (Nat × Bytes)→Nat
  | []=>0
  | x :: r=>1+x.2.length+bulkU r
end
theorem bulk_pos (t:Tree):1≤t.bulk:=by cases t;simp only [Tree.bulk];omega
theorem bulk_mk (t:Tree):t.bulk=1+t.s.length+bulkL t.l+bulkU t.u:=by cases t;simp only [Tree.bulk,Tree.s,Tree.l,Tree.u]
theorem bulkL_head:∀ ts:List Tree,(ts.headD Tree.zero).bulk≤1+bulkL ts
  | []=>by simp [Tree.zero,Tree.bulk,bulkL,bulkU]
  | t :: r=>by simp only [List.headD_cons,bulkL];omega
theorem bulkL_tail:∀ ts:List Tree,bulkL ts.tail≤bulkL ts
  | []=>by simp
  | t :: r=>by simp only [List.tail_cons,bulkL];omega
theorem bulkL_take:∀ (n:Nat) (ts:List Tree),bulkL (ts.take n)≤bulkL ts
  | 0,ts=>by simp [bulkL]
  | n+1,[]=>by simp
  | n+1,t :: r=>by simp only [List.take_succ_cons,bulkL];have:=bulkL_take n r;omega
theorem uvl:∀ (k n:Nat),n < 128 ^ (k+1)→(uvarint n).length≤k+1
  | 0,n,h=>by rw [uvarint_le (by simpa using (by omega:n≤127))];simp
  | k+1,n,h=>by
    by_cases hn:n≤127
    · rw [uvarint_le hn];simp
    · rw [uvarint_gt hn]
      have:=uvl k (n / 128) (Nat.div_lt_of_lt_mul (by rw [Nat.pow_succ] at h;omega))
      simp only [List.length_cons]
      omega
theorem uv5 {n:Nat} (h:n < 4294967296):(uvarint n).length≤5:=uvl 4 n (Nat.lt_trans h (by decide))
theorem counted8 (flex null:Bool) (n size:Nat) (hn:n≤most) (hs:size≤8):(counted flex null n size).length≤8:=by
  have hm:most=32767:=rfl
  have:=uv5 (n:=n+1) (by omega)
  unfold counted
  split <;> split
  · simp
  · omega
  · rw [fixed_length];exact hs
  · rw [fixed_length];exact hs
theorem prim_len8 (flex null:Bool) (t:Tree) (k:PK):(wPrim flex null t k).length≤16+t.s.length∧(wPrim flex null t k).length≤32783:=by
  have hm:most=32767:=rfl
  have hw:(whole t.s).length≤t.s.length:=by simp [whole];omega
  have hw':=whole_length t.s
  have hs:(if null=true then ([]:Bytes) else whole t.s).length≤t.s.length∧(if null=true then ([]:Bytes) else whole t.s).length≤most:=by
    split
    · simp
    · exact ⟨hw,hw'⟩
  cases k <;> simp only [wPrim,PK.width,fixed_length]
  case bool=>simp;omega
  case uuid=>simp
  case str =>
    rw [List.length_append]
    have:=counted8 flex null _ 2 hs.2 (by decide)
    omega
  case bytes =>
    rw [List.length_append]
    have:=counted8 flex null _ 4 hs.2 (by decide)
    omega
  all_goals omega
theorem whole_len (b:Bytes):(whole b).length≤b.length:=by simp [whole];omega
theorem tag_len {t:Nat × Bytes} (h:t.1 < 4294967296):(wTag t).length≤10 * (1+t.2.length)∧(wTag t).length≤32777:=by
  have hm:most=32767:=rfl
  have h1:=uv5 h
  have h2:=whole_length t.2
  have h3:=uv5 (n:=(whole t.2).length) (by omega)
  have h4:=whole_len t.2
  simp only [wTag,List.length_append]
  omega
theorem ins_len (t:Nat × Bytes):∀ l:List (Nat × Bytes),bulkU (insTag t l)≤1+t.2.length+bulkU l
  | []=>by simp [insTag,bulkU]
  | x :: r=>by
    simp only [insTag]
    split
    · simp only [bulkU];have:=ins_len t r;omega
    · split
      · omega
      · simp only [bulkU];omega
theorem fold_len:∀ (l acc:List (Nat × Bytes)),bulkU (l.foldl (fun acc t=>insTag t acc) acc)≤bulkU acc+bulkU l
  | [],acc=>by simp [bulkU]
  | x :: r,acc=>by
    simp only [List.foldl_cons,bulkU]
    have h1:=fold_len r (insTag x acc)
    have h2:=ins_len x acc
    omega
theorem bulkU_take:∀ (n:Nat) (ts:List (Nat × Bytes)),bulkU (ts.take n)≤bulkU ts
  | 0,ts=>by simp [bulkU]
  | n+1,[]=>by simp
  | n+1,t :: r=>by simp only [List.take_succ_cons,bulkU];have:=bulkU_take n r;omega
theorem unknown_bulk (u:List (Nat × Bytes)):bulkU (unknown u)≤bulkU u:=by
  have h1:=fold_len (u.take most) []
  have h2:=bulkU_take most u
  simp only [bulkU] at h1
  simp only [unknown]
  omega
theorem flat_tags:∀ u:List (Nat × Bytes),(∀ x ∈ u,x.1 < 4294967296)→(u.flatMap wTag).length≤10 * bulkU u∧(u.flatMap wTag).length≤32777 * u.length
  | [],_=>by simp [bulkU]
  | x :: r,h=>by
    have h1:=tag_len (h x (by simp))
    have h2:=flat_tags r fun y hy=>h y (List.mem_cons_of_mem _ hy)
    simp only [List.flatMap_cons,List.length_append,bulkU,List.length_cons]
    omega
theorem tags_len8 (flex:Bool) (u:List (Nat × Bytes)) (h:∀ x ∈ u,x.1 < 4294967296):(wTags flex u).length≤10 * (1+bulkU u)∧(wTags flex u).length≤if flex then 1074003964 else 0:=by
  have hm:most=32767:=rfl
  cases flex
  · simp [wTags]
  · obtain ⟨_,h2,h3⟩:=unknown_facts u
    have h1:=flat_tags (unknown u) fun x hx=>h x (h2 x hx)
    have h4:=uv5 (n:=(unknown u).length) (by omega)
    have h5:=unknown_bulk u
    simp only [wTags,if_true,List.length_append]
    omega
mutual
def cTy:Ty→Nat
  | .prim _=>16
  | .list _ _ _ of=>8+cTy of
  | .struct _ _ _ _ fs=>10+cFs fs
def cFs:Fs→Nat
  | .nil=>0
  | .cons _ ty r=>1+cTy ty+cFs r
end
mutual
def mTy (flex:Bool):Ty→Nat
  | .prim k=>match k with | .str=>32783 | .bytes=>32783 | _=>32783
  | .list _ _ _ of=>8+32767 * mTy flex of
  | .struct _ _ _ _ fs=>mFs flex fs+if flex then 1074003964 else 0
def mFs (flex:Bool):Fs→Nat
  | .nil=>0
  | .cons _ ty r=>1+mTy flex ty+mFs flex r
end
theorem flat_len {w:Tree→Bytes} {c m:Nat}:∀ l:List Tree,(∀ x ∈ l,(w x).length≤c * x.bulk∧(w x).length≤m)→(l.flatMap w).length≤c * bulkL l∧(l.flatMap w).length≤l.length * m
  | [],_=>by simp
  | x :: r,h=>by
    have h1:=h x (by simp)
    have h2:=flat_len r fun y hy=>h y (List.mem_cons_of_mem _ hy)
    simp only [List.flatMap_cons,List.length_append,bulkL,List.length_cons,Nat.mul_add,Nat.add_mul,Nat.one_mul]
    omega
mutual
theorem ty_len8 (ver:Int) (flex:Bool):∀ (ty:Ty) (nul:Bool) (t:Tree),KTy ver ty t→(wTy ver flex ty nul t).length≤cTy ty * t.bulk∧(wTy ver flex ty nul t).length≤mTy flex ty
  | .prim k,nul,t,_=>by
    have h:=prim_len8 flex nul t k
    have hb:=bulk_mk t
    have hm:mTy flex (.prim k)=32783:=by cases k <;> rfl
    rw [hm]
    simp only [wTy,cTy]
    omega
  | .list a b c of,nul,t,hk=>by
    simp only [KTy] at hk
    have hmo:most=32767:=rfl
    have hb:=bulk_mk t
    simp only [wTy,cTy,mTy,List.length_append]
    have hl:(if nul=true then ([]:List Tree) else t.l.take most).length≤most∧bulkL (if nul=true then ([]:List Tree) else t.l.take most)≤bulkL t.l∧∀ x ∈ (if nul=true then ([]:List Tree) else t.l.take most),KTy ver of x:=by
      split
      · simp [bulkL]
      · exact ⟨by simp;omega,bulkL_take _ _,fun x hx=>hk x (List.mem_of_mem_take hx)⟩
    generalize (if nul=true then ([]:List Tree) else t.l.take most)=l at hl
    obtain ⟨l1,l2,l3⟩:=hl
    have h1:=counted8 flex nul l.length 4 l1 (by decide)
    have h2:=flat_len (w:=fun x=>wTy ver flex of false x) l fun x hx=>ty_len8 ver flex of false x (l3 x hx)
    have h3:cTy of * bulkL l≤cTy of * t.bulk:=Nat.mul_le_mul_left _ (by omega)
    have h4:l.length * mTy flex of≤32767 * mTy flex of:=Nat.mul_le_mul_right _ (by omega)
    rw [Nat.add_mul]
    have:=bulk_pos t
    omega
  | .struct a b c d fs,nul,t,hk=>by
    simp only [KTy] at hk
    have h1:=fs_len8 ver flex fs t.l hk.1
    have h2:=tags_len8 flex t.u hk.2
    have hb:=bulk_mk t
    simp only [wTy,cTy,mTy,List.length_append]
    have h3:cFs fs * (1+bulkL t.l)≤cFs fs * t.bulk:=Nat.mul_le_mul_left _ (by omega)
    rw [Nat.add_mul]
    omega
theorem fs_len8 (ver:Int) (flex:Bool):∀ (fs:Fs) (ts:List Tree),KFs ver fs ts→(wFs ver flex fs ts).length≤cFs fs * (1+bulkL ts)∧(wFs ver flex fs ts).length≤mFs flex fs
  | .nil,ts,_=>by simp [wFs,cFs,mFs]
  | .cons h ty r,ts,hk=>by
    simp only [KFs] at hk
    rw [wFs_cons,List.length_append]
    have h1:=fs_len8 ver flex r ts.tail hk.2
    have ht:=bulkL_tail ts
    have h2:cFs r * (1+bulkL ts.tail)≤cFs r * (1+bulkL ts):=Nat.mul_le_mul_left _ (by omega)
    simp only [cFs,mFs,Nat.add_mul,Nat.one_mul]
    by_cases hh:h.has ver=true
    · rw [if_pos hh]
      have hk1:=hk.1 hh
      have hbh:=bulkL_head ts
      generalize ts.headD Tree.zero=t at hk1 hbh
      have h3:=fun nul=>ty_len8 ver flex ty nul t hk1
      have h4:cTy ty * t.bulk≤cTy ty * (1+bulkL ts):=Nat.mul_le_mul_left _ (by omega)
      have key:(wField ver flex h ty t).length≤1+cTy ty * t.bulk∧(wField ver flex h ty t).length≤1+mTy flex ty:=by
        cases ty with
        | struct a b c d e =>
          simp only [wField]
          have:=h3 false
          split
          · split
            · simp
            · simp only [List.length_cons];omega
          · omega
        | prim k=>simp only [wField];have:=h3 (h.isNull ver t);omega
        | list a b c e=>simp only [wField];have:=h3 (h.isNull ver t);omega
      omega
    · rw [if_neg hh,List.length_nil]
      omega
end
theorem msg_len8 (ver:Int) (flex:Bool) (fs:Fs) (t:Tree) (hk:KFs ver fs t.l) (hu:∀ x ∈ t.u,x.1 < 4294967296):(wMsg ver flex fs t.l t.u).length≤(10+cFs fs) * t.bulk∧(wMsg ver flex fs t.l t.u).length≤mFs flex fs+if flex then 1074003964 else 0:=by
  have h1:=fs_len8 ver flex fs t.l hk
  have h2:=tags_len8 flex t.u hu
  have hb:=bulk_mk t
  have h3:cFs fs * (1+bulkL t.l)≤cFs fs * t.bulk:=Nat.mul_le_mul_left _ (by omega)
  simp only [wMsg,List.length_append]
  rw [Nat.add_mul]
  omega
inductive KAll:Tree→Prop where
  | mk (n:Int) (s:Bytes) (null:Bool) (l:List Tree) (u:List (Nat × Bytes)) (hl:∀ (i:Nat) (x:Tree),l[i]?=some x→KAll x) (hu:∀ x ∈ u,x.1 < 4294967296):KAll (.mk n s null l u)
theorem KAll.l {t:Tree} (h:KAll t):∀ x ∈ t.l,KAll x:=by
  cases h with
  | mk n s null l u hl hu =>
    intro x hx
    obtain ⟨i,hi⟩:=List.getElem?_of_mem hx
    exact hl i x hi
theorem KAll.u {t:Tree} (h:KAll t):∀ x ∈ t.u,x.1 < 4294967296:=by
  cases h with
  | mk n s null l u hl hu=>exact hu
theorem KAll.zero:KAll Tree.zero:=.mk _ _ _ _ _ (fun i x h=>by simp at h) (fun x h=>by cases h)
mutual
theorem kAll_ty (ver:Int):∀ (ty:Ty) (t:Tree),KAll t→KTy ver ty t
  | .prim _,t,_=>by simp [KTy]
  | .list _ _ _ of,t,h=>by simp only [KTy];exact fun x hx=>kAll_ty ver of x (h.l x hx)
  | .struct _ _ _ _ fs,t,h=>by simp only [KTy];exact ⟨kAll_fs ver fs t.l h.l,h.u⟩
theorem kAll_fs (ver:Int):∀ (fs:Fs) (ts:List Tree),(∀ x ∈ ts,KAll x)→KFs ver fs ts
  | .nil,ts,_=>by simp [KFs]
  | .cons h ty r,ts,hk=>by
    simp only [KFs]
    refine ⟨fun _=>kAll_ty ver ty _ ?_,kAll_fs ver r ts.tail fun x hx=>hk x (List.mem_of_mem_tail hx)⟩
    cases ts with
    | nil=>exact KAll.zero
    | cons t r=>exact hk t (by simp)
end
end Go.Proofs.YtgaplicnofhliaaDoor.T
namespace Go.Proofs.YtgaplicnofhliaaDoor.K
open Go Go.RowKit Go.Proofs.YtgaplicnofhliaaDoor.T
open Go.ChangeShapes Go.WideShapes Go.Deep
set_option linter.unusedSimpArgs false
set_option linter.unusedVariables false
structure BulkC {H:Type} (B:DataW H→Nat):Prop where
  one:∀ d,1≤B d
  slice:∀ es sp,1+(es.map B).sum≤B (.slice es sp)
  agg:∀ ps,1+(ps.map B).sum≤B (.agg ps)
def sl8 (P:Program) (t:TypeId):Bool:=match P.underlying t with
  | some (.slice e)=>(match P.underlying e with | some (.int .u8)=>true | _=>false) && P.cellsOf e == 1 && P.cellsOf t == 1
  | _=>false
def isK (P:Program) (t:TypeId) (k:IntKind):Bool:=(match P.underlying t with | some (.int k')=>k' == k | _=>false) && P.cellsOf t == 1
def slO (P:Program) (t e:TypeId):Bool:=(match P.underlying t with | some (.slice e')=>e' == e | _=>false) && P.cellsOf t == 1
def isBo (P:Program) (t:TypeId):Bool:=(match P.underlying t with | some .bool=>true | _=>false) && P.cellsOf t == 1
def otB (P:Program) (T Tg:TypeId):Bool :=
  P.cellsOf T == 5 && P.cellsOf Tg == 2 &&
  (match P.underlying T with
   | some (.struct fs)=>(match fs.toList with
     | [f0,f1,f2,f3,f4]=>f0.offset == 0 && f1.offset == 1 && f2.offset == 2 && f3.offset == 3 && f4.offset == 4 && isK P f0.type .i64 && sl8 P f1.type && isBo P f2.type && slO P f3.type T && slO P f4.type Tg
     | _=>false)
   | _=>false) &&
  (match P.underlying Tg with
   | some (.struct fs)=>(match fs.toList with
     | [g0,g1]=>g0.offset == 0 && g1.offset == 1 && isK P g0.type .u32 && sl8 P g1.type
     | _=>false)
   | _=>false)
theorem sl8_of {P:Program} {t:TypeId} (h:sl8 P t=true):∃ e,P.underlying t=some (.slice e)∧P.underlying e=some (.int .u8)∧P.cellsOf e=1∧P.cellsOf t=1:=by
  unfold sl8 at h
  split at h
  · rename_i e he
    simp only [Bool.and_eq_true,beq_iff_eq] at h
    obtain ⟨⟨h1,h2⟩,h3⟩:=h
    split at h1
    · rename_i h4;exact ⟨e,he,h4,h2,h3⟩
    · cases h1
  · cases h
theorem isK_of {P:Program} {t:TypeId} {k:IntKind} (h:isK P t k=true):P.underlying t=some (.int k)∧P.cellsOf t=1:=by
  simp only [isK,Bool.and_eq_true,beq_iff_eq] at h
  obtain ⟨h1,h2⟩:=h
  split at h1
  · rename_i k' hk;have:k'=k:=by simpa using h1
    subst this;exact ⟨hk,h2⟩
  · cases h1
theorem slO_of {P:Program} {t e:TypeId} (h:slO P t e=true):P.underlying t=some (.slice e)∧P.cellsOf t=1:=by
  simp only [slO,Bool.and_eq_true,beq_iff_eq] at h
  obtain ⟨h1,h2⟩:=h
  split at h1
  · rename_i k' hk;have:k'=e:=by simpa using h1
    subst this;exact ⟨hk,h2⟩
  · cases h1
theorem isBo_of {P:Program} {t:TypeId} (h:isBo P t=true):P.underlying t=some .bool∧P.cellsOf t=1:=by
  simp only [isBo,Bool.and_eq_true,beq_iff_eq] at h
  obtain ⟨h1,h2⟩:=h
  split at h1
  · rename_i hk;exact ⟨hk,h2⟩
  · cases h1
theorem sum_le {α β:Type} (f:α→Nat) (g:β→Nat):∀ (l1:List α) (l2:List β),l1.length=l2.length→(∀ (i:Nat) x y,l1[i]?=some x→l2[i]?=some y→f x≤g y)→(l1.map f).sum≤(l2.map g).sum
  | [],[],_,_=>by simp
  | x :: l1,y :: l2,hl,h=>by
    simp only [List.map_cons,List.sum_cons]
    have h0:=h 0 x y rfl rfl
    have:=sum_le f g l1 l2 (by simpa using hl) fun i a b ha hb=>h (i+1) a b (by simpa using ha) (by simpa using hb)
    omega
  | [],_ :: _,hl,_=>by simp at hl
  | _ :: _,[],hl,_=>by simp at hl
theorem bulkL_sum:∀ ts:List Tree,bulkL ts=(ts.map Tree.bulk).sum
  | []=>rfl
  | t :: r=>by simp only [bulkL,List.map_cons,List.sum_cons,bulkL_sum r]
theorem bulkU_sum:∀ ts:List (Nat × Bytes),bulkU ts=(ts.map fun x=>1+x.2.length).sum
  | []=>rfl
  | t :: r=>by simp only [bulkU,List.map_cons,List.sum_cons,bulkU_sum r]
theorem sum_ones {α:Type} (f:α→Nat) (h:∀ x,1≤f x):∀ l:List α,l.length≤(l.map f).sum
  | []=>by simp
  | x :: r=>by simp only [List.map_cons,List.sum_cons,List.length_cons];have:=h x;have:=sum_ones f h r;omega
section
variable {H:Type} {enc:TypeId × Value→H} {P:Program} {w:World} {B:DataW H→Nat}
theorem addr_of {a:Addr} {n:Nat} {cs:List Value} (h:w.cells? 0 a n=some cs) (hn:0 < n):a=⟨a.block,a.off,none⟩∧a.block < w.heap.size:=by
  obtain ⟨_,hl,hc⟩:=World.cells?_some h
  have h0:=hc 0 hn
  have e0:a.add 0=a:=by simp [Addr.add]
  rw [e0,List.getElem?_eq_getElem (by omega)] at h0
  have hs:a.spot=none∧a.block < w.heap.size:=by
    simp only [World.cell?] at h0
    split at h0
    · rename_i hb
      split at h0
      · cases h0
      · rename_i hs
        exact ⟨by cases hq:a.spot <;> simp_all,(Array.getElem?_eq_some_iff.1 hb).1⟩
    · cases h0
  refine ⟨?_,hs.2⟩
  cases a
  simp only at hs
  rw [hs.1]
theorem range_of {b o n:Nat} {cs:List Value} (h:w.cells? 0 ⟨b,o,none⟩ n=some cs):rangeV w b o n=some cs:=by
  obtain ⟨_,hl,hc⟩:=World.cells?_some h
  rw [← hl]
  refine rangeV_of cs o fun j v hj=>?_
  have hlt:j < cs.length:=(List.getElem?_eq_some_iff.1 hj).1
  rw [← hj,← hc j (by omega),add_none]
theorem open_els {t e k fuel:Nat} {cs:List Value} {x:DataW H × List MemPlace} (ht:P.underlying t=some (.slice e)) (hk:P.cellsOf e=k) (hk0:0 < k) (h:DataW.trod enc P w 0 (fun _=>true) true fuel t cs=some x) (hB:BulkC B) :
    ∃ (base:Option Addr) (cap n b o:Nat) (es:List (DataW H × List MemPlace)),fuel=n+1∧cs=[.slice base es.length cap]∧es.length≤cap∧1+(es.map fun y=>B y.1).sum≤B x.1∧(es ≠ []→base=some ⟨b,o,none⟩∧b < w.heap.size) ∧
      ∀ (i:Nat) (y:DataW H × List MemPlace),es[i]?=some y→∃ cs',rangeV w b (o+i * k) k=some cs'∧cs'.length=k∧DataW.trod enc P w 0 (fun _=>true) true n e cs'=some y:=by
  rcases DataW.trod_slice ht h with ⟨rfl,rfl⟩ | ⟨a,len,cap,elems,rest,n,rfl,rfl,rfl,hb,hl,hm,hlen,hel,hsp,hns⟩
  · cases fuel with
    | zero=>simp [DataW.trod] at h
    | succ n=>exact ⟨none,0,n,0,0,[],rfl,rfl,Nat.le_refl _,by simpa using hB.one _,fun h=>absurd rfl h,fun i y hy=>by simp at hy⟩
  · subst hk
    have hev:∀ (i:Nat) (y:DataW H × List MemPlace),elems[i]?=some y→∃ cs',w.cells? 0 (a.add (i * P.cellsOf e)) (P.cellsOf e)=some cs'∧DataW.trod enc P w 0 (fun _=>true) true n e cs'=some y:=by
      intro i y hy
      have hi:i < len:=by rw [← hlen];exact (List.getElem?_eq_some_iff.1 hy).1
      have:=hel i hi
      rw [hy] at this
      exact Option.bind_eq_some_iff.1 this
    have hsum:1+(elems.map fun y=>B y.1).sum≤B (.slice (elems.map (·.1)) (rest.map (·.1))):=by
      have:=hB.slice (elems.map (·.1)) (rest.map (·.1))
      rwa [List.map_map] at this
    refine ⟨some a,cap,n,a.block,a.off,elems,rfl,by rw [hlen],by omega,hsum,fun hne=>?_,fun i y hy=>?_⟩
    · obtain ⟨y,hy⟩:∃ y,elems[0]?=some y:=by
        cases elems with
        | nil=>exact absurd rfl hne
        | cons y r=>exact ⟨y,rfl⟩
      obtain ⟨cs',hc,_⟩:=hev 0 y hy
      rw [Nat.zero_mul,show a.add 0=a by simp [Addr.add]] at hc
      obtain ⟨e1,e2⟩:=addr_of hc hk0
      exact ⟨by rw [← e1],e2⟩
    · have ha:a=⟨a.block,a.off,none⟩:=by
        obtain ⟨y0,hy0⟩:∃ y,elems[0]?=some y:=by
          cases elems with
          | nil=>simp at hy
          | cons y r=>exact ⟨y,rfl⟩
        obtain ⟨cs',hc,_⟩:=hev 0 y0 hy0
        rw [Nat.zero_mul,show a.add 0=a by simp [Addr.add]] at hc
        exact (addr_of hc hk0).1
      obtain ⟨cs',hc,h2⟩:=hev i y hy
      rw [ha,add_none] at hc
      exact ⟨cs',range_of hc,(World.cells?_some hc).2.1,h2⟩
theorem open_u8s {t fuel:Nat} {cs:List Value} {x:DataW H × List MemPlace} (ht:sl8 P t=true) (h:DataW.trod enc P w 0 (fun _=>true) true fuel t cs=some x) (hB:BulkC B) :
    ∃ (base:Option Addr) (cap:Nat) (bs:Bytes),cs=[.slice base bs.length cap]∧bs.length≤cap∧1+bs.length≤B x.1∧BytesAt w (· < w.heap.size) base bs:=by
  obtain ⟨e,h1,h2,h3,_⟩:=sl8_of ht
  obtain ⟨base,cap,n,b,o,es,rfl,rfl,q1,q2,q3,q4⟩:=open_els h1 h3 (by decide) h hB
  obtain ⟨U,hU⟩:=choose_lt (α:=UInt8) (n:=es.length) (p:=fun i u=>w.cell? ⟨b,o+i,none⟩=some (cell u)) (fun i hi=>by
    obtain ⟨cs',c1,c2,c3⟩:=q4 i es[i] (List.getElem?_eq_getElem hi)
    obtain ⟨m,rfl,_,hwf⟩:=DataW.trod_int h2 c3
    have hbd:=bounds_u8 hwf
    obtain ⟨_,hcell⟩:=rangeV_get _ _ _ c1
    have hc:=hcell 0 _ rfl
    refine ⟨UInt8.ofNat m.toNat,?_⟩
    rw [Nat.mul_one,Nat.add_zero] at hc
    rw [hc]
    have:((UInt8.ofNat m.toNat).toNat:Int)=m:=by simp;omega
    simp only [cell,this])
  refine ⟨base,cap,(List.range es.length).map U,by simp,by simpa using q1,?_,?_⟩
  · have:=sum_ones (fun y:DataW H × List MemPlace=>B y.1) (fun y=>hB.one _) es
    simp only [List.length_map,List.length_range]
    omega
  · by_cases hne:es=[]
    · subst hne;exact .inl rfl
    · obtain ⟨e1,e2⟩:=q3 hne
      refine .inr ⟨b,o,e1,e2,fun j u hu=>?_⟩
      rw [List.getElem?_map] at hu
      obtain ⟨j',hj',rfl⟩:=Option.map_eq_some_iff.1 hu
      obtain ⟨hj1,hj2⟩:=List.getElem?_eq_some_iff.1 hj'
      rw [List.getElem_range] at hj2
      subst hj2
      exact hU j (by simpa using hj1)
theorem open_utags {t Tg g0t g1t fuel:Nat} {g0 g1:Field} {cs:List Value} {x:DataW H × List MemPlace} (ht:P.underlying t=some (.slice Tg)) (hc:P.cellsOf Tg=2) {fs:Array Field} (hs:P.underlying Tg=some (.struct fs)) (hfs:fs.toList=[g0,g1]) (o0:g0.offset=0) (o1:g1.offset=1) (k0:isK P g0.type .u32=true) (k1:sl8 P g1.type=true)
    (h:DataW.trod enc P w 0 (fun _=>true) true fuel t cs=some x) (hB:BulkC B) :
    ∃ (base:Option Addr) (cap:Nat) (u:List (Nat × Bytes)),cs=[.slice base u.length cap]∧u.length≤cap∧1+bulkU u≤B x.1∧UTagsAt w (· < w.heap.size) base u∧∀ y ∈ u,y.1 < 4294967296:=by
  obtain ⟨base,cap,n,b,o,es,rfl,rfl,q1,q2,q3,q4⟩:=open_els ht hc (by decide) h hB
  obtain ⟨hk0,hk0c⟩:=isK_of k0
  obtain ⟨_,_,_,_,hk1c⟩:=sl8_of k1
  have hf0:fs[0]?=some g0:=by rw [← Array.getElem?_toList,hfs];rfl
  have hf1:fs[1]?=some g1:=by rw [← Array.getElem?_toList,hfs];rfl
  obtain ⟨U,hU⟩:=choose_lt (α:=Nat × Bytes) (n:=es.length) (p:=fun i u=>u.1 < 4294967296∧(∃ vb vc,rangeV w b (o+i * 2) 2=some [.int .u32 (u.1:Int),.slice vb u.2.length vc]∧BytesAt w (· < w.heap.size) vb u.2∧u.2.length≤vc)∧∀ y,es[i]?=some y→1+u.2.length≤B y.1) (fun i hi=>by
    obtain ⟨cs',c1,c2,c3⟩:=q4 i es[i] (List.getElem?_eq_getElem hi)
    obtain ⟨xs,m,rfl,hx,hl,hxl,hxs⟩:=DataW.trod_struct hs c3
    have s0:=hxs 0 g0 hf0
    have s1:=hxs 1 g1 hf1
    match cs',c2 with
    | [v0,v1],_ =>
    have hsz:fs.size=2:=by rw [← Array.length_toList,hfs];rfl
    match xs,(hxl.trans hsz) with
    | [x0,x1],_ =>
    simp only [o0,o1,hk0c,hk1c,List.drop_zero,List.drop_succ_cons,List.take_succ_cons,List.take_zero,List.getElem?_cons_zero,List.getElem?_cons_succ] at s0 s1
    obtain ⟨z,e0,_,hwf⟩:=DataW.trod_int hk0 s0
    obtain ⟨vb,vc,bs,e1,p1,p2,p3⟩:=open_u8s k1 s1 hB
    have hbd:=bounds_u32 hwf
    simp only [List.cons.injEq,and_true] at e0 e1
    subst e0;subst e1
    refine ⟨(z.toNat,bs),by simp only;omega,⟨vb,vc,?_,p3,p1⟩,fun y hy=>?_⟩
    · rw [c1];simp only;rw [show ((z.toNat:Nat):Int)=z by omega]
    · rw [List.getElem?_eq_getElem hi] at hy
      cases hy
      rw [hx]
      have:=hB.agg ([x0,x1].map (·.1))
      simp only [List.map_cons,List.map_nil,List.sum_cons,List.sum_nil] at this ⊢
      omega)
  have hget:∀ (i:Nat) (y:Nat × Bytes),((List.range es.length).map U)[i]?=some y→i < es.length∧y=U i:=by
    intro j u hu
    rw [List.getElem?_map] at hu
    obtain ⟨j',hj',rfl⟩:=Option.map_eq_some_iff.1 hu
    obtain ⟨hj1,hj2⟩:=List.getElem?_eq_some_iff.1 hj'
    rw [List.getElem_range] at hj2
    subst hj2
    exact ⟨by simpa using hj1,rfl⟩
  refine ⟨base,cap,(List.range es.length).map U,by simp,by simpa using q1,?_,?_,?_⟩
  · have:=sum_le (fun x:Nat × Bytes=>1+x.2.length) (fun y:DataW H × List MemPlace=>B y.1) ((List.range es.length).map U) es (by simp) (fun i x y hx hy=>by
      obtain ⟨hi,rfl⟩:=hget i x hx
      exact (hU i hi).2.2 y hy)
    rw [bulkU_sum]
    omega
  · by_cases hne:es=[]
    · subst hne;exact .inl rfl
    · obtain ⟨e1,e2⟩:=q3 hne
      refine .inr ⟨b,o,e1,e2,fun i x hx=>?_⟩
      obtain ⟨hi,rfl⟩:=hget i x hx
      obtain ⟨p1,⟨vb,vc,p2,p3,p4⟩,_⟩:=hU i hi
      exact ⟨p1,vb,vc,p2,p3,p4⟩
  · intro y hy
    obtain ⟨i,hi⟩:=List.getElem?_of_mem hy
    obtain ⟨hi',rfl⟩:=hget i y hi
    exact (hU i hi').1
theorem open_tree {T Tg:Nat} (hot:otB P T Tg=true) (hB:BulkC B):∀ (fuel:Nat) (cs:List Value) (x:DataW H × List MemPlace),DataW.trod enc P w 0 (fun _=>true) true fuel T cs=some x →
    ∃ t,TV (fun _=>True) w (· < w.heap.size) t (.agg cs.toArray)∧KAll t∧t.bulk≤B x.1:=by
  intro fuel
  induction fuel using Nat.strongRecOn with
  | ind fuel ih =>
  intro cs x h
  simp only [otB,Bool.and_eq_true,beq_iff_eq] at hot
  obtain ⟨⟨⟨hc5,hc2⟩,hT⟩,hTg⟩:=hot
  split at hT
  · rename_i fs hfs
    split at hT
    · rename_i f0 f1 f2 f3 f4 hl5
      simp only [Bool.and_eq_true,beq_iff_eq] at hT
      obtain ⟨⟨⟨⟨⟨⟨⟨⟨⟨o0,o1⟩,o2⟩,o3⟩,o4⟩,k0⟩,k1⟩,k2⟩,k3⟩,k4⟩:=hT
      split at hTg
      · rename_i gs hgs
        split at hTg
        · rename_i g0 g1 hl2
          simp only [Bool.and_eq_true,beq_iff_eq] at hTg
          obtain ⟨⟨⟨p0,p1⟩,r0⟩,r1⟩:=hTg
          obtain ⟨hk0,hk0c⟩:=isK_of k0
          obtain ⟨_,_,_,_,hk1c⟩:=sl8_of k1
          obtain ⟨hk2,hk2c⟩:=isBo_of k2
          obtain ⟨hk3,hk3c⟩:=slO_of k3
          obtain ⟨hk4,hk4c⟩:=slO_of k4
          have hf:∀ (i:Nat) (f:Field),[f0,f1,f2,f3,f4][i]?=some f→fs[i]?=some f:=fun i f hf=>by rw [← Array.getElem?_toList,hl5];exact hf
          obtain ⟨xs,m,rfl,rfl,hl,hxl,hxs⟩:=DataW.trod_struct hfs h
          rw [hc5] at hl
          have hsz:fs.size=5:=by rw [← Array.length_toList,hl5];rfl
          have s0:=hxs 0 f0 (hf 0 f0 rfl)
          have s1:=hxs 1 f1 (hf 1 f1 rfl)
          have s2:=hxs 2 f2 (hf 2 f2 rfl)
          have s3:=hxs 3 f3 (hf 3 f3 rfl)
          have s4:=hxs 4 f4 (hf 4 f4 rfl)
          match cs,hl with
          | [v0,v1,v2,v3,v4],_ =>
          match xs,(hxl.trans hsz) with
          | [x0,x1,x2,x3,x4],_ =>
          simp only [o0,o1,o2,o3,o4,hk0c,hk1c,hk2c,hk3c,hk4c,List.drop_zero,List.drop_succ_cons,List.take_succ_cons,List.take_zero,List.getElem?_cons_zero,List.getElem?_cons_succ] at s0 s1 s2 s3 s4
          obtain ⟨z,e0,_,_⟩:=DataW.trod_int hk0 s0
          obtain ⟨sb,sc,bs,e1,a1,a2,a3⟩:=open_u8s k1 s1 hB
          obtain ⟨bo,e2,_⟩:=DataW.trod_bool hk2 s2
          obtain ⟨ub,uc,u,e4,u1,u2,u3,u4⟩:=open_utags hk4 hc2 hgs hl2 p0 p1 r0 r1 s4 hB (g0t:=0) (g1t:=0)
          obtain ⟨lb,lc,n,b,o,es,rfl,e3,q1,q2,q3,q4⟩:=open_els hk3 hc5 (by decide) s3 hB
          simp only [List.cons.injEq,and_true] at e0 e1 e2 e3 e4
          subst e0;subst e1;subst e2;subst e3;subst e4
          obtain ⟨TT,hTT⟩:=choose_lt (α:=Tree × List Value) (n:=es.length) (p:=fun i z=>rangeV w b (o+i * 5) 5=some z.2∧TV (fun _=>True) w (· < w.heap.size) z.1 (.agg z.2.toArray)∧KAll z.1∧∀ y,es[i]?=some y→z.1.bulk≤B y.1) (fun i hi=>by
            obtain ⟨cs',c1,c2,c3⟩:=q4 i es[i] (List.getElem?_eq_getElem hi)
            obtain ⟨t,t1,t2,t3⟩:=ih n (by omega) cs' _ c3
            exact ⟨(t,cs'),c1,t1,t2,fun y hy=>by rw [List.getElem?_eq_getElem hi] at hy;cases hy;exact t3⟩)
          have hget:∀ (i:Nat) (y:Tree),((List.range es.length).map fun i=>(TT i).1)[i]?=some y→i < es.length∧y=(TT i).1:=by
            intro j u hu
            rw [List.getElem?_map] at hu
            obtain ⟨j',hj',rfl⟩:=Option.map_eq_some_iff.1 hu
            obtain ⟨hj1,hj2⟩:=List.getElem?_eq_some_iff.1 hj'
            rw [List.getElem_range] at hj2
            subst hj2
            exact ⟨by simpa using hj1,rfl⟩
          refine ⟨.mk z bs bo ((List.range es.length).map fun i=>(TT i).1) u,?_,?_,?_⟩
          · have htv:=TV.mk (G:=fun _=>True) (w:=w) (F:=fun k=>k < w.heap.size) z bs bo ((List.range es.length).map fun i=>(TT i).1) u sb lb ub sc lc uc b o (fun i=>(TT i).2) a3 a1 (by simpa using q1) u1
              (fun hne=>q3 (by intro e;subst e;exact hne rfl)) (fun i hi=>(hTT i (by simpa using hi)).1)
              (fun i x hx=>by obtain ⟨hi,rfl⟩:=hget i x hx;exact (hTT i hi).2.1) trivial u3
            simpa [treV] using htv
          · exact .mk _ _ _ _ _ (fun i x hx=>by obtain ⟨hi,rfl⟩:=hget i x hx;exact (hTT i hi).2.2.1) u4
          · have hsum:=sum_le Tree.bulk (fun y:DataW H × List MemPlace=>B y.1) ((List.range es.length).map fun i=>(TT i).1) es (by simp) (fun i x y hx hy=>by
              obtain ⟨hi,rfl⟩:=hget i x hx
              exact (hTT i hi).2.2.2 y hy)
            have hag:=hB.agg ([x0,x1,x2,x3,x4].map (·.1))
            simp only [List.map_cons,List.map_nil,List.sum_cons,List.sum_nil] at hag
            simp only [Tree.bulk,bulkL_sum]
            simp only [List.map_cons,List.map_nil]
            have:=hB.one x0.1
            have:=hB.one x2.1
            omega
        · cases hTg
      · cases hTg
    · cases hT
  · cases hT
end
end Go.Proofs.YtgaplicnofhliaaDoor.K
namespace Go.Proofs.YtgaplicnofhliaaDoor.K
open Go Go.RowKit Go.Proofs.YtgaplicnofhliaaDoor.T
def zeroB (P:Program) (T:Nat) (q:List Value→Bool):Bool:=match P.info? T with
  | some i=>(match i.zero with
    | some z=>q z.cells.toList
    | none=>false)
  | none=>false
theorem zeroB_of {P:Program} {T:Nat} {q:List Value→Bool} (h:zeroB P T q=true):∃ i z,P.info? T=some i∧i.zero=some z∧q z.cells.toList=true:=by
  unfold zeroB at h
  split at h
  · rename_i i hi
    split at h
    · rename_i z hz
      exact ⟨i,z,hi,hz,h⟩
    · cases h
  · cases h
theorem info_ex {P:Program} {T:Nat} (h:zeroB P T (fun _=>true)=true):∃ i z,P.info? T=some i∧i.zero=some z:=by
  obtain ⟨i,z,h1,h2,_⟩:=zeroB_of h
  exact ⟨i,z,h1,h2⟩
def isNilMap:List Value→Bool
  | [.map none]=>true
  | _=>false
theorem info_ex2 {P:Program} {T:Nat} (h:zeroB P T isNilMap=true):∃ i z,P.info? T=some i∧i.zero=some z∧z.cells=#[.map none]:=by
  obtain ⟨i,z,h1,h2,h3⟩:=zeroB_of h
  refine ⟨i,z,h1,h2,?_⟩
  unfold isNilMap at h3
  split at h3
  · rename_i e
    rw [← Array.toArray_toList (xs:=z.cells),e]
  · cases h3
def isZ8:List Value→Bool
  | []=>true
  | .int .u8 0 :: r=>isZ8 r
  | _=>false
theorem isZ8_of:∀ l:List Value,isZ8 l=true→l=cellsOf (List.replicate l.length 0)
  | [],_=>rfl
  | v :: r,h=>by
    unfold isZ8 at h
    split at h
    · rename_i e;cases e
    · rename_i r' e
      cases e
      have:=isZ8_of r h
      rw [List.length_cons,List.replicate_succ]
      simp only [cellsOf,List.map_cons] at this ⊢
      rw [← this]
      rfl
    · cases h
theorem info_ex3 {P:Program} {T:Nat} (h:zeroB P T (fun l=>isZ8 l && l.length == 16)=true):∃ i z,P.info? T=some i∧i.zero=some z∧z.cells=(cellsOf (List.replicate 16 0)).toArray:=by
  obtain ⟨i,z,h1,h2,h3⟩:=zeroB_of h
  simp only [Bool.and_eq_true,beq_iff_eq] at h3
  refine ⟨i,z,h1,h2,?_⟩
  have:=isZ8_of _ h3.1
  rw [h3.2] at this
  rw [← Array.toArray_toList (xs:=z.cells),this]
def isZTag:List Value→Bool
  | [.int .u32 0,.slice none 0 0]=>true
  | _=>false
theorem tagT_of {P:Program} {X:STy} (h1:aggB P X.Tg 2=true) (h2:P.underlying X.Tgs=some (.slice X.Tg)) (h3:zeroB P X.Tg isZTag=true) (h4:(match P.info? X.Tg with | some i=>i.size == 2 && decide (i.bytes≤1000) | none=>false)=true)
    (h5:P.built X.Tg []=some #[.int .u32 0,.slice none 0 0]):TagT P X:=by
  refine ⟨h1,h2,?_,h5⟩
  obtain ⟨i,z,q1,q2,q3⟩:=zeroB_of h3
  rw [q1] at h4
  simp only [Bool.and_eq_true,beq_iff_eq,decide_eq_true_eq] at h4
  refine ⟨i,z,q1,q2,?_,h4.1,h4.2⟩
  unfold isZTag at q3
  split at q3
  · rename_i e
    rw [← Array.toArray_toList (xs:=z.cells),e]
  · cases q3
def zcOf (P:Program) (T:TypeId):Array Value :=
  match (P.info? T).bind (·.zero) with
  | some z=>z.cells
  | none=>#[]
theorem zc_of {P:Program} {T:TypeId} (h:((P.info? T).bind (·.zero)).isSome=true):∃ i z,P.info? T=some i∧i.zero=some z∧z.cells=zcOf P T:=by
  obtain ⟨z,hz⟩:=Option.isSome_iff_exists.1 h
  obtain ⟨i,hi,hz'⟩:=Option.bind_eq_some_iff.1 hz
  exact ⟨i,z,hi,hz',by simp [zcOf,hz]⟩
end Go.Proofs.YtgaplicnofhliaaDoor.K
