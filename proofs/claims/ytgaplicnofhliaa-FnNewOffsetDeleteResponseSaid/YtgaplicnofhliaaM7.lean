/- Generic texts: S13 S16 S17 S19 S20. No condition. -/
import Derived.Test.YtgaplicnofhliaaM6
import Derived.Great.BuildSlice
namespace Go.Proofs.Ytgaplicnofhliaa.K
open Go Go.RowKit Go.Proofs.Ytgaplicnofhliaa.T
attribute [local simp] eTm eCo pNo gTp gTn qv qcall vop iop
set_option linter.unusedSimpArgs false
set_option linter.unusedVariables false
set_option maxHeartbeats 4000000
mutual
def defT (h:Hd):Ty→Tree
  | .struct _ _ _ _ fs=>.mk h.dflt [] (decide (0≤h.null)) (defL fs) []
  | .prim _=>.mk h.dflt [] (decide (0≤h.null)) [] []
  | .list _ _ _ _=>.mk h.dflt [] (decide (0≤h.null)) [] []
def defL:Fs→List Tree
  | .nil=>[]
  | .cons h ty r=>defT h ty :: defL r
end
theorem defL_len:∀ fs,(defL fs).length=Fs.len fs
  | .nil=>by simp [defL,Fs.len]
  | .cons h ty r=>by simp [defL,Fs.len,defL_len r]
theorem defL_at:∀ (j:Nat) (fs:Fs) (h:Hd) (ty:Ty) (r:Fs),Fs.drop j fs=.cons h ty r→(defL fs)[j]?=some (defT h ty)
  | 0,fs,h,ty,r,e=>by
    simp only [Fs.drop] at e
    subst e
    simp [defL]
  | j+1,.nil,h,ty,r,e=>by simp [Fs.drop] at e
  | j+1,.cons h' ty' r',h,ty,r,e=>by
    simp only [Fs.drop] at e
    simp only [defL,List.getElem?_cons_succ]
    exact defL_at j r' h ty r e
section
variable {G:List (Nat × Bytes)→Prop} {P:Program} {X:STy} {f:FuncId} {fn:Func}
def DefC (G:List (Nat × Bytes)→Prop) (P:Program) (f:FuncId) (fs:Fs):Prop :=
  ∀ (w:World) (fv:Value),FsV w (· < w.heap.size) fs fv→Calls P f #[fv] w fun e w'=>∃ v,e=.returned v∧TV G w' (fun k=>w.heap.size≤k∧k < w'.heap.size) (.mk 0 [] false (defL fs) []) v∧Below w.heap.size w w'
def SubD (C:Fs→Prop):Ty→Prop
  | .struct _ _ _ _ fs=>C fs
  | _=>True
def SubsD (C:Fs→Prop):Fs→Prop
  | .nil=>True
  | .cons _ ty r=>SubD C ty∧SubsD C r
theorem subsD_drop {C:Fs→Prop}:∀ (i:Nat) (fs:Fs),SubsD C fs→SubsD C (Fs.drop i fs)
  | 0,fs,h=>by simpa [Fs.drop] using h
  | i+1,.nil,_=>by simp [Fs.drop,SubsD]
  | i+1,.cons h ty r,hh=>by
    simp only [SubsD] at hh
    simp only [Fs.drop]
    exact subsD_drop i r hh.2
structure TreeT (P:Program) (X:STy):Prop where
  info:∃ i,P.info? X.T=some i∧i.zero=some zeroTV∧i.size=5∧i.bytes≤1000
  row:P.underlying X.Ts=some (.slice X.T)
  agg:aggB P X.T 5=true
  built:∀ (n:Int) (b:Bool),P.built X.T [(0,.int .i64 n),(2,.bool b)]=some #[.int .i64 n,.slice none 0 0,.bool b,.slice none 0 0,.slice none 0 0]
  fld:∃ fields fl,P.underlying X.T=some (.struct fields)∧fields.toList[3]?=some fl∧fl.offset=3∧(∃ i,P.info? fl.type=some i∧i.size=1)∧oneB P fl.type=true
theorem rows_get (rows:List (List Value)) (k:Nat) (hk:∀ r ∈ rows,r.length=k) (i:Nat) (r:List Value) (hi:rows[i]?=some r) (j:Nat) (v:Value) (hj:r[j]?=some v):rows.flatten[i * k+j]?=some v:=by
  induction rows generalizing i with
  | nil=>simp at hi
  | cons x rows ih =>
    have hx:x.length=k:=hk x List.mem_cons_self
    cases i with
    | zero =>
      simp at hi
      subst hi
      rw [List.flatten_cons,Nat.zero_mul,Nat.zero_add,List.getElem?_append_left (by rw [List.getElem?_eq_some_iff] at hj;obtain ⟨h,_⟩:=hj;exact h)]
      exact hj
    | succ i =>
      simp at hi
      rw [List.flatten_cons,List.getElem?_append_right (by rw [hx,Nat.succ_mul];omega),hx,show (i+1) * k+j - k=i * k+j by rw [Nat.succ_mul];omega]
      exact ih (fun r hr=>hk r (List.mem_cons_of_mem _ hr)) i hi
theorem opw_field3 (hT:TreeT P X) {a:Act} {w:World} {K:Act→World→Prop} {d:Option Tmp} {g:Option (Nat × Bool)} {x:Operand} {n:Int} {s l u:Value} {b:Bool} (hx:a.eval x=treV n s b l u) (h1:l.oneCell'=true) (h:K (a.put d l) w) :
    opw P ⟨d,.field X.T x 3,g⟩ a w K:=by
  obtain ⟨fields,fl,hu,hfl,hoff,⟨i,hi,hsz⟩,hone⟩:=hT.fld
  have hfl':fields[3]?=some fl:=by simpa using hfl
  refine oVa (v:=l) (by simp) (fun p hp=>?_) h
  have h0:=run_isAgg_one (P:=P) (w:=w) hone
  simp [execOp,hp,hx,Instr.field,run_underlying hu,hfl',treV,asAgg,part,sizeOf,typeInfo,hi,hsz,hoff,h0]
theorem opw_buildT (hT:TreeT P X) {a:Act} {w:World} {K:Act→World→Prop} {d:Option Tmp} {g:Option (Nat × Bool)} {x:Operand} {n:Int} {s l u:Value} {b:Bool} (hx:a.eval x=treV n s b l u) (h1:s.oneCell'=true) (h2:l.oneCell'=true) (h3:u.oneCell'=true)
    (h:K (a.put d (.slice (some ⟨w.heap.size,0,none⟩) 1 1)) (w.alloc (.cells #[.int .i64 n,s,.bool b,l,u] X.T))):opw P ⟨d,.buildSlice X.Ts 1 #[(0,x)],g⟩ a w K:=by
  obtain ⟨i,hi,hz,hsz,_⟩:=hT.info
  refine oVa (v:=.slice (some ⟨w.heap.size,0,none⟩) 1 1) (w':=w.alloc (.cells #[.int .i64 n,s,.bool b,l,u] X.T)) (by simp) (fun p hp=>?_) h
  have hr:=run_buildSlice (P:=P) w X.Ts X.T 1 #[(0,treV n s b l u)] #[.int .i64 n,s,.bool b,l,u] i zeroTV hT.row hi hz (by rw [hsz];decide) (by rw [hsz];decide) (by
    rw [hsz]
    have hz5:∀ (zf:Nat→Value),(Array.range (1 * 5)).map zf=#[zf 0,zf 1,zf 2,zf 3,zf 4]:=fun zf=>Array.ext' (by simp [Array.toList_map,Array.toList_range,List.range,List.range.loop])
    rw [hz5]
    simp [Instr.fill,treV,Value.cells])
  simp only [execOp,hp]
  simp [hx,hr]
theorem opw_appendT (hT:TreeT P X) {a:Act} {w:World} {K:Act→World→Prop} {d:Option Tmp} {g:Option (Nat × Bool)} {x y:Operand} {B j:Nat} {lv:Value} {cells r:List Value} {ad:Addr} {ts:Array TypeId} (hts:ts=#[X.Ts,X.Ts]) (hx:a.eval x=lv) (hy:a.eval y=.slice (some ad) 1 1) (ho:w.ownsRow B X.T 5 lv j cells) (hB:B≤w.heap.size) (hj:j < 4294967296)
    (hr:r.length=5) (hrc:∀ i v,r[i]?=some v→w.cell? (ad.add i)=some v) (hr1:∀ v ∈ r,v.oneCell'=true)
    (h:∀ lv' w',w'.ownsRow B X.T 5 lv' (j+1) (cells ++ r)→w.grownBy w' lv.ownBlock→(lv'.ownBlock=lv.ownBlock∨∃ b,lv'.ownBlock=some b∧w.heap.size≤b)→K (a.put d lv') w'):opw P ⟨d,.call ⟨.builtin .append,#[x,y],ts⟩,g⟩ a w K:=by
  subst hts
  obtain ⟨i,hi,hz,hsz,hby⟩:=hT.info
  have hb:(j+1) * i.bytes≤140737488355328:=Nat.le_trans (Nat.mul_le_mul (show j+1≤4294967296 by omega) hby) (by decide)
  refine opw_of fun o next Q hd hop hn=>?_
  obtain ⟨v',w',hr,h2,h3,h4⟩:=run_append_src2 (P:=P) w B X.Ts X.Ts o.type X.T i zeroTV 5 i.bytes hT.row hi hz hsz rfl rfl (by decide) lv j cells ho (.slice (some ad) 1 1) 1 r (Src.ofSlice w hT.row ad 1 1 r (by omega) hrc hr1) (by simp only [maxLen];omega) hb hB
  have hop':o.op=.call ⟨.builtin .append,#[x,y],#[X.Ts,X.Ts]⟩:=stripOp_eq (by simp) hop
  have hr':(execOp a.eval o).run P w=.ok (.value v') w':=by
    simp [execOp,hop',resolve,invoke,builtin,hx,hy,hr]
  rw [hr',Oper.upon_value,hd]
  exact hn _ _ (h v' w' h2 h3 h4)
def Rows (G:List (Nat × Bytes)→Prop) (X:STy) (fs:Fs) (w0 w:World) (lv:Value) (j:Nat):Prop :=
  ∃ (rows:List (List Value)) (F:Nat→Prop),w.ownsRow (w0.heap.size+2) X.T 5 lv j rows.flatten∧rows.length=j∧(∀ r ∈ rows,r.length=5) ∧
    (∀ (i:Nat) (r:List Value) (x:Tree),rows[i]?=some r→(defL fs)[i]?=some x→TV G w F x (.agg r.toArray))∧(∀ k,F k→w0.heap.size+2≤k∧k < w.heap.size∧lv.ownBlock ≠ some k)
theorem Rows.keep {fs:Fs} {w0 w w':World} {lv:Value} {j:Nat} (h:Rows G X fs w0 w lv j) (hb:∀ k,w0.heap.size+2≤k→k < w.heap.size→w'.heap[k]?=w.heap[k]?) (hs:w.heap.size≤w'.heap.size):Rows G X fs w0 w' lv j:=by
  obtain ⟨rows,F,h1,h2,h3,h4,h5⟩:=h
  refine ⟨rows,F,⟨h1.1,h1.2.imp id ?_⟩,h2,h3,fun i r x hi hx=>(h4 i r x hi hx).mono (fun _ h=>h) (fun k hk=>hb k (h5 k hk).1 (h5 k hk).2.1),fun k hk=>⟨(h5 k hk).1,Nat.lt_of_lt_of_le (h5 k hk).2.1 hs,(h5 k hk).2.2⟩⟩
  rintro ⟨g,cap,cur,q1,q2,q3,q4⟩
  exact ⟨g,cap,cur,q1,q2,by rw [hb g q2 (Array.getElem?_eq_some_iff.1 q3).1];exact q3,q4⟩
theorem default_ok (hX:stOK P X=true) (hTF:arrB P X.F 8=true) (hT:TreeT P X) (h0G:G []) (oD:FnOK P f) (hf:P.funcs[f]?=some fn) (hb:fn.body.map strip=some (sc_SDefault X.T X.Fs X.I X.F X.I64 X.Ts f)) (hn:fn.ntmps=35) (hr:fn.results=#[.cell 2 X.T])
    (fs:Fs) (hlen63:Fs.len fs < 4294967296) (cP:SubsD (DefC G P f) fs):DefC G P f fs:=by
  intro w fv hfv
  have hst:=st_facts hX
  obtain ⟨hTF1,iF,zF,hiF,hzF,hzFs⟩:=arr_of hTF
  obtain ⟨iT,hiT,hzT,hszT,hbyT⟩:=hT.info
  obtain ⟨fb,fcap,rfl,hfs⟩:=hfv
  refine fCa hf hb hn (by simp) fun a0 hs hd ha=>?_
  have h0:=ha 0 _ rfl
  simp only [List.getElem_toArray,List.getElem_cons_zero,List.getElem_cons_succ] at h0
  refine SC.wp_seq (SC.wp_reg (oNo rfl (opw_alloc hiT hzT (oNi ?_))))
  refine SC.wp_seq (SC.wp_reg (oNo rfl (opw_alloc hiT hzT (oNi ?_))))
  have hh2:((w.alloc (.cells zeroTV.cells X.T)).alloc (.cells zeroTV.cells X.T)).heap[w.heap.size]?=some (.cells #[.int .i64 0,.slice none 0 0,.bool false,.slice none 0 0,.slice none 0 0] X.T (0,0)):=by
    rw [Below.heap_alloc _ _ _ (by simp)];exact heap_alloc_new w _
  have hh3:((w.alloc (.cells zeroTV.cells X.T)).alloc (.cells zeroTV.cells X.T)).heap[w.heap.size+1]?=some (.cells #[.int .i64 0,.slice none 0 0,.bool false,.slice none 0 0,.slice none 0 0] X.T (0,0)):=by
    have:=heap_alloc_new (w.alloc (.cells zeroTV.cells X.T)) (.cells zeroTV.cells X.T)
    rw [show (w.alloc (.cells zeroTV.cells X.T)).heap.size=w.heap.size+1 by simp] at this
    exact this
  have hbw:Below w.heap.size w ((w.alloc (.cells zeroTV.cells X.T)).alloc (.cells zeroTV.cells X.T)):=((Below.refl _ _).alloc (Nat.le_refl _) _).alloc (by simp) _
  have hsz:((w.alloc (.cells zeroTV.cells X.T)).alloc (.cells zeroTV.cells X.T)).heap.size=w.heap.size+2:=by simp
  rw [show (w.alloc (.cells zeroTV.cells X.T)).heap.size=w.heap.size+1 by simp]
  generalize (w.alloc (.cells zeroTV.cells X.T)).alloc (.cells zeroTV.cells X.T)=w1 at *
  refine SC.wp_seq (SC.wp_seq (SC.wp_reg ?_))
  repeat (apply ops_1;(focus (simp (disch:=(try simp only [sPu]);omega) [hst,h0];try rfl)))
  refine oNi ?_
  simp only [Exit.then]
  refine SC.wp_block (SC.wp_loop (fun a4 w5=>∃ (j:Nat) (lv:Value),a4.tmps.size=35∧a4.defers=[]∧getT a4 2=.pointer (some ⟨w.heap.size,0,none⟩)∧getT a4 3=.pointer (some ⟨w.heap.size+1,0,none⟩)∧getT a4 7=.slice fb (Fs.len fs) fcap∧getT a4 8=.int .i64 (Fs.len fs:Int)∧getT a4 9=.int .i64 (j:Int)∧j≤Fs.len fs ∧
      w5.heap[w.heap.size]?=some (.cells #[.int .i64 0,.slice none 0 0,.bool false,.slice none 0 0,.slice none 0 0] X.T (0,0))∧w5.heap[w.heap.size+1]?=some (.cells #[.int .i64 0,.slice none 0 0,.bool false,lv,.slice none 0 0] X.T (0,0))∧Rows G X fs w w5 lv j∧Below w.heap.size w w5∧w.heap.size+2≤w5.heap.size)
    (fun a4 _=>match getT a4 9 with | .int _ m=>(Fs.len fs - m).toNat | _=>0) ⟨0,.slice none 0 0,by simp [sPu,hs],by simp [dPu,hd],by simp (disch:=(try simp only [sPu]);omega),by simp (disch:=(try simp only [sPu]);omega),by simp (disch:=(try simp only [sPu]);omega),by simp (disch:=(try simp only [sPu]);omega),by simp (disch:=(try simp only [sPu]);omega),by omega,hh2,hh3,⟨[],fun _=>False,World.ownsRow_nil _ _ _ _,rfl,by simp,by simp,fun k h=>h.elim⟩,hbw,by omega⟩ ?_)
  rintro a4 w5 ⟨j,lv,q,qd,q2,q3,q7,q8,q9,hj,p2,p3,hR,hb5,hsz5⟩
  refine SC.wp_seq (SC.wp_reg ?_)
  repeat (apply ops_1;(focus (simp (disch:=(try simp only [sPu]);omega) [hst,q8,q9];try rfl)))
  refine oNi ?_
  simp only [Exit.then]
  refine SC.wp_seq (SC.wp_cond (t:=decide ((j:Int) < (Fs.len fs:Int))) (by simp (disch:=(try simp only [sPu]);omega)) ?_)
  cases e1:decide ((j:Int) < (Fs.len fs:Int))
  · have hje:j=Fs.len fs:=by simp at e1;omega
    subst hje
    rw [if_neg (by simp)]
    refine SC.wp_exit ?_
    simp only [Exit.then,Exit.inBlock,if_true]
    have hc3:∀ i,w5.cell? ⟨w.heap.size+1,i,none⟩=#[Value.int .i64 0,.slice none 0 0,.bool false,lv,.slice none 0 0][i]?:=fun i=>cell_of_row _ _ _ _ _ _ p3
    have hT5:rangeV w5 (w.heap.size+1) 0 5=some [.int .i64 0,.slice none 0 0,.bool false,lv,.slice none 0 0]:=by simp [rangeV,hc3]
    refine SC.wp_seq (SC.wp_reg ?_)
    iterate 1 (apply ops_1;(focus (simp (disch:=(try simp only [sPu]);omega) [hst,q3,hT5];try rfl)))
    obtain ⟨rows,F,o1,o2,o3,o4,o5⟩:=hR
    have hlv1:lv.oneCell'=true:=by rcases o1.2 with ⟨rfl,_⟩ | ⟨g,cap,cur,rfl,_⟩ <;> rfl
    refine oNo rfl (opw_store_agg (b:=w.heap.size) (cs:=[.int .i64 0,.slice none 0 0,.bool false,lv,.slice none 0 0]) hT.agg (by simp (disch:=(try simp only [sPu]);omega) [q2]) (by simp (disch:=(try simp only [sPu]);omega)) p2 rfl (by
      intro v hv
      simp only [List.mem_cons,List.not_mem_nil,or_false] at hv
      rcases hv with rfl | rfl | rfl | rfl | rfl <;> first | rfl | exact hlv1) (oNi (SC.wp_ret ?_)))
    have hnew:=setRow_heap w5 w.heap.size _ #[.int .i64 0,.slice none 0 0,.bool false,lv,.slice none 0 0] _ _ p2
    have hbn:Below w.heap.size w (w5.setRow w.heap.size #[.int .i64 0,.slice none 0 0,.bool false,lv,.slice none 0 0]):=below_setRow hb5 (Nat.le_refl _) _
    have hoth:∀ k,w.heap.size < k→(w5.setRow w.heap.size #[.int .i64 0,.slice none 0 0,.bool false,lv,.slice none 0 0]).heap[k]?=w5.heap[k]?:=fun k hk=>setRow_other _ _ _ _ (by omega)
    have hsn:(w5.setRow w.heap.size #[.int .i64 0,.slice none 0 0,.bool false,lv,.slice none 0 0]).heap.size=w5.heap.size:=by simp
    have hpt:getT a4 2=.pointer (some ⟨w.heap.size,0,none⟩):=q2
    refine ret_cell hr (by simp [hst]) (b:=w.heap.size) (by simp (disch:=(try simp only [sPu]);omega) [q2]) hnew (by simp [dPu,qd]) ⟨_,rfl,?_,hbn⟩
    generalize (w5.setRow w.heap.size #[.int .i64 0,.slice none 0 0,.bool false,lv,.slice none 0 0])=w6 at *
    have hlen:=defL_len fs
    have hTVs:∀ (i:Nat) (x:Tree),(defL fs)[i]?=some x→∃ r:List Value,rows[i]?=some r∧TV G w6 (fun k=>w.heap.size≤k∧k < w6.heap.size) x (.agg r.toArray):=by
      intro i x hx
      have hi:i < rows.length:=by
        have:=(List.getElem?_eq_some_iff.1 hx).1
        omega
      refine ⟨rows[i],List.getElem?_eq_getElem hi,(o4 i _ x (List.getElem?_eq_getElem hi) hx).mono (fun k hk=>?_) (fun k hk=>hoth k ?_)⟩
      · have:=o5 k hk
        omega
      · have:=o5 k hk
        omega
    have main:∀ (base:Option Addr) (cap b:Nat),lv=.slice base (Fs.len fs) cap→Fs.len fs≤cap→(defL fs ≠ []→base=some ⟨b,0,none⟩∧(w.heap.size≤b∧b < w6.heap.size))→(∀ i,i < (defL fs).length→rangeV w6 b (0+i * 5) 5=some (rows.getD i [])) →
        TV G w6 (fun k=>w.heap.size≤k∧k < w6.heap.size) (.mk 0 [] false (defL fs) []) (.agg #[.int .i64 0,.slice none 0 0,.bool false,lv,.slice none 0 0]):=by
      intro base cap b z1 z2 z3 z4
      have:=TV.mk (G:=G) (w:=w6) (F:=fun k=>w.heap.size≤k∧k < w6.heap.size) 0 [] false (defL fs) [] none base none 0 cap 0 b 0 (fun i=>rows.getD i []) (.inl rfl) (Nat.le_refl _) (by rw [hlen];exact z2) (Nat.le_refl _) z3 z4 (fun i x hx=>by
        obtain ⟨r,hr1,hr2⟩:=hTVs i x hx
        have:rows.getD i []=r:=by simp [List.getD,hr1]
        show TV G w6 _ x (.agg (rows.getD i []).toArray)
        rw [this]
        exact hr2) h0G (.inl rfl)
      rw [hlen] at this
      rw [z1]
      exact this
    rcases o1.2 with ⟨hlv,h00⟩ | ⟨g,cap,cur,hlv,hBg,hg,hnc,hcm,hcs,htake⟩
    · rw [h00] at hlen
      have hnil:defL fs=[]:=List.eq_nil_of_length_eq_zero hlen
      exact main none 0 0 (by rw [hlv,h00]) (by omega) (fun h=>absurd hnil h) (fun i hi=>by rw [hnil] at hi;simp at hi)
    · refine main (some ⟨g,0,none⟩) cap g hlv hnc (fun _=>⟨rfl,by omega,?_⟩) (fun i hi=>?_)
      · have:=(Array.getElem?_eq_some_iff.1 hg).1
        omega
      · have hir:i < rows.length:=by omega
        have hri:rows.getD i []=rows[i]:=by simp [List.getD,List.getElem?_eq_getElem hir]
        have hr5:rows[i].length=5:=o3 _ (List.getElem_mem hir)
        rw [hri,← hr5]
        refine rangeV_of _ _ (fun k v hv=>?_)
        rw [World.cell?_of_block (w:=w5) (a:=⟨g,_,none⟩) (hoth g (by omega))]
        have hfl:=rows_get rows 5 o3 i _ (List.getElem?_eq_getElem hir) k v hv
        have hcl:=World.ownsRow.cells o1 (g:=g) (by rw [hlv];rfl) _ v hfl
        rw [add_none] at hcl
        rw [← hcl,hr5]
        simp
  · have hjl:j < Fs.len fs:=by simp at e1;omega
    rw [if_pos rfl]
    refine SC.wp_skip ?_
    simp only [Exit.then]
    obtain ⟨h,ty,hdrop⟩:=drop_cons j fs hjl
    rcases hfs with hfs | ⟨b,o,rfl,hbF,hfs⟩
    · omega
    have hdj:=defL_at j fs h ty _ hdrop
    have hfj:=fsAt_drop j fs b o hfs
    have hcj:=subsD_drop j fs cP
    rw [hdrop] at hfj hcj
    simp only [FsAt,SubsD] at hfj hcj
    obtain ⟨⟨of_,sub,hr8,h1c,hof,hsub⟩,_⟩:=hfj
    have hr8':=(rangeV_mono (w:=w5) (hb5.block b hbF) 8 (o+j * 8)).trans hr8
    have ej:(0:Int)≤(j:Int)∧(j:Int) < (Fs.len fs:Int):=by omega
    refine SC.wp_seq (SC.wp_block (SC.wp_seq (SC.wp_reg ?_)))
    iterate 2 (apply ops_1;(focus (simp (disch:=(try simp only [sPu]);omega) [hst,q7,q9,ej,hr8',hjl];try rfl)))
    refine oNo rfl (opw_alloc hiF hzF ?_)
    refine oNo rfl (opw_store_agg (b:=w5.heap.size) (cs:=[.int .i64 (kindOf ty),.int .i64 h.from_,.int .i64 h.to,.int .i64 h.null,.int .i64 (-1),.int .i64 h.dflt,.int .i64 of_,sub]) hTF1 (by simp (disch:=(try simp only [sPu]);omega)) (by simp (disch:=(try simp only [sPu]);omega)) (heap_alloc_new w5 _) (by simp [hzFs]) (by
      intro v hv
      simp only [List.mem_cons,List.not_mem_nil,or_false] at hv
      rcases hv with rfl | rfl | rfl | rfl | rfl | rfl | rfl | rfl <;> first | rfl | exact h1c) (oNi ?_))
    have hnew:((w5.alloc (.cells zF.cells X.F)).setRow w5.heap.size #[.int .i64 (kindOf ty),.int .i64 h.from_,.int .i64 h.to,.int .i64 h.null,.int .i64 (-1),.int .i64 h.dflt,.int .i64 of_,sub]).heap[w5.heap.size]?=some (.cells #[.int .i64 (kindOf ty),.int .i64 h.from_,.int .i64 h.to,.int .i64 h.null,.int .i64 (-1),.int .i64 h.dflt,.int .i64 of_,sub] X.F (0,0)):=setRow_heap _ _ _ _ _ _ (heap_alloc_new w5 _)
    have hb6:Below w5.heap.size w5 ((w5.alloc (.cells zF.cells X.F)).setRow w5.heap.size #[.int .i64 (kindOf ty),.int .i64 h.from_,.int .i64 h.to,.int .i64 h.null,.int .i64 (-1),.int .i64 h.dflt,.int .i64 of_,sub]):=below_setRow ((Below.refl _ _).alloc (Nat.le_refl _) _) (Nat.le_refl _) _
    have hsz6:((w5.alloc (.cells zF.cells X.F)).setRow w5.heap.size #[.int .i64 (kindOf ty),.int .i64 h.from_,.int .i64 h.to,.int .i64 h.null,.int .i64 (-1),.int .i64 h.dflt,.int .i64 of_,sub]).heap.size=w5.heap.size+1:=by simp
    simp only [Exit.then,pNo]
    generalize ((w5.alloc (.cells zF.cells X.F)).setRow w5.heap.size #[.int .i64 (kindOf ty),.int .i64 h.from_,.int .i64 h.to,.int .i64 h.null,.int .i64 (-1),.int .i64 h.dflt,.int .i64 of_,sub])=w6 at *
    have hc6:∀ i,w6.cell? ⟨w5.heap.size,i,none⟩=#[Value.int .i64 (kindOf ty),.int .i64 h.from_,.int .i64 h.to,.int .i64 h.null,.int .i64 (-1),.int .i64 h.dflt,.int .i64 of_,sub][i]?:=fun i=>cell_of_row _ _ _ _ _ _ hnew
    refine SC.wp_seq (SC.wp_reg ?_)
    iterate 5 (apply ops_1;(focus (simp (disch:=(try simp only [sPu]);omega) [hst,hc6];try rfl)))
    refine oNo rfl (opw_build (cs:=#[.int .i64 h.dflt,.slice none 0 0,.bool (decide (0≤h.null)),.slice none 0 0,.slice none 0 0]) (by
      rw [← hT.built]
      congr 1
      simp (disch:=(try simp only [sPu]);omega)) ?_)
    refine oNo rfl (opw_alloc hiT hzT ?_)
    refine oNo rfl (opw_store_agg (b:=w6.heap.size) (cs:=[.int .i64 h.dflt,.slice none 0 0,.bool (decide (0≤h.null)),.slice none 0 0,.slice none 0 0]) hT.agg (by simp (disch:=(try simp only [sPu]);omega)) (by simp (disch:=(try simp only [sPu]);omega)) (heap_alloc_new w6 _) (by simp [zeroTV,treV,Value.cells]) (by
      intro v hv
      simp only [List.mem_cons,List.not_mem_nil,or_false] at hv
      rcases hv with rfl | rfl | rfl | rfl | rfl <;> rfl) (oNi ?_))
    have hnew7:((w6.alloc (.cells zeroTV.cells X.T)).setRow w6.heap.size #[.int .i64 h.dflt,.slice none 0 0,.bool (decide (0≤h.null)),.slice none 0 0,.slice none 0 0]).heap[w6.heap.size]?=some (.cells #[.int .i64 h.dflt,.slice none 0 0,.bool (decide (0≤h.null)),.slice none 0 0,.slice none 0 0] X.T (0,0)):=setRow_heap _ _ _ _ _ _ (heap_alloc_new w6 _)
    have hb7:Below w6.heap.size w6 ((w6.alloc (.cells zeroTV.cells X.T)).setRow w6.heap.size #[.int .i64 h.dflt,.slice none 0 0,.bool (decide (0≤h.null)),.slice none 0 0,.slice none 0 0]):=below_setRow ((Below.refl _ _).alloc (Nat.le_refl _) _) (Nat.le_refl _) _
    have hsz7:((w6.alloc (.cells zeroTV.cells X.T)).setRow w6.heap.size #[.int .i64 h.dflt,.slice none 0 0,.bool (decide (0≤h.null)),.slice none 0 0,.slice none 0 0]).heap.size=w6.heap.size+1:=by simp
    simp only [Exit.then,pNo]
    generalize ((w6.alloc (.cells zeroTV.cells X.T)).setRow w6.heap.size #[.int .i64 h.dflt,.slice none 0 0,.bool (decide (0≤h.null)),.slice none 0 0,.slice none 0 0])=w7 at *
    have hb57:Below w5.heap.size w5 w7:=hb6.trans (hb7.mono (by omega))
    have hc7:∀ i,w7.cell? ⟨w5.heap.size,i,none⟩=#[Value.int .i64 (kindOf ty),.int .i64 h.from_,.int .i64 h.to,.int .i64 h.null,.int .i64 (-1),.int .i64 h.dflt,.int .i64 of_,sub][i]?:=fun i=>(World.cell?_of_block (w:=w6) (w':=w7) (a:=⟨w5.heap.size,i,none⟩) (hb7.block w5.heap.size (by omega))).trans (hc6 i)
    rw [hsz6] at hnew7 ⊢
    refine gen_act (fun a6=>a6.tmps.size=35∧a6.defers=[]∧getT a6 2=.pointer (some ⟨w.heap.size,0,none⟩)∧getT a6 3=.pointer (some ⟨w.heap.size+1,0,none⟩)∧getT a6 7=.slice (some ⟨b,o,none⟩) (Fs.len fs) fcap∧getT a6 8=.int .i64 (Fs.len fs:Int)∧getT a6 9=.int .i64 (j:Int)∧getT a6 5=.pointer (some ⟨w5.heap.size,0,none⟩)∧getT a6 6=.pointer (some ⟨w5.heap.size+1,0,none⟩))
      ⟨by simp [sPu,q],by simp [dPu,qd],by simp (disch:=(try simp only [sPu]);omega) [q2],by simp (disch:=(try simp only [sPu]);omega) [q3],by simp (disch:=(try simp only [sPu]);omega) [q7],by simp (disch:=(try simp only [sPu]);omega) [q8],by simp (disch:=(try simp only [sPu]);omega) [q9],by simp (disch:=(try simp only [sPu]);omega),by simp (disch:=(try simp only [sPu]);omega)⟩ ?_
    rintro a6 ⟨z,zd,z2,z3,z7,z8,z9,z5,z6⟩
    have tail:∀ (a8:Act) (w8:World) (ls:Value),a8.tmps.size=35→a8.defers=[]→getT a8 2=.pointer (some ⟨w.heap.size,0,none⟩)→getT a8 3=.pointer (some ⟨w.heap.size+1,0,none⟩)→getT a8 7=.slice (some ⟨b,o,none⟩) (Fs.len fs) fcap→getT a8 8=.int .i64 (Fs.len fs:Int)→getT a8 9=.int .i64 (j:Int)→getT a8 6=.pointer (some ⟨w5.heap.size+1,0,none⟩) →
        w8.heap[w5.heap.size+1]?=some (.cells #[.int .i64 h.dflt,.slice none 0 0,.bool (decide (0≤h.null)),ls,.slice none 0 0] X.T (0,0))→Below w5.heap.size w5 w8→w5.heap.size+2≤w8.heap.size→ls.oneCell'=true →
        TV G w8 (fun k=>w5.heap.size+2≤k∧k < w8.heap.size) (defT h ty) (.agg #[.int .i64 h.dflt,.slice none 0 0,.bool (decide (0≤h.null)),ls,.slice none 0 0]) →
        ∀ Q':Exit→Act→World→Prop,(∀ a' w' lv',a'.tmps.size=35→a'.defers=[]→getT a' 2=.pointer (some ⟨w.heap.size,0,none⟩)→getT a' 3=.pointer (some ⟨w.heap.size+1,0,none⟩)→getT a' 7=.slice (some ⟨b,o,none⟩) (Fs.len fs) fcap→getT a' 8=.int .i64 (Fs.len fs:Int)→getT a' 9=.int .i64 (j:Int) →
          w'.heap[w.heap.size]?=some (.cells #[.int .i64 0,.slice none 0 0,.bool false,.slice none 0 0,.slice none 0 0] X.T (0,0))→w'.heap[w.heap.size+1]?=some (.cells #[.int .i64 0,.slice none 0 0,.bool false,lv',.slice none 0 0] X.T (0,0))→Rows G X fs w w' lv' (j+1)→Below w.heap.size w w'→w.heap.size+2≤w'.heap.size→Q' .normal a' w') →
        SC.wp P (.reg [fa 27 X.T 3 3,ld 28 X.Ts 27,ld 29 X.T 6,⟨some 30,.buildSlice X.Ts 1 #[(0,(.tmp 29))],none⟩,⟨some 31,.call ⟨.builtin .append,#[(.tmp 28),(.tmp 30)],#[X.Ts,X.Ts]⟩,none⟩,fa 32 X.T 3 3,⟨none,.store X.Ts (.tmp 32) (.tmp 31),none⟩]) Q' a8 w8:=by
      intro a8 w8 ls y yd y2 y3 y7 y8 y9 y6 hn8 hb8 hs8 hls1 htv Q' hQ'
      have p2':w8.heap[w.heap.size]?=_:=(hb8.block w.heap.size (by omega)).trans p2
      have p3':w8.heap[w.heap.size+1]?=_:=(hb8.block (w.heap.size+1) (by omega)).trans p3
      have hc3:∀ i,w8.cell? ⟨w.heap.size+1,i,none⟩=#[Value.int .i64 0,.slice none 0 0,.bool false,lv,.slice none 0 0][i]?:=fun i=>cell_of_row _ _ _ _ _ _ p3'
      have hc8:∀ i,w8.cell? ⟨w5.heap.size+1,i,none⟩=#[Value.int .i64 h.dflt,.slice none 0 0,.bool (decide (0≤h.null)),ls,.slice none 0 0][i]?:=fun i=>cell_of_row _ _ _ _ _ _ hn8
      have hT5:rangeV w8 (w5.heap.size+1) 0 5=some [.int .i64 h.dflt,.slice none 0 0,.bool (decide (0≤h.null)),ls,.slice none 0 0]:=by simp [rangeV,hc8]
      have hR8:Rows G X fs w w8 lv j:=hR.keep (fun k h1 h2=>hb8.block k h2) hb8.size
      have hlvlt:∀ k,lv.ownBlock=some k→w.heap.size+2≤k∧k < w5.heap.size:=fun k hk=>by
        obtain ⟨rows,F,o1,_⟩:=hR
        exact o1.lt k hk
      refine SC.wp_reg ?_
      iterate 3 (apply ops_1;(focus (simp (disch:=(try simp only [sPu]);omega) [hst,y3,y6,hc3,hT5];try rfl)))
      refine oNo rfl (opw_buildT hT (n:=h.dflt) (s:=.slice none 0 0) (b:=decide (0≤h.null)) (l:=ls) (u:=.slice none 0 0) (by simp (disch:=(try simp only [sPu]);omega) [treV]) rfl hls1 rfl ?_)
      have hn9:=heap_alloc_new w8 (.cells #[.int .i64 h.dflt,.slice none 0 0,.bool (decide (0≤h.null)),ls,.slice none 0 0] X.T)
      have hb9:Below w8.heap.size w8 (w8.alloc (.cells #[.int .i64 h.dflt,.slice none 0 0,.bool (decide (0≤h.null)),ls,.slice none 0 0] X.T)):=(Below.refl _ _).alloc (Nat.le_refl _) _
      have hs9:(w8.alloc (.cells #[.int .i64 h.dflt,.slice none 0 0,.bool (decide (0≤h.null)),ls,.slice none 0 0] X.T)).heap.size=w8.heap.size+1:=by simp
      generalize (w8.alloc (.cells #[.int .i64 h.dflt,.slice none 0 0,.bool (decide (0≤h.null)),ls,.slice none 0 0] X.T))=w9 at *
      have hR9:Rows G X fs w w9 lv j:=hR8.keep (fun k h1 h2=>hb9.block k h2) hb9.size
      obtain ⟨rows,F,o1,o2,o3,o4,o5⟩:=hR9
      refine oNo rfl (opw_appendT hT (B:=w.heap.size+2) (j:=j) (lv:=lv) (cells:=rows.flatten) (r:=[.int .i64 h.dflt,.slice none 0 0,.bool (decide (0≤h.null)),ls,.slice none 0 0]) (ad:=⟨w8.heap.size,0,none⟩) rfl (by simp (disch:=(try simp only [sPu]);omega)) (by simp (disch:=(try simp only [sPu]);omega)) o1 (by omega) (by omega) rfl (fun i v hv=>by
        rw [add_none,cell_of_row _ _ _ _ _ _ hn9]
        simpa using hv) (by
        intro v hv
        simp only [List.mem_cons,List.not_mem_nil,or_false] at hv
        rcases hv with rfl | rfl | rfl | rfl | rfl <;> first | rfl | exact hls1) ?_)
      intro lv' w10 r1 r2 r3
      have hlv':lv'.oneCell'=true:=by rcases r1.2 with ⟨rfl,_⟩ | ⟨g,cap,cur,rfl,_⟩ <;> rfl
      have hs10:w9.heap.size≤w10.heap.size:=r2.size
      have hk10:∀ k,k < w9.heap.size→lv.ownBlock ≠ some k→w10.heap[k]?=w9.heap[k]?:=fun k h1 h2=>r2.block k h1 (fun e=>h2 e.symm)
      have hnot:∀ k,k < w.heap.size+2→lv.ownBlock ≠ some k:=fun k hk e=>by have:=hlvlt k e;omega
      have p2n:w10.heap[w.heap.size]?=_:=(hk10 _ (by omega) (hnot _ (by omega))).trans ((hb9.block _ (by omega)).trans p2')
      have p3n:w10.heap[w.heap.size+1]?=_:=(hk10 _ (by omega) (hnot _ (by omega))).trans ((hb9.block _ (by omega)).trans p3')
      iterate 1 (apply ops_1;(focus (simp (disch:=(try simp only [sPu]);omega) [hst,y3];try rfl)))
      refine oNo rfl (opw_store_one (ad:=⟨w.heap.size+1,3,none⟩) (v:=lv') (v0:=lv) hst.2.1.2.2.2.2.2.2.2.1 (by simp (disch:=(try simp only [sPu]);omega)) (by simp (disch:=(try simp only [sPu]);omega)) hlv' (by rw [cell_of_row _ _ _ _ _ _ p3n];rfl) (by simp [World.frozen?,p3n]) ?_)
      refine oNi ?_
      rw [setCell_eq_setRow _ _ _ _ _ _ _ p3n]
      have p3f:=setRow_heap w10 (w.heap.size+1) _ ((#[.int .i64 0,.slice none 0 0,.bool false,lv,.slice none 0 0]:Array Value).setIfInBounds 3 lv') _ _ p3n
      have hoth:∀ k,k ≠ w.heap.size+1→(w10.setRow (w.heap.size+1) ((#[.int .i64 0,.slice none 0 0,.bool false,lv,.slice none 0 0]:Array Value).setIfInBounds 3 lv')).heap[k]?=w10.heap[k]?:=fun k hk=>setRow_other _ _ _ _ hk
      have hsf:(w10.setRow (w.heap.size+1) ((#[.int .i64 0,.slice none 0 0,.bool false,lv,.slice none 0 0]:Array Value).setIfInBounds 3 lv')).heap.size=w10.heap.size:=by simp
      have hbf:Below w.heap.size w (w10.setRow (w.heap.size+1) ((#[.int .i64 0,.slice none 0 0,.bool false,lv,.slice none 0 0]:Array Value).setIfInBounds 3 lv')) :=
        below_setRow (((hb5.trans (hb8.mono (by omega))).trans (hb9.mono (by omega))).grown r2 (by omega) (fun k hk=>by have:=hlvlt k hk;omega)) (by omega) _
      generalize (w10.setRow (w.heap.size+1) ((#[.int .i64 0,.slice none 0 0,.bool false,lv,.slice none 0 0]:Array Value).setIfInBounds 3 lv'))=w11 at *
      refine hQ' _ w11 lv' (by simp [sPu,y]) (by simp [dPu,yd]) (by simp (disch:=(try simp only [sPu]);omega) [y2]) (by simp (disch:=(try simp only [sPu]);omega) [y3]) (by simp (disch:=(try simp only [sPu]);omega) [y7]) (by simp (disch:=(try simp only [sPu]);omega) [y8]) (by simp (disch:=(try simp only [sPu]);omega) [y9]) ((hoth _ (by omega)).trans p2n) p3f ?_ hbf (by omega)
      refine ⟨rows ++ [[.int .i64 h.dflt,.slice none 0 0,.bool (decide (0≤h.null)),ls,.slice none 0 0]],fun k=>F k∨(w5.heap.size+2≤k∧k < w8.heap.size),?_,by simp [o2],?_,?_,?_⟩
      · rw [List.flatten_append]
        simp only [List.flatten_cons,List.flatten_nil,List.append_nil]
        refine ⟨r1.1,r1.2.imp id ?_⟩
        rintro ⟨g,cap,cur,m1,m2,m3,m4⟩
        exact ⟨g,cap,cur,m1,m2,by rw [hoth g (by omega)];exact m3,m4⟩
      · intro r hr
        simp only [List.mem_append,List.mem_cons,List.not_mem_nil,or_false] at hr
        rcases hr with hr | rfl
        · exact o3 r hr
        · rfl
      · intro i r x hi hx
        rcases Nat.lt_or_ge i rows.length with hlt | hge
        · rw [List.getElem?_append_left hlt] at hi
          refine (o4 i r x hi hx).mono (fun k hk=>.inl hk) (fun k hk=>?_)
          have:=o5 k hk
          rw [hoth k (by omega),hk10 k (by omega) this.2.2]
        · have hij:i=rows.length:=by
            have:=(List.getElem?_eq_some_iff.1 hi).1
            simp at this
            omega
          subst hij
          rw [List.getElem?_append_right (Nat.le_refl _)] at hi
          simp at hi
          subst hi
          rw [o2,hdj] at hx
          cases hx
          refine htv.mono (fun k hk=>.inr hk) (fun k hk=>?_)
          rw [hoth k (by omega),hk10 k (by omega) (fun e=>by have:=hlvlt k e;omega),hb9.block k (by omega)]
      · intro k hk
        have hk':w.heap.size+2≤k∧k < w9.heap.size∧lv.ownBlock ≠ some k:=by
          rcases hk with hk | hk
          · exact o5 k hk
          · exact ⟨by omega,by omega,fun e=>by have:=hlvlt k e;omega⟩
        refine ⟨hk'.1,by omega,fun e=>?_⟩
        rcases r3 with r3 | ⟨bb,r3,r4⟩
        · exact hk'.2.2 (r3 ▸ e)
        · rw [r3] at e
          cases e
          omega
    have ew:IntKind.i64.wrap ((j:Int)+1)=((j+1:Nat):Int):=by rw [wrap_i64'];split <;> omega
    refine SC.wp_seq (SC.wp_seq (SC.wp_reg ?_))
    iterate 3 (apply ops_1;(focus (simp (disch:=(try simp only [sPu]);omega) [hst,hc7,z5];try rfl)))
    refine oNi (SC.wp_cond (t:=kindOf ty == 10) (by simp (disch:=(try simp only [sPu]);omega)) ?_)
    have htriv:(∀ typ size dflt tags fs',ty ≠ .struct typ size dflt tags fs')→TV G w7 (fun k=>w5.heap.size+2≤k∧k < w7.heap.size) (defT h ty) (.agg #[.int .i64 h.dflt,.slice none 0 0,.bool (decide (0≤h.null)),.slice none 0 0,.slice none 0 0]):=by
      intro hns
      have:defT h ty=.mk h.dflt [] (decide (0≤h.null)) [] []:=by
        cases ty with
        | struct typ size dflt tags fs'=>exact absurd rfl (hns typ size dflt tags fs')
        | prim k=>simp [defT]
        | list _ _ _ _=>simp [defT]
      rw [this]
      exact .mk h.dflt [] _ [] [] none none none 0 0 0 0 0 (fun _=>[]) (.inl rfl) (Nat.le_refl _) (Nat.le_refl _) (Nat.le_refl _) (fun h=>absurd rfl h) (fun i hi=>by simp at hi) (fun i x hx=>by simp at hx) h0G (.inl rfl)
    have close:∀ (a':Act) (w':World) (lv':Value) (Q1:Exit→Act→World→Prop),a'.tmps.size=35→a'.defers=[]→getT a' 2=.pointer (some ⟨w.heap.size,0,none⟩)→getT a' 3=.pointer (some ⟨w.heap.size+1,0,none⟩)→getT a' 7=.slice (some ⟨b,o,none⟩) (Fs.len fs) fcap→getT a' 8=.int .i64 (Fs.len fs:Int)→getT a' 9=.int .i64 (j:Int) →
        w'.heap[w.heap.size]?=some (.cells #[.int .i64 0,.slice none 0 0,.bool false,.slice none 0 0,.slice none 0 0] X.T (0,0))→w'.heap[w.heap.size+1]?=some (.cells #[.int .i64 0,.slice none 0 0,.bool false,lv',.slice none 0 0] X.T (0,0))→Rows G X fs w w' lv' (j+1)→Below w.heap.size w w'→w.heap.size+2≤w'.heap.size →
        (∀ a'' w'',((∃ (j:Nat) (lv:Value),a''.tmps.size=35∧a''.defers=[]∧getT a'' 2=.pointer (some ⟨w.heap.size,0,none⟩)∧getT a'' 3=.pointer (some ⟨w.heap.size+1,0,none⟩)∧getT a'' 7=.slice (some ⟨b,o,none⟩) (Fs.len fs) fcap∧getT a'' 8=.int .i64 (Fs.len fs:Int)∧getT a'' 9=.int .i64 (j:Int)∧j≤Fs.len fs ∧
          w''.heap[w.heap.size]?=some (.cells #[.int .i64 0,.slice none 0 0,.bool false,.slice none 0 0,.slice none 0 0] X.T (0,0))∧w''.heap[w.heap.size+1]?=some (.cells #[.int .i64 0,.slice none 0 0,.bool false,lv,.slice none 0 0] X.T (0,0))∧Rows G X fs w w'' lv j∧Below w.heap.size w w''∧w.heap.size+2≤w''.heap.size) ∧
          (match getT a'' 9 with | .int _ m=>(Fs.len fs - m).toNat | _=>0) < (match getT a4 9 with | .int _ m=>(Fs.len fs - m).toNat | _=>0))→Q1 .normal a'' w'') →
        SC.wp P (.reg [⟨some 33,.binOp .add X.I (.tmp 9) (.const (.int .i64 1)) X.I,none⟩,mv 9 33]) Q1 a' w':=by
      intro a' w' lv' Q1 x xd x2 x3 x7 x8 x9 m2 m3 m4 m5 m6 hq
      refine SC.wp_reg ?_
      repeat (apply ops_1;(focus (simp (disch:=(try simp only [sPu]);omega) [x9,ew];try rfl)))
      refine oNi (hq _ _ ⟨⟨j+1,lv',by simp [sPu,x],by simp [dPu,xd],by simp (disch:=(try simp only [sPu]);omega) [x2],by simp (disch:=(try simp only [sPu]);omega) [x3],by simp (disch:=(try simp only [sPu]);omega) [x7],by simp (disch:=(try simp only [sPu]);omega) [x8],by simp (disch:=(try simp only [sPu]);omega),by omega,m2,m3,m4,m5,m6⟩,?_⟩)
      rw [q9]
      simp (disch:=(try simp only [sPu]);omega);omega
    cases ty with
    | prim k =>
      have e10:(kindOf (.prim k) == 10)=false:=by cases k <;> rfl
      rw [e10,if_neg (by simp)]
      refine SC.wp_skip ?_
      simp only [Exit.then]
      refine tail _ w7 (.slice none 0 0) (by simp [sPu,z]) (by simp [dPu,zd]) (by simp (disch:=(try simp only [sPu]);omega) [z2]) (by simp (disch:=(try simp only [sPu]);omega) [z3]) (by simp (disch:=(try simp only [sPu]);omega) [z7]) (by simp (disch:=(try simp only [sPu]);omega) [z8]) (by simp (disch:=(try simp only [sPu]);omega) [z9]) (by simp (disch:=(try simp only [sPu]);omega) [z6]) hnew7 hb57 (by omega) rfl (htriv (by intros;simp)) _ ?_
      intro a' w' lv' x xd x2 x3 x7 x8 x9 m2 m3 m4 m5 m6
      simp only [Exit.inBlock,Exit.then]
      exact close a' w' lv' _ x xd x2 x3 x7 x8 x9 m2 m3 m4 m5 m6 (fun a'' w'' h=>h)
    | list typ el size of =>
      have e10:(kindOf (.list typ el size of) == 10)=false:=rfl
      rw [e10,if_neg (by simp)]
      refine SC.wp_skip ?_
      simp only [Exit.then]
      refine tail _ w7 (.slice none 0 0) (by simp [sPu,z]) (by simp [dPu,zd]) (by simp (disch:=(try simp only [sPu]);omega) [z2]) (by simp (disch:=(try simp only [sPu]);omega) [z3]) (by simp (disch:=(try simp only [sPu]);omega) [z7]) (by simp (disch:=(try simp only [sPu]);omega) [z8]) (by simp (disch:=(try simp only [sPu]);omega) [z9]) (by simp (disch:=(try simp only [sPu]);omega) [z6]) hnew7 hb57 (by omega) rfl (htriv (by intros;simp)) _ ?_
      intro a' w' lv' x xd x2 x3 x7 x8 x9 m2 m3 m4 m5 m6
      simp only [Exit.inBlock,Exit.then]
      exact close a' w' lv' _ x xd x2 x3 x7 x8 x9 m2 m3 m4 m5 m6 (fun a'' w'' h=>h)
    | struct typ size dflt tags fs' =>
      have e10:(kindOf (.struct typ size dflt tags fs') == 10)=true:=rfl
      rw [e10,if_pos rfl]
      simp only [SubD] at hcj
      simp only [SubV] at hsub
      refine SC.wp_reg ?_
      iterate 2 (apply ops_1;(focus (simp (disch:=(try simp only [sPu]);omega) [hst,hc7,z5];try rfl)))
      have hbw7:Below w.heap.size w w7:=hb5.trans (hb57.mono (by omega))
      refine ops_call oD (hcj.1 w7 sub (FsV.down hbw7 (by omega) hsub)) (by simp (disch:=(try simp only [sPu]);omega)) ?_
      rintro e w8 ⟨dv,rfl,htv,hb8⟩
      refine ⟨dv,rfl,?_⟩
      have hs8:w7.heap.size≤w8.heap.size:=hb8.size
      cases htv with
      | mk _ _ _ _ _ sb lb ub sc lc uc tb to cs' t1 t2 t3 t4 t5 t6 t7 t8 t9 =>
      refine oNo rfl (opw_field3 hT (n:=0) (s:=.slice sb (List.length ([]:Bytes)) sc) (b:=false) (l:=.slice lb (defL fs').length lc) (u:=.slice ub 0 uc) (by simp (disch:=(try simp only [sPu]);omega)) rfl ?_)
      have hn8:w8.heap[w5.heap.size+1]?=_:=(hb8.block (w5.heap.size+1) (by omega)).trans hnew7
      iterate 1 (apply ops_1;(focus (simp (disch:=(try simp only [sPu]);omega) [hst,z6];try rfl)))
      refine oNo rfl (opw_store_one (ad:=⟨w5.heap.size+1,3,none⟩) (v:=.slice lb (defL fs').length lc) (v0:=.slice none 0 0) hst.2.1.2.2.2.2.2.2.2.1 (by simp (disch:=(try simp only [sPu]);omega)) (by simp (disch:=(try simp only [sPu]);omega)) rfl (by rw [cell_of_row _ _ _ _ _ _ hn8];rfl) (by simp [World.frozen?,hn8]) (oNi ?_))
      rw [setCell_eq_setRow _ _ _ _ _ _ _ hn8]
      have hn9:=setRow_heap w8 (w5.heap.size+1) _ ((#[.int .i64 h.dflt,.slice none 0 0,.bool (decide (0≤h.null)),.slice none 0 0,.slice none 0 0]:Array Value).setIfInBounds 3 (.slice lb (defL fs').length lc)) _ _ hn8
      have hoth:∀ k,k ≠ w5.heap.size+1→(w8.setRow (w5.heap.size+1) ((#[.int .i64 h.dflt,.slice none 0 0,.bool (decide (0≤h.null)),.slice none 0 0,.slice none 0 0]:Array Value).setIfInBounds 3 (.slice lb (defL fs').length lc))).heap[k]?=w8.heap[k]?:=fun k hk=>setRow_other _ _ _ _ hk
      have hs9:(w8.setRow (w5.heap.size+1) ((#[.int .i64 h.dflt,.slice none 0 0,.bool (decide (0≤h.null)),.slice none 0 0,.slice none 0 0]:Array Value).setIfInBounds 3 (.slice lb (defL fs').length lc))).heap.size=w8.heap.size:=by simp
      have hb9:Below w5.heap.size w5 (w8.setRow (w5.heap.size+1) ((#[.int .i64 h.dflt,.slice none 0 0,.bool (decide (0≤h.null)),.slice none 0 0,.slice none 0 0]:Array Value).setIfInBounds 3 (.slice lb (defL fs').length lc))):=below_setRow (hb57.trans (hb8.mono (by omega))) (by omega) _
      simp only [Exit.then,pNo]
      generalize (w8.setRow (w5.heap.size+1) ((#[.int .i64 h.dflt,.slice none 0 0,.bool (decide (0≤h.null)),.slice none 0 0,.slice none 0 0]:Array Value).setIfInBounds 3 (.slice lb (defL fs').length lc)))=w9 at *
      refine tail _ w9 (.slice lb (defL fs').length lc) (by simp [sPu,z]) (by simp [dPu,zd]) (by simp (disch:=(try simp only [sPu]);omega) [z2]) (by simp (disch:=(try simp only [sPu]);omega) [z3]) (by simp (disch:=(try simp only [sPu]);omega) [z7]) (by simp (disch:=(try simp only [sPu]);omega) [z8]) (by simp (disch:=(try simp only [sPu]);omega) [z9]) (by simp (disch:=(try simp only [sPu]);omega) [z6]) hn9 hb9 (by omega) rfl ?_ _ ?_
      · simp only [defT]
        have hF:∀ k,(w7.heap.size≤k∧k < w8.heap.size)→(w5.heap.size+2≤k∧k < w9.heap.size):=fun k hk=>by omega
        have hW:∀ k,(w7.heap.size≤k∧k < w8.heap.size)→w9.heap[k]?=w8.heap[k]?:=fun k hk=>hoth k (by omega)
        exact .mk h.dflt [] _ (defL fs') [] none lb none 0 lc 0 tb to cs' (.inl rfl) (Nat.le_refl _) t3 (Nat.le_refl _) (fun hne=>⟨(t5 hne).1,hF _ (t5 hne).2⟩) (fun i hi=>by
          have hne:defL fs' ≠ []:=by intro e;rw [e] at hi;simp at hi
          rw [rangeV_mono (hW tb (t5 hne).2)]
          exact t6 i hi) (fun i x hx=>(t7 i x hx).mono hF hW) h0G (.inl rfl)
      intro a' w' lv' x xd x2 x3 x7 x8 x9 m2 m3 m4 m5 m6
      simp only [Exit.inBlock,Exit.then]
      exact close a' w' lv' _ x xd x2 x3 x7 x8 x9 m2 m3 m4 m5 m6 (fun a'' w'' h=>h)
end
end Go.Proofs.Ytgaplicnofhliaa.K
namespace Go.Proofs.Ytgaplicnofhliaa.K
open Go Go.RowKit Go.Proofs.Ytgaplicnofhliaa.T
set_option linter.unusedSimpArgs false
set_option linter.unusedVariables false
set_option maxHeartbeats 4000000
def intIs (k:IntKind) (n:Int):Option Value→Bool
  | some (.int k' m)=>k' == k && m == n
  | _=>false
def nilSlice:Option Value→Bool
  | some (.slice none 0 _)=>true
  | _=>false
def nilPtr:Option Value→Bool
  | some (.pointer none)=>true
  | _=>false
def nilMap:Option Value→Bool
  | some (.map none)=>true
  | _=>false
def emptyStr:Option Value→Bool
  | some (.string s)=>s.data.toList.length == 0
  | _=>false
def boolIs (n:Int):Option Value→Bool
  | some (.bool x)=>n % 2 == (if x then 1 else 0)
  | _=>false
def defPrim (get:Nat→Option Value) (nul:Bool) (n:Int) (o:Nat):PK→Bool
  | .bool=>boolIs n (get o)
  | .i8=>intIs .i8 n (get o)
  | .i16=>intIs .i16 n (get o)
  | .i32=>intIs .i32 n (get o)
  | .i64=>intIs .i64 n (get o)
  | .u16=>intIs .u16 n (get o)
  | .uuid=>(List.range 16).all fun j=>intIs .u8 0 (get (o+j))
  | .str=>if nul then nilPtr (get o) else emptyStr (get o)
  | .bytes=>nilSlice (get o)
def defTags (get:Nat→Option Value) (o:Nat):Option (Nat × Nat)→Bool
  | none=>true
  | some (_,off)=>nilMap (get (o+off))
mutual
def defTy (get:Nat→Option Value) (h:Hd) (o:Nat):Ty→Bool
  | .prim k=>defPrim get (decide (0≤h.null)) h.dflt o k
  | .list _ _ _ _=>nilSlice (get o)
  | .struct _ _ _ tags fs=>if 0≤h.null then nilPtr (get o) else defOK get o fs && defTags get o tags
def defOK (get:Nat→Option Value) (o:Nat):Fs→Bool
  | .nil=>true
  | .cons h ty r=>defTy get h (o+h.off) ty && defOK get o r
end
section
variable {G:List (Nat × Bytes)→Prop} {w:World} {F:Nat→Prop} {b:Nat} {get:Nat→Option Value}
theorem defTags_ok (hG:G []) (hg:∀ o v,get o=some v→w.cell? ⟨b,o,none⟩=some v) (flex:Bool) (o:Nat) (tags:Option (Nat × Nat)):defTags get o tags=true →
    (match tags with | none=>([]:List (Nat × Bytes))=[] | some (_,off)=>flex=true→HTags G w F b (o+off) []):=by
  intro h
  cases tags with
  | none=>rfl
  | some x =>
    obtain ⟨f,off⟩:=x
    intro _
    simp only [defTags] at h
    unfold nilMap at h
    split at h <;> try (simp at h;done)
    rename_i hv
    exact ⟨hG,rfl,Nat.zero_le _,fun x hx=>by simp at hx,.inl ⟨hg _ _ hv,rfl⟩⟩
theorem defPrim_ok (hg:∀ o v,get o=some v→w.cell? ⟨b,o,none⟩=some v) (hd:Hd) (k:PK) (o:Nat) (h:defPrim get (decide (0≤hd.null)) hd.dflt o k=true) :
    HPrim w F (decide (0≤hd.null)) b o (.mk hd.dflt [] (decide (0≤hd.null)) [] []) k:=by
  have ints:∀ (kk:IntKind),intIs kk hd.dflt (get o)=true→∃ v,w.cell? ⟨b,o,none⟩=some v∧v=.int kk hd.dflt:=by
    intro kk h
    unfold intIs at h
    split at h <;> try (simp at h;done)
    rename_i k' m hv
    simp at h
    obtain ⟨rfl,rfl⟩:=h
    exact ⟨_,hg _ _ hv,rfl⟩
  cases k with
  | bool =>
    simp only [defPrim] at h
    unfold boolIs at h
    split at h <;> try (simp at h;done)
    rename_i x hv
    exact ⟨_,hg _ _ hv,x,rfl,by simpa [Tree.n] using h⟩
  | i8=>exact ints _ h
  | i16=>exact ints _ h
  | i32=>exact ints _ h
  | i64=>exact ints _ h
  | u16=>exact ints _ h
  | uuid =>
    intro j u hu
    simp only [defPrim,List.all_eq_true,List.mem_range] at h
    have hlen:=(List.getElem?_eq_some_iff.1 hu).1
    rw [uuidOf_length] at hlen
    have h0:=h j hlen
    unfold intIs at h0
    split at h0 <;> try (simp at h0;done)
    rename_i k' m hv
    simp at h0
    obtain ⟨rfl,rfl⟩:=h0
    have hz:u=0:=by
      simp only [uuidOf,Tree.s,List.nil_append,List.take_replicate] at hu
      rw [List.getElem?_replicate] at hu
      split at hu
      · simpa using hu.symm
      · cases hu
    subst hz
    exact hg _ _ hv
  | str =>
    simp only [defPrim] at h
    cases hn:decide (0≤hd.null)
    · rw [hn] at h
      simp only [Bool.false_eq_true,if_false] at h
      unfold emptyStr at h
      split at h <;> try (simp at h;done)
      rename_i s hv
      refine ⟨_,hg _ _ hv,?_⟩
      simp only [PVal,Bool.false_eq_true,if_false]
      refine ⟨s,rfl,?_,Nat.zero_le _⟩
      simp only [beq_iff_eq] at h
      exact List.eq_nil_of_length_eq_zero h
    · rw [hn] at h
      simp only [if_true] at h
      unfold nilPtr at h
      split at h <;> try (simp at h;done)
      rename_i hv
      refine ⟨_,hg _ _ hv,?_⟩
      simp [PVal,Tree.null]
  | bytes =>
    simp only [defPrim] at h
    unfold nilSlice at h
    split at h <;> try (simp at h;done)
    rename_i cap hv
    refine ⟨_,hg _ _ hv,none,cap,by simp [Tree.s],?_⟩
    cases hn:decide (0≤hd.null)
    · simp only [Bool.false_and,Bool.false_eq_true,if_false]
      exact ⟨.inl rfl,Nat.zero_le _,fun h=>by cases h⟩
    · simp [Tree.null]
mutual
theorem defTy_ok (hG:G []) (hg:∀ o v,get o=some v→w.cell? ⟨b,o,none⟩=some v) (ver:Int) (flex:Bool) (hd:Hd):∀ (ty:Ty) (o:Nat),defTy get hd o ty=true→HTy G w F ver flex ty (decide (0≤hd.null)) b o (defT hd ty)
  | .prim k,o,h=>by
    simp only [defTy] at h
    simp only [HTy,defT]
    exact defPrim_ok hg hd k o h
  | .list t1 t2 t3 of,o,h=>by
    simp only [defTy] at h
    simp only [HTy,defT]
    unfold nilSlice at h
    split at h <;> try (simp at h;done)
    rename_i cap hv
    refine ⟨none,cap,by rw [hg _ _ hv];simp [Tree.l],?_⟩
    by_cases hn:0≤hd.null
    · simp [hn,Tree.null]
    · simp [hn,Tree.null,Tree.l]
  | .struct t1 t2 t3 tags fs,o,h=>by
    simp only [defTy] at h
    simp only [HTy,defT]
    by_cases hn:0≤hd.null
    · rw [if_pos hn] at h
      unfold nilPtr at h
      split at h <;> try (simp at h;done)
      rename_i hv
      simp only [hn,decide_true,if_true,Tree.null]
      exact hg _ _ hv
    · rw [if_neg hn] at h
      simp only [Bool.and_eq_true] at h
      simp only [hn,decide_false,Bool.false_eq_true,if_false]
      exact ⟨defOK_ok hG hg ver flex fs o h.1,defTags_ok hG hg flex o tags h.2⟩
theorem defOK_ok (hG:G []) (hg:∀ o v,get o=some v→w.cell? ⟨b,o,none⟩=some v) (ver:Int) (flex:Bool):∀ (fs:Fs) (o:Nat),defOK get o fs=true→HFs G w F ver flex fs b o (defL fs)
  | .nil,_,_=>by simp [HFs]
  | .cons hd ty r,o,h=>by
    simp only [defOK,Bool.and_eq_true] at h
    simp only [HFs,defL,List.headD_cons,List.tail_cons]
    exact ⟨fun _=>defTy_ok hG hg ver flex hd ty (o+hd.off) h.1,defOK_ok hG hg ver flex r o h.2⟩
end
end
end Go.Proofs.Ytgaplicnofhliaa.K
namespace Go.Proofs.Ytgaplicnofhliaa.K
open Go Go.RowKit Go.Proofs.Ytgaplicnofhliaa.T
attribute [local simp] eTm eCo pNo gTp gTn qv qcall vop iop
set_option linter.unusedSimpArgs false
set_option linter.unusedVariables false
set_option maxHeartbeats 4000000
def sc_TLen (T0 T1:Nat):SC:=.seq (.reg [⟨some 2,.assign (.const (.int .i64 0)),none⟩]) (.seq (.reg [mv 3 0,nilc 4 3,fa 5 T0 4 0,ld 6 T1 5,lenOp 7 T1 6,asg 2 7]) (.ret))
def mapT (P:Program) (T:TypeId):Bool :=
  match P.underlying T with
  | some (.map _ _)=>true
  | _=>false
section
variable {P:Program} {f:FuncId} {fn:Func}
theorem opw_lenMap0 {a:Act} {w:World} {K:Act→World→Prop} {d:Option Tmp} {g:Option (Nat × Bool)} {T:TypeId} {x:Operand} {v:Value} {ts:Array TypeId} (hT:mapT P T=true) (hx:a.eval x=v) (ht:ts=#[T])
    (hv:v=.map none∨∃ r clock,v=.map (some r)∧w.heap[r]?=some (.map #[] clock)) (h:K (a.put d (.int .i64 0)) w):opw P ⟨d,.call ⟨.builtin .len,#[x],ts⟩,g⟩ a w K:=by
  subst ht
  unfold mapT at hT
  split at hT <;> try (simp at hT;done)
  rename_i k e hu
  refine oVa (v:=.int .i64 0) (by simp) (fun p hp=>?_) h
  rcases hv with rfl | ⟨r,clock,rfl,hr⟩
  · simp [execOp,hp,hx,resolve,invoke,builtin,Builtin.len_,run_underlying hu,goInt]
  · simp [execOp,hp,hx,resolve,invoke,builtin,Builtin.len_,run_underlying hu,goInt,getObj,hr,Sem.run]
theorem hTags_nil {w:World} {F:Nat→Prop} {b o:Nat} (h:HTags (fun u=>u=[]) w F b o []):∃ v,w.cell? ⟨b,o,none⟩=some v∧(v=.map none∨∃ r clock,v=.map (some r)∧w.heap[r]?=some (.map #[] clock)):=by
  obtain ⟨_,_,_,_,h | ⟨r,es,clock,h1,_,h2,h3,_⟩⟩:=h
  · exact ⟨_,h.1,.inl rfl⟩
  · refine ⟨_,h1,.inr ⟨r,clock,rfl,?_⟩⟩
    have:es=#[]:=by
      have:=h3.length_eq
      simp at this
      exact this
    rw [h2,this]
theorem tagsLen0_ok {TT TM:Nat} (hTM:mapT P TM=true) (h1:oneB P TM=true) (hF0:fieldOff P TT 0=some 0) (hf:P.funcs[f]?=some fn) (hb:fn.body.map strip=some (sc_TLen TT TM)) (hn:fn.ntmps=8) (hr:fn.results=#[.tmp 2])
    (w:World) (F:Nat→Prop) (b o:Nat) (u:List (Nat × Bytes)) (hu:HTags (fun u=>u=[]) w F b o u):Calls P f #[.pointer (some ⟨b,o,none⟩)] w fun e w'=>e=.returned (.int .i64 u.length)∧w=w':=by
  have hu0:u=[]:=hu.1
  subst hu0
  obtain ⟨v,hc,hv⟩:=hTags_nil hu
  refine fCa hf hb hn (by simp) fun a0 hs hd ha=>?_
  have h0:=ha 0 _ rfl
  simp only [List.getElem_toArray,List.getElem_cons_zero,List.getElem_cons_succ] at h0
  refine SC.wp_seq (SC.wp_reg ?_)
  repeat (apply ops_1;(focus (simp (disch:=(try simp only [sPu]);omega) ;try rfl)))
  refine oNi (SC.wp_seq (SC.wp_reg ?_))
  iterate 4 (apply ops_1;(focus (simp (disch:=(try simp only [sPu]);omega) [h0,hF0,h1,hc];try rfl)))
  refine oNo rfl (opw_lenMap0 (v:=v) hTM (by simp (disch:=(try simp only [sPu]);omega)) rfl hv ?_)
  repeat (apply ops_1;(focus (simp (disch:=(try simp only [sPu]);omega) ;try rfl)))
  refine oNi (SC.wp_ret (ret_tmp hr (by simp [dPu,hd]) ⟨?_,rfl⟩))
  simp (disch:=(try simp only [sPu]);omega)
def sc_TEach1 (TT TM TI:Nat):SC:=.seq (.reg [mv 8 0,nilc 9 8,fa 10 TT 9 0,ld 11 TM 10,lenOp 12 TM 11,⟨some 13,.binOp .eql TI (.tmp 12) (.const (.int .i64 0)) TI,none⟩]) (.cond (.tmp 13) (.ret) (.skip))
theorem each0_ok {TT TM TI:Nat} {rest:SC} (hTM:mapT P TM=true) (h1:oneB P TM=true) (hF0:fieldOff P TT 0=some 0) (hf:P.funcs[f]?=some fn) (hb:fn.body.map strip=some (.seq (sc_TEach1 TT TM TI) rest)) (hn:fn.ntmps=53) (hr:fn.results=#[])
    (w:World) (F:Nat→Prop) (b o:Nat) (hu:HTags (fun u=>u=[]) w F b o []) (cl:Value):Calls P f #[.pointer (some ⟨b,o,none⟩),cl] w fun e w'=>e=.returned (.tuple #[])∧w=w':=by
  obtain ⟨v,hc,hv⟩:=hTags_nil hu
  refine fCa hf hb hn (by simp) fun a0 hs hd ha=>?_
  have h0:=ha 0 _ rfl
  simp only [List.getElem_toArray,List.getElem_cons_zero,List.getElem_cons_succ] at h0
  refine SC.wp_seq (SC.wp_seq (SC.wp_reg ?_))
  iterate 4 (apply ops_1;(focus (simp (disch:=(try simp only [sPu]);omega) [h0,hF0,h1,hc];try rfl)))
  refine oNo rfl (opw_lenMap0 (v:=v) hTM (by simp (disch:=(try simp only [sPu]);omega)) rfl hv ?_)
  repeat (apply ops_1;(focus (simp (disch:=(try simp only [sPu]);omega) ;try rfl)))
  refine oNi ?_
  simp only [Exit.then]
  refine SC.wp_cond (t:=true) (by simp (disch:=(try simp only [sPu]);omega)) ?_
  rw [if_pos rfl]
  refine SC.wp_ret ?_
  simp only [Exit.then]
  refine bodyPost_ret_by (v:=.tuple #[]) ?_ (by simp [dPu,hd]) ⟨rfl,rfl⟩
  simp [results,hr]
def sc_TAppendEach (TB fEach:Nat) (g:Fn):SC:=.seq (.reg [⟨some 3,.box TB (.tmp 1),none⟩,⟨some 4,.assign (.const (.slice none 0 0)),none⟩]) (.seq (.reg [mv 5 0,⟨some 6,.makeFunc g #[] #[.tmp 3],none⟩,cal 7 fEach [5,6]]) (.seq (.reg [ld 8 TB 3,asg 4 8]) .ret))
theorem appendEach0_ok {TB fEach tU8:Nat} {g:Fn} (hTB:oneB P TB=true) (oE:FnOK P fEach) (cE:∀ (w:World) (F:Nat→Prop) (b o:Nat),HTags (fun u=>u=[]) w F b o []→∀ cl,Calls P fEach #[.pointer (some ⟨b,o,none⟩),cl] w fun e w'=>e=.returned (.tuple #[])∧w=w')
    (hf:P.funcs[f]?=some fn) (hb:fn.body.map strip=some (sc_TAppendEach TB fEach g)) (hn:fn.ntmps=9) (hr:fn.results=#[.tmp 4])
    (w:World) (B b o:Nat) (u:List (Nat × Bytes)) (dv:Value) (xs:Bytes) (hu:HTags (fun u=>u=[]) w (· < B) b o u) (hbB:b < B) (ho:Own tU8 w B dv xs) (hB:B≤w.heap.size) (hl:xs.length+(u.flatMap wTag).length≤lim) :
    Calls P f #[.pointer (some ⟨b,o,none⟩),dv] w fun e w'=>∃ dv',e=.returned dv'∧Own tU8 w' B dv' (xs ++ u.flatMap wTag)∧Below B w w'∧B≤w'.heap.size:=by
  have hu0:u=[]:=hu.1
  subst hu0
  have h1:dv.oneCell'=true:=by rcases ho.2 with ⟨rfl,_⟩ | ⟨g,cap,cur,rfl,_⟩ <;> rfl
  refine fCa hf hb hn (by simp) fun a0 hs hd ha=>?_
  have h0:=ha 0 _ rfl
  have hd1:=ha 1 _ rfl
  simp only [List.getElem_toArray,List.getElem_cons_zero,List.getElem_cons_succ] at h0 hd1
  refine SC.wp_seq (SC.wp_reg (oNo rfl (opw_box (v:=dv) (by rw [eTm,hd1]) ?_)))
  rw [cells_oneCell h1]
  have hnew:=heap_alloc_new w (.cells #[dv] TB)
  have hbn:Below B w (w.alloc (.cells #[dv] TB)):=(Below.refl _ _).alloc hB _
  have hon:Own tU8 (w.alloc (.cells #[dv] TB)) B dv xs:=ho.alloc _
  have hsn:(w.alloc (.cells #[dv] TB)).heap.size=w.heap.size+1:=by simp
  have hun:HTags (fun u=>u=[]) (w.alloc (.cells #[dv] TB)) (· < B) b o []:=by
    obtain ⟨q1,q2,q3,q4,q5⟩:=hu
    refine ⟨q1,q2,q3,q4,q5.imp ?_ ?_⟩
    · rintro ⟨z1,z2⟩
      exact ⟨by rw [hbn.cell (p:=⟨b,o,none⟩) hbB];exact z1,z2⟩
    · rintro ⟨r,es,clock,z1,z2,z3,z4⟩
      refine ⟨r,es,clock,by rw [hbn.cell (p:=⟨b,o,none⟩) hbB];exact z1,z2,by rw [hbn.block r z2];exact z3,z4.1,z4.2.1,fun e he x hx=>by simp at hx⟩
  generalize w.alloc (.cells #[dv] TB)=w1 at *
  have hc:w1.cell? ⟨w.heap.size,0,none⟩=some dv:=by rw [cell_of_row _ _ _ _ _ _ hnew];rfl
  repeat (apply ops_1;(focus (simp (disch:=(try simp only [sPu]);omega) ;try rfl)))
  refine oNi (SC.wp_seq (SC.wp_reg ?_))
  iterate 1 (apply ops_1;(focus (simp (disch:=(try simp only [sPu]);omega) [h0];try rfl)))
  refine oNo rfl (opw_of fun o2 next Q hd2 hop hnn=>?_)
  have hop':=stripOp_eq (by simp) hop
  have hr2:∀ av:Operand→Value,∃ v,(execOp av o2).run P w1=.ok (.value v) w1:=by
    intro av
    simp [execOp,hop',Instr.makeFunc]
  obtain ⟨cl,hcl⟩:=hr2 _
  rw [hcl,Oper.upon_value,hd2]
  refine hnn _ _ ?_
  refine ops_call oE (cE w1 _ b o hun cl) (by simp (disch:=(try simp only [sPu]);omega)) ?_
  rintro e w2 ⟨rfl,rfl⟩
  refine ⟨_,rfl,oNi ?_⟩
  simp only [Exit.then]
  refine SC.wp_seq (SC.wp_reg ?_)
  repeat (apply ops_1;(focus (simp (disch:=(try simp only [sPu]);omega) [hTB,hc];try rfl)))
  refine oNi (SC.wp_ret (ret_tmp hr (by simp [dPu,hd]) ⟨dv,?_,by simpa using hon,hbn,by omega⟩))
  simp (disch:=(try simp only [sPu]);omega)
end
end Go.Proofs.Ytgaplicnofhliaa.K
namespace Go.Proofs.Ytgaplicnofhliaa.K
open Go Go.RowKit Go.Proofs.Ytgaplicnofhliaa.T
attribute [local simp] eTm eCo pNo gTp gTn qv qcall vop iop
set_option linter.unusedSimpArgs false
set_option linter.unusedVariables false
set_option maxHeartbeats 4000000
section
variable {G:List (Nat × Bytes)→Prop} {P:Program} {X:STy} {f:FuncId} {fn:Func}
theorem lawNew_ok (hX:stOK P X=true) (hm:P.follows .mixedOrders=true) (hMt:arrB P X.M 2=true) {fMax fSp fVer fNew fDef fWr fSame:FuncId} {m:Nat} (hm16:m < 32768) (fs:Fs) (mflex:Int) (out:Int→Bytes)
    (oMax:FnOK P fMax) (cMax:∀ w:World,Calls P fMax #[] w fun e w'=>e=.returned (.int .i64 (m:Int))∧Below w.heap.size w w')
    (oSp:FnOK P fSp) (cSp:∀ w:World,Calls P fSp #[] w fun e w'=>∃ v,e=.returned (msgV v mflex)∧v.oneCell'=true∧FsV w' (fun k=>w.heap.size≤k∧k < w'.heap.size) fs v∧Below w.heap.size w w')
    (oVer:FnOK P fVer) (cVer:∀ (w:World) (n m:Nat),n < 256→m < 65536→Calls P fVer #[.int .u8 (n:Int),.int .i64 (m:Int)] w fun e w'=>e=.returned (.int .i64 ((n % (m+1):Nat):Int))∧w=w')
    (oNew:FnOK P fNew) (cNew:∀ (w:World) (ver:Nat),ver≤m→Calls P fNew #[.int .i64 (ver:Int)] w (RetOwn X.U8 w (out ver)))
    (oDef:FnOK P fDef) (cDef:DefC G P fDef fs)
    (oWr:FnOK P fWr) (cWr:∀ (w:World) (fv:Value) (mflex ver:Int) (t:Tree) (tv:Value),FsV w (· < w.heap.size) fs fv→TV G w (· < w.heap.size) t tv→(wFs ver (decide (0≤mflex) && decide (mflex≤ver)) fs t.l ++ wTags (decide (0≤mflex) && decide (mflex≤ver)) t.u).length≤lim →
      Calls P fWr #[msgV fv mflex,.int .i64 ver,tv] w (RetOwn X.U8 w (wFs ver (decide (0≤mflex) && decide (mflex≤ver)) fs t.l ++ wTags (decide (0≤mflex) && decide (mflex≤ver)) t.u)))
    (oSame:FnOK P fSame) (cSame:∀ (w:World) (xs:Bytes) (b1 b2:Option Addr) (c1 c2:Nat),BytesAt w (fun k=>k < w.heap.size) b1 xs→BytesAt w (fun k=>k < w.heap.size) b2 xs→xs.length≤lim→Calls P fSame #[.slice b1 xs.length c1,.slice b2 xs.length c2] w fun e w'=>e=.returned (.bool true)∧Below w.heap.size w w')
    (hout:∀ ver:Nat,ver≤m→out ver=wFs ver (decide (0≤mflex) && decide (mflex≤(ver:Int))) fs (defL fs) ++ wTags (decide (0≤mflex) && decide (mflex≤(ver:Int))) []) (hlen:∀ ver:Nat,ver≤m→(out ver).length≤lim)
    (hf:P.funcs[f]?=some fn) (hb:fn.body.map strip=some (sc_LawNew fMax fSp fVer fNew fDef fWr fSame X.I X.M X.Fs)) (hn:fn.ntmps=22) (hr:fn.results=#[.tmp 2]) (w:World) (n:Nat) (hn8:n < 256) :
    Calls P f #[.int .u8 (n:Int)] w fun e w'=>e=.returned (.bool true)∧Below w.heap.size w w':=by
  have hst:=st_facts hX
  obtain ⟨hM1,iM,zM,hiM,hzM,hzMs⟩:=arr_of hMt
  refine fCa hf hb hn (by simp) fun a0 hs hd ha=>?_
  have k0:=ha 0 _ rfl
  simp only [List.getElem_toArray,List.getElem_cons_zero,List.getElem_cons_succ] at k0
  refine SC.wp_seq (SC.wp_reg ?_)
  repeat (apply ops_1;(focus (simp (disch:=(try simp only [sPu]);omega) ;try rfl)))
  refine oNi (SC.wp_seq (SC.wp_reg (ops_cal oMax (cMax w) ?_)))
  rintro e w1 ⟨rfl,hb1⟩
  refine ⟨_,rfl,?_⟩
  repeat (apply ops_1;(focus (simp (disch:=(try simp only [sPu]);omega) ;try rfl)))
  refine oNi (SC.wp_seq (SC.wp_seq (SC.wp_reg ?_)))
  have em:decide ((m:Int) < 0)=false:=by simp
  repeat (apply ops_1;(focus (simp (disch:=(try simp only [sPu]);omega) [em];try rfl)))
  refine oNi (SC.wp_cond (t:=false) (by simp (disch:=(try simp only [sPu]);omega)) ?_)
  rw [if_neg (by simp)]
  refine SC.wp_skip ?_
  simp only [Exit.then]
  refine SC.wp_seq (SC.wp_reg (ops_cal oSp (cSp w1) ?_))
  rintro e w2 ⟨fv,rfl,hfv1,hfv,hb2⟩
  refine ⟨_,rfl,oNo rfl (opw_alloc hiM hzM ?_)⟩
  refine oNo rfl (opw_store_agg (b:=w2.heap.size) (cs:=[fv,.int .i64 mflex]) hM1 (by simp (disch:=(try simp only [sPu]);omega)) (by simp (disch:=(try simp only [sPu]);omega) [msgV]) (heap_alloc_new w2 _) (by simp [hzMs]) (by
    intro v hv
    simp only [List.mem_cons,List.not_mem_nil,or_false] at hv
    rcases hv with rfl | rfl
    · exact hfv1
    · rfl) (oNi ?_))
  have hnew:((w2.alloc (.cells zM.cells X.M)).setRow w2.heap.size #[fv,.int .i64 mflex]).heap[w2.heap.size]?=some (.cells #[fv,.int .i64 mflex] X.M (0,0)):=setRow_heap _ _ _ _ _ _ (heap_alloc_new w2 _)
  have hb3:Below w2.heap.size w2 ((w2.alloc (.cells zM.cells X.M)).setRow w2.heap.size #[fv,.int .i64 mflex]):=below_setRow ((Below.refl _ _).alloc (Nat.le_refl _) _) (Nat.le_refl _) _
  have hs3:((w2.alloc (.cells zM.cells X.M)).setRow w2.heap.size #[fv,.int .i64 mflex]).heap.size=w2.heap.size+1:=by simp
  simp only [Exit.then,pNo]
  generalize ((w2.alloc (.cells zM.cells X.M)).setRow w2.heap.size #[fv,.int .i64 mflex])=w3 at *
  have hs1:=hb1.size
  have hs2:=hb2.size
  have hbw3:Below w.heap.size w w3:=hb1.trans ((hb2.mono hs1).trans (hb3.mono (by omega)))
  have hc:∀ i,w3.drew.cell? ⟨w2.heap.size,i,none⟩=#[fv,.int .i64 mflex][i]?:=fun i=>cell_of_row _ _ _ _ _ _ (show w3.drew.heap[w2.heap.size]?=_ from hnew)
  have hM2:rangeV w3.drew w2.heap.size 0 2=some [fv,.int .i64 mflex]:=by simp [rangeV,hc]
  have hvm:n % (m+1)≤m:=by have:=Nat.mod_lt n (show 0 < m+1 by omega);omega
  have hlt:w2.heap.size < w2.heap.size+1:=by omega
  refine gen_act (fun a=>a.tmps.size=22∧a.defers=[]∧getT a 0=.int .u8 (n:Int)∧getT a 3=.int .i64 (m:Int)∧getT a 4=.pointer (some ⟨w2.heap.size,0,none⟩))
    ⟨by simp [sPu,hs],by simp [dPu,hd],by simp (disch:=(try simp only [sPu]);omega) [k0],by simp (disch:=(try simp only [sPu]);omega),by simp (disch:=(try simp only [sPu]);omega)⟩ ?_
  rintro a ⟨z,zd,z0,z3,z4⟩
  refine SC.wp_seq (SC.wp_dreg hm (Below (w2.heap.size+1) w3.drew) [(0,true),(1,true),(4,true),(5,true),(6,true),(8,true),(9,true),(2,false),(3,false),(7,false),(10,false),(11,false),(12,false),(13,true)] (by rfl) (by rfl) (by decide) (Below.refl _ _) ?_)
  iterate 7 (apply dr_1;(focus rfl);(focus (simp (disch:=(try simp only [sPu]);omega) [hst,z0,z3,z4,hlt,hc,hM2];try rfl)))
  refine dreg_call rfl oVer (cVer w3.drew n m hn8 (by omega)) (by simp (disch:=(try simp only [sPu]);omega) [z0,z3]) ?_
  rintro e w4 ⟨rfl,rfl⟩
  refine ⟨_,rfl,Below.refl _ _,?_⟩
  refine dreg_call rfl oNew (cNew w3.drew (n % (m+1)) hvm) (by simp (disch:=(try simp only [sPu]);omega)) ?_
  rintro e w4 ⟨v1,rfl,o1,b1⟩
  have b1:Below w3.heap.size w3.drew w4:=b1
  have s4:w3.heap.size≤w4.heap.size:=b1.size
  refine ⟨v1,rfl,b1.mono (by omega),?_⟩
  refine dreg_call rfl oVer (cVer w4 n m hn8 (by omega)) (by simp (disch:=(try simp only [sPu]);omega) [z0,z3]) ?_
  rintro e w5 ⟨rfl,rfl⟩
  refine ⟨_,rfl,b1.mono (by omega),?_⟩
  have hfv4:FsV w4 (· < w4.heap.size) fs fv:=hfv.mono (fun k hk=>by have:=hk.2;show k < w4.heap.size;omega) (fun k hk=>(b1.block k (by have:=hk.2;omega)).trans (hb3.block k hk.2))
  refine dreg_call rfl oDef (cDef w4 fv hfv4) (by simp (disch:=(try simp only [sPu]);omega)) ?_
  rintro e w5 ⟨tv,rfl,htv,b2⟩
  have s5:w4.heap.size≤w5.heap.size:=b2.size
  refine ⟨tv,rfl,(b1.mono (by omega)).trans (b2.mono (by omega)),?_⟩
  have hout':=hout (n % (m+1)) hvm
  have hlen':=hlen (n % (m+1)) hvm
  refine dreg_call rfl oWr (cWr w5 fv mflex ((n % (m+1):Nat):Int) _ tv (FsV.down b2 (by omega) hfv4) (htv.mono (fun k hk=>hk.2) (fun _ _=>rfl)) (by simp only [Tree.l,Tree.u];rw [← hout'];exact hlen')) (by simp (disch:=(try simp only [sPu]);omega) [msgV]) ?_
  rintro e w6 ⟨v2,rfl,o2,b3⟩
  simp only [Tree.l,Tree.u] at o2
  rw [← hout'] at o2
  have s6:w5.heap.size≤w6.heap.size:=b3.size
  have hS6:Below (w2.heap.size+1) w3.drew w6:=(b1.mono (by omega)).trans ((b2.mono (by omega)).trans (b3.mono (by omega)))
  refine ⟨v2,rfl,hS6,?_⟩
  have o16:Own X.U8 w6 w3.heap.size v1 (out ((n % (m+1):Nat):Int)):=own_keep (own_keep o1 b2) b3
  obtain ⟨p1,c1,rfl,q1⟩:=own_bytesAt o16
  obtain ⟨p2,c2,rfl,q2⟩:=own_bytesAt o2
  refine dreg_call rfl oSame (cSame w6 _ p1 p2 c1 c2 q1 q2 hlen') (by simp (disch:=(try simp only [sPu]);omega)) ?_
  rintro e w7 ⟨rfl,b4⟩
  refine ⟨_,rfl,hS6.trans (b4.mono (by omega)),?_⟩
  repeat (apply dr_1;(focus rfl);(focus (simp (disch:=(try simp only [sPu]);omega) ;try rfl)))
  refine dreg_nil ?_
  simp only [Exit.then]
  refine SC.wp_ret (ret_tmp hr (by simp [dPu,zd]) ⟨?_,hbw3.drew.trans ((hS6.trans (b4.mono (by omega))).mono (by omega))⟩)
  simp (disch:=(try simp only [sPu]);omega)
mutual
theorem subD_all {C:Fs→Prop} (hC:∀ fs,Fs.len fs < 4294967296→SubsD C fs→C fs):∀ ty,smallTy ty=true→SubD C ty
  | .prim _,_=>by simp [SubD]
  | .struct _ _ _ _ fs,h=>by
    simp only [smallTy,Bool.and_eq_true,decide_eq_true_eq] at h
    simp only [SubD]
    exact hC fs h.1 (subsD_all hC fs h.2)
  | .list _ _ _ of,h=>by simp [SubD]
theorem subsD_all {C:Fs→Prop} (hC:∀ fs,Fs.len fs < 4294967296→SubsD C fs→C fs):∀ fs,smallFs fs=true→SubsD C fs
  | .nil,_=>by simp [SubsD]
  | .cons h ty r,hh=>by
    simp only [smallFs,Bool.and_eq_true] at hh
    simp only [SubsD]
    exact ⟨subD_all hC ty hh.1,subsD_all hC r hh.2⟩
end
theorem uvarint_small {n:Nat} (h:n≤127):(uvarint n).length=1:=by rw [uvarint_lt h];rfl
end
end Go.Proofs.Ytgaplicnofhliaa.K
namespace Go.Proofs.Ytgaplicnofhliaa.K
open Go Go.RowKit Go.Proofs.Ytgaplicnofhliaa.T
set_option linter.unusedSimpArgs false
set_option linter.unusedVariables false
set_option maxHeartbeats 4000000
mutual
def dTy:Ty→Nat
  | .prim _=>40
  | .list _ _ _ _=>40
  | .struct _ _ _ _ fs=>dFs fs+40
def dFs:Fs→Nat
  | .nil=>0
  | .cons _ ty r=>dTy ty+dFs r
end
theorem counted_len (flex null:Bool) (size:Nat) (h:size≤8):(counted flex null 0 size).length≤8:=by
  unfold counted
  cases flex <;> cases null <;> simp [fixed_length,h,uvarint_lt]
theorem wTags_nil (flex:Bool):(wTags flex []).length≤1:=by
  cases flex <;> simp [wTags,unknown,uvarint_lt]
mutual
theorem dTy_ok (ver:Int) (flex:Bool) (h:Hd):∀ ty,(wField ver flex h ty (defT h ty)).length≤dTy ty
  | .prim k=>by
    simp only [wField,wTy,defT,dTy]
    have hc2:=counted_len flex (h.isNull ver (.mk h.dflt [] (decide (0≤h.null)) [] [])) 2 (by decide)
    have hc4:=counted_len flex (h.isNull ver (.mk h.dflt [] (decide (0≤h.null)) [] [])) 4 (by decide)
    cases k <;> simp only [wPrim,Tree.s,PK.width,fixed_length,List.length_append,List.length_take,List.length_replicate,whole,List.take_nil,List.length_nil,ite_self,List.length_cons] <;> first | omega | decide
  | .list _ _ _ of=>by
    simp only [wField,wTy,defT,dTy,Tree.l,List.take_nil,ite_self,List.length_nil,List.flatMap_nil,List.append_nil]
    have hc4:=counted_len flex (h.isNull ver (.mk h.dflt [] (decide (0≤h.null)) [] [])) 4 (by decide)
    omega
  | .struct _ _ _ _ fs=>by
    have h1:=dFs_ok ver flex fs
    have h2:=wTags_nil flex
    rename_i typ size dflt tags
    have e1:(defT h (.struct typ size dflt tags fs)).l=defL fs:=by simp [defT,Tree.l]
    have e2:(defT h (.struct typ size dflt tags fs)).u=[]:=by simp [defT,Tree.u]
    generalize defT h (.struct typ size dflt tags fs)=tr at *
    simp only [wField,wTy,dTy,e1,e2]
    split
    · split
      · simp
      · simp only [List.length_cons,List.length_append]
        omega
    · rw [List.length_append]
      omega
theorem dFs_ok (ver:Int) (flex:Bool):∀ fs,(wFs ver flex fs (defL fs)).length≤dFs fs
  | .nil=>by simp [wFs,dFs]
  | .cons h ty r=>by
    have h1:=dTy_ok ver flex h ty
    have h2:=dFs_ok ver flex r
    rw [wFs_cons]
    simp only [defL,List.headD_cons,List.tail_cons,dFs,List.length_append]
    split
    · omega
    · simp;omega
end
theorem new_len (ver:Int) (flex:Bool) (fs:Fs) (h:dFs fs≤1000000):(wFs ver flex fs (defL fs) ++ wTags flex []).length≤lim:=by
  have h1:=dFs_ok ver flex fs
  have h2:=wTags_nil flex
  have hlim:lim=70368744177664:=rfl
  rw [List.length_append]
  omega
theorem newAT_ok {P:Program} {I:Ids} {tU8:Nat} {f S t:Nat} {fn:Func} {flex:Option Int} {tags:Option (Nat × Nat)} {fs:Fs} {cs:Array Value} {T:TypeId} {G:List (Nat × Bytes)→Prop} (hG0:G []) (hka:KA G P I tU8)
    (hf:P.funcs[f]?=some fn) (hb:fn.body.map strip=some (aTop I S t flex tags fs)) (hr:fn.results=#[.tmp 4]) (hok:okTop P I tU8 S t fn.ntmps flex tags fs=true) (hcs:0 < cs.size)
    (hdef:∀ n:Int,defOK (fun o=>(cs.setIfInBounds 0 (.int .i16 n))[o]?) 0 fs=true) (hdt:∀ n:Int,defTags (fun o=>(cs.setIfInBounds 0 (.int .i16 n))[o]?) 0 tags=true) (hlen:dFs fs≤1000000)
    (w:World) (b:Nat) (n:Int) (hc:w.heap[b]?=some (.cells (cs.setIfInBounds 0 (.int .i16 n)) T (0,0))) (h0:0≤n) (h1:n < 32768) :
    Calls P f #[.pointer (some ⟨b,0,none⟩),.slice none 0 0] w fun e w'=>∃ dv,e=.returned dv∧Own tU8 w' w.heap.size dv (wFs n (flexAt flex n) fs (defL fs) ++ wTags (flexAt flex n) [])∧Below w.heap.size w w':=by
  have hg:∀ o v,(cs.setIfInBounds 0 (.int .i16 n))[o]?=some v→w.cell? ⟨b,o,none⟩=some v:=fun o v hv=>by
    rw [cell_of_row _ _ _ _ _ _ hc];exact hv
  refine appendTo_calls hka hf hb hr hok w b 0 n (defL fs) [] (Array.getElem?_eq_some_iff.1 hc).1 (hg 0 _ (by rw [Array.getElem?_setIfInBounds_self_of_lt hcs])) h0 (defOK_ok (G:=G) (get:=fun o=>(cs.setIfInBounds 0 (.int .i16 n))[o]?) hG0 hg n _ fs 0 (hdef n)) ?_ (new_len n _ fs hlen)
  exact defTags_ok (G:=G) (get:=fun o=>(cs.setIfInBounds 0 (.int .i16 n))[o]?) hG0 hg _ 0 tags (hdt n)
def fld3B (P:Program) (T:TypeId):Bool :=
  match P.underlying T with
  | some (.struct fields)=>match fields.toList[3]? with
    | some fl=>fl.offset == 3 && (match P.info? fl.type with
      | some i=>i.size == 1
      | none=>false) && oneB P fl.type
    | none=>false
  | _=>false
theorem fld3_of {P:Program} {T:TypeId} (h:fld3B P T=true):∃ fields fl,P.underlying T=some (.struct fields)∧fields.toList[3]?=some fl∧fl.offset=3∧(∃ i,P.info? fl.type=some i∧i.size=1)∧oneB P fl.type=true:=by
  unfold fld3B at h
  split at h <;> try (simp at h;done)
  rename_i fields hu
  split at h <;> try (simp at h;done)
  rename_i fl hf
  simp only [Bool.and_eq_true,beq_iff_eq] at h
  obtain ⟨⟨h1,h2⟩,h3⟩:=h
  split at h2 <;> try (simp at h2;done)
  rename_i i hi
  exact ⟨fields,fl,hu,hf,h1,⟨i,hi,by simpa using h2⟩,h3⟩
def infoB (P:Program) (T:TypeId):Bool :=
  match P.info? T with
  | some i=>(match i.zero with | some (.agg ⟨[.int .i64 0,.slice none 0 0,.bool false,.slice none 0 0,.slice none 0 0]⟩)=>true | _=>false) && i.size == 5 && decide (i.bytes≤1000)
  | none=>false
theorem info_of {P:Program} {T:TypeId} (h:infoB P T=true):∃ i,P.info? T=some i∧i.zero=some zeroTV∧i.size=5∧i.bytes≤1000:=by
  unfold infoB at h
  split at h <;> try (simp at h;done)
  rename_i i hi
  simp only [Bool.and_eq_true,beq_iff_eq,decide_eq_true_eq] at h
  obtain ⟨⟨h1,h2⟩,h3⟩:=h
  split at h1 <;> try (simp at h1;done)
  rename_i hz
  exact ⟨i,hi,hz,h2,h3⟩
end Go.Proofs.Ytgaplicnofhliaa.K
