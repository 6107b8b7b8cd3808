/- Generic texts: R28 S14 S15 Z6 S13 S19 S20 V1 V2. No condition. -/
import Derived.Test.YtjbbohfaihkolaaN10
import Derived.Great.BuildSlice
import Derived.Great.FillDense
namespace Go.Proofs.Ytjbbohfaihkolaa.K
open Go Go.RowKit Go.Proofs.Ytjbbohfaihkolaa.T
attribute [local simp] eTm eCo pNo gTp gTn qv qcall vop iop
set_option linter.unusedVariables false
set_option linter.unusedSimpArgs false
set_option maxHeartbeats 4000000
section
variable {P:Program} {X:STy} {f:FuncId} {fn:Func}
end
end Go.Proofs.Ytjbbohfaihkolaa.K
namespace Go.Proofs.Ytjbbohfaihkolaa.K
open Go Go.RowKit Go.Proofs.Ytjbbohfaihkolaa.T
set_option linter.unusedSimpArgs false
set_option linter.unusedVariables false
set_option maxHeartbeats 4000000
def hasSub:Ty→Bool
  | .struct _ _ _ _ _=>true
  | .list _ _ _ of=>hasSub of
  | .prim _=>false
def ofPart:Ty→List (Nat × Int)
  | .list _ _ _ of=>[(6,kindOf of)]
  | _=>[]
def fldInts (h:Hd) (ty:Ty):List (Nat × Int) :=
  (0,kindOf ty) :: (if h.from_=0 then [] else [(1,h.from_)]) ++ [(2,h.to),(3,h.null),(4,-1)] ++ (if h.dflt=0 then [] else [(5,h.dflt)]) ++ ofPart ty
def fldParts (h:Hd) (ty:Ty) (sub:Option Nat):List (Nat × Operand) :=
  (fldInts h ty).map (fun x=>(x.1,.const (.int .i64 x.2))) ++ (match sub with | some t=>[(7,.tmp t)] | none=>[])
def bOps (F:Nat):Fs→List Nat→Nat→List SOp
  | .nil,_,_=>[]
  | .cons h ty r,subs,t =>
    if hasSub ty then cal t (subs.headD 0) [] :: ⟨some (t+1),.build F (fldParts h ty (some t)).toArray,none⟩ :: bOps F r subs.tail (t+2)
    else ⟨some t,.build F (fldParts h ty none).toArray,none⟩ :: bOps F r subs (t+1)
def bSlots:Fs→Nat→List Nat
  | .nil,_=>[]
  | .cons _ ty r,t=>if hasSub ty then (t+1) :: bSlots r (t+2) else t :: bSlots r (t+1)
def bEnd:Fs→Nat→Nat
  | .nil,t=>t
  | .cons _ ty r,t=>if hasSub ty then bEnd r (t+2) else bEnd r (t+1)
def bSlice (Fs_:Nat) (fs:Fs):SOp:=⟨some (bEnd fs 1),.buildSlice Fs_ (Fs.len fs) (((bSlots fs 1).zipIdx 0).map fun x=>(x.2,.tmp x.1)).toArray,none⟩
def sc_bSub (F Fs_:Nat) (fs:Fs) (subs:List Nat):SC :=
  .seq (.reg [⟨some 0,.assign (.const (.slice none 0 0)),none⟩]) (.seq (.reg (bOps F fs subs 1 ++ [bSlice Fs_ fs,asg 0 (bEnd fs 1)])) .ret)
def zeroF:List Value:=[.int .i64 0,.int .i64 0,.int .i64 0,.int .i64 0,.int .i64 0,.int .i64 0,.int .i64 0,.slice none 0 0]
def fOK (P:Program) (F:Nat):Bool :=
  match P.info? F,P.underlying F with
  | some it,some (.struct fields) =>
    match it.zero,fields.toList.mapM (fun f=>(P.info? f.type).map fun i=>(f.offset,i.size)) with
    | some (.agg ⟨[.int .i64 0,.int .i64 0,.int .i64 0,.int .i64 0,.int .i64 0,.int .i64 0,.int .i64 0,.slice none 0 0]⟩),some [(0,1),(1,1),(2,1),(3,1),(4,1),(5,1),(6,1),(7,1)]=>true
    | _,_=>false
  | _,_=>false
def setAll:List (Nat × Value)→List Value→List Value
  | [],cs=>cs
  | (i,v) :: r,cs=>setAll r (cs.set i v)
section
variable {P:Program} {X:STy} {f:FuncId} {fn:Func}
theorem fill8:∀ (parts:List (Nat × Value)) (cs:List Value),cs.length=8→(∀ x ∈ parts,x.1 < 8∧x.2.cells=#[x.2]) →
    Instr.fill (fun x=>(#[(0,1),(1,1),(2,1),(3,1),(4,1),(5,1),(6,1),(7,1)]:Array (Nat × Nat))[x]?) cs.toArray parts=some (setAll parts cs).toArray
  | [],cs,_,_=>by simp [Instr.fill,setAll]
  | (i,v) :: r,cs,hl,h=>by
    obtain ⟨h1,h2⟩:=h (i,v) List.mem_cons_self
    have ih:=fill8 r (cs.set i v) (by simpa using hl) (fun x hx=>h x (List.mem_cons_of_mem _ hx))
    have hp:(#[(0,1),(1,1),(2,1),(3,1),(4,1),(5,1),(6,1),(7,1)]:Array (Nat × Nat))[i]?=some (i,1):=by
      have:i=0∨i=1∨i=2∨i=3∨i=4∨i=5∨i=6∨i=7:=by simp only at h1;omega
      rcases this with rfl | rfl | rfl | rfl | rfl | rfl | rfl | rfl <;> rfl
    simp only at h1 h2
    unfold Instr.fill
    rw [hp]
    simp only [h2,setAll]
    have hc:¬ (i+1 > cs.length):=by omega
    simp [hl,show ¬ (8 < i+1) by omega]
    simpa using ih
theorem built8 (h:fOK P X.F=true) (parts:List (Nat × Value)) (hp:∀ x ∈ parts,x.1 < 8∧x.2.cells=#[x.2]):P.built X.F parts=some (setAll parts zeroF).toArray:=by
  unfold fOK at h
  split at h <;> try (simp at h;done)
  rename_i it fields hi hu
  split at h <;> try (simp at h;done)
  rename_i hz hpl
  unfold Program.built
  simp only [hi,hu,hz,hpl]
  exact fill8 parts zeroF rfl hp
def ofOK2 (of_:Int):Ty→Prop
  | .list _ _ _ of=>of_=kindOf of
  | _=>True
theorem fldInts_set (h:Hd) (ty:Ty):∃ of_,ofOK2 of_ ty∧setAll ((fldInts h ty).map fun x=>(x.1,Value.int .i64 x.2)) zeroF=[.int .i64 (kindOf ty),.int .i64 h.from_,.int .i64 h.to,.int .i64 h.null,.int .i64 (-1),.int .i64 h.dflt,.int .i64 of_,.slice none 0 0]:=by
  have e:∀ (l:List (Nat × Int)) (of_:Int),ofPart ty=l→(l=[]∧of_=0∨l=[(6,of_)])→setAll ((fldInts h ty).map fun x=>(x.1,Value.int .i64 x.2)) zeroF=[.int .i64 (kindOf ty),.int .i64 h.from_,.int .i64 h.to,.int .i64 h.null,.int .i64 (-1),.int .i64 h.dflt,.int .i64 of_,.slice none 0 0]:=by
    intro l of_ hl ho
    unfold fldInts
    rw [hl]
    rcases ho with ⟨rfl,rfl⟩ | rfl <;> by_cases e1:h.from_=0 <;> by_cases e2:h.dflt=0 <;> simp [e1,e2,setAll,zeroF]
  cases ty with
  | prim k=>exact ⟨0,trivial,e [] 0 rfl (.inl ⟨rfl,rfl⟩)⟩
  | struct _ _ _ _ _=>exact ⟨0,trivial,e [] 0 rfl (.inl ⟨rfl,rfl⟩)⟩
  | list _ _ _ of=>exact ⟨kindOf of,rfl,e [(6,kindOf of)] _ rfl (.inr rfl)⟩
def SubFns (P:Program):Fs→List Nat→Prop
  | .nil,_=>True
  | .cons _ ty r,subs=>if hasSub ty then
      (FnOK P (subs.headD 0)∧∀ w:World,Calls P (subs.headD 0) #[] w fun e w'=>∃ v,e=.returned v∧v.oneCell'=true∧SubV w' (fun k=>w.heap.size≤k∧k < w'.heap.size) ty v∧Below w.heap.size w w')∧SubFns P r subs.tail
    else SubFns P r subs
def flatTy:Ty→Bool
  | .list _ _ _ of=>!isList of
  | _=>true
def flatFs:Fs→Bool
  | .nil=>true
  | .cons _ ty r=>flatTy ty && flatFs r
def FsRows (w:World) (F:Nat→Prop):Fs→List (List Value)→Prop
  | .nil,rows=>rows=[]
  | .cons h ty r,rows=>∃ of_ sub rest,rows=[.int .i64 (kindOf ty),.int .i64 h.from_,.int .i64 h.to,.int .i64 h.null,.int .i64 (-1),.int .i64 h.dflt,.int .i64 of_,sub] :: rest∧sub.oneCell'=true∧ofOK of_ ty∧SubV w F ty sub∧FsRows w F r rest
theorem FsRows.mono {w0 w:World} {F F':Nat→Prop} (hF:∀ k,F k→F' k) (hw:∀ k,F k→w.heap[k]?=w0.heap[k]?):∀ (fs:Fs) (rows:List (List Value)),FsRows w0 F fs rows→FsRows w F' fs rows
  | .nil,_,h=>h
  | .cons h ty r,rows,hh=>by
    simp only [FsRows] at hh ⊢
    obtain ⟨of_,sub,rest,h1,h2,h3,h4,h5⟩:=hh
    exact ⟨of_,sub,rest,h1,h2,h3,SubV.mono hF hw ty sub h4,FsRows.mono hF hw r rest h5⟩
theorem fsAt_rows {w:World} {F:Nat→Prop} {b:Nat}:∀ (fs:Fs) (rows:List (List Value)) (o:Nat),FsRows w F fs rows→(∀ i v,rows.flatten[i]?=some v→w.cell? ⟨b,o+i,none⟩=some v)→FsAt w F fs b o
  | .nil,_,_,_,_=>by simp [FsAt]
  | .cons h ty r,rows,o,hh,hc=>by
    simp only [FsRows] at hh
    obtain ⟨of_,sub,rest,rfl,h2,h3,h4,h5⟩:=hh
    simp only [FsAt]
    refine ⟨⟨of_,sub,?_,h2,h3,h4⟩,fsAt_rows r rest (o+8) h5 (fun i v hv=>?_)⟩
    · refine rangeV_of [.int .i64 (kindOf ty),.int .i64 h.from_,.int .i64 h.to,.int .i64 h.null,.int .i64 (-1),.int .i64 h.dflt,.int .i64 of_,sub] o (fun j v hv=>hc j v ?_)
      rw [List.flatten_cons,List.getElem?_append_left (by have:=(List.getElem?_eq_some_iff.1 hv).1;simpa using this)]
      exact hv
    · rw [show o+8+i=o+(i+8) by omega]
      refine hc (i+8) v ?_
      rw [List.flatten_cons,List.getElem?_append_right (by simp)]
      simpa using hv
theorem fsRows_len {w:World} {F:Nat→Prop}:∀ (fs:Fs) (rows:List (List Value)),FsRows w F fs rows→rows.length=Fs.len fs∧∀ r ∈ rows,r.length=8
  | .nil,rows,h=>by simp only [FsRows] at h;subst h;simp [Fs.len]
  | .cons h ty r,rows,hh=>by
    simp only [FsRows] at hh
    obtain ⟨of_,sub,rest,rfl,h2,h3,h4,h5⟩:=hh
    obtain ⟨q1,q2⟩:=fsRows_len r rest h5
    refine ⟨by simp [Fs.len,q1],fun x hx=>?_⟩
    rcases List.mem_cons.1 hx with rfl | hx
    · rfl
    · exact q2 x hx
theorem ofOK_of {of_:Int} {ty:Ty} (hfl:flatTy ty=true) (h:ofOK2 of_ ty):ofOK of_ ty:=by
  cases ty with
  | list _ _ _ of =>
    simp only [flatTy,Bool.not_eq_true'] at hfl
    exact ⟨h,hfl⟩
  | prim k=>exact trivial
  | struct _ _ _ _ _=>exact trivial
theorem fldInts_lt (h:Hd) (ty:Ty):∀ x ∈ fldInts h ty,x.1 < 7:=by
  intro x hx
  have a1:∀ (c:Prop) [Decidable c] (k:Nat) (v:Int),x ∈ (if c then [] else [(k,v)])→x.1=k:=by
    intro c _ k v hx
    split at hx
    · simp at hx
    · simp at hx;rw [hx]
  have a2:x ∈ ofPart ty→x.1=6:=by
    intro hx
    cases ty <;> simp [ofPart] at hx
    rw [hx]
  simp only [fldInts,List.mem_append,List.mem_cons,List.not_mem_nil,or_false] at hx
  rcases hx with (((hx | hx) | (hx | hx | hx)) | hx) | hx
  · rw [hx];simp
  · have:=a1 _ _ _ hx;omega
  · rw [hx];simp
  · rw [hx];simp
  · rw [hx];simp
  · have:=a1 _ _ _ hx;omega
  · have:=a2 hx;omega
theorem setAll_append:∀ (l l':List (Nat × Value)) (cs:List Value),setAll (l ++ l') cs=setAll l' (setAll l cs)
  | [],_,_=>rfl
  | (i,v) :: l,l',cs=>by simp only [List.cons_append,setAll,setAll_append l l']
theorem bEnd_ge:∀ (fs:Fs) (t:Nat),t≤bEnd fs t
  | .nil,t=>Nat.le_refl _
  | .cons _ ty r,t=>by
    simp only [bEnd]
    split
    · have:=bEnd_ge r (t+2);omega
    · have:=bEnd_ge r (t+1);omega
theorem subV_none {w:World} {F:Nat→Prop}:∀ (ty:Ty) (v:Value),hasSub ty=false→SubV w F ty v
  | .prim _,_,_=>by simp [SubV]
  | .struct _ _ _ _ _,_,h=>by simp [hasSub] at h
  | .list _ _ _ of,v,h=>by
    simp only [hasSub] at h
    simp only [SubV]
    exact subV_none of v h
theorem cells_one {v:Value} (h:v.oneCell'=true):v.cells=#[v]:=cells_oneCell h
theorem bOps_ok (hX:fOK P X.F=true):∀ (fs:Fs) (subs:List Nat) (t:Nat) (all r:List SOp) (K:Act→World→Prop) (a:Act) (w:World),flatFs fs=true→SubFns P fs subs→bEnd fs t≤a.tmps.size →
    (∀ (a':Act) (w':World) (rows:List (List Value)),a'.tmps.size=a.tmps.size→a'.defers=a.defers→(∀ s,s < t→getT a' s=getT a s)→FsRows w' (fun k=>w.heap.size≤k∧k < w'.heap.size) fs rows→((bSlots fs t).map (getT a'))=rows.map (fun r=>Value.agg r.toArray)→Below w.heap.size w w'→opsw P all r K a' w') →
    opsw P all (bOps X.F fs subs t ++ r) K a w
  | .nil,subs,t,all,r,K,a,w,_,_,_,h=>h a w [] rfl rfl (fun _ _=>rfl) rfl rfl (Below.refl _ _)
  | .cons hd ty rs,subs,t,all,r,K,a,w,hfl,hsf,hsz,h=>by
    simp only [flatFs,Bool.and_eq_true] at hfl
    obtain ⟨of_,hof,hset⟩:=fldInts_set hd ty
    have hints:∀ x ∈ (fldInts hd ty).map (fun x=>(x.1,Value.int .i64 x.2)),x.1 < 8∧x.2.cells=#[x.2]:=by
      intro x hx
      obtain ⟨y,hy,rfl⟩:=List.mem_map.1 hx
      have:=fldInts_lt hd ty y hy
      exact ⟨by simp only;omega,rfl⟩
    cases hs:hasSub ty
    · simp only [SubFns,hs,Bool.false_eq_true,if_false] at hsf
      simp only [bEnd,hs,Bool.false_eq_true,if_false] at hsz
      have hge:=bEnd_ge rs (t+1)
      simp only [bOps,bSlots,hs,Bool.false_eq_true,if_false,List.cons_append] at h ⊢
      refine oNo rfl (opw_build (cs:=#[.int .i64 (kindOf ty),.int .i64 hd.from_,.int .i64 hd.to,.int .i64 hd.null,.int .i64 (-1),.int .i64 hd.dflt,.int .i64 of_,.slice none 0 0]) ?_ ?_)
      · have:=built8 hX _ hints
        rw [hset] at this
        rw [← this]
        simp [fldParts]
        rfl
      refine bOps_ok hX rs subs (t+1) all r K _ w hfl.2 hsf (by rw [sPu];exact hsz) ?_
      intro a' w' rows q qd qs qr qm qb
      refine h a' w' ([.int .i64 (kindOf ty),.int .i64 hd.from_,.int .i64 hd.to,.int .i64 hd.null,.int .i64 (-1),.int .i64 hd.dflt,.int .i64 of_,.slice none 0 0] :: rows) (by rw [q,sPu]) (by rw [qd,dPu]) ?_ ?_ ?_ qb
      · intro s hs
        rw [qs s (by omega),gTn (by omega)]
      · simp only [FsRows]
        exact ⟨of_,_,rows,rfl,rfl,ofOK_of hfl.1 hof,subV_none ty _ hs,qr⟩
      · simp only [List.map_cons]
        rw [qm,qs t (by omega),gTp (by omega)]
    · simp only [SubFns,hs,if_true] at hsf
      obtain ⟨⟨oF,cF⟩,hsf⟩:=hsf
      simp only [bEnd,hs,if_true] at hsz
      have hge:=bEnd_ge rs (t+2)
      simp only [bOps,bSlots,hs,if_true,List.cons_append] at h ⊢
      refine ops_cal oF (R:=fun e w'=>∃ v,e=.returned v∧v.oneCell'=true∧SubV w' (fun k=>w.heap.size≤k∧k < w'.heap.size) ty v∧Below w.heap.size w w') (cF w) ?_
      rintro e w1 ⟨v,rfl,hv1,hsv,hb1⟩
      refine ⟨v,rfl,?_⟩
      have hs1:w.heap.size≤w1.heap.size:=hb1.size
      refine oNo rfl (opw_build (cs:=#[.int .i64 (kindOf ty),.int .i64 hd.from_,.int .i64 hd.to,.int .i64 hd.null,.int .i64 (-1),.int .i64 hd.dflt,.int .i64 of_,v]) ?_ ?_)
      · have:=built8 hX ((fldInts hd ty).map (fun x=>(x.1,Value.int .i64 x.2)) ++ [(7,v)]) (by
          intro x hx
          rcases List.mem_append.1 hx with hx | hx
          · exact hints x hx
          · simp at hx
            subst hx
            exact ⟨by simp,cells_one hv1⟩)
        rw [setAll_append,hset] at this
        simp only [setAll,List.set_cons_succ,List.set_cons_zero] at this
        rw [← this]
        have ht:getT (a.put (some t) v) t=v:=gTp (by omega)
        simp [fldParts,eTm,ht]
        rfl
      refine bOps_ok hX rs subs.tail (t+2) all r K _ w1 hfl.2 hsf (by rw [sPu,sPu];exact hsz) ?_
      intro a' w' rows q qd qs qr qm qb
      have hs2:w1.heap.size≤w'.heap.size:=qb.size
      refine h a' w' ([.int .i64 (kindOf ty),.int .i64 hd.from_,.int .i64 hd.to,.int .i64 hd.null,.int .i64 (-1),.int .i64 hd.dflt,.int .i64 of_,v] :: rows) (by rw [q,sPu,sPu]) (by rw [qd,dPu,dPu]) ?_ ?_ ?_ (hb1.trans (qb.mono hs1))
      · intro s hs
        rw [qs s (by omega),gTn (by omega),gTn (by omega)]
      · simp only [FsRows]
        refine ⟨of_,v,rows,rfl,hv1,ofOK_of hfl.1 hof,SubV.mono (fun k hk=>?_) (fun k hk=>qb.block k hk.2) ty v hsv,FsRows.mono (w0:=w') (fun k hk=>?_) (fun _ _=>rfl) rs rows qr⟩
        · omega
        · omega
      · simp only [List.map_cons]
        rw [qm,qs (t+1) (by omega),gTp (by rw [sPu];omega)]
theorem opw_buildFs (hX:fOK P X.F=true) (hS:P.underlying X.Fs=some (.slice X.F)) (hF8:∃ i,P.info? X.F=some i∧i.size=8) {a:Act} {w:World} {K:Act→World→Prop} {d:Option Tmp} {g:Option (Nat × Bool)} {n:Nat} {slots:List Nat} {rows:List (List Value)} (hn:n=rows.length) (hn0:0 < n) (hn1:n≤1000) (hm:slots.map (getT a)=rows.map (fun r=>Value.agg r.toArray)) (hr:∀ r ∈ rows,r.length=8)
    (h:K (a.put d (.slice (some ⟨w.heap.size,0,none⟩) n n)) (w.alloc (.cells rows.flatten.toArray X.F))):opw P ⟨d,.buildSlice X.Fs n (((slots.zipIdx 0).map fun x=>(x.2,Operand.tmp x.1)).toArray),g⟩ a w K:=by
  obtain ⟨i,hi,hs8⟩:=hF8
  have hz:∃ z,i.zero=some z:=by
    unfold fOK at hX
    rw [hi] at hX
    split at hX <;> try (simp at hX;done)
    rename_i it fields h1 h2
    split at hX <;> try (simp at hX;done)
    rename_i hz _
    cases h1
    exact ⟨_,hz⟩
  obtain ⟨z,hz⟩:=hz
  have hparts:((((slots.zipIdx 0).map fun x=>(x.2,Operand.tmp x.1)).toArray).map fun x=>(x.1,a.eval x.2)).toList=(((rows.map fun r=>Value.agg r.toArray).zipIdx 0).map fun x=>(x.2,x.1)):=by
    rw [← hm,List.zipIdx_map,List.map_map]
    simp [eTm,Function.comp_def]
  have hfill:=Go.Great.fill_whole (s:=8) (by decide) (rows.map fun r=>Value.agg r.toArray) ((Array.range (n * i.size)).map (z.cells[· % z.cells.size]!)) (by
    intro v hv
    obtain ⟨r,hr',rfl⟩:=List.mem_map.1 hv
    simpa [Value.cells] using hr r hr') (by rw [hs8];simp [hn])
  have hfl:(rows.map fun r=>Value.agg r.toArray).flatMap (fun v=>v.cells.toList)=rows.flatten:=by
    rw [List.flatMap_map]
    simp [Value.cells,List.flatMap_def]
  rw [hfl] at hfill
  refine oVa (v:=.slice (some ⟨w.heap.size,0,none⟩) n n) (w':=w.alloc (.cells rows.flatten.toArray X.F)) (by simp) (fun p hp=>?_) h
  have hrun:=run_buildSlice (P:=P) w X.Fs X.F n ((((slots.zipIdx 0).map fun x=>(x.2,Operand.tmp x.1)).toArray).map fun x=>(x.1,a.eval x.2)) rows.flatten.toArray i z hS hi hz (by rw [hs8];omega) (by rw [hs8];omega) (by rw [hparts,hs8] at *;exact hfill)
  simp only [execOp,hp]
  simp only [Sem.run_bind]
  rw [hrun]
  rfl
end
end Go.Proofs.Ytjbbohfaihkolaa.K
namespace Go.Proofs.Ytjbbohfaihkolaa.K
open Go Go.RowKit Go.Proofs.Ytjbbohfaihkolaa.T
set_option linter.unusedSimpArgs false
set_option linter.unusedVariables false
set_option maxHeartbeats 4000000
section
variable {P:Program} {X:STy} {f:FuncId} {fn:Func}
theorem bSlice_ok (hX:stOK P X=true) (hF:fOK P X.F=true) (hS:P.underlying X.Fs=some (.slice X.F)) (fs:Fs) (subs:List Nat) (hfl:flatFs fs=true) (hsf:SubFns P fs subs) (hlen:0 < Fs.len fs∧Fs.len fs≤1000) {all r:List SOp} {K:Act→World→Prop} {a:Act} {w:World} (hsz:bEnd fs 1 < a.tmps.size)
    (h:∀ (a':Act) (w':World) (v:Value),a'.tmps.size=a.tmps.size→a'.defers=a.defers→getT a' 0=getT a 0→getT a' (bEnd fs 1)=v→(∃ b l c,v=.slice b l c)→FsV w' (fun k=>w.heap.size≤k∧k < w'.heap.size) fs v→Below w.heap.size w w'→opsw P all r K a' w') :
    opsw P all (bOps X.F fs subs 1 ++ bSlice X.Fs fs :: r) K a w:=by
  have hst:=st_facts hX
  have hF8:∃ i,P.info? X.F=some i∧i.size=8:=by
    obtain ⟨i,hi,hs,_⟩:=agg_of (w:=w) (aggB_of hst.2.2.1.2.1)
    exact ⟨i,hi,hs⟩
  refine bOps_ok hF fs subs 1 all _ K a w hfl hsf (by omega) ?_
  intro a' w' rows q qd qs qr qm qb
  obtain ⟨hrl,hr8⟩:=fsRows_len fs rows qr
  have h1:=bEnd_ge fs 1
  refine oNo rfl (opw_buildFs hF hS hF8 hrl.symm hlen.1 hlen.2 qm hr8 ?_)
  have hnew:=heap_alloc_new w' (.cells rows.flatten.toArray X.F)
  have hbn:Below w'.heap.size w' (w'.alloc (.cells rows.flatten.toArray X.F)):=(Below.refl _ _).alloc (Nat.le_refl _) _
  have hsn:(w'.alloc (.cells rows.flatten.toArray X.F)).heap.size=w'.heap.size+1:=by simp
  have hsw:w.heap.size≤w'.heap.size:=qb.size
  generalize w'.alloc (.cells rows.flatten.toArray X.F)=w2 at *
  refine h _ w2 (.slice (some ⟨w'.heap.size,0,none⟩) (Fs.len fs) (Fs.len fs)) (by rw [sPu,q]) (by rw [dPu,qd]) (by rw [gTn (by omega),qs 0 (by omega)]) (by rw [gTp (by omega)]) ⟨_,_,_,rfl⟩ ⟨_,_,rfl,.inr ⟨w'.heap.size,0,rfl,⟨by omega,by omega⟩,?_⟩⟩ (qb.trans (hbn.mono hsw))
  refine fsAt_rows fs rows 0 (FsRows.mono (fun k hk=>⟨hk.1,by omega⟩) (fun k hk=>hbn.block k hk.2) fs rows qr) (fun i v hv=>?_)
  rw [cell_of_row _ _ _ _ _ _ hnew]
  simpa using hv
theorem bSub_ok (hX:stOK P X=true) (hF:fOK P X.F=true) (hS:P.underlying X.Fs=some (.slice X.F)) (fs:Fs) (subs:List Nat) (hfl:flatFs fs=true) (hsf:SubFns P fs subs) (hlen:0 < Fs.len fs∧Fs.len fs≤1000)
    (hf:P.funcs[f]?=some fn) (hb:fn.body.map strip=some (sc_bSub X.F X.Fs fs subs)) (hn:fn.ntmps=bEnd fs 1+1) (hr:fn.results=#[.tmp 0]) (w:World) :
    Calls P f #[] w fun e w'=>∃ v,e=.returned v∧v.oneCell'=true∧FsV w' (fun k=>w.heap.size≤k∧k < w'.heap.size) fs v∧Below w.heap.size w w':=by
  refine fCa hf hb hn (by simp) fun a0 hs hd ha=>?_
  refine SC.wp_seq (SC.wp_reg (oNo rfl (opw_assign (oNi ?_))))
  refine SC.wp_seq (SC.wp_reg ?_)
  refine bSlice_ok hX hF hS fs subs hfl hsf hlen (by rw [sPu,hs];omega) ?_
  intro a' w' v q qd q0 qe hv qf qb
  refine ops_asg (oNi (SC.wp_ret (ret_tmp hr (by rw [dPu,qd,dPu,hd]) ⟨v,?_,?_,qf,qb⟩)))
  · rw [gTp (by rw [q,sPu,hs];omega),qe]
  · obtain ⟨b,l,c,rfl⟩:=hv;rfl
end
end Go.Proofs.Ytjbbohfaihkolaa.K
namespace Go.Proofs.Ytjbbohfaihkolaa.K
open Go Go.RowKit Go.Proofs.Ytjbbohfaihkolaa.T
set_option linter.unusedVariables false
set_option linter.unusedSimpArgs false
def isZTag:List Value→Bool
  | [.int .u32 0,.slice none 0 0]=>true
  | _=>false
theorem tagT_of {P:Program} {X:STy} (h1:aggB P X.Tg 2=true) (h2:P.underlying X.Tgs=some (.slice X.Tg)) (h3:zeroB P X.Tg isZTag=true) (h4:(match P.info? X.Tg with | some i=>i.size == 2 && decide (i.bytes≤1000) | none=>false)=true)
    (h5:P.built X.Tg []=some #[.int .u32 0,.slice none 0 0]):TagT P X:=by
  refine ⟨h1,h2,?_,h5⟩
  obtain ⟨i,z,q1,q2,q3⟩:=zeroB_of h3
  rw [q1] at h4
  simp only [Bool.and_eq_true,beq_iff_eq,decide_eq_true_eq] at h4
  refine ⟨i,z,q1,q2,?_,h4.1,h4.2⟩
  unfold isZTag at q3
  split at q3
  · rename_i e
    rw [← Array.toArray_toList (xs:=z.cells),e]
  · cases q3
end Go.Proofs.Ytjbbohfaihkolaa.K
namespace Go.Proofs.Ytjbbohfaihkolaa.K
open Go Go.RowKit Go.Proofs.Ytjbbohfaihkolaa.T
attribute [local simp] eTm eCo pNo gTp gTn qv qcall vop iop
set_option linter.unusedSimpArgs false
set_option linter.unusedVariables false
set_option maxHeartbeats 4000000
mutual
def defT (h:Hd):Ty→Tree
  | .struct _ _ _ _ fs=>.mk h.dflt [] (decide (0≤h.null)) (defL fs) []
  | .prim _=>.mk h.dflt [] (decide (0≤h.null)) [] []
  | .list _ _ _ _=>.mk h.dflt [] (decide (0≤h.null)) [] []
def defL:Fs→List Tree
  | .nil=>[]
  | .cons h ty r=>defT h ty :: defL r
end
theorem defL_len:∀ fs,(defL fs).length=Fs.len fs
  | .nil=>by simp [defL,Fs.len]
  | .cons h ty r=>by simp [defL,Fs.len,defL_len r]
theorem defL_at:∀ (j:Nat) (fs:Fs) (h:Hd) (ty:Ty) (r:Fs),Fs.drop j fs=.cons h ty r→(defL fs)[j]?=some (defT h ty)
  | 0,fs,h,ty,r,e=>by
    simp only [Fs.drop] at e
    subst e
    simp [defL]
  | j+1,.nil,h,ty,r,e=>by simp [Fs.drop] at e
  | j+1,.cons h' ty' r',h,ty,r,e=>by
    simp only [Fs.drop] at e
    simp only [defL,List.getElem?_cons_succ]
    exact defL_at j r' h ty r e
section
variable {G:List (Nat × Bytes)→Prop} {P:Program} {X:STy} {f:FuncId} {fn:Func}
def DefC (G:List (Nat × Bytes)→Prop) (P:Program) (f:FuncId) (fs:Fs):Prop :=
  ∀ (w:World) (fv:Value),FsV w (· < w.heap.size) fs fv→Calls P f #[fv] w fun e w'=>∃ v,e=.returned v∧TV G w' (fun k=>w.heap.size≤k∧k < w'.heap.size) (.mk 0 [] false (defL fs) []) v∧Below w.heap.size w w'
def SubD (C:Fs→Prop):Ty→Prop
  | .struct _ _ _ _ fs=>C fs
  | _=>True
def SubsD (C:Fs→Prop):Fs→Prop
  | .nil=>True
  | .cons _ ty r=>SubD C ty∧SubsD C r
theorem subsD_drop {C:Fs→Prop}:∀ (i:Nat) (fs:Fs),SubsD C fs→SubsD C (Fs.drop i fs)
  | 0,fs,h=>by simpa [Fs.drop] using h
  | i+1,.nil,_=>by simp [Fs.drop,SubsD]
  | i+1,.cons h ty r,hh=>by
    simp only [SubsD] at hh
    simp only [Fs.drop]
    exact subsD_drop i r hh.2
structure TreeT (P:Program) (X:STy):Prop where
  info:∃ i,P.info? X.T=some i∧i.zero=some zeroTV∧i.size=5∧i.bytes≤1000
  row:P.underlying X.Ts=some (.slice X.T)
  agg:aggB P X.T 5=true
  built:∀ (n:Int) (b:Bool),P.built X.T [(0,.int .i64 n),(2,.bool b)]=some #[.int .i64 n,.slice none 0 0,.bool b,.slice none 0 0,.slice none 0 0]
  fld:∃ fields fl,P.underlying X.T=some (.struct fields)∧fields.toList[3]?=some fl∧fl.offset=3∧(∃ i,P.info? fl.type=some i∧i.size=1)∧oneB P fl.type=true
theorem rows_get (rows:List (List Value)) (k:Nat) (hk:∀ r ∈ rows,r.length=k) (i:Nat) (r:List Value) (hi:rows[i]?=some r) (j:Nat) (v:Value) (hj:r[j]?=some v):rows.flatten[i * k+j]?=some v:=by
  induction rows generalizing i with
  | nil=>simp at hi
  | cons x rows ih =>
    have hx:x.length=k:=hk x List.mem_cons_self
    cases i with
    | zero =>
      simp at hi
      subst hi
      rw [List.flatten_cons,Nat.zero_mul,Nat.zero_add,List.getElem?_append_left (by rw [List.getElem?_eq_some_iff] at hj;obtain ⟨h,_⟩:=hj;exact h)]
      exact hj
    | succ i =>
      simp at hi
      rw [List.flatten_cons,List.getElem?_append_right (by rw [hx,Nat.succ_mul];omega),hx,show (i+1) * k+j - k=i * k+j by rw [Nat.succ_mul];omega]
      exact ih (fun r hr=>hk r (List.mem_cons_of_mem _ hr)) i hi
theorem opw_field3 (hT:TreeT P X) {a:Act} {w:World} {K:Act→World→Prop} {d:Option Tmp} {g:Option (Nat × Bool)} {x:Operand} {n:Int} {s l u:Value} {b:Bool} (hx:a.eval x=treV n s b l u) (h1:l.oneCell'=true) (h:K (a.put d l) w) :
    opw P ⟨d,.field X.T x 3,g⟩ a w K:=by
  obtain ⟨fields,fl,hu,hfl,hoff,⟨i,hi,hsz⟩,hone⟩:=hT.fld
  have hfl':fields[3]?=some fl:=by simpa using hfl
  refine oVa (v:=l) (by simp) (fun p hp=>?_) h
  have h0:=run_isAgg_one (P:=P) (w:=w) hone
  simp [execOp,hp,hx,Instr.field,run_underlying hu,hfl',treV,asAgg,part,sizeOf,typeInfo,hi,hsz,hoff,h0]
theorem opw_buildT (hT:TreeT P X) {a:Act} {w:World} {K:Act→World→Prop} {d:Option Tmp} {g:Option (Nat × Bool)} {x:Operand} {n:Int} {s l u:Value} {b:Bool} (hx:a.eval x=treV n s b l u) (h1:s.oneCell'=true) (h2:l.oneCell'=true) (h3:u.oneCell'=true)
    (h:K (a.put d (.slice (some ⟨w.heap.size,0,none⟩) 1 1)) (w.alloc (.cells #[.int .i64 n,s,.bool b,l,u] X.T))):opw P ⟨d,.buildSlice X.Ts 1 #[(0,x)],g⟩ a w K:=by
  obtain ⟨i,hi,hz,hsz,_⟩:=hT.info
  refine oVa (v:=.slice (some ⟨w.heap.size,0,none⟩) 1 1) (w':=w.alloc (.cells #[.int .i64 n,s,.bool b,l,u] X.T)) (by simp) (fun p hp=>?_) h
  have hr:=run_buildSlice (P:=P) w X.Ts X.T 1 #[(0,treV n s b l u)] #[.int .i64 n,s,.bool b,l,u] i zeroTV hT.row hi hz (by rw [hsz];decide) (by rw [hsz];decide) (by
    rw [hsz]
    have hz5:∀ (zf:Nat→Value),(Array.range (1 * 5)).map zf=#[zf 0,zf 1,zf 2,zf 3,zf 4]:=fun zf=>Array.ext' (by simp [Array.toList_map,Array.toList_range,List.range,List.range.loop])
    rw [hz5]
    simp [Instr.fill,treV,Value.cells])
  simp only [execOp,hp]
  simp [hx,hr]
theorem opw_appendT (hT:TreeT P X) {a:Act} {w:World} {K:Act→World→Prop} {d:Option Tmp} {g:Option (Nat × Bool)} {x y:Operand} {B j:Nat} {lv:Value} {cells r:List Value} {ad:Addr} {ts:Array TypeId} (hts:ts=#[X.Ts,X.Ts]) (hx:a.eval x=lv) (hy:a.eval y=.slice (some ad) 1 1) (ho:w.ownsRow B X.T 5 lv j cells) (hB:B≤w.heap.size) (hj:j < 4294967296)
    (hr:r.length=5) (hrc:∀ i v,r[i]?=some v→w.cell? (ad.add i)=some v) (hr1:∀ v ∈ r,v.oneCell'=true)
    (h:∀ lv' w',w'.ownsRow B X.T 5 lv' (j+1) (cells ++ r)→w.grownBy w' lv.ownBlock→(lv'.ownBlock=lv.ownBlock∨∃ b,lv'.ownBlock=some b∧w.heap.size≤b)→K (a.put d lv') w'):opw P ⟨d,.call ⟨.builtin .append,#[x,y],ts⟩,g⟩ a w K:=by
  subst hts
  obtain ⟨i,hi,hz,hsz,hby⟩:=hT.info
  have hb:(j+1) * i.bytes≤140737488355328:=Nat.le_trans (Nat.mul_le_mul (show j+1≤4294967296 by omega) hby) (by decide)
  refine opw_of fun o next Q hd hop hn=>?_
  obtain ⟨v',w',hr,h2,h3,h4⟩:=run_append_src2 (P:=P) w B X.Ts X.Ts o.type X.T i zeroTV 5 i.bytes hT.row hi hz hsz rfl rfl (by decide) lv j cells ho (.slice (some ad) 1 1) 1 r (Src.ofSlice w hT.row ad 1 1 r (by omega) hrc hr1) (by simp only [maxLen];omega) hb hB
  have hop':o.op=.call ⟨.builtin .append,#[x,y],#[X.Ts,X.Ts]⟩:=stripOp_eq (by simp) hop
  have hr':(execOp a.eval o).run P w=.ok (.value v') w':=by
    simp [execOp,hop',resolve,invoke,builtin,hx,hy,hr]
  rw [hr',Oper.upon_value,hd]
  exact hn _ _ (h v' w' h2 h3 h4)
def Rows (G:List (Nat × Bytes)→Prop) (X:STy) (fs:Fs) (w0 w:World) (lv:Value) (j:Nat):Prop :=
  ∃ (rows:List (List Value)) (F:Nat→Prop),w.ownsRow (w0.heap.size+2) X.T 5 lv j rows.flatten∧rows.length=j∧(∀ r ∈ rows,r.length=5) ∧
    (∀ (i:Nat) (r:List Value) (x:Tree),rows[i]?=some r→(defL fs)[i]?=some x→TV G w F x (.agg r.toArray))∧(∀ k,F k→w0.heap.size+2≤k∧k < w.heap.size∧lv.ownBlock ≠ some k)
theorem Rows.keep {fs:Fs} {w0 w w':World} {lv:Value} {j:Nat} (h:Rows G X fs w0 w lv j) (hb:∀ k,w0.heap.size+2≤k→k < w.heap.size→w'.heap[k]?=w.heap[k]?) (hs:w.heap.size≤w'.heap.size):Rows G X fs w0 w' lv j:=by
  obtain ⟨rows,F,h1,h2,h3,h4,h5⟩:=h
  refine ⟨rows,F,⟨h1.1,h1.2.imp id ?_⟩,h2,h3,fun i r x hi hx=>(h4 i r x hi hx).mono (fun _ h=>h) (fun k hk=>hb k (h5 k hk).1 (h5 k hk).2.1),fun k hk=>⟨(h5 k hk).1,Nat.lt_of_lt_of_le (h5 k hk).2.1 hs,(h5 k hk).2.2⟩⟩
  rintro ⟨g,cap,cur,q1,q2,q3,q4⟩
  exact ⟨g,cap,cur,q1,q2,by rw [hb g q2 (Array.getElem?_eq_some_iff.1 q3).1];exact q3,q4⟩
theorem default_ok (hX:stOK P X=true) (hTF:arrB P X.F 8=true) (hT:TreeT P X) (h0G:G []) (oD:FnOK P f) (hf:P.funcs[f]?=some fn) (hb:fn.body.map strip=some (sc_SDefault X.T X.Fs X.I X.F X.I64 X.Ts f)) (hn:fn.ntmps=35) (hr:fn.results=#[.cell 2 X.T])
    (fs:Fs) (hlen63:Fs.len fs < 4294967296) (cP:SubsD (DefC G P f) fs):DefC G P f fs:=by
  intro w fv hfv
  have hst:=st_facts hX
  obtain ⟨hTF1,iF,zF,hiF,hzF,hzFs⟩:=arr_of hTF
  obtain ⟨iT,hiT,hzT,hszT,hbyT⟩:=hT.info
  obtain ⟨fb,fcap,rfl,hfs⟩:=hfv
  refine fCa hf hb hn (by simp) fun a0 hs hd ha=>?_
  have h0:=ha 0 _ rfl
  simp only [List.getElem_toArray,List.getElem_cons_zero,List.getElem_cons_succ] at h0
  refine SC.wp_seq (SC.wp_reg (oNo rfl (opw_alloc hiT hzT (oNi ?_))))
  refine SC.wp_seq (SC.wp_reg (oNo rfl (opw_alloc hiT hzT (oNi ?_))))
  have hh2:((w.alloc (.cells zeroTV.cells X.T)).alloc (.cells zeroTV.cells X.T)).heap[w.heap.size]?=some (.cells #[.int .i64 0,.slice none 0 0,.bool false,.slice none 0 0,.slice none 0 0] X.T (0,0)):=by
    rw [Below.heap_alloc _ _ _ (by simp)];exact heap_alloc_new w _
  have hh3:((w.alloc (.cells zeroTV.cells X.T)).alloc (.cells zeroTV.cells X.T)).heap[w.heap.size+1]?=some (.cells #[.int .i64 0,.slice none 0 0,.bool false,.slice none 0 0,.slice none 0 0] X.T (0,0)):=by
    have:=heap_alloc_new (w.alloc (.cells zeroTV.cells X.T)) (.cells zeroTV.cells X.T)
    rw [show (w.alloc (.cells zeroTV.cells X.T)).heap.size=w.heap.size+1 by simp] at this
    exact this
  have hbw:Below w.heap.size w ((w.alloc (.cells zeroTV.cells X.T)).alloc (.cells zeroTV.cells X.T)):=((Below.refl _ _).alloc (Nat.le_refl _) _).alloc (by simp) _
  have hsz:((w.alloc (.cells zeroTV.cells X.T)).alloc (.cells zeroTV.cells X.T)).heap.size=w.heap.size+2:=by simp
  rw [show (w.alloc (.cells zeroTV.cells X.T)).heap.size=w.heap.size+1 by simp]
  generalize (w.alloc (.cells zeroTV.cells X.T)).alloc (.cells zeroTV.cells X.T)=w1 at *
  refine SC.wp_seq (SC.wp_seq (SC.wp_reg ?_))
  repeat (apply ops_1;(focus (simp (disch:=(try simp only [sPu]);omega) [hst,h0];try rfl)))
  refine oNi ?_
  simp only [Exit.then]
  refine SC.wp_block (SC.wp_loop (fun a4 w5=>∃ (j:Nat) (lv:Value),a4.tmps.size=35∧a4.defers=[]∧getT a4 2=.pointer (some ⟨w.heap.size,0,none⟩)∧getT a4 3=.pointer (some ⟨w.heap.size+1,0,none⟩)∧getT a4 7=.slice fb (Fs.len fs) fcap∧getT a4 8=.int .i64 (Fs.len fs:Int)∧getT a4 9=.int .i64 (j:Int)∧j≤Fs.len fs ∧
      w5.heap[w.heap.size]?=some (.cells #[.int .i64 0,.slice none 0 0,.bool false,.slice none 0 0,.slice none 0 0] X.T (0,0))∧w5.heap[w.heap.size+1]?=some (.cells #[.int .i64 0,.slice none 0 0,.bool false,lv,.slice none 0 0] X.T (0,0))∧Rows G X fs w w5 lv j∧Below w.heap.size w w5∧w.heap.size+2≤w5.heap.size)
    (fun a4 _=>match getT a4 9 with | .int _ m=>(Fs.len fs - m).toNat | _=>0) ⟨0,.slice none 0 0,by simp [sPu,hs],by simp [dPu,hd],by simp (disch:=(try simp only [sPu]);omega),by simp (disch:=(try simp only [sPu]);omega),by simp (disch:=(try simp only [sPu]);omega),by simp (disch:=(try simp only [sPu]);omega),by simp (disch:=(try simp only [sPu]);omega),by omega,hh2,hh3,⟨[],fun _=>False,World.ownsRow_nil _ _ _ _,rfl,by simp,by simp,fun k h=>h.elim⟩,hbw,by omega⟩ ?_)
  rintro a4 w5 ⟨j,lv,q,qd,q2,q3,q7,q8,q9,hj,p2,p3,hR,hb5,hsz5⟩
  refine SC.wp_seq (SC.wp_reg ?_)
  repeat (apply ops_1;(focus (simp (disch:=(try simp only [sPu]);omega) [hst,q8,q9];try rfl)))
  refine oNi ?_
  simp only [Exit.then]
  refine SC.wp_seq (SC.wp_cond (t:=decide ((j:Int) < (Fs.len fs:Int))) (by simp (disch:=(try simp only [sPu]);omega)) ?_)
  cases e1:decide ((j:Int) < (Fs.len fs:Int))
  · have hje:j=Fs.len fs:=by simp at e1;omega
    subst hje
    rw [if_neg (by simp)]
    refine SC.wp_exit ?_
    simp only [Exit.then,Exit.inBlock,if_true]
    have hc3:∀ i,w5.cell? ⟨w.heap.size+1,i,none⟩=#[Value.int .i64 0,.slice none 0 0,.bool false,lv,.slice none 0 0][i]?:=fun i=>cell_of_row _ _ _ _ _ _ p3
    have hT5:rangeV w5 (w.heap.size+1) 0 5=some [.int .i64 0,.slice none 0 0,.bool false,lv,.slice none 0 0]:=by simp [rangeV,hc3]
    refine SC.wp_seq (SC.wp_reg ?_)
    iterate 1 (apply ops_1;(focus (simp (disch:=(try simp only [sPu]);omega) [hst,q3,hT5];try rfl)))
    obtain ⟨rows,F,o1,o2,o3,o4,o5⟩:=hR
    have hlv1:lv.oneCell'=true:=by rcases o1.2 with ⟨rfl,_⟩ | ⟨g,cap,cur,rfl,_⟩ <;> rfl
    refine oNo rfl (opw_store_agg (b:=w.heap.size) (cs:=[.int .i64 0,.slice none 0 0,.bool false,lv,.slice none 0 0]) hT.agg (by simp (disch:=(try simp only [sPu]);omega) [q2]) (by simp (disch:=(try simp only [sPu]);omega)) p2 rfl (by
      intro v hv
      simp only [List.mem_cons,List.not_mem_nil,or_false] at hv
      rcases hv with rfl | rfl | rfl | rfl | rfl <;> first | rfl | exact hlv1) (oNi (SC.wp_ret ?_)))
    have hnew:=setRow_heap w5 w.heap.size _ #[.int .i64 0,.slice none 0 0,.bool false,lv,.slice none 0 0] _ _ p2
    have hbn:Below w.heap.size w (w5.setRow w.heap.size #[.int .i64 0,.slice none 0 0,.bool false,lv,.slice none 0 0]):=below_setRow hb5 (Nat.le_refl _) _
    have hoth:∀ k,w.heap.size < k→(w5.setRow w.heap.size #[.int .i64 0,.slice none 0 0,.bool false,lv,.slice none 0 0]).heap[k]?=w5.heap[k]?:=fun k hk=>setRow_other _ _ _ _ (by omega)
    have hsn:(w5.setRow w.heap.size #[.int .i64 0,.slice none 0 0,.bool false,lv,.slice none 0 0]).heap.size=w5.heap.size:=by simp
    have hpt:getT a4 2=.pointer (some ⟨w.heap.size,0,none⟩):=q2
    refine ret_cell hr (by simp [hst]) (b:=w.heap.size) (by simp (disch:=(try simp only [sPu]);omega) [q2]) hnew (by simp [dPu,qd]) ⟨_,rfl,?_,hbn⟩
    generalize (w5.setRow w.heap.size #[.int .i64 0,.slice none 0 0,.bool false,lv,.slice none 0 0])=w6 at *
    have hlen:=defL_len fs
    have hTVs:∀ (i:Nat) (x:Tree),(defL fs)[i]?=some x→∃ r:List Value,rows[i]?=some r∧TV G w6 (fun k=>w.heap.size≤k∧k < w6.heap.size) x (.agg r.toArray):=by
      intro i x hx
      have hi:i < rows.length:=by
        have:=(List.getElem?_eq_some_iff.1 hx).1
        omega
      refine ⟨rows[i],List.getElem?_eq_getElem hi,(o4 i _ x (List.getElem?_eq_getElem hi) hx).mono (fun k hk=>?_) (fun k hk=>hoth k ?_)⟩
      · have:=o5 k hk
        omega
      · have:=o5 k hk
        omega
    have main:∀ (base:Option Addr) (cap b:Nat),lv=.slice base (Fs.len fs) cap→Fs.len fs≤cap→(defL fs ≠ []→base=some ⟨b,0,none⟩∧(w.heap.size≤b∧b < w6.heap.size))→(∀ i,i < (defL fs).length→rangeV w6 b (0+i * 5) 5=some (rows.getD i [])) →
        TV G w6 (fun k=>w.heap.size≤k∧k < w6.heap.size) (.mk 0 [] false (defL fs) []) (.agg #[.int .i64 0,.slice none 0 0,.bool false,lv,.slice none 0 0]):=by
      intro base cap b z1 z2 z3 z4
      have:=TV.mk (G:=G) (w:=w6) (F:=fun k=>w.heap.size≤k∧k < w6.heap.size) 0 [] false (defL fs) [] none base none 0 cap 0 b 0 (fun i=>rows.getD i []) (.inl rfl) (Nat.le_refl _) (by rw [hlen];exact z2) (Nat.le_refl _) z3 z4 (fun i x hx=>by
        obtain ⟨r,hr1,hr2⟩:=hTVs i x hx
        have:rows.getD i []=r:=by simp [List.getD,hr1]
        show TV G w6 _ x (.agg (rows.getD i []).toArray)
        rw [this]
        exact hr2) h0G (.inl rfl)
      rw [hlen] at this
      rw [z1]
      exact this
    rcases o1.2 with ⟨hlv,h00⟩ | ⟨g,cap,cur,hlv,hBg,hg,hnc,hcm,hcs,htake⟩
    · rw [h00] at hlen
      have hnil:defL fs=[]:=List.eq_nil_of_length_eq_zero hlen
      exact main none 0 0 (by rw [hlv,h00]) (by omega) (fun h=>absurd hnil h) (fun i hi=>by rw [hnil] at hi;simp at hi)
    · refine main (some ⟨g,0,none⟩) cap g hlv hnc (fun _=>⟨rfl,by omega,?_⟩) (fun i hi=>?_)
      · have:=(Array.getElem?_eq_some_iff.1 hg).1
        omega
      · have hir:i < rows.length:=by omega
        have hri:rows.getD i []=rows[i]:=by simp [List.getD,List.getElem?_eq_getElem hir]
        have hr5:rows[i].length=5:=o3 _ (List.getElem_mem hir)
        rw [hri,← hr5]
        refine rangeV_of _ _ (fun k v hv=>?_)
        rw [World.cell?_of_block (w:=w5) (a:=⟨g,_,none⟩) (hoth g (by omega))]
        have hfl:=rows_get rows 5 o3 i _ (List.getElem?_eq_getElem hir) k v hv
        have hcl:=World.ownsRow.cells o1 (g:=g) (by rw [hlv];rfl) _ v hfl
        rw [add_none] at hcl
        rw [← hcl,hr5]
        simp
  · have hjl:j < Fs.len fs:=by simp at e1;omega
    rw [if_pos rfl]
    refine SC.wp_skip ?_
    simp only [Exit.then]
    obtain ⟨h,ty,hdrop⟩:=drop_cons j fs hjl
    rcases hfs with hfs | ⟨b,o,rfl,hbF,hfs⟩
    · omega
    have hdj:=defL_at j fs h ty _ hdrop
    have hfj:=fsAt_drop j fs b o hfs
    have hcj:=subsD_drop j fs cP
    rw [hdrop] at hfj hcj
    simp only [FsAt,SubsD] at hfj hcj
    obtain ⟨⟨of_,sub,hr8,h1c,hof,hsub⟩,_⟩:=hfj
    have hr8':=(rangeV_mono (w:=w5) (hb5.block b hbF) 8 (o+j * 8)).trans hr8
    have ej:(0:Int)≤(j:Int)∧(j:Int) < (Fs.len fs:Int):=by omega
    refine SC.wp_seq (SC.wp_block (SC.wp_seq (SC.wp_reg ?_)))
    iterate 2 (apply ops_1;(focus (simp (disch:=(try simp only [sPu]);omega) [hst,q7,q9,ej,hr8',hjl];try rfl)))
    refine oNo rfl (opw_alloc hiF hzF ?_)
    refine oNo rfl (opw_store_agg (b:=w5.heap.size) (cs:=[.int .i64 (kindOf ty),.int .i64 h.from_,.int .i64 h.to,.int .i64 h.null,.int .i64 (-1),.int .i64 h.dflt,.int .i64 of_,sub]) hTF1 (by simp (disch:=(try simp only [sPu]);omega)) (by simp (disch:=(try simp only [sPu]);omega)) (heap_alloc_new w5 _) (by simp [hzFs]) (by
      intro v hv
      simp only [List.mem_cons,List.not_mem_nil,or_false] at hv
      rcases hv with rfl | rfl | rfl | rfl | rfl | rfl | rfl | rfl <;> first | rfl | exact h1c) (oNi ?_))
    have hnew:((w5.alloc (.cells zF.cells X.F)).setRow w5.heap.size #[.int .i64 (kindOf ty),.int .i64 h.from_,.int .i64 h.to,.int .i64 h.null,.int .i64 (-1),.int .i64 h.dflt,.int .i64 of_,sub]).heap[w5.heap.size]?=some (.cells #[.int .i64 (kindOf ty),.int .i64 h.from_,.int .i64 h.to,.int .i64 h.null,.int .i64 (-1),.int .i64 h.dflt,.int .i64 of_,sub] X.F (0,0)):=setRow_heap _ _ _ _ _ _ (heap_alloc_new w5 _)
    have hb6:Below w5.heap.size w5 ((w5.alloc (.cells zF.cells X.F)).setRow w5.heap.size #[.int .i64 (kindOf ty),.int .i64 h.from_,.int .i64 h.to,.int .i64 h.null,.int .i64 (-1),.int .i64 h.dflt,.int .i64 of_,sub]):=below_setRow ((Below.refl _ _).alloc (Nat.le_refl _) _) (Nat.le_refl _) _
    have hsz6:((w5.alloc (.cells zF.cells X.F)).setRow w5.heap.size #[.int .i64 (kindOf ty),.int .i64 h.from_,.int .i64 h.to,.int .i64 h.null,.int .i64 (-1),.int .i64 h.dflt,.int .i64 of_,sub]).heap.size=w5.heap.size+1:=by simp
    simp only [Exit.then,pNo]
    generalize ((w5.alloc (.cells zF.cells X.F)).setRow w5.heap.size #[.int .i64 (kindOf ty),.int .i64 h.from_,.int .i64 h.to,.int .i64 h.null,.int .i64 (-1),.int .i64 h.dflt,.int .i64 of_,sub])=w6 at *
    have hc6:∀ i,w6.cell? ⟨w5.heap.size,i,none⟩=#[Value.int .i64 (kindOf ty),.int .i64 h.from_,.int .i64 h.to,.int .i64 h.null,.int .i64 (-1),.int .i64 h.dflt,.int .i64 of_,sub][i]?:=fun i=>cell_of_row _ _ _ _ _ _ hnew
    refine SC.wp_seq (SC.wp_reg ?_)
    iterate 5 (apply ops_1;(focus (simp (disch:=(try simp only [sPu]);omega) [hst,hc6];try rfl)))
    refine oNo rfl (opw_build (cs:=#[.int .i64 h.dflt,.slice none 0 0,.bool (decide (0≤h.null)),.slice none 0 0,.slice none 0 0]) (by
      rw [← hT.built]
      congr 1
      simp (disch:=(try simp only [sPu]);omega)) ?_)
    refine oNo rfl (opw_alloc hiT hzT ?_)
    refine oNo rfl (opw_store_agg (b:=w6.heap.size) (cs:=[.int .i64 h.dflt,.slice none 0 0,.bool (decide (0≤h.null)),.slice none 0 0,.slice none 0 0]) hT.agg (by simp (disch:=(try simp only [sPu]);omega)) (by simp (disch:=(try simp only [sPu]);omega)) (heap_alloc_new w6 _) (by simp [zeroTV,treV,Value.cells]) (by
      intro v hv
      simp only [List.mem_cons,List.not_mem_nil,or_false] at hv
      rcases hv with rfl | rfl | rfl | rfl | rfl <;> rfl) (oNi ?_))
    have hnew7:((w6.alloc (.cells zeroTV.cells X.T)).setRow w6.heap.size #[.int .i64 h.dflt,.slice none 0 0,.bool (decide (0≤h.null)),.slice none 0 0,.slice none 0 0]).heap[w6.heap.size]?=some (.cells #[.int .i64 h.dflt,.slice none 0 0,.bool (decide (0≤h.null)),.slice none 0 0,.slice none 0 0] X.T (0,0)):=setRow_heap _ _ _ _ _ _ (heap_alloc_new w6 _)
    have hb7:Below w6.heap.size w6 ((w6.alloc (.cells zeroTV.cells X.T)).setRow w6.heap.size #[.int .i64 h.dflt,.slice none 0 0,.bool (decide (0≤h.null)),.slice none 0 0,.slice none 0 0]):=below_setRow ((Below.refl _ _).alloc (Nat.le_refl _) _) (Nat.le_refl _) _
    have hsz7:((w6.alloc (.cells zeroTV.cells X.T)).setRow w6.heap.size #[.int .i64 h.dflt,.slice none 0 0,.bool (decide (0≤h.null)),.slice none 0 0,.slice none 0 0]).heap.size=w6.heap.size+1:=by simp
    simp only [Exit.then,pNo]
    generalize ((w6.alloc (.cells zeroTV.cells X.T)).setRow w6.heap.size #[.int .i64 h.dflt,.slice none 0 0,.bool (decide (0≤h.null)),.slice none 0 0,.slice none 0 0])=w7 at *
    have hb57:Below w5.heap.size w5 w7:=hb6.trans (hb7.mono (by omega))
    have hc7:∀ i,w7.cell? ⟨w5.heap.size,i,none⟩=#[Value.int .i64 (kindOf ty),.int .i64 h.from_,.int .i64 h.to,.int .i64 h.null,.int .i64 (-1),.int .i64 h.dflt,.int .i64 of_,sub][i]?:=fun i=>(World.cell?_of_block (w:=w6) (w':=w7) (a:=⟨w5.heap.size,i,none⟩) (hb7.block w5.heap.size (by omega))).trans (hc6 i)
    rw [hsz6] at hnew7 ⊢
    refine gen_act (fun a6=>a6.tmps.size=35∧a6.defers=[]∧getT a6 2=.pointer (some ⟨w.heap.size,0,none⟩)∧getT a6 3=.pointer (some ⟨w.heap.size+1,0,none⟩)∧getT a6 7=.slice (some ⟨b,o,none⟩) (Fs.len fs) fcap∧getT a6 8=.int .i64 (Fs.len fs:Int)∧getT a6 9=.int .i64 (j:Int)∧getT a6 5=.pointer (some ⟨w5.heap.size,0,none⟩)∧getT a6 6=.pointer (some ⟨w5.heap.size+1,0,none⟩))
      ⟨by simp [sPu,q],by simp [dPu,qd],by simp (disch:=(try simp only [sPu]);omega) [q2],by simp (disch:=(try simp only [sPu]);omega) [q3],by simp (disch:=(try simp only [sPu]);omega) [q7],by simp (disch:=(try simp only [sPu]);omega) [q8],by simp (disch:=(try simp only [sPu]);omega) [q9],by simp (disch:=(try simp only [sPu]);omega),by simp (disch:=(try simp only [sPu]);omega)⟩ ?_
    rintro a6 ⟨z,zd,z2,z3,z7,z8,z9,z5,z6⟩
    have tail:∀ (a8:Act) (w8:World) (ls:Value),a8.tmps.size=35→a8.defers=[]→getT a8 2=.pointer (some ⟨w.heap.size,0,none⟩)→getT a8 3=.pointer (some ⟨w.heap.size+1,0,none⟩)→getT a8 7=.slice (some ⟨b,o,none⟩) (Fs.len fs) fcap→getT a8 8=.int .i64 (Fs.len fs:Int)→getT a8 9=.int .i64 (j:Int)→getT a8 6=.pointer (some ⟨w5.heap.size+1,0,none⟩) →
        w8.heap[w5.heap.size+1]?=some (.cells #[.int .i64 h.dflt,.slice none 0 0,.bool (decide (0≤h.null)),ls,.slice none 0 0] X.T (0,0))→Below w5.heap.size w5 w8→w5.heap.size+2≤w8.heap.size→ls.oneCell'=true →
        TV G w8 (fun k=>w5.heap.size+2≤k∧k < w8.heap.size) (defT h ty) (.agg #[.int .i64 h.dflt,.slice none 0 0,.bool (decide (0≤h.null)),ls,.slice none 0 0]) →
        ∀ Q':Exit→Act→World→Prop,(∀ a' w' lv',a'.tmps.size=35→a'.defers=[]→getT a' 2=.pointer (some ⟨w.heap.size,0,none⟩)→getT a' 3=.pointer (some ⟨w.heap.size+1,0,none⟩)→getT a' 7=.slice (some ⟨b,o,none⟩) (Fs.len fs) fcap→getT a' 8=.int .i64 (Fs.len fs:Int)→getT a' 9=.int .i64 (j:Int) →
          w'.heap[w.heap.size]?=some (.cells #[.int .i64 0,.slice none 0 0,.bool false,.slice none 0 0,.slice none 0 0] X.T (0,0))→w'.heap[w.heap.size+1]?=some (.cells #[.int .i64 0,.slice none 0 0,.bool false,lv',.slice none 0 0] X.T (0,0))→Rows G X fs w w' lv' (j+1)→Below w.heap.size w w'→w.heap.size+2≤w'.heap.size→Q' .normal a' w') →
        SC.wp P (.reg [fa 27 X.T 3 3,ld 28 X.Ts 27,ld 29 X.T 6,⟨some 30,.buildSlice X.Ts 1 #[(0,(.tmp 29))],none⟩,⟨some 31,.call ⟨.builtin .append,#[(.tmp 28),(.tmp 30)],#[X.Ts,X.Ts]⟩,none⟩,fa 32 X.T 3 3,⟨none,.store X.Ts (.tmp 32) (.tmp 31),none⟩]) Q' a8 w8:=by
      intro a8 w8 ls y yd y2 y3 y7 y8 y9 y6 hn8 hb8 hs8 hls1 htv Q' hQ'
      have p2':w8.heap[w.heap.size]?=_:=(hb8.block w.heap.size (by omega)).trans p2
      have p3':w8.heap[w.heap.size+1]?=_:=(hb8.block (w.heap.size+1) (by omega)).trans p3
      have hc3:∀ i,w8.cell? ⟨w.heap.size+1,i,none⟩=#[Value.int .i64 0,.slice none 0 0,.bool false,lv,.slice none 0 0][i]?:=fun i=>cell_of_row _ _ _ _ _ _ p3'
      have hc8:∀ i,w8.cell? ⟨w5.heap.size+1,i,none⟩=#[Value.int .i64 h.dflt,.slice none 0 0,.bool (decide (0≤h.null)),ls,.slice none 0 0][i]?:=fun i=>cell_of_row _ _ _ _ _ _ hn8
      have hT5:rangeV w8 (w5.heap.size+1) 0 5=some [.int .i64 h.dflt,.slice none 0 0,.bool (decide (0≤h.null)),ls,.slice none 0 0]:=by simp [rangeV,hc8]
      have hR8:Rows G X fs w w8 lv j:=hR.keep (fun k h1 h2=>hb8.block k h2) hb8.size
      have hlvlt:∀ k,lv.ownBlock=some k→w.heap.size+2≤k∧k < w5.heap.size:=fun k hk=>by
        obtain ⟨rows,F,o1,_⟩:=hR
        exact o1.lt k hk
      refine SC.wp_reg ?_
      iterate 3 (apply ops_1;(focus (simp (disch:=(try simp only [sPu]);omega) [hst,y3,y6,hc3,hT5];try rfl)))
      refine oNo rfl (opw_buildT hT (n:=h.dflt) (s:=.slice none 0 0) (b:=decide (0≤h.null)) (l:=ls) (u:=.slice none 0 0) (by simp (disch:=(try simp only [sPu]);omega) [treV]) rfl hls1 rfl ?_)
      have hn9:=heap_alloc_new w8 (.cells #[.int .i64 h.dflt,.slice none 0 0,.bool (decide (0≤h.null)),ls,.slice none 0 0] X.T)
      have hb9:Below w8.heap.size w8 (w8.alloc (.cells #[.int .i64 h.dflt,.slice none 0 0,.bool (decide (0≤h.null)),ls,.slice none 0 0] X.T)):=(Below.refl _ _).alloc (Nat.le_refl _) _
      have hs9:(w8.alloc (.cells #[.int .i64 h.dflt,.slice none 0 0,.bool (decide (0≤h.null)),ls,.slice none 0 0] X.T)).heap.size=w8.heap.size+1:=by simp
      generalize (w8.alloc (.cells #[.int .i64 h.dflt,.slice none 0 0,.bool (decide (0≤h.null)),ls,.slice none 0 0] X.T))=w9 at *
      have hR9:Rows G X fs w w9 lv j:=hR8.keep (fun k h1 h2=>hb9.block k h2) hb9.size
      obtain ⟨rows,F,o1,o2,o3,o4,o5⟩:=hR9
      refine oNo rfl (opw_appendT hT (B:=w.heap.size+2) (j:=j) (lv:=lv) (cells:=rows.flatten) (r:=[.int .i64 h.dflt,.slice none 0 0,.bool (decide (0≤h.null)),ls,.slice none 0 0]) (ad:=⟨w8.heap.size,0,none⟩) rfl (by simp (disch:=(try simp only [sPu]);omega)) (by simp (disch:=(try simp only [sPu]);omega)) o1 (by omega) (by omega) rfl (fun i v hv=>by
        rw [add_none,cell_of_row _ _ _ _ _ _ hn9]
        simpa using hv) (by
        intro v hv
        simp only [List.mem_cons,List.not_mem_nil,or_false] at hv
        rcases hv with rfl | rfl | rfl | rfl | rfl <;> first | rfl | exact hls1) ?_)
      intro lv' w10 r1 r2 r3
      have hlv':lv'.oneCell'=true:=by rcases r1.2 with ⟨rfl,_⟩ | ⟨g,cap,cur,rfl,_⟩ <;> rfl
      have hs10:w9.heap.size≤w10.heap.size:=r2.size
      have hk10:∀ k,k < w9.heap.size→lv.ownBlock ≠ some k→w10.heap[k]?=w9.heap[k]?:=fun k h1 h2=>r2.block k h1 (fun e=>h2 e.symm)
      have hnot:∀ k,k < w.heap.size+2→lv.ownBlock ≠ some k:=fun k hk e=>by have:=hlvlt k e;omega
      have p2n:w10.heap[w.heap.size]?=_:=(hk10 _ (by omega) (hnot _ (by omega))).trans ((hb9.block _ (by omega)).trans p2')
      have p3n:w10.heap[w.heap.size+1]?=_:=(hk10 _ (by omega) (hnot _ (by omega))).trans ((hb9.block _ (by omega)).trans p3')
      iterate 1 (apply ops_1;(focus (simp (disch:=(try simp only [sPu]);omega) [hst,y3];try rfl)))
      refine oNo rfl (opw_store_one (ad:=⟨w.heap.size+1,3,none⟩) (v:=lv') (v0:=lv) hst.2.1.2.2.2.2.2.2.2.1 (by simp (disch:=(try simp only [sPu]);omega)) (by simp (disch:=(try simp only [sPu]);omega)) hlv' (by rw [cell_of_row _ _ _ _ _ _ p3n];rfl) (by simp [World.frozen?,p3n]) ?_)
      refine oNi ?_
      rw [setCell_eq_setRow _ _ _ _ _ _ _ p3n]
      have p3f:=setRow_heap w10 (w.heap.size+1) _ ((#[.int .i64 0,.slice none 0 0,.bool false,lv,.slice none 0 0]:Array Value).setIfInBounds 3 lv') _ _ p3n
      have hoth:∀ k,k ≠ w.heap.size+1→(w10.setRow (w.heap.size+1) ((#[.int .i64 0,.slice none 0 0,.bool false,lv,.slice none 0 0]:Array Value).setIfInBounds 3 lv')).heap[k]?=w10.heap[k]?:=fun k hk=>setRow_other _ _ _ _ hk
      have hsf:(w10.setRow (w.heap.size+1) ((#[.int .i64 0,.slice none 0 0,.bool false,lv,.slice none 0 0]:Array Value).setIfInBounds 3 lv')).heap.size=w10.heap.size:=by simp
      have hbf:Below w.heap.size w (w10.setRow (w.heap.size+1) ((#[.int .i64 0,.slice none 0 0,.bool false,lv,.slice none 0 0]:Array Value).setIfInBounds 3 lv')) :=
        below_setRow (((hb5.trans (hb8.mono (by omega))).trans (hb9.mono (by omega))).grown r2 (by omega) (fun k hk=>by have:=hlvlt k hk;omega)) (by omega) _
      generalize (w10.setRow (w.heap.size+1) ((#[.int .i64 0,.slice none 0 0,.bool false,lv,.slice none 0 0]:Array Value).setIfInBounds 3 lv'))=w11 at *
      refine hQ' _ w11 lv' (by simp [sPu,y]) (by simp [dPu,yd]) (by simp (disch:=(try simp only [sPu]);omega) [y2]) (by simp (disch:=(try simp only [sPu]);omega) [y3]) (by simp (disch:=(try simp only [sPu]);omega) [y7]) (by simp (disch:=(try simp only [sPu]);omega) [y8]) (by simp (disch:=(try simp only [sPu]);omega) [y9]) ((hoth _ (by omega)).trans p2n) p3f ?_ hbf (by omega)
      refine ⟨rows ++ [[.int .i64 h.dflt,.slice none 0 0,.bool (decide (0≤h.null)),ls,.slice none 0 0]],fun k=>F k∨(w5.heap.size+2≤k∧k < w8.heap.size),?_,by simp [o2],?_,?_,?_⟩
      · rw [List.flatten_append]
        simp only [List.flatten_cons,List.flatten_nil,List.append_nil]
        refine ⟨r1.1,r1.2.imp id ?_⟩
        rintro ⟨g,cap,cur,m1,m2,m3,m4⟩
        exact ⟨g,cap,cur,m1,m2,by rw [hoth g (by omega)];exact m3,m4⟩
      · intro r hr
        simp only [List.mem_append,List.mem_cons,List.not_mem_nil,or_false] at hr
        rcases hr with hr | rfl
        · exact o3 r hr
        · rfl
      · intro i r x hi hx
        rcases Nat.lt_or_ge i rows.length with hlt | hge
        · rw [List.getElem?_append_left hlt] at hi
          refine (o4 i r x hi hx).mono (fun k hk=>.inl hk) (fun k hk=>?_)
          have:=o5 k hk
          rw [hoth k (by omega),hk10 k (by omega) this.2.2]
        · have hij:i=rows.length:=by
            have:=(List.getElem?_eq_some_iff.1 hi).1
            simp at this
            omega
          subst hij
          rw [List.getElem?_append_right (Nat.le_refl _)] at hi
          simp at hi
          subst hi
          rw [o2,hdj] at hx
          cases hx
          refine htv.mono (fun k hk=>.inr hk) (fun k hk=>?_)
          rw [hoth k (by omega),hk10 k (by omega) (fun e=>by have:=hlvlt k e;omega),hb9.block k (by omega)]
      · intro k hk
        have hk':w.heap.size+2≤k∧k < w9.heap.size∧lv.ownBlock ≠ some k:=by
          rcases hk with hk | hk
          · exact o5 k hk
          · exact ⟨by omega,by omega,fun e=>by have:=hlvlt k e;omega⟩
        refine ⟨hk'.1,by omega,fun e=>?_⟩
        rcases r3 with r3 | ⟨bb,r3,r4⟩
        · exact hk'.2.2 (r3 ▸ e)
        · rw [r3] at e
          cases e
          omega
    have ew:IntKind.i64.wrap ((j:Int)+1)=((j+1:Nat):Int):=by rw [wrap_i64'];split <;> omega
    refine SC.wp_seq (SC.wp_seq (SC.wp_reg ?_))
    iterate 3 (apply ops_1;(focus (simp (disch:=(try simp only [sPu]);omega) [hst,hc7,z5];try rfl)))
    refine oNi (SC.wp_cond (t:=kindOf ty == 10) (by simp (disch:=(try simp only [sPu]);omega)) ?_)
    have htriv:(∀ typ size dflt tags fs',ty ≠ .struct typ size dflt tags fs')→TV G w7 (fun k=>w5.heap.size+2≤k∧k < w7.heap.size) (defT h ty) (.agg #[.int .i64 h.dflt,.slice none 0 0,.bool (decide (0≤h.null)),.slice none 0 0,.slice none 0 0]):=by
      intro hns
      have:defT h ty=.mk h.dflt [] (decide (0≤h.null)) [] []:=by
        cases ty with
        | struct typ size dflt tags fs'=>exact absurd rfl (hns typ size dflt tags fs')
        | prim k=>simp [defT]
        | list _ _ _ _=>simp [defT]
      rw [this]
      exact .mk h.dflt [] _ [] [] none none none 0 0 0 0 0 (fun _=>[]) (.inl rfl) (Nat.le_refl _) (Nat.le_refl _) (Nat.le_refl _) (fun h=>absurd rfl h) (fun i hi=>by simp at hi) (fun i x hx=>by simp at hx) h0G (.inl rfl)
    have close:∀ (a':Act) (w':World) (lv':Value) (Q1:Exit→Act→World→Prop),a'.tmps.size=35→a'.defers=[]→getT a' 2=.pointer (some ⟨w.heap.size,0,none⟩)→getT a' 3=.pointer (some ⟨w.heap.size+1,0,none⟩)→getT a' 7=.slice (some ⟨b,o,none⟩) (Fs.len fs) fcap→getT a' 8=.int .i64 (Fs.len fs:Int)→getT a' 9=.int .i64 (j:Int) →
        w'.heap[w.heap.size]?=some (.cells #[.int .i64 0,.slice none 0 0,.bool false,.slice none 0 0,.slice none 0 0] X.T (0,0))→w'.heap[w.heap.size+1]?=some (.cells #[.int .i64 0,.slice none 0 0,.bool false,lv',.slice none 0 0] X.T (0,0))→Rows G X fs w w' lv' (j+1)→Below w.heap.size w w'→w.heap.size+2≤w'.heap.size →
        (∀ a'' w'',((∃ (j:Nat) (lv:Value),a''.tmps.size=35∧a''.defers=[]∧getT a'' 2=.pointer (some ⟨w.heap.size,0,none⟩)∧getT a'' 3=.pointer (some ⟨w.heap.size+1,0,none⟩)∧getT a'' 7=.slice (some ⟨b,o,none⟩) (Fs.len fs) fcap∧getT a'' 8=.int .i64 (Fs.len fs:Int)∧getT a'' 9=.int .i64 (j:Int)∧j≤Fs.len fs ∧
          w''.heap[w.heap.size]?=some (.cells #[.int .i64 0,.slice none 0 0,.bool false,.slice none 0 0,.slice none 0 0] X.T (0,0))∧w''.heap[w.heap.size+1]?=some (.cells #[.int .i64 0,.slice none 0 0,.bool false,lv,.slice none 0 0] X.T (0,0))∧Rows G X fs w w'' lv j∧Below w.heap.size w w''∧w.heap.size+2≤w''.heap.size) ∧
          (match getT a'' 9 with | .int _ m=>(Fs.len fs - m).toNat | _=>0) < (match getT a4 9 with | .int _ m=>(Fs.len fs - m).toNat | _=>0))→Q1 .normal a'' w'') →
        SC.wp P (.reg [⟨some 33,.binOp .add X.I (.tmp 9) (.const (.int .i64 1)) X.I,none⟩,mv 9 33]) Q1 a' w':=by
      intro a' w' lv' Q1 x xd x2 x3 x7 x8 x9 m2 m3 m4 m5 m6 hq
      refine SC.wp_reg ?_
      repeat (apply ops_1;(focus (simp (disch:=(try simp only [sPu]);omega) [x9,ew];try rfl)))
      refine oNi (hq _ _ ⟨⟨j+1,lv',by simp [sPu,x],by simp [dPu,xd],by simp (disch:=(try simp only [sPu]);omega) [x2],by simp (disch:=(try simp only [sPu]);omega) [x3],by simp (disch:=(try simp only [sPu]);omega) [x7],by simp (disch:=(try simp only [sPu]);omega) [x8],by simp (disch:=(try simp only [sPu]);omega),by omega,m2,m3,m4,m5,m6⟩,?_⟩)
      rw [q9]
      simp (disch:=(try simp only [sPu]);omega);omega
    cases ty with
    | prim k =>
      have e10:(kindOf (.prim k) == 10)=false:=by cases k <;> rfl
      rw [e10,if_neg (by simp)]
      refine SC.wp_skip ?_
      simp only [Exit.then]
      refine tail _ w7 (.slice none 0 0) (by simp [sPu,z]) (by simp [dPu,zd]) (by simp (disch:=(try simp only [sPu]);omega) [z2]) (by simp (disch:=(try simp only [sPu]);omega) [z3]) (by simp (disch:=(try simp only [sPu]);omega) [z7]) (by simp (disch:=(try simp only [sPu]);omega) [z8]) (by simp (disch:=(try simp only [sPu]);omega) [z9]) (by simp (disch:=(try simp only [sPu]);omega) [z6]) hnew7 hb57 (by omega) rfl (htriv (by intros;simp)) _ ?_
      intro a' w' lv' x xd x2 x3 x7 x8 x9 m2 m3 m4 m5 m6
      simp only [Exit.inBlock,Exit.then]
      exact close a' w' lv' _ x xd x2 x3 x7 x8 x9 m2 m3 m4 m5 m6 (fun a'' w'' h=>h)
    | list typ el size of =>
      have e10:(kindOf (.list typ el size of) == 10)=false:=rfl
      rw [e10,if_neg (by simp)]
      refine SC.wp_skip ?_
      simp only [Exit.then]
      refine tail _ w7 (.slice none 0 0) (by simp [sPu,z]) (by simp [dPu,zd]) (by simp (disch:=(try simp only [sPu]);omega) [z2]) (by simp (disch:=(try simp only [sPu]);omega) [z3]) (by simp (disch:=(try simp only [sPu]);omega) [z7]) (by simp (disch:=(try simp only [sPu]);omega) [z8]) (by simp (disch:=(try simp only [sPu]);omega) [z9]) (by simp (disch:=(try simp only [sPu]);omega) [z6]) hnew7 hb57 (by omega) rfl (htriv (by intros;simp)) _ ?_
      intro a' w' lv' x xd x2 x3 x7 x8 x9 m2 m3 m4 m5 m6
      simp only [Exit.inBlock,Exit.then]
      exact close a' w' lv' _ x xd x2 x3 x7 x8 x9 m2 m3 m4 m5 m6 (fun a'' w'' h=>h)
    | struct typ size dflt tags fs' =>
      have e10:(kindOf (.struct typ size dflt tags fs') == 10)=true:=rfl
      rw [e10,if_pos rfl]
      simp only [SubD] at hcj
      simp only [SubV] at hsub
      refine SC.wp_reg ?_
      iterate 2 (apply ops_1;(focus (simp (disch:=(try simp only [sPu]);omega) [hst,hc7,z5];try rfl)))
      have hbw7:Below w.heap.size w w7:=hb5.trans (hb57.mono (by omega))
      refine ops_call oD (hcj.1 w7 sub (FsV.down hbw7 (by omega) hsub)) (by simp (disch:=(try simp only [sPu]);omega)) ?_
      rintro e w8 ⟨dv,rfl,htv,hb8⟩
      refine ⟨dv,rfl,?_⟩
      have hs8:w7.heap.size≤w8.heap.size:=hb8.size
      cases htv with
      | mk _ _ _ _ _ sb lb ub sc lc uc tb to cs' t1 t2 t3 t4 t5 t6 t7 t8 t9 =>
      refine oNo rfl (opw_field3 hT (n:=0) (s:=.slice sb (List.length ([]:Bytes)) sc) (b:=false) (l:=.slice lb (defL fs').length lc) (u:=.slice ub 0 uc) (by simp (disch:=(try simp only [sPu]);omega)) rfl ?_)
      have hn8:w8.heap[w5.heap.size+1]?=_:=(hb8.block (w5.heap.size+1) (by omega)).trans hnew7
      iterate 1 (apply ops_1;(focus (simp (disch:=(try simp only [sPu]);omega) [hst,z6];try rfl)))
      refine oNo rfl (opw_store_one (ad:=⟨w5.heap.size+1,3,none⟩) (v:=.slice lb (defL fs').length lc) (v0:=.slice none 0 0) hst.2.1.2.2.2.2.2.2.2.1 (by simp (disch:=(try simp only [sPu]);omega)) (by simp (disch:=(try simp only [sPu]);omega)) rfl (by rw [cell_of_row _ _ _ _ _ _ hn8];rfl) (by simp [World.frozen?,hn8]) (oNi ?_))
      rw [setCell_eq_setRow _ _ _ _ _ _ _ hn8]
      have hn9:=setRow_heap w8 (w5.heap.size+1) _ ((#[.int .i64 h.dflt,.slice none 0 0,.bool (decide (0≤h.null)),.slice none 0 0,.slice none 0 0]:Array Value).setIfInBounds 3 (.slice lb (defL fs').length lc)) _ _ hn8
      have hoth:∀ k,k ≠ w5.heap.size+1→(w8.setRow (w5.heap.size+1) ((#[.int .i64 h.dflt,.slice none 0 0,.bool (decide (0≤h.null)),.slice none 0 0,.slice none 0 0]:Array Value).setIfInBounds 3 (.slice lb (defL fs').length lc))).heap[k]?=w8.heap[k]?:=fun k hk=>setRow_other _ _ _ _ hk
      have hs9:(w8.setRow (w5.heap.size+1) ((#[.int .i64 h.dflt,.slice none 0 0,.bool (decide (0≤h.null)),.slice none 0 0,.slice none 0 0]:Array Value).setIfInBounds 3 (.slice lb (defL fs').length lc))).heap.size=w8.heap.size:=by simp
      have hb9:Below w5.heap.size w5 (w8.setRow (w5.heap.size+1) ((#[.int .i64 h.dflt,.slice none 0 0,.bool (decide (0≤h.null)),.slice none 0 0,.slice none 0 0]:Array Value).setIfInBounds 3 (.slice lb (defL fs').length lc))):=below_setRow (hb57.trans (hb8.mono (by omega))) (by omega) _
      simp only [Exit.then,pNo]
      generalize (w8.setRow (w5.heap.size+1) ((#[.int .i64 h.dflt,.slice none 0 0,.bool (decide (0≤h.null)),.slice none 0 0,.slice none 0 0]:Array Value).setIfInBounds 3 (.slice lb (defL fs').length lc)))=w9 at *
      refine tail _ w9 (.slice lb (defL fs').length lc) (by simp [sPu,z]) (by simp [dPu,zd]) (by simp (disch:=(try simp only [sPu]);omega) [z2]) (by simp (disch:=(try simp only [sPu]);omega) [z3]) (by simp (disch:=(try simp only [sPu]);omega) [z7]) (by simp (disch:=(try simp only [sPu]);omega) [z8]) (by simp (disch:=(try simp only [sPu]);omega) [z9]) (by simp (disch:=(try simp only [sPu]);omega) [z6]) hn9 hb9 (by omega) rfl ?_ _ ?_
      · simp only [defT]
        have hF:∀ k,(w7.heap.size≤k∧k < w8.heap.size)→(w5.heap.size+2≤k∧k < w9.heap.size):=fun k hk=>by omega
        have hW:∀ k,(w7.heap.size≤k∧k < w8.heap.size)→w9.heap[k]?=w8.heap[k]?:=fun k hk=>hoth k (by omega)
        exact .mk h.dflt [] _ (defL fs') [] none lb none 0 lc 0 tb to cs' (.inl rfl) (Nat.le_refl _) t3 (Nat.le_refl _) (fun hne=>⟨(t5 hne).1,hF _ (t5 hne).2⟩) (fun i hi=>by
          have hne:defL fs' ≠ []:=by intro e;rw [e] at hi;simp at hi
          rw [rangeV_mono (hW tb (t5 hne).2)]
          exact t6 i hi) (fun i x hx=>(t7 i x hx).mono hF hW) h0G (.inl rfl)
      intro a' w' lv' x xd x2 x3 x7 x8 x9 m2 m3 m4 m5 m6
      simp only [Exit.inBlock,Exit.then]
      exact close a' w' lv' _ x xd x2 x3 x7 x8 x9 m2 m3 m4 m5 m6 (fun a'' w'' h=>h)
end
end Go.Proofs.Ytjbbohfaihkolaa.K
namespace Go.Proofs.Ytjbbohfaihkolaa.K
open Go Go.RowKit Go.Proofs.Ytjbbohfaihkolaa.T
attribute [local simp] eTm eCo pNo gTp gTn qv qcall vop iop
set_option linter.unusedSimpArgs false
set_option linter.unusedVariables false
set_option maxHeartbeats 4000000
section
variable {G:List (Nat × Bytes)→Prop} {P:Program} {X:STy} {f:FuncId} {fn:Func}
mutual
theorem subD_all {C:Fs→Prop} (hC:∀ fs,Fs.len fs < 4294967296→SubsD C fs→C fs):∀ ty,smallTy ty=true→SubD C ty
  | .prim _,_=>by simp [SubD]
  | .struct _ _ _ _ fs,h=>by
    simp only [smallTy,Bool.and_eq_true,decide_eq_true_eq] at h
    simp only [SubD]
    exact hC fs h.1 (subsD_all hC fs h.2)
  | .list _ _ _ of,h=>by simp [SubD]
theorem subsD_all {C:Fs→Prop} (hC:∀ fs,Fs.len fs < 4294967296→SubsD C fs→C fs):∀ fs,smallFs fs=true→SubsD C fs
  | .nil,_=>by simp [SubsD]
  | .cons h ty r,hh=>by
    simp only [smallFs,Bool.and_eq_true] at hh
    simp only [SubsD]
    exact ⟨subD_all hC ty hh.1,subsD_all hC r hh.2⟩
end
end
end Go.Proofs.Ytjbbohfaihkolaa.K
namespace Go.Proofs.Ytjbbohfaihkolaa.K
open Go Go.RowKit Go.Proofs.Ytjbbohfaihkolaa.T
set_option linter.unusedSimpArgs false
set_option linter.unusedVariables false
set_option maxHeartbeats 4000000
def fld3B (P:Program) (T:TypeId):Bool :=
  match P.underlying T with
  | some (.struct fields)=>match fields.toList[3]? with
    | some fl=>fl.offset == 3 && (match P.info? fl.type with
      | some i=>i.size == 1
      | none=>false) && oneB P fl.type
    | none=>false
  | _=>false
theorem fld3_of {P:Program} {T:TypeId} (h:fld3B P T=true):∃ fields fl,P.underlying T=some (.struct fields)∧fields.toList[3]?=some fl∧fl.offset=3∧(∃ i,P.info? fl.type=some i∧i.size=1)∧oneB P fl.type=true:=by
  unfold fld3B at h
  split at h <;> try (simp at h;done)
  rename_i fields hu
  split at h <;> try (simp at h;done)
  rename_i fl hf
  simp only [Bool.and_eq_true,beq_iff_eq] at h
  obtain ⟨⟨h1,h2⟩,h3⟩:=h
  split at h2 <;> try (simp at h2;done)
  rename_i i hi
  exact ⟨fields,fl,hu,hf,h1,⟨i,hi,by simpa using h2⟩,h3⟩
def infoB (P:Program) (T:TypeId):Bool :=
  match P.info? T with
  | some i=>(match i.zero with | some (.agg ⟨[.int .i64 0,.slice none 0 0,.bool false,.slice none 0 0,.slice none 0 0]⟩)=>true | _=>false) && i.size == 5 && decide (i.bytes≤1000)
  | none=>false
theorem info_of {P:Program} {T:TypeId} (h:infoB P T=true):∃ i,P.info? T=some i∧i.zero=some zeroTV∧i.size=5∧i.bytes≤1000:=by
  unfold infoB at h
  split at h <;> try (simp at h;done)
  rename_i i hi
  simp only [Bool.and_eq_true,beq_iff_eq,decide_eq_true_eq] at h
  obtain ⟨⟨h1,h2⟩,h3⟩:=h
  split at h1 <;> try (simp at h1;done)
  rename_i hz
  exact ⟨i,hi,hz,h2,h3⟩
end Go.Proofs.Ytjbbohfaihkolaa.K
namespace Go.Proofs.Ytjbbohfaihkolaa.K
open Go Go.RowKit Go.Proofs.Ytjbbohfaihkolaa.T
set_option linter.unusedSimpArgs false
set_option linter.unusedVariables false
set_option maxHeartbeats 4000000
def FsAtT (w:World) (F:Nat→Prop):Fs→List Int→Nat→Nat→Prop
  | .nil,_,_,_=>True
  | .cons h ty r,tg,b,o=>(∃ of_ sub,rangeV w b o 8=some [.int .i64 (kindOf ty),.int .i64 h.from_,.int .i64 h.to,.int .i64 h.null,.int .i64 (tg.headD (-1)),.int .i64 h.dflt,.int .i64 of_,sub]∧sub.oneCell'=true∧ofOK of_ ty∧SubV w F ty sub)∧FsAtT w F r tg.tail b (o+8)
def FsVT (w:World) (F:Nat→Prop) (fs:Fs) (tg:List Int) (v:Value):Prop :=
  ∃ base cap,v=.slice base (Fs.len fs) cap∧(Fs.len fs=0∨∃ b o,base=some ⟨b,o,none⟩∧F b∧FsAtT w F fs tg b o)
theorem FsAtT.mono {w0 w:World} {F F':Nat→Prop} (hF:∀ k,F k→F' k) (hw:∀ k,F k→w.heap[k]?=w0.heap[k]?):∀ (fs:Fs) (tg:List Int) (b o:Nat),F b→FsAtT w0 F fs tg b o→FsAtT w F' fs tg b o
  | .nil,_,_,_,_,_=>by simp [FsAtT]
  | .cons h ty r,tg,b,o,hb,hh=>by
    simp only [FsAtT] at hh ⊢
    obtain ⟨⟨of_,sub,h1,h2,h3,h4⟩,h5⟩:=hh
    exact ⟨⟨of_,sub,by rw [rangeV_mono (hw b hb)];exact h1,h2,h3,SubV.mono hF hw ty sub h4⟩,FsAtT.mono hF hw r tg.tail b (o+8) hb h5⟩
theorem FsVT.mono {w0 w:World} {F F':Nat→Prop} (hF:∀ k,F k→F' k) (hw:∀ k,F k→w.heap[k]?=w0.heap[k]?) {fs:Fs} {tg:List Int} {v:Value} (h:FsVT w0 F fs tg v):FsVT w F' fs tg v:=by
  obtain ⟨base,cap,h1,h2⟩:=h
  exact ⟨base,cap,h1,h2.imp id fun ⟨b,o,q1,q2,q3⟩=>⟨b,o,q1,hF _ q2,FsAtT.mono hF hw fs tg b o q2 q3⟩⟩
theorem FsVT.down {w0 w:World} {B:Nat} (hb:Below B w0 w) (hB:B≤w.heap.size) {fs:Fs} {tg:List Int} {v:Value} (h:FsVT w0 (· < B) fs tg v):FsVT w (· < w.heap.size) fs tg v :=
  h.mono (fun k hk=>Nat.lt_of_lt_of_le hk hB) (fun k hk=>hb.block k hk)
theorem fsAtT_drop {w:World} {F:Nat→Prop}:∀ (i:Nat) (fs:Fs) (tg:List Int) (b o:Nat),FsAtT w F fs tg b o→FsAtT w F (Fs.drop i fs) (tg.drop i) b (o+i * 8)
  | 0,fs,tg,b,o,h=>by simpa [Fs.drop] using h
  | i+1,.nil,tg,b,o,_=>by simp [Fs.drop,FsAtT]
  | i+1,.cons h ty r,tg,b,o,hh=>by
    simp only [FsAtT] at hh
    have:=fsAtT_drop i r tg.tail b (o+8) hh.2
    rw [List.drop_tail] at this
    rwa [show o+8+i * 8=o+(i+1) * 8 by omega] at this
def wFsT (ver:Int) (flex:Bool):Fs→List Int→List Tree→Bytes
  | .nil,_,_=>[]
  | .cons h ty r,tg,ts=>(if tg.headD (-1) < 0∧h.has ver=true then wField ver flex h ty (ts.headD Tree.zero) else []) ++ wFsT ver flex r tg.tail ts.tail
theorem tail_drop (tg:List Int) (i:Nat):(tg.drop i).tail=tg.drop (i+1):=by simp
def TgOK (tg:List Int):Prop:=∀ x ∈ tg,x=-1∨(0≤x∧x < 1000)
theorem TgOK.at {tg:List Int} (h:TgOK tg) (j:Nat):(tg.drop j).headD (-1)=-1∨(0≤(tg.drop j).headD (-1)∧(tg.drop j).headD (-1) < 1000):=by
  cases e:tg.drop j with
  | nil=>exact .inl rfl
  | cons x r=>exact h x (List.mem_of_mem_drop (by rw [e];exact List.mem_cons_self ..))
end Go.Proofs.Ytjbbohfaihkolaa.K
namespace Go.Proofs.Ytjbbohfaihkolaa.K
open Go Go.RowKit Go.Proofs.Ytjbbohfaihkolaa.T
attribute [local simp] eTm eCo pNo gTp gTn qv qcall vop iop
set_option linter.unusedSimpArgs false
set_option linter.unusedVariables false
set_option maxHeartbeats 4000000
section
variable {G:List (Nat × Bytes)→Prop} {P:Program} {X:STy} {f:FuncId} {fn:Func} {fW fTh fC fWi fF fU fHas fNull fAt fPart fVal fFld:FuncId}
theorem fieldsT_loop (hX:stOK P X=true) (hTF:arrB P X.F 8=true) (S:SmallC P X fW fTh fC fWi fF fU fHas fNull fAt G) (hm:P.follows .mixedOrders=true) (oF:FnOK P fFld) (cFd:FieldC G P X fFld fPart)
    {a:Act} {w w1:World} {Q:Exit→Act→World→Prop} (fs:Fs) (tg:List Int) (htg:TgOK tg) (fb:Option Addr) (fcap:Nat) (cP:SubsC (PartC G P X fPart) fs)
    (hfs:Fs.len fs=0∨∃ b o,fb=some ⟨b,o,none⟩∧b < w.heap.size∧FsAtT w (· < w.heap.size) fs tg b o) (hlen63:Fs.len fs < 4294967296)
    (ver:Int) (flex:Bool) (t:Tree) (n:Int) (s l u:Value) (tnull:Bool) (ht:TV G w (· < w.heap.size) t (treV n s tnull l u))
    (hbw:Below w.heap.size w w1) (hsz:w.heap.size+1≤w1.heap.size) (hT5:rangeV w1 w.heap.size 0 5=some [.int .i64 n,s,.bool tnull,l,u])
    (g:a.tmps.size=132) (g0:getT a 0=.slice fb (Fs.len fs) fcap) (g1:getT a 1=.int .i64 ver) (g2:getT a 2=.bool flex) (g7:getT a 7=.pointer (some ⟨w.heap.size,0,none⟩)) (g9:getT a 9=.slice none 0 0)
    (hl:(wFsT ver flex fs tg t.l).length≤lim)
    (hQ:∀ (a':Act) (w':World),a'.tmps.size=132→a'.defers=a.defers→(∀ s,s < 12→s ≠ 9→getT a' s=getT a s)→Own X.U8 w' (w.heap.size+1) (getT a' 9) (wFsT ver flex fs tg t.l)→Below (w.heap.size+1) w1 w'→Q .normal a' w') :
    SC.wp P (.seq (.reg [mv 21 0,lenOp 22 X.Fs 21,⟨some 23,.move (.const (.int .i64 0)),none⟩]) (.block 0 (.loop (.seq (.reg [⟨some 24,.binOp .lss X.I (.tmp 23) (.tmp 22) X.I,none⟩]) (.seq (.cond (.tmp 24) (.skip) (.exit 0)) (.seq (.block 1 (.seq (.reg [mv 25 23,⟨some 26,.indexAddr X.Fs (.tmp 21) (.tmp 23),none⟩,ld 27 X.F 26,⟨some 13,.alloc X.F,none⟩,asg 12 25,⟨none,.store X.F (.tmp 13) (.tmp 27),none⟩]) (.seq (.reg [fa 28 X.F 13 4,ld 29 X.I 28,⟨some 30,.binOp .lss X.I (.tmp 29) (.const (.int .i64 0)) X.I,none⟩,mv 31 30,⟨some 32,.load X.F (.tmp 13),some (3,true)⟩,⟨some 33,.move (.tmp 1),some (3,true)⟩,⟨some 34,.call ⟨.value (.func fHas),#[(.tmp 32),(.tmp 33)],#[]⟩,some (3,true)⟩,⟨some 35,.pick (.tmp 31) (.tmp 34) (.const (.bool false)),none⟩]) (.cond (.tmp 35) (.dreg [mv 36 9,ld 37 X.F 13,mv 38 1,mv 39 2,ld 40 X.T 7,mv 41 12,cal 42 fAt [40,41],cal 43 fFld [37,38,39,42],⟨some 44,.call ⟨.builtin .append,#[(.tmp 36),(.tmp 43)],#[X.Bs,X.Bs]⟩,none⟩,asg 9 44] [[],[],[],[],[],[],[4,5],[1,2,3,6,6],[0,7,7],[8,8,0,1,2,3,4,5,6,7,8]]) (.skip))))) (.reg [⟨some 45,.binOp .add X.I (.tmp 23) (.const (.int .i64 1)) X.I,none⟩,mv 23 45]))))))) Q a w1:=by
  have hst:=st_facts hX
  have hU8s:=hst.2.2.1.1
  have hlim:lim=70368744177664:=rfl
  obtain ⟨hTF1,iF,zF,hiF,hzF,hzFs⟩:=arr_of hTF
  refine SC.wp_seq (SC.wp_reg ?_)
  repeat (first | (apply ops_1;(focus (simp (disch:=(try simp only [sPu]);omega) [hst,g0];try rfl))) | (apply ops_y;(focus rfl);(focus ((try simp only [sPu]);omega));(focus (simp (disch:=(try simp only [sPu]);omega) [hst,g0];done));(focus (simp (disch:=(try simp only [sPu]);omega) [hst,g0];try rfl))) | (apply ops_n;(focus rfl);(focus ((try simp only [sPu]);omega));(focus (first | (left;simp (disch:=(try simp only [sPu]);omega) [hst,g0];done) | (right;simp (disch:=(try simp only [sPu]);omega);done)))))
  refine oNi ?_
  simp only [Exit.then]
  refine SC.wp_block (SC.wp_loop (fun a4 w5=>∃ (j:Nat) (xs:Bytes),a4.tmps.size=132∧a4.defers=a.defers∧(∀ s,s < 12→s ≠ 9→getT a4 s=getT a s)∧getT a4 21=.slice fb (Fs.len fs) fcap∧getT a4 22=.int .i64 (Fs.len fs:Int)∧getT a4 23=.int .i64 (j:Int)∧j≤Fs.len fs ∧
      Own X.U8 w5 (w.heap.size+1) (getT a4 9) xs∧xs ++ wFsT ver flex (Fs.drop j fs) (tg.drop j) (t.l.drop j)=wFsT ver flex fs tg t.l∧Below (w.heap.size+1) w1 w5)
    (fun a4 _=>match getT a4 23 with | .int _ m=>(Fs.len fs - m).toNat | _=>0) ⟨0,[],by simp [sPu,g],by simp [dPu],?_,by simp (disch:=(try simp only [sPu]);omega),by simp (disch:=(try simp only [sPu]);omega),by simp (disch:=(try simp only [sPu]);omega),by omega,by simp (disch:=(try simp only [sPu]);omega) [g9];exact own_nil _ _ _,by simp [Fs.drop],Below.refl _ _⟩ ?_)
  · intro s h1 h2
    simp (disch:=omega) [gTn]
  rintro a4 w5 ⟨j,xs,q,qd,qs,q21,q22,q23,hj,ho,hx,hb5⟩
  have hsz5:w.heap.size+1≤w5.heap.size:=by have:=hb5.size;omega
  refine SC.wp_seq (SC.wp_reg ?_)
  repeat (first | (apply ops_1;(focus (simp (disch:=(try simp only [sPu]);omega) [hst,q22,q23];try rfl))) | (apply ops_y;(focus rfl);(focus ((try simp only [sPu]);omega));(focus (simp (disch:=(try simp only [sPu]);omega) [hst,q22,q23];done));(focus (simp (disch:=(try simp only [sPu]);omega) [hst,q22,q23];try rfl))) | (apply ops_n;(focus rfl);(focus ((try simp only [sPu]);omega));(focus (first | (left;simp (disch:=(try simp only [sPu]);omega) [hst,q22,q23];done) | (right;simp (disch:=(try simp only [sPu]);omega);done)))))
  refine oNi ?_
  simp only [Exit.then]
  refine SC.wp_seq (SC.wp_cond (t:=decide ((j:Int) < (Fs.len fs:Int))) (by simp (disch:=(try simp only [sPu]);omega)) ?_)
  cases e1:decide ((j:Int) < (Fs.len fs:Int))
  · have hje:j=Fs.len fs:=by simp at e1;omega
    subst hje
    rw [if_neg (by simp)]
    refine SC.wp_exit ?_
    simp only [Exit.then,Exit.inBlock,if_true]
    rw [drop_len,wFsT,List.append_nil] at hx
    refine hQ _ _ (by simp [sPu,q]) (by simp [dPu,qd]) ?_ ?_ hb5
    · intro s h1 h2
      rw [← qs s h1 h2]
      simp (disch:=omega) [gTn]
    · rw [← hx]
      refine own_eq ho ?_
      simp (disch:=(try simp only [sPu]);omega)
  · have hjl:j < Fs.len fs:=by simp at e1;omega
    rw [if_pos rfl]
    refine SC.wp_skip ?_
    simp only [Exit.then]
    obtain ⟨h,ty,hdrop⟩:=drop_cons j fs hjl
    rcases hfs with hfs | ⟨b,o,rfl,hbF,hfs⟩
    · omega
    have hfj:=fsAtT_drop j fs tg b o hfs
    have hcj:=subsC_drop j fs cP
    rw [hdrop] at hfj hcj hx
    simp only [FsAtT,SubsC] at hfj hcj
    obtain ⟨⟨of_,sub,hr8,h1c,hof,hsub⟩,_⟩:=hfj
    have htj:=htg.at j
    obtain ⟨tj,etj⟩:∃ tj,tj=(tg.drop j).headD (-1):=⟨_,rfl⟩
    rw [← etj] at htj hr8
    have hb5':Below w.heap.size w w5:=hbw.trans (hb5.mono (by omega))
    have hr8':=(rangeV_mono (w:=w5) (hb5'.block b hbF) 8 (o+j * 8)).trans hr8
    have ej:(0:Int)≤(j:Int)∧(j:Int) < (Fs.len fs:Int):=by omega
    have k0:=(qs 0 (by decide) (by decide)).trans g0
    have k1:=(qs 1 (by decide) (by decide)).trans g1
    have k2:=(qs 2 (by decide) (by decide)).trans g2
    have k7:=(qs 7 (by decide) (by decide)).trans g7
    refine SC.wp_seq (SC.wp_block (SC.wp_seq (SC.wp_reg ?_)))
    iterate 3 (first | (apply ops_1;(focus (simp (disch:=(try simp only [sPu]);omega) [hst,q21,q23,ej,hr8',hjl];try rfl))) | (apply ops_y;(focus rfl);(focus ((try simp only [sPu]);omega));(focus (simp (disch:=(try simp only [sPu]);omega) [hst,q21,q23,ej,hr8',hjl];done));(focus (simp (disch:=(try simp only [sPu]);omega) [hst,q21,q23,ej,hr8',hjl];try rfl))) | (apply ops_n;(focus rfl);(focus ((try simp only [sPu]);omega));(focus (first | (left;simp (disch:=(try simp only [sPu]);omega) [hst,q21,q23,ej,hr8',hjl];done) | (right;simp (disch:=(try simp only [sPu]);omega);done)))))
    refine oNo rfl (opw_alloc hiF hzF ?_)
    iterate 1 (first | (apply ops_1;(focus (simp (disch:=(try simp only [sPu]);omega) ;try rfl))) | (apply ops_y;(focus rfl);(focus ((try simp only [sPu]);omega));(focus (simp (disch:=(try simp only [sPu]);omega);done));(focus (simp (disch:=(try simp only [sPu]);omega) ;try rfl))) | (apply ops_n;(focus rfl);(focus ((try simp only [sPu]);omega));(focus (first | (left;simp (disch:=(try simp only [sPu]);omega);done) | (right;simp (disch:=(try simp only [sPu]);omega);done)))))
    refine oNo rfl (opw_store_agg (b:=w5.heap.size) (cs:=[.int .i64 (kindOf ty),.int .i64 h.from_,.int .i64 h.to,.int .i64 h.null,.int .i64 tj,.int .i64 h.dflt,.int .i64 of_,sub]) hTF1 (by simp (disch:=(try simp only [sPu]);omega)) (by simp (disch:=(try simp only [sPu]);omega)) (heap_alloc_new w5 _) (by simp [hzFs]) (by
      intro v hv
      simp only [List.mem_cons,List.not_mem_nil,or_false] at hv
      rcases hv with rfl | rfl | rfl | rfl | rfl | rfl | rfl | rfl <;> first | rfl | exact h1c) (oNi ?_))
    have hnew:((w5.alloc (.cells zF.cells X.F)).setRow w5.heap.size #[.int .i64 (kindOf ty),.int .i64 h.from_,.int .i64 h.to,.int .i64 h.null,.int .i64 tj,.int .i64 h.dflt,.int .i64 of_,sub]).heap[w5.heap.size]?=some (.cells #[.int .i64 (kindOf ty),.int .i64 h.from_,.int .i64 h.to,.int .i64 h.null,.int .i64 tj,.int .i64 h.dflt,.int .i64 of_,sub] X.F (0,0)):=setRow_heap _ _ _ _ _ _ (heap_alloc_new w5 _)
    have hb6:Below w5.heap.size w5 ((w5.alloc (.cells zF.cells X.F)).setRow w5.heap.size #[.int .i64 (kindOf ty),.int .i64 h.from_,.int .i64 h.to,.int .i64 h.null,.int .i64 tj,.int .i64 h.dflt,.int .i64 of_,sub]):=below_setRow ((Below.refl _ _).alloc (Nat.le_refl _) _) (Nat.le_refl _) _
    have hsz6:((w5.alloc (.cells zF.cells X.F)).setRow w5.heap.size #[.int .i64 (kindOf ty),.int .i64 h.from_,.int .i64 h.to,.int .i64 h.null,.int .i64 tj,.int .i64 h.dflt,.int .i64 of_,sub]).heap.size=w5.heap.size+1:=by simp
    simp only [Exit.then,pNo]
    generalize ((w5.alloc (.cells zF.cells X.F)).setRow w5.heap.size #[.int .i64 (kindOf ty),.int .i64 h.from_,.int .i64 h.to,.int .i64 h.null,.int .i64 tj,.int .i64 h.dflt,.int .i64 of_,sub])=w6 at *
    have hc6:∀ i,w6.cell? ⟨w5.heap.size,i,none⟩=#[Value.int .i64 (kindOf ty),.int .i64 h.from_,.int .i64 h.to,.int .i64 h.null,.int .i64 tj,.int .i64 h.dflt,.int .i64 of_,sub][i]?:=fun i=>cell_of_row _ _ _ _ _ _ hnew
    have hF8:rangeV w6 w5.heap.size 0 8=some [.int .i64 (kindOf ty),.int .i64 h.from_,.int .i64 h.to,.int .i64 h.null,.int .i64 tj,.int .i64 h.dflt,.int .i64 of_,sub]:=by simp [rangeV,hc6]
    refine gen_act (fun a6=>a6.tmps.size=132∧a6.defers=a.defers∧(∀ s,s < 12→s ≠ 9→getT a6 s=getT a s)∧getT a6 9=getT a4 9∧getT a6 21=.slice (some ⟨b,o,none⟩) (Fs.len fs) fcap∧getT a6 22=.int .i64 (Fs.len fs:Int)∧getT a6 23=.int .i64 (j:Int)∧getT a6 12=.int .i64 (j:Int)∧getT a6 13=.pointer (some ⟨w5.heap.size,0,none⟩))
      ⟨by simp [sPu,q],by simp [dPu,qd],?_,by simp (disch:=(try simp only [sPu]);omega),by simp (disch:=(try simp only [sPu]);omega) [q21],by simp (disch:=(try simp only [sPu]);omega) [q22],by simp (disch:=(try simp only [sPu]);omega) [q23],by simp (disch:=(try simp only [sPu]);omega),by simp (disch:=(try simp only [sPu]);omega)⟩ ?_
    · intro s h1 h2
      rw [← qs s h1 h2]
      simp (disch:=omega) [gTn]
    rintro a6 ⟨p,pd,ps,p9,p21,p22,p23,p12,p13⟩
    have k1:=(ps 1 (by decide) (by decide)).trans g1
    have k2:=(ps 2 (by decide) (by decide)).trans g2
    have k7:=(ps 7 (by decide) (by decide)).trans g7
    clear q qd qs q21 q22 k0
    have ew:IntKind.i64.wrap ((j:Int)+1)=((j+1:Nat):Int):=by rw [wrap_i64'];split <;> omega
    have next:∀ (a':Act) (w':World) (ys:Bytes) (Q':Exit→Act→World→Prop),a'.tmps.size=132→a'.defers=a.defers→(∀ s,s < 12→s ≠ 9→getT a' s=getT a s)→getT a' 21=.slice (some ⟨b,o,none⟩) (Fs.len fs) fcap→getT a' 22=.int .i64 (Fs.len fs:Int)→getT a' 23=.int .i64 (j:Int) →
        Own X.U8 w' (w.heap.size+1) (getT a' 9) ys→ys=xs ++ (if tj < 0∧h.has ver=true then wField ver flex h ty ((t.l.drop j).headD Tree.zero) else [])→Below (w.heap.size+1) w5 w' →
        (∀ a'' w'',(∃ (j:Nat) (xs:Bytes),a''.tmps.size=132∧a''.defers=a.defers∧(∀ s,s < 12→s ≠ 9→getT a'' s=getT a s)∧getT a'' 21=.slice (some ⟨b,o,none⟩) (Fs.len fs) fcap∧getT a'' 22=.int .i64 (Fs.len fs:Int)∧getT a'' 23=.int .i64 (j:Int)∧j≤Fs.len fs ∧
          Own X.U8 w'' (w.heap.size+1) (getT a'' 9) xs∧xs ++ wFsT ver flex (Fs.drop j fs) (tg.drop j) (t.l.drop j)=wFsT ver flex fs tg t.l∧Below (w.heap.size+1) w1 w'')→(match getT a'' 23 with | .int _ m=>(Fs.len fs - m).toNat | _=>0) < (Fs.len fs - (j:Int)).toNat→Q' .normal a'' w'') →
        SC.wp P (.reg [⟨some 45,.binOp .add X.I (.tmp 23) (.const (.int .i64 1)) X.I,none⟩,mv 23 45]) Q' a' w':=by
      intro a' w' ys Q' z zd zs z21 z22 z23 zo hy zb hq
      refine SC.wp_reg ?_
      repeat (first | (apply ops_1;(focus (simp (disch:=(try simp only [sPu]);omega) [z23,ew];try rfl))) | (apply ops_y;(focus rfl);(focus ((try simp only [sPu]);omega));(focus (simp (disch:=(try simp only [sPu]);omega) [z23,ew];done));(focus (simp (disch:=(try simp only [sPu]);omega) [z23,ew];try rfl))) | (apply ops_n;(focus rfl);(focus ((try simp only [sPu]);omega));(focus (first | (left;simp (disch:=(try simp only [sPu]);omega) [z23,ew];done) | (right;simp (disch:=(try simp only [sPu]);omega);done)))))
      refine oNi (hq _ _ ⟨j+1,ys,by simp [sPu,z],by simp [dPu,zd],?_,by simp (disch:=(try simp only [sPu]);omega) [z21],by simp (disch:=(try simp only [sPu]);omega) [z22],by simp (disch:=(try simp only [sPu]);omega),by omega,?_,?_,hb5.trans zb⟩ ?_)
      · intro s h1 h2
        rw [← zs s h1 h2]
        simp (disch:=omega) [gTn]
      · refine own_eq zo ?_
        simp (disch:=(try simp only [sPu]);omega)
      · rw [hy,List.append_assoc]
        simpa only [wFsT,headD_drop,tail_drop,← etj] using hx
      · simp (disch:=(try simp only [sPu]);omega);omega
    rcases (Classical.em (tj=-1)).symm with hneg | hneg
    · have htj0:0≤tj:=by omega
      have hnt:decide (tj < 0)=false:=decide_eq_false (by omega)
      refine SC.wp_seq (SC.wp_reg ?_)
      repeat (first | (apply ops_1;(focus (simp (disch:=(try simp only [sPu]);omega) [hst,hc6,p13,hnt];try rfl))) | (apply ops_y;(focus rfl);(focus ((try simp only [sPu]);omega));(focus (simp (disch:=(try simp only [sPu]);omega) [hst,hc6,p13,hnt];done));(focus (simp (disch:=(try simp only [sPu]);omega) [hst,hc6,p13,hnt];try rfl))) | (apply ops_n;(focus rfl);(focus ((try simp only [sPu]);omega));(focus (first | (left;simp (disch:=(try simp only [sPu]);omega) [hst,hc6,p13,hnt];done) | (right;simp (disch:=(try simp only [sPu]);omega);done)))))
      refine oNi ?_
      simp only [Exit.then]
      refine SC.wp_cond (t:=false) (by simp (disch:=(try simp only [sPu]);omega) [hnt]) ?_
      rw [if_neg (by simp)]
      refine SC.wp_skip ?_
      simp only [Exit.inBlock,Exit.then]
      refine next _ _ xs _ (by simp [sPu,p]) (by simp [dPu,pd]) ?_ (by simp (disch:=(try simp only [sPu]);omega) [p21]) (by simp (disch:=(try simp only [sPu]);omega) [p22]) (by simp (disch:=(try simp only [sPu]);omega) [p23]) ?_ (by rw [if_neg (by omega),List.append_nil]) (hb6.mono (by omega)) ?_
      · intro s h1 h2
        rw [← ps s h1 h2]
        simp (disch:=omega) [gTn]
      · refine own_eq (own_keep ho hb6) ?_
        simp (disch:=(try simp only [sPu]);omega) [p9]
      · intro a'' w'' hI hlt
        exact ⟨hI,by rw [q23];exact hlt⟩
    subst hneg
    refine SC.wp_seq (SC.wp_reg ?_)
    iterate 6 (first | (apply ops_1;(focus (simp (disch:=(try simp only [sPu]);omega) [hst,hc6,hF8,k1,p13];try rfl))) | (apply ops_y;(focus rfl);(focus ((try simp only [sPu]);omega));(focus (simp (disch:=(try simp only [sPu]);omega) [hst,hc6,hF8,k1,p13];done));(focus (simp (disch:=(try simp only [sPu]);omega) [hst,hc6,hF8,k1,p13];try rfl))) | (apply ops_n;(focus rfl);(focus ((try simp only [sPu]);omega));(focus (first | (left;simp (disch:=(try simp only [sPu]);omega) [hst,hc6,hF8,k1,p13];done) | (right;simp (disch:=(try simp only [sPu]);omega);done)))))
    obtain ⟨fnH,hH1,hH2,hH3⟩:=S.oH
    refine opsw_yes rfl rfl (by (try simp only [sPu]);omega) (by simp (disch:=(try simp only [sPu]);omega)) (opw_call hH1 hH2 hH3 (R:=fun e w'=>e=.returned (.bool (h.has ver))∧Below w6.heap.size w6 w') ?_ ?_)
    · refine Eq.mp (congrArg (fun z=>Calls P fHas z w6 _) ?_) (S.cH w6 (kindOf ty) h.from_ h.to h.null (-1) h.dflt of_ sub ver)
      simp (disch:=(try simp only [sPu]);omega) [fldV]
    rintro e w7 ⟨rfl,hb7⟩
    refine ⟨_,rfl,?_⟩
    repeat (first | (apply ops_1;(focus (simp (disch:=(try simp only [sPu]);omega) ;try rfl))) | (apply ops_y;(focus rfl);(focus ((try simp only [sPu]);omega));(focus (simp (disch:=(try simp only [sPu]);omega);done));(focus (simp (disch:=(try simp only [sPu]);omega) ;try rfl))) | (apply ops_n;(focus rfl);(focus ((try simp only [sPu]);omega));(focus (first | (left;simp (disch:=(try simp only [sPu]);omega);done) | (right;simp (disch:=(try simp only [sPu]);omega);done)))))
    refine oNi ?_
    simp only [Exit.then]
    have hb7':Below w5.heap.size w5 w7:=hb6.trans (hb7.mono (by omega))
    have hsz7:w5.heap.size+1≤w7.heap.size:=by have:=hb7.size;omega
    have hnew7:w7.heap[w5.heap.size]?=w6.heap[w5.heap.size]?:=hb7.block _ (by omega)
    refine SC.wp_cond (t:=h.has ver) (by simp (disch:=(try simp only [sPu]);omega)) ?_
    cases hh:h.has ver
    · rw [if_neg (by simp)]
      refine SC.wp_skip ?_
      simp only [Exit.inBlock,Exit.then]
      refine next _ _ xs _ (by simp [sPu,p]) (by simp [dPu,pd]) ?_ (by simp (disch:=(try simp only [sPu]);omega) [p21]) (by simp (disch:=(try simp only [sPu]);omega) [p22]) (by simp (disch:=(try simp only [sPu]);omega) [p23]) ?_ (by simp [hh]) (hb7'.mono (by omega)) ?_
      · intro s h1 h2
        rw [← ps s h1 h2]
        simp (disch:=omega) [gTn]
      · refine own_eq (own_keep ho hb7') ?_
        simp (disch:=(try simp only [sPu]);omega) [p9]
      · intro a'' w'' hI hlt
        exact ⟨hI,by rw [q23];exact hlt⟩
    · rw [if_pos rfl]
      have hF8d:rangeV w7.drew w5.heap.size 0 8=some [.int .i64 (kindOf ty),.int .i64 h.from_,.int .i64 h.to,.int .i64 h.null,.int .i64 (-1),.int .i64 h.dflt,.int .i64 of_,sub]:=(rangeV_mono (w:=w7.drew) (w0:=w6) hnew7 8 0).trans hF8
      have hT5d:rangeV w7.drew w.heap.size 0 5=some [.int .i64 n,s,.bool tnull,l,u]:=(rangeV_mono (w:=w7.drew) (w0:=w1) ((hb7'.block _ (by omega)).trans (hb5.block _ (by omega))) 5 0).trans hT5
      have hb7w:Below w.heap.size w w7:=hb5'.trans (hb7'.mono (by omega))
      refine SC.wp_dreg hm (Keeps (fun b=>b == w.heap.size || b == w5.heap.size) w7.drew) [(0,true),(1,true),(2,true),(3,true),(4,true),(5,true),(6,false),(7,false),(8,false),(9,true)] (by rfl) (by rfl) (by decide) (fun _ _=>rfl) ?_
      iterate 6 (first | (apply dk_1;(focus rfl);(focus (simp (disch:=(try simp only [sPu]);omega) [hst,k1,k2,k7,p12,p13,hF8d,hT5d];try rfl))) | (apply dk_y;(focus rfl);(focus rfl);(focus ((try simp only [sPu]);omega));(focus (simp (disch:=(try simp only [sPu]);omega) [hst,k1,k2,k7,p12,p13,hF8d,hT5d];done));(focus (simp (disch:=(try simp only [sPu]);omega) [hst,k1,k2,k7,p12,p13,hF8d,hT5d];try rfl))))
      have hkeep:∀ (wa wb:World),w5.heap.size+1≤wa.heap.size→Below wa.heap.size wa wb→Keeps (fun b=>b == w.heap.size || b == w5.heap.size) w7.drew wa→Keeps (fun b=>b == w.heap.size || b == w5.heap.size) w7.drew wb:=by
        intro wa wb z1 z2 z3 bb hbb
        have:bb < wa.heap.size:=by
          simp only [Bool.or_eq_true,beq_iff_eq] at hbb
          omega
        exact (z2.block bb this).trans (z3 bb hbb)
      refine dreg_call rfl S.oA (S.cA w7.drew t (treV n s tnull l u) j (TV.down hb7w.drew (by show w.heap.size≤w7.heap.size;omega) ht)) (by simp (disch:=(try simp only [sPu]);omega) [treV]) ?_
      rintro e w8 ⟨tv,rfl,htv,hb8⟩
      have hb8:Below w7.heap.size w7.drew w8:=hb8
      have hk8:=hkeep w7.drew w8 (by show _≤w7.heap.size;omega) hb8 (fun _ _=>rfl)
      refine ⟨tv,rfl,hk8,?_⟩
      have hsz8:w7.heap.size≤w8.heap.size:=hb8.size
      have hb8w:Below w.heap.size w w8:=hb7w.drew.trans (hb8.mono (by omega))
      have hlf:(wField ver flex h ty ((t.l.drop j).headD Tree.zero)).length≤lim∧xs.length+(wField ver flex h ty ((t.l.drop j).headD Tree.zero)).length≤lim:=by
        simp only [wFsT,← etj,hh,and_true,show (-1:Int) < 0 by decide,if_true] at hx
        have:=congrArg List.length hx
        simp only [List.length_append] at this
        omega
      refine dreg_call rfl oF (cFd w8 h ty of_ sub ver flex ((t.l.drop j).headD Tree.zero) tv hof (SubV.mono (w:=w8) (F':=fun x=>x < w8.heap.size) (fun k hk=>by have:k < w.heap.size:=hk;show k < w8.heap.size;omega) (fun k hk=>hb8w.block k hk) ty sub hsub) h1c hcj.1 (TV.down hb8 (by omega) htv) hlf.1) (by simp (disch:=(try simp only [sPu]);omega) [fldV]) ?_
      rintro e w9 ⟨v2,rfl,ho2,hb9⟩
      have hk9:=hkeep w8 w9 (by omega) hb9 hk8
      refine ⟨v2,rfl,hk9,?_⟩
      have hsz9:w8.heap.size≤w9.heap.size:=hb9.size
      have hb59:Below w5.heap.size w5 w9:=hb7'.drew.trans ((hb8.mono (by omega)).trans (hb9.mono (by omega)))
      have ho9:Own X.U8 w9 (w.heap.size+1) (getT a4 9) xs:=own_keep ho hb59
      refine dreg_n rfl rfl (opw_appendU8 (B:=w.heap.size+1) (dv:=getT a4 9) (xv:=v2) (xs:=xs) (bs:=wField ver flex h ty ((t.l.drop j).headD Tree.zero)) hU8s (by simp (disch:=(try simp only [sPu]);omega) [p9]) (by simp (disch:=(try simp only [sPu]);omega)) rfl ho9 (by omega) (src_own hU8s ho2) hlf.2 ?_)
      intro v3 w10 z1 z2 z3 z4
      refine ⟨fun bb hbb=>?_,?_⟩
      · rw [← hk9 bb hbb]
        have hbb':bb=w.heap.size∨bb=w5.heap.size:=by simpa only [Bool.or_eq_true,beq_iff_eq] using hbb
        refine z4.block bb (by omega) (fun e=>?_)
        have:=own_lt ho bb e.symm
        omega
      repeat (first | (apply dk_1;(focus rfl);(focus (simp (disch:=(try simp only [sPu]);omega) ;try rfl))) | (apply dk_y;(focus rfl);(focus rfl);(focus ((try simp only [sPu]);omega));(focus (simp (disch:=(try simp only [sPu]);omega);done));(focus (simp (disch:=(try simp only [sPu]);omega) ;try rfl))))
      refine dreg_nil ?_
      simp only [Exit.inBlock,Exit.then]
      refine next _ _ (xs ++ wField ver flex h ty ((t.l.drop j).headD Tree.zero)) _ (by simp [sPu,p]) (by simp [dPu,pd]) ?_ (by simp (disch:=(try simp only [sPu]);omega) [p21]) (by simp (disch:=(try simp only [sPu]);omega) [p22]) (by simp (disch:=(try simp only [sPu]);omega) [p23]) ?_ (by simp [hh]) ((hb59.mono (by omega)).trans z2) ?_
      · intro s h1 h2
        rw [← ps s h1 h2]
        simp (disch:=omega) [gTn]
      · refine own_eq z1 ?_
        simp (disch:=(try simp only [sPu]);omega)
      · intro a'' w'' hI hlt
        exact ⟨hI,by rw [q23];exact hlt⟩
end
end Go.Proofs.Ytjbbohfaihkolaa.K
