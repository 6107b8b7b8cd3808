/- Generic texts: R20 R21 R22 R23 S9 S10 S11. No condition. -/
import Derived.Test.YtecdefhecaeclaaDoorN7
namespace Go.Proofs.YtecdefhecaeclaaDoor.K
open Go Go.RowKit Go.Proofs.YtecdefhecaeclaaDoor.T
attribute [local simp] eTm eCo pNo gTp gTn qv qcall vop iop
set_option linter.unusedVariables false
set_option linter.unusedSimpArgs false
def rdNew (P:Program) (TR:Nat):Bool:=aggB P TR 2 && (match P.info? TR,P.underlying TR with
  | some it,some (.struct fs)=>(match it.zero with | some z=>(match z.cells.toList with | [.slice none 0 0,.bool false]=>true | _=>false) | none=>false) &&
      (match fs.toList.mapM (fun f=>(P.info? f.type).map fun i=>(f.offset,i.size)) with | some [(0,1),(1,1)]=>true | _=>false)
  | _,_=>false)
theorem rdNew_of {P:Program} {TR:Nat} (h:rdNew P TR=true):aggB P TR 2=true∧(∃ it z,P.info? TR=some it∧it.zero=some z∧z.cells=#[.slice none 0 0,.bool false])∧∀ v:Value,v.oneCell'=true→P.built TR [(0,v)]=some #[v,.bool false]:=by
  simp only [rdNew,Bool.and_eq_true] at h
  obtain ⟨h1,h⟩:=h
  split at h <;> try (simp at h;done)
  rename_i it fs hi hu
  simp only [Bool.and_eq_true] at h
  obtain ⟨hz,hp⟩:=h
  split at hz <;> try (simp at hz;done)
  rename_i z hz0
  split at hz <;> try (simp at hz;done)
  rename_i hzl
  have hzc:z.cells=#[.slice none 0 0,.bool false]:=Array.ext' (by simpa using hzl)
  split at hp <;> try (simp at hp;done)
  rename_i hpl
  refine ⟨h1,⟨it,z,hi,hz0,hzc⟩,fun v hv=>?_⟩
  have hvc:=cells_oneCell hv
  simp only [Program.built,hi,hu,hz0,hpl,hzc]
  simp [Instr.fill,hvc]
def topEnd (size:Nat):Option (Nat × Nat)→Nat
  | none=>size
  | some (_,off)=>off
theorem wpL_gen {P:Program} {l:List SC} {Q:Exit→Act→World→Prop} {a:Act} {w:World} (C:Act→Prop) (ha:C a) (h:∀ a,C a→wpL P Q l a w):wpL P Q l a w:=h a ha
theorem top_body {X:RX} {fs:Fs} {S p v t bk b o lo size:Nat} {tags:Option (Nat × Nat)} {O:Nat→Prop} {a:Act} {w:World} {st:Option Bytes} {Q:Exit→Act→World→Prop} {rest:List SC} (hX:X.ok)
    (hok:okRFs X.P X.I X.c S fs=true) (hokt:okRTags X.P X.I X.c S tags=true) (hlay:layFs lo (topEnd size tags) fs=true) (hszt:∀ f off,tags=some (f,off)→off < size∧lo≤off) (hlo:lo≤size) (hdef:DefFs X.P fs) (hi:RInv X a w st) (hp:getT a p=.pointer (some ⟨b,o,none⟩)) (ho:Opn X O b w) (hrow:RowAt w b o size) (hfr:FrFs w b fs o)
    (hpv:p < v) (hv:10≤v) (hvT:v+rVs fs≤X.T0) (ht:X.T0≤t) (htN:t+rFT X.c fs+rTagsT tags≤X.N)
    (hQ:∀ a' w',RInv X a' w' (after st (pBody X.ver X.flex fs))→RSame X a a' v t→Foot X.rb b (o+lo) (o+size) w w' →
      (∀ r x r',st=some r→pBody X.ver X.flex fs r=some (x,r')→FitFs X.ver fs x.l→FitTags x.u→HFs X.G w' (FO O w') X.ver X.flex fs b o x.l∧TagsAt X.G w' (FO O w') X.flex b o tags x.u)→wpL X.P Q rest a' w')
    (hR:RetOK X Q (after st (pBody X.ver X.flex fs)=none)) :
    wpL X.P Q (rFs X.I X.c S p v t bk fs ++ (rTagsL X.I S p tags (t+rFT X.c fs) ++ rest)) a w:=by
  obtain ⟨n,hlf,hns,hn⟩:∃ n,layFs lo n fs=true∧n≤size∧(tags=none∧n=size∨∃ f,tags=some (f,n)):=by
    cases tags with
    | none=>exact ⟨size,hlay,Nat.le_refl _,.inl ⟨rfl,rfl⟩⟩
    | some z=>exact ⟨z.2,hlay,Nat.le_of_lt (hszt z.1 z.2 rfl).1,.inr ⟨z.1,rfl⟩⟩
  have hln:lo≤n:=by
    rcases hn with ⟨rfl,rfl⟩ | ⟨f,rfl⟩
    · exact hlo
    · exact (hszt f n rfl).2
  refine fs_all hX fs S p v t bk b o lo n O a w st Q _ hok hlf hdef hi hp ho (hrow.mono (by omega)) hfr hpv hv hvT ht (by omega) ?_ ?_
  · intro a1 w1 hi1 hs1 hf1 hv1
    refine rTags_ok hX hokt hi1 ((hs1 p (.inl hpv)).trans hp) (ho.mono hf1.size) (hf1.rowAt hrow) (fun f off e=>(hszt f off e).1) (by omega) (by omega) htN ?_
    intro a2 w2 hi2 hs2 hf2 hv2
    refine hQ a2 w2 (by rw [after_body];exact hi2) (fun s hs=>(hs2 s (by omega)).trans (hs1 s hs)) ?_ ?_
    · refine (hf1.mono (by omega) (by omega)).trans (hf2.mono ?_ (Nat.le_refl _))
      rcases hn with ⟨rfl,rfl⟩ | ⟨f,rfl⟩
      · simp only;omega
      · simp only;omega
    · intro r x r' hst hpx hfit hfu
      unfold pBody at hpx
      obtain ⟨xs,r1,q1,q2⟩:=rThen_some hpx
      obtain ⟨u,r2,q3,q4⟩:=rThen_some q2
      obtain ⟨rfl,rfl⟩:=rOk_some q4
      have hst2:after st (pFs X.ver X.flex fs)=some r1:=by rw [hst];exact after_ok q1
      refine ⟨?_,hv2 r1 u _ hst2 q3 hfu⟩
      have h1:=hv1 r xs r1 hst q1 hfit
      refine hFs_frame (hf2.fo (ho.mono hf1.size)) X.ver X.flex fs lo n b o xs hlf (fun j h1 h2=>hf2.cell (hf1.rowAt hrow) ?_) h1
      rcases hn with ⟨rfl,rfl⟩ | ⟨f,rfl⟩
      · left;simp only;omega
      · left;simp only;omega
  · intro a' w' h1 h2 h3 h4
    refine hR a' w' h1 h2 h3 ?_
    rw [after_body,h4]
    rfl
structure RTop where
  S:Nat
  size:Nat
  d:Nat
  t:Nat
  N:Nat
  flex:Option Int
  tags:Option (Nat × Nat)
  fs:Fs
def RTop.chk (P:Program) (I:RIds) (M:RTop):Bool :=
  okRFs P I (rCtx M.flex) M.S M.fs && okRTags P I (rCtx M.flex) M.S M.tags && layFs 1 (topEnd M.size M.tags) M.fs && (match M.tags with | none=>true | some (_,off)=>decide (off < M.size∧1≤off)) &&
  decide (1≤M.size∧rS M.flex+1+rVs M.fs≤M.t∧rT1 M.t M.flex+1+rFT (rCtx M.flex) M.fs+rTagsT M.tags+1≤M.N) && fieldB P M.S 0 0 && intB P I.tI16 .i16 && oneB P I.tI16 && rdNew P I.tRd
def ReadC (P:Program) (I:RIds) (M:RTop) (B:Nat) (G:List (Nat × Bytes)→Prop) (err:Value) (F:FuncId) (w0:World):Prop :=
  ∀ (S:Option Nat) (b:Nat) (cs:Array Value) (E:TypeId) (base:Option Addr) (src:Bytes) (cap:Nat) (ver:Int),0≤ver→B≤b→B≤w0.heap.size→w0.heap[b]?=some (.cells cs E (0,0))→M.size≤cs.size→cs[0]?=some (.int .i16 ver) →
    FrFs w0 b M.fs 0→src.length≤cap→SrcAt w0 S base src→(∀ sb,S=some sb→sb ≠ b∧sb < w0.heap.size) →
    Calls P F #[.pointer (some ⟨b,0,none⟩),.slice base src.length cap,.bool false] w0 fun e w'=>Below B w0 w'∧B≤w'.heap.size ∧
      match pBody ver (flexAt M.flex ver) M.fs src with
      | none=>e=.returned err
      | some (x,r)=>e=.returned .nilIface∧b < w'.heap.size∧w'.cell? ⟨b,0,none⟩=some (.int .i16 ver) ∧
        (FitFs ver M.fs x.l→FitTags x.u→∃ F:Nat→Prop,(∀ k,F k→k < w'.heap.size)∧HFs G w' F ver (flexAt M.flex ver) M.fs b 0 x.l∧TagsAt G w' F (flexAt M.flex ver) b 0 M.tags x.u)
section
variable {P:Program} {I:RIds} {M:RTop} {B:Nat} {G:List (Nat × Bytes)→Prop} {err:Value} {Gl:World→Prop} {gb:Nat} {f:FuncId} {fn:Func} {w0:World}
theorem readFrom_ok {out:List (Nat × Value)} (hk:KR P I I.tRd gb err Gl) (hG:∀ u,G u) (hgl:∀ w,Below B w0 w→Gl w) (hgb:gb < B) (hchk:M.chk P I=true) (hdef:DefFs P M.fs) (hd:DefAt P M.d M.size out) (hout:outFs out M.fs 0=true) (hoa:(out.all fun x=>decide (x.1 < M.size∧0 < x.1))=true)
    (hf:P.funcs[f]?=some fn) (hb:fn.body.map strip=some (rTop I M.S M.d M.t M.flex M.tags M.fs)) (hn:fn.ntmps=M.N) (hr:fn.results=#[.tmp 6]):ReadC P I M B G err f w0:=by
  intro S b cs E base src cap ver hver hBb hBw hcs hlen hvc hfr hcap hsr hsrc
  simp only [RTop.chk,Bool.and_eq_true,decide_eq_true_eq] at hchk
  obtain ⟨⟨⟨⟨⟨⟨⟨⟨c1,c2⟩,c3⟩,c4⟩,c5,c6,c7⟩,c8⟩,c9⟩,c10⟩,c11⟩:=hchk
  obtain ⟨r1,⟨rit,rz,rzi,rzz,rzc⟩,r3⟩:=rdNew_of c11
  have hrS:9≤rS M.flex:=by cases M.flex <;> simp [rS]
  have hbl:b < w0.heap.size:=(Array.getElem?_eq_some_iff.1 hcs).1
  have hoa':∀ x ∈ out,x.1 < M.size∧0 < x.1:=fun x hx=>by simpa using (List.all_eq_true.1 hoa) x hx
  have hT1:M.t+9≤rT1 M.t M.flex:=by cases M.flex <;> simp [rT1]
  refine fCa hf hb hn (by simp;omega) fun a0 hs hdf ha=>?_
  have h0:=ha 0 _ rfl
  have h1:=ha 1 _ rfl
  have h2:=ha 2 _ rfl
  simp only [List.getElem_toArray,List.getElem_cons_zero,List.getElem_cons_succ] at h0 h1 h2
  refine wpL_seqs _ _ _ ?_
  simp only [List.cons_append,List.nil_append,wpL]
  refine SC.wp_reg (oNo rfl (opw_assign (oNi ?_)))
  simp only [Exit.then,eCo]
  refine SC.wp_reg (ops_mv (ops_call (argsV:=#[.pointer (some ⟨b,0,none⟩)]) hd.1 (hd.2 w0 b 0 cs E hcs (by omega)) (by simp (disch:=(try simp only [sPu]);omega) [h0]) ?_))
  rintro e w1 ⟨rfl,hw1⟩
  refine ⟨_,rfl,oNi ?_⟩
  simp only [Exit.then]
  have hds:(dSetAll 0 out cs).size=cs.size:=dSetAll_size _ _ _
  have hrow1:w1.heap[b]?=some (.cells (dSetAll 0 out cs) E (0,0)):=by rw [hw1];exact setRow_heap _ _ _ _ _ _ hcs
  have hoth1:∀ k,k ≠ b→w1.heap[k]?=w0.heap[k]?:=fun k hk=>by rw [hw1];exact setRow_other _ _ _ _ hk
  have hsz1:w1.heap.size=w0.heap.size:=by rw [hw1];simp
  have hbelow1:Below B w0 w1:=by rw [hw1];exact ⟨rfl,rfl,rfl,by simp,fun k hk=>setRow_other _ _ _ _ (by omega)⟩
  have hv1:(dSetAll 0 out cs)[0]?=some (.int .i16 ver):=by
    rw [dSetAll_other out cs fun x hx=>by have:=(hoa' x hx).2;omega]
    exact hvc
  have hfr1:FrFs w1 b M.fs 0:=by
    have:=outFs_ok (w:=w0) (w':=w1) (b:=b) (q:=0) (out:=out) (fun j hj=>by
      rw [Nat.zero_add,cell_of_row _ _ _ _ _ _ hrow1,cell_of_row _ _ _ _ _ _ hcs]
      exact dSetAll_other out cs fun x hx=>by rw [Nat.zero_add];exact hj x hx) M.fs 0 hout (by simpa using hfr)
    simpa using this
  refine SC.wp_reg (ops_mv (oNo rfl (opw_build (cs:=#[.slice base src.length cap,.bool false]) ?_ (oNo rfl (opw_alloc rzi rzz ?_)))))
  · have:(#[(0,Operand.tmp (M.t+2))].map fun x:Nat × Operand=>(x.1,Act.eval (((((a0.put (some 6) .nilIface).put (some M.t) (getT (a0.put (some 6) .nilIface) 0)).put (some (M.t+1)) (.tuple #[])).put (some (M.t+2)) (getT (((a0.put (some 6) .nilIface).put (some M.t) (getT (a0.put (some 6) .nilIface) 0)).put (some (M.t+1)) (.tuple #[])) 1))) x.2)).toList=[(0,.slice base src.length cap)]:=by
      simp only [List.map_toArray,List.map_cons,List.map_nil]
      rw [eTm,gTp (by simp only [sPu];omega),gTn (by omega),gTn (by omega),gTn (by omega),h1]
    rw [this]
    exact r3 _ rfl
  have hnew:=heap_alloc_new w1 (.cells rz.cells I.tRd)
  refine oNo rfl (opw_store_agg (cs:=[.slice base src.length cap,.bool false]) (cur:=rz.cells) (b:=w1.heap.size) (E:=I.tRd) r1 (by simp (disch:=(try simp only [sPu]);omega)) (by simp (disch:=(try simp only [sPu]);omega)) hnew (by rw [rzc];rfl) (by intro v hv;simp at hv;rcases hv with rfl | rfl <;> rfl) (oNi ?_))
  rw [pNo]
  simp only [Exit.then]
  obtain ⟨rb,hrb⟩:∃ rb,rb=w1.heap.size:=⟨_,rfl⟩
  rw [← hrb] at hnew ⊢
  obtain ⟨w2,hw2⟩:∃ w2,w2=(w1.alloc (.cells rz.cells I.tRd)).setRow rb [Value.slice base src.length cap,.bool false].toArray:=⟨_,rfl⟩
  rw [← hw2]
  have hrow2:w2.heap[rb]?=some (.cells #[.slice base src.length cap,.bool false] I.tRd (0,0)):=by rw [hw2];exact setRow_heap _ _ _ _ _ _ hnew
  have hoth2:∀ k,k < w1.heap.size→w2.heap[k]?=w1.heap[k]?:=fun k hk=>by
    rw [hw2,setRow_other _ _ _ _ (by omega)]
    exact Below.heap_alloc _ _ _ hk
  have hsz2:w2.heap.size=w1.heap.size+1:=by rw [hw2];simp
  have hbelow2:Below B w0 w2:=by
    rw [hw2]
    exact (hbelow1.alloc (by omega) _).trans ⟨rfl,rfl,rfl,by simp,fun k hk=>setRow_other _ _ _ _ (by omega)⟩
  have hrb2:w2.heap[b]?=some (.cells (dSetAll 0 out cs) E (0,0)):=by rw [hoth2 b (by omega)];exact hrow1
  have hvc2:w2.cell? ⟨b,0,none⟩=some (.int .i16 ver):=by rw [cell_of_row _ _ _ _ _ _ hrb2];exact hv1
  refine SC.wp_reg (ops_mv (ops_nilc (ad:=⟨b,0,none⟩) (by simp (disch:=(try simp only [sPu]);omega) [h0]) (ops_fa c8 (b:=b) (o:=0) (by simp (disch:=(try simp only [sPu]);omega)) (ops_ld c10 (ad:=⟨b,0,none⟩) (v:=.int .i16 ver) (by simp (disch:=(try simp only [sPu]);omega)) hvc2 (ops_asg (oNi ?_))))))
  simp only [Exit.then]
  refine SC.wp_reg (ops_mv (oNi ?_))
  simp only [Exit.then]
  refine wpL_gen (fun a=>a.tmps.size=M.N∧a.defers=[]∧getT a 2=.bool false∧getT a 7=.pointer (some ⟨rb,0,none⟩)∧getT a 8=.int .i16 ver∧getT a 0=.pointer (some ⟨b,0,none⟩)) ⟨by simp [sPu,hs,hn],by simp [dPu,hdf],by simp (disch:=(try simp only [sPu]);omega) [h2],by simp (disch:=(try simp only [sPu]);omega),by simp (disch:=(try simp only [sPu]);omega),by simp (disch:=(try simp only [sPu]);omega) [h0]⟩ fun a2 ⟨p1,p2,p3,p4,p5,p6⟩=>?_
  have mid:∀ a:Act,a.tmps.size=M.N∧a.defers=[]∧getT a 2=.bool false∧getT a 7=.pointer (some ⟨rb,0,none⟩)∧getT a 8=.int .i16 ver∧getT a 0=.pointer (some ⟨b,0,none⟩)∧(M.flex ≠ none→getT a 9=.bool (flexAt M.flex ver)) →
      wpL P (bodyPost P fn (fun e w'=>Below B w0 w'∧B≤w'.heap.size ∧
      match pBody ver (flexAt M.flex ver) M.fs src with
      | none=>e=.returned err
      | some (x,r)=>e=.returned .nilIface∧b < w'.heap.size∧w'.cell? ⟨b,0,none⟩=some (.int .i16 ver) ∧
        (FitFs ver M.fs x.l→FitTags x.u→∃ F:Nat→Prop,(∀ k,F k→k < w'.heap.size)∧HFs G w' F ver (flexAt M.flex ver) M.fs b 0 x.l∧TagsAt G w' F (flexAt M.flex ver) b 0 M.tags x.u))) (.reg [mv (rT1 M.t M.flex) 0,asg (rS M.flex) (rT1 M.t M.flex)] :: (rFs I (rCtx M.flex) M.S (rS M.flex) (rS M.flex+1) (rT1 M.t M.flex+1) 0 M.fs ++ rTagsL I M.S (rS M.flex) M.tags (rT1 M.t M.flex+1+rFT (rCtx M.flex) M.fs) ++
        [.reg [cal (rT1 M.t M.flex+1+rFT (rCtx M.flex) M.fs+rTagsT M.tags) I.rCompl [7],asg 6 (rT1 M.t M.flex+1+rFT (rCtx M.flex) M.fs+rTagsT M.tags)],.ret])) a w2:=by
    clear p1 p2 p3 p4 p5 p6
    rintro a ⟨p1,p2,p3,p4,p5,p6,p7⟩
    simp only [wpL]
    refine SC.wp_reg (ops_mv (ops_asg (oNi ?_)))
    simp only [Exit.then]
    obtain ⟨X,hX⟩:∃ X:RX,X=⟨P,I,I.tRd,S,rb,G,rCtx M.flex,w0,B,ver,flexAt M.flex ver,M.t,M.N,err,Gl,gb⟩:=⟨_,rfl⟩
    have hXok:X.ok:=by
      rw [hX]
      refine ⟨hk,hgb,by cases M.flex <;> rfl,by simp only;omega,?_,by simp only;omega,hver,hG,hgl⟩
      intro h
      cases hfl:M.flex with
      | none=>rfl
      | some n=>rw [hfl] at h;cases h
    have hg:∀ s,s < 9→getT ((a.put (some (rT1 M.t M.flex)) (getT a 0)).put (some (rS M.flex)) (getT (a.put (some (rT1 M.t M.flex)) (getT a 0)) (rT1 M.t M.flex))) s=getT a s:=fun s h=>by
      rw [gTn (by omega),gTn (by omega)]
    have hpS:getT ((a.put (some (rT1 M.t M.flex)) (getT a 0)).put (some (rS M.flex)) (getT (a.put (some (rT1 M.t M.flex)) (getT a 0)) (rT1 M.t M.flex))) (rS M.flex)=.pointer (some ⟨b,0,none⟩):=by
      rw [gTp (by simp only [sPu];omega),gTp (by omega)]
      exact p6
    have hg9:M.flex ≠ none→getT ((a.put (some (rT1 M.t M.flex)) (getT a 0)).put (some (rS M.flex)) (getT (a.put (some (rT1 M.t M.flex)) (getT a 0)) (rT1 M.t M.flex))) 9=.bool (flexAt M.flex ver):=fun h=>by
      have:rS M.flex=10:=by cases hfl:M.flex <;> simp_all [rS]
      rw [gTn (by omega),gTn (by omega)]
      exact p7 h
    have hs3:((a.put (some (rT1 M.t M.flex)) (getT a 0)).put (some (rS M.flex)) (getT (a.put (some (rT1 M.t M.flex)) (getT a 0)) (rT1 M.t M.flex))).tmps.size=M.N:=by simp only [sPu];exact p1
    have hd3:((a.put (some (rT1 M.t M.flex)) (getT a 0)).put (some (rS M.flex)) (getT (a.put (some (rT1 M.t M.flex)) (getT a 0)) (rT1 M.t M.flex))).defers=[]:=by simp only [dPu];exact p2
    generalize ((a.put (some (rT1 M.t M.flex)) (getT a 0)).put (some (rS M.flex)) (getT (a.put (some (rT1 M.t M.flex)) (getT a 0)) (rT1 M.t M.flex)))=a3 at hg hpS hg9 hs3 hd3 ⊢
    rw [List.append_assoc]
    have hi:RInv X a3 w2 (some src):=by
      rw [hX]
      refine ⟨hs3,hd3,by rw [hg 2 (by omega)];exact p3,by rw [hg 7 (by omega)];exact p4,by rw [hg 8 (by omega)];exact p5,fun h=>?_,⟨base,cap,hrow2,hcap,?_⟩,fun sb hsb=>⟨by have:=(hsrc sb hsb).2;show sb ≠ rb;omega,by have:=(hsrc sb hsb).2;show sb < w2.heap.size;omega⟩,hbelow2,by show B≤w2.heap.size;omega⟩
      · refine hg9 fun e=>?_
        rw [e] at h
        cases h
      · have:SrcAt w2 S base src:=hsr.frame fun sb hsb=>by rw [hoth2 sb (by have:=(hsrc sb hsb).2;omega),hoth1 sb (hsrc sb hsb).1]
        cases S <;> exact this
    have hopn:Opn X (fun k=>k=rb∨k=b) b w2:=by
      rw [hX]
      refine ⟨.inl rfl,.inr rfl,fun k hk=>by rcases hk with rfl | rfl <;> omega,fun sb hsb h=>?_,by simp only;omega,hBb⟩
      have:=hsrc sb hsb
      rcases h with h | h
      · omega
      · exact this.1 h
    have hfr2:FrFs w2 b M.fs 0:=by
      refine frFs_frame (w:=w1) M.fs 1 (topEnd M.size M.tags) 0 c3 (fun j h1 h2=>World.cell?_of_block (hoth2 b (by omega))) hfr1
    subst hX
    refine top_body (X:=⟨P,I,I.tRd,S,rb,G,rCtx M.flex,w0,B,ver,flexAt M.flex ver,M.t,M.N,err,Gl,gb⟩) (fs:=M.fs) (S:=M.S) (p:=rS M.flex) (v:=rS M.flex+1) (t:=rT1 M.t M.flex+1) (bk:=0) (b:=b) (o:=0) (tags:=M.tags) (lo:=1) (size:=M.size) (O:=fun k=>k=rb∨k=b) (st:=some src) hXok c1 c2 c3 (fun f off e=>by rw [e] at c4;simpa using c4) c5 hdef hi hpS hopn ⟨_,_,hrb2,by omega⟩ hfr2 (by omega) (by omega) c6 (by simp only;omega) (by simp only;omega) ?_ ?_
    · intro a4 w4 hi4 hs4 hf4 hv4
      simp only [wpL]
      refine SC.wp_reg (ops_call (argsV:=#[.pointer (some ⟨rb,0,none⟩)]) hk.complF (hk.compl w4 S rb _ (hgl _ hi4.below) hi4.at_) ?_ ?_)
      · simp only [List.map_cons,List.map_nil,List.map_toArray,eTm]
        rw [hi4.rd]
      rintro e w5 ⟨rfl,rfl⟩
      refine ⟨_,rfl,ops_asg (oNi ?_)⟩
      simp only [Exit.then]
      refine SC.wp_ret ?_
      simp only [Exit.then]
      have hsz4:a4.tmps.size=M.N:=hi4.size
      refine ret_tmp hr (by simp only [dPu];exact hi4.defers) ⟨hi4.below,hi4.heap,?_⟩
      have hres:getT ((a4.put (some (rT1 M.t M.flex+1+rFT (rCtx M.flex) M.fs+rTagsT M.tags)) (if (after (some src) (pBody ver (flexAt M.flex ver) M.fs)).isSome=true then Value.nilIface else err)).put (some 6) (getT (a4.put (some (rT1 M.t M.flex+1+rFT (rCtx M.flex) M.fs+rTagsT M.tags)) (if (after (some src) (pBody ver (flexAt M.flex ver) M.fs)).isSome=true then Value.nilIface else err)) (rT1 M.t M.flex+1+rFT (rCtx M.flex) M.fs+rTagsT M.tags))) 6=(if (after (some src) (pBody ver (flexAt M.flex ver) M.fs)).isSome=true then Value.nilIface else err):=by
        rw [gTp (by simp only [sPu];omega),gTp (by omega)]
      rw [hres]
      cases hp:pBody ver (flexAt M.flex ver) M.fs src with
      | none=>simp [after_no hp]
      | some z =>
        obtain ⟨x,r⟩:=z
        have hlt4:b < w5.heap.size:=Nat.lt_of_lt_of_le (by omega) hf4.size
        refine ⟨by simp [after_ok hp],hlt4,?_,fun hfit hfu=>⟨FO (fun k=>k=rb∨k=b) w5,fun k hk=>hk.1,hv4 src x r rfl hp hfit hfu⟩⟩
        rw [hf4.cell (q:=0) (n:=0) ⟨_,_,hrb2,Nat.zero_le _⟩ (j:=0) (by omega)]
        exact hvc2
    · intro a' w' e1 e2 e3 e4
      refine ret_tmp hr e1 ⟨e3,Nat.le_trans hBw e3.size,?_⟩
      cases hp:pBody ver (flexAt M.flex ver) M.fs src with
      | none=>simp only;rw [e2]
      | some z =>
        rw [after_ok hp] at e4
        cases e4
  cases hfl:M.flex with
  | none =>
    rw [hfl] at mid
    simp only [rFlexL,List.nil_append]
    exact mid a2 ⟨p1,p2,p3,p4,p5,p6,fun h=>absurd rfl h⟩
  | some n =>
    rw [hfl] at mid
    simp only [rFlexL,List.cons_append,List.nil_append,wpL]
    have ht1:rT1 M.t (some n)=M.t+12:=rfl
    rw [hfl] at c7 hT1
    refine SC.wp_reg (ops_mv (ops_1 (v:=.bool (decide (n≤ver))) (by simp (disch:=(try simp only [sPu]);omega) [p5,qv,vop,iop]) (ops_asg (oNi ?_))))
    simp only [Exit.then]
    refine SC.wp_reg (ops_mv (oNi ?_))
    simp only [Exit.then]
    exact mid _ ⟨by simp [sPu,p1],by simp [dPu,p2],by simp (disch:=(try simp only [sPu]);omega) [p3],by simp (disch:=(try simp only [sPu]);omega) [p4],by simp (disch:=(try simp only [sPu]);omega) [p5],by simp (disch:=(try simp only [sPu]);omega) [p6],fun _=>by simp (disch:=(try simp only [sPu]);omega) [flexAt]⟩
end
end Go.Proofs.YtecdefhecaeclaaDoor.K
namespace Go.Proofs.YtecdefhecaeclaaDoor.K
open Go Go.RowKit Go.Proofs.YtecdefhecaeclaaDoor.T
set_option linter.unusedVariables false
set_option linter.unusedSimpArgs false
set_option maxHeartbeats 1000000
def mapU (P:Program) (T:Nat):Bool:=oneB P T && (match P.underlying T with
  | some (.map k _)=>(match P.underlying k with | some (.int .u32)=>true | _=>false)
  | _=>false)
theorem mapU_of {P:Program} {T:Nat} (h:mapU P T=true):oneB P T=true∧∃ k e,P.underlying T=some (.map k e)∧P.underlying k=some (.int .u32):=by
  simp only [mapU,Bool.and_eq_true] at h
  obtain ⟨h1,h⟩:=h
  split at h <;> try (simp at h;done)
  rename_i k e hu
  split at h <;> try (simp at h;done)
  rename_i hk
  exact ⟨h1,k,e,hu,hk⟩
theorem setTag_self (t:Nat × Bytes):∀ u,t ∈ setTag t u
  | []=>by simp [setTag]
  | x :: r=>by
    simp only [setTag]
    split
    · exact List.mem_cons_of_mem _ (setTag_self t r)
    · split <;> simp
theorem setTag_new {t:Nat × Bytes}:∀ {u:List (Nat × Bytes)},(∀ x ∈ u,x.1 ≠ t.1)→((setTag t u).map (·.1)).Perm (u.map (·.1) ++ [t.1])
  | [],_=>by simp [setTag]
  | x :: r,h=>by
    simp only [setTag]
    split
    · simp only [List.map_cons,List.cons_append]
      exact (setTag_new fun y hy=>h y (List.mem_cons_of_mem _ hy)).cons _
    · rw [if_neg (h x (.head _))]
      simp only [List.map_cons]
      exact (List.perm_append_comm (l₁:=x.1 :: r.map (·.1)) (l₂:=[t.1])).symm
theorem setTag_old {t:Nat × Bytes}:∀ {u:List (Nat × Bytes)},Sorted u→(∃ x ∈ u,x.1=t.1)→(setTag t u).map (·.1)=u.map (·.1)
  | [],_,h=>by simp at h
  | x :: r,hs,h=>by
    have hs':=List.pairwise_cons.1 hs
    simp only [setTag]
    split
    · rename_i hlt
      simp only [List.map_cons]
      rw [setTag_old hs'.2]
      obtain ⟨y,hy,he⟩:=h
      rcases List.mem_cons.1 hy with rfl | hy
      · omega
      · exact ⟨y,hy,he⟩
    · split
      · rename_i he
        simp [he]
      · exfalso
        obtain ⟨y,hy,he⟩:=h
        rcases List.mem_cons.1 hy with rfl | hy
        · omega
        · have:=hs'.1 y hy
          omega
theorem sorted_uniq:∀ {u:List (Nat × Bytes)},Sorted u→∀ x ∈ u,∀ y ∈ u,x.1=y.1→x=y
  | [],_,x,hx,_,_,_=>by simp at hx
  | z :: r,hs,x,hx,y,hy,he=>by
    have hs':=List.pairwise_cons.1 hs
    rcases List.mem_cons.1 hx with e1 | hx1
    · rcases List.mem_cons.1 hy with e2 | hy1
      · rw [e1,e2]
      · have:=hs'.1 y hy1
        rw [← e1] at this
        omega
    · rcases List.mem_cons.1 hy with e2 | hy1
      · have:=hs'.1 x hx1
        rw [← e2] at this
        omega
      · exact sorted_uniq hs'.2 x hx1 y hy1 he
theorem bytesAt_F {w:World} {F F':Nat→Prop} {base:Option Addr} {bs:Bytes} (h:BytesAt w F base bs) (hF:∀ k,F k→F' k):BytesAt w F' base bs:=by
  rcases h with h | ⟨b,q,h1,h2,h3⟩
  · exact .inl h
  · exact .inr ⟨b,q,h1,hF _ h2,h3⟩
theorem bytesAt_keep {w w':World} {F:Nat→Prop} {base:Option Addr} {bs:Bytes} (h:BytesAt w F base bs) (hF:∀ k (a:Addr),F k→a.block=k→∀ v,w.cell? a=some v→w'.cell? a=some v):BytesAt w' F base bs:=by
  rcases h with h | ⟨b,q,h1,h2,h3⟩
  · exact .inl h
  · exact .inr ⟨b,q,h1,h2,fun j u hj=>hF b _ h2 rfl _ (h3 j u hj)⟩
theorem tagsEs_push {w:World} {F:Nat→Prop} {es:Array MapEntry} {clock:Nat} {u:List (Nat × Bytes)} {k:Nat} {bs:Bytes} {base:Option Addr} {cap:Nat} (h:TagsEs w F es clock u) (hn:∀ x ∈ es.toList,x.key ≠ .int .u32 (k:Int)) (hs:Sorted u) (hb:BytesAt w F base bs) :
    TagsEs w F (es.push { key:=.int .u32 (k:Int),val:=.slice base bs.length cap,born:=clock }) (clock+1) (setTag (k,bs) u):=by
  obtain ⟨h1,h2,h3⟩:=h
  have hnk:∀ x ∈ u,x.1 ≠ k:=fun x hx e=>by
    have:Value.int .u32 (x.1:Int) ∈ es.toList.map (·.key):=h1.mem_iff.2 (List.mem_map_of_mem hx)
    obtain ⟨y,hy,hye⟩:=List.mem_map.1 this
    exact hn y hy (by rw [hye,e])
  refine ⟨?_,MapKept.stamped_push h2 hn,?_⟩
  · have hp:=(setTag_new (t:=(k,bs)) hnk).map (fun n:Nat=>Value.int .u32 (n:Int))
    simp only [List.map_map,List.map_append,List.map_cons,List.map_nil,Function.comp_def] at hp
    simp only [Array.toList_push,List.map_append,List.map_cons,List.map_nil]
    exact (h1.append_right _).trans hp.symm
  · intro e he x hx hk
    simp only [Array.toList_push,List.mem_append,List.mem_singleton] at he
    have hst:Sorted (setTag (k,bs) u):=setTag_sorted hs
    rcases he with he | rfl
    · have hxk:x.1 ≠ k:=fun e2=>hn e he (by rw [hk,e2])
      rcases setTag_mem hx with rfl | hx
      · exact absurd rfl hxk
      · exact h3 e he x hx hk
    · simp only [Value.int.injEq,true_and] at hk
      have hxe:x=(k,bs):=sorted_uniq hst x hx _ (setTag_self _ _) (by simp only;omega)
      subst hxe
      exact ⟨base,cap,rfl,hb⟩
theorem tagsEs_modify {w:World} {F:Nat→Prop} {es:Array MapEntry} {clock:Nat} {u:List (Nat × Bytes)} {k j:Nat} {e0:MapEntry} {bs:Bytes} {base:Option Addr} {cap:Nat} (h:TagsEs w F es clock u) (hj:es[j]?=some e0) (hk0:e0.key=.int .u32 (k:Int)) (hs:Sorted u) (hb:BytesAt w F base bs) :
    TagsEs w F (es.modify j fun e=>{ e with key:=.int .u32 (k:Int),val:=.slice base bs.length cap }) clock (setTag (k,bs) u):=by
  obtain ⟨h1,h2,h3⟩:=h
  have hkeys:∀ e',es[j]?=some e'→({ e' with key:=Value.int .u32 (k:Int),val:=.slice base bs.length cap }:MapEntry).key=e'.key:=fun e' he'=>by
    rw [hj] at he'
    cases he'
    exact hk0.symm
  have hmem:e0 ∈ es.toList:=by
    rw [← Array.getElem?_toList] at hj
    exact List.mem_of_getElem? hj
  have hin:∃ x ∈ u,x.1=k:=by
    have:e0.key ∈ u.map fun x=>Value.int .u32 (x.1:Int):=h1.mem_iff.1 (List.mem_map_of_mem hmem)
    obtain ⟨x,hx,hxe⟩:=List.mem_map.1 this
    rw [hk0] at hxe
    simp only [Value.int.injEq,true_and] at hxe
    exact ⟨x,hx,by omega⟩
  refine ⟨?_,MapKept.stamped_modify h2 _ _ (fun _ _=>rfl) (fun e' _ he'=>hkeys e' he'),?_⟩
  · rw [MapKept.modify_keys _ _ hkeys]
    have:(setTag (k,bs) u).map (fun x=>Value.int .u32 (x.1:Int))=u.map fun x=>Value.int .u32 (x.1:Int):=by
      have:=congrArg (List.map fun n:Nat=>Value.int .u32 (n:Int)) (setTag_old (t:=(k,bs)) hs hin)
      simpa only [List.map_map,Function.comp_def] using this
    rw [this]
    exact h1
  · intro e he x hx hk
    have hst:Sorted (setTag (k,bs) u):=setTag_sorted hs
    obtain ⟨i,hi⟩:=List.getElem?_of_mem he
    rw [Array.getElem?_toList,Array.getElem?_modify] at hi
    by_cases hij:j=i
    · subst hij
      rw [if_pos rfl,hj] at hi
      simp only [Option.map_some,Option.some.injEq] at hi
      subst hi
      simp only [Value.int.injEq,true_and] at hk
      have hxe:x=(k,bs):=sorted_uniq hst x hx _ (setTag_self _ _) (by simp only;omega)
      subst hxe
      exact ⟨base,cap,rfl,hb⟩
    · rw [if_neg hij] at hi
      have hem:e ∈ es.toList:=by
        rw [← Array.getElem?_toList] at hi
        exact List.mem_of_getElem? hi
      have hne:e.key ≠ .int .u32 (k:Int):=fun hek=>by
        have hnd:=h2.2.2
        have e1:(es.toList.map (·.key))[i]?=some (.int .u32 (k:Int)):=by rw [List.getElem?_map,Array.getElem?_toList,hi,Option.map_some,hek]
        have e2:(es.toList.map (·.key))[j]?=some (.int .u32 (k:Int)):=by rw [List.getElem?_map,Array.getElem?_toList,hj,Option.map_some,hk0]
        have hil:=(List.getElem?_eq_some_iff.1 e1).1
        have:=(List.getElem?_inj hil hnd).1 (e1.trans e2.symm)
        exact hij this.symm
      have hxk:x.1 ≠ k:=fun e2=>hne (by rw [hk,e2])
      rcases setTag_mem hx with rfl | hx
      · exact absurd rfl hxk
      · exact h3 e hem x hx hk
section
variable {P:Program} {a:Act} {w:World} {K:Act→World→Prop} {d:Option Tmp} {g:Option (Nat × Bool)}
theorem opw_mapNil {T T':Nat} {x:Operand} {m:Option Nat} (hT:mapU P T=true) (hx:a.eval x=.map m) (h:K (a.put d (.bool m.isNone)) w):opw P ⟨d,.binOp .eql T x (.const (.map none)) T',g⟩ a w K:=by
  obtain ⟨-,k,e,hu,hk⟩:=mapU_of hT
  refine oVa (v:=.bool m.isNone) (by simp) (fun p hp=>?_) h
  have he:(Op.equal T (.map m) (.map none)).run P w=.ok m.isNone w:=by
    have hd:∀ d,(Op.equalIn (d+1) T (.map m) (.map none)).run P w=.ok m.isNone w:=fun d=>by
      cases m <;> simp [Op.equalIn,run_underlying hu]
    exact hd 9999
  simp [execOp,hp,hx,eCo,eqGuard,binOp,he]
theorem opw_makeMap {T:Nat} (h:K (a.put d (.map (some w.heap.size))) (w.alloc (.map #[] 0))):opw P ⟨d,.makeMap T none,g⟩ a w K:=by
  refine oVa (v:=.map (some w.heap.size)) (w':=w.alloc (.map #[] 0)) (by simp) (fun p hp=>?_) h
  have:(Instr.makeMap T none).run P w=.ok (.map (some w.heap.size)) (w.alloc (.map #[] 0)):=rfl
  simp [execOp,hp,this]
def mapSet (w:World) (r:Nat) (es:Array MapEntry) (clock:Nat):World:={ w with heap:=w.heap.setIfInBounds r (.map es clock) }
theorem mapSet_at {r:Nat} {es es':Array MapEntry} {c c':Nat} (h:w.heap[r]?=some (.map es c)):(mapSet w r es' c').heap[r]?=some (.map es' c'):=(MapKept.heap_set h).1
theorem mapSet_other {r k:Nat} {es':Array MapEntry} {c':Nat} (hk:k ≠ r):(mapSet w r es' c').heap[k]?=w.heap[k]?:=by
  simp [mapSet,Ne.symm hk]
theorem opw_mapUpdate {T r k clock:Nat} {m x y:Operand} {es:Array MapEntry} {F:Nat→Prop} {u:List (Nat × Bytes)} {base:Option Addr} {cap:Nat} {bs:Bytes} (hT:mapU P T=true) (hm:a.eval m=.map (some r)) (hx:a.eval x=.int .u32 (k:Int)) (hy:a.eval y=.slice base bs.length cap)
    (hr:w.heap[r]?=some (.map es clock)) (ht:TagsEs w F es clock u) (hs:Sorted u) (hb:BytesAt w F base bs)
    (h:∀ es' clock',TagsEs w F es' clock' (setTag (k,bs) u)→K (a.put d undef) (mapSet w r es' clock')):opw P ⟨d,.mapUpdate T m x y,g⟩ a w K:=by
  obtain ⟨-,kt,e,hu,hk⟩:=mapU_of hT
  have hik:MapKept.IsKey (.int .u32) (.int .u32 (k:Int)):=rfl
  have hks:∀ z ∈ es.toList,MapKept.IsKey (.int .u32) z.key:=fun z hz=>by
    have:z.key ∈ u.map fun x=>Value.int .u32 (x.1:Int):=ht.1.mem_iff.1 (List.mem_map_of_mem hz)
    obtain ⟨x,_,hxe⟩:=List.mem_map.1 this
    rw [← hxe]
    rfl
  rcases MapKept.findNow_spec hik es.toList 0 hks with ⟨h1,h2⟩ | ⟨j,e0,h1,h2,h3⟩
  · refine opw_skip (w':=mapSet w r (es.push { key:=.int .u32 (k:Int),val:=.slice base bs.length cap,born:=clock }) (clock+1)) (by simp) (fun p hp=>?_) (h _ _ (tagsEs_push ht h2 hs hb))
    simp [execOp,hp,hm,hx,hy,Instr.mapUpdate,run_underlying hu,MapKept.run_getObj_map hr,MapKept.run_checkKey hk hik,MapKept.run_findKey hk h1,MapKept.run_setObj_map _ hr,Result.andThen,mapSet]
  · have hj:es[j]?=some e0:=by simpa using h2
    refine opw_skip (w':=mapSet w r (es.modify j fun e=>{ e with key:=.int .u32 (k:Int),val:=.slice base bs.length cap }) clock) (by simp) (fun p hp=>?_) (h _ _ (tagsEs_modify ht hj h3 hs hb))
    simp [execOp,hp,hm,hx,hy,Instr.mapUpdate,run_underlying hu,MapKept.run_getObj_map hr,MapKept.run_checkKey hk hik,MapKept.run_findKey hk h1,hj,h3,MapKept.run_keyThatStays hik,MapKept.run_setObj_map _ hr,Result.andThen,mapSet]
end
end Go.Proofs.YtecdefhecaeclaaDoor.K
namespace Go.Proofs.YtecdefhecaeclaaDoor.K
open Go Go.RowKit Go.Proofs.YtecdefhecaeclaaDoor.T
attribute [local simp] eTm eCo pNo gTp gTn qv qcall vop iop
set_option linter.unusedVariables false
set_option linter.unusedSimpArgs false
set_option maxHeartbeats 2000000
def sc_TSet (T0 T1:Nat):SC:=.seq (.seq (.reg [mv 6 0,nilc 7 6,fa 8 T0 7 0,ld 9 T1 8,⟨some 10,.binOp .eql T1 (.tmp 9) (.const (.map none)) T1,none⟩]) (.cond (.tmp 10) (.reg [mv 11 0,⟨some 12,.makeMap T1 none,none⟩,nilc 13 11,fa 14 T0 13 0,⟨none,.store T1 (.tmp 14) (.tmp 12),none⟩]) (.skip))) (.reg [mv 15 0,nilc 16 15,fa 17 T0 16 0,ld 18 T1 17,mv 19 1,mv 20 2,⟨none,.mapUpdate T1 (.tmp 18) (.tmp 19) (.tmp 20),none⟩])
def sc_ReadTags (T0 T1 T2 F0 F1 F2:Nat):SC:=.seq (.reg [⟨some 2,.alloc T0,none⟩]) (.seq (.reg [⟨some 3,.alloc T0,none⟩]) (.seq (.seq (.reg [mv 7 0,cal 8 F0 [7],asg 4 8]) (.block 0 (.loop (.seq (.seq (.reg [mv 9 4,⟨some 10,.binOp .gtr T1 (.tmp 9) (.const (.int .u32 0)) T1,none⟩]) (.cond (.tmp 10) (.skip) (.exit 0))) (.seq (.block 1 (.seq (.reg [mv 13 0,cal 14 F0 [13],mv 15 0,cal 16 F0 [15],asg 5 14,asg 6 16]) (.reg [mv 17 5,mv 18 0,mv 19 6,⟨some 20,.convert T1 T2 (.tmp 19),none⟩,cal 21 F1 [18,20],cal 22 F2 [3,17,21]]))) (.reg [mv 11 4,⟨some 12,.binOp .sub T1 (.tmp 11) (.const (.int .u32 1)) T1,none⟩,asg 4 12])))))) (.seq (.reg [ld 23 T0 3,⟨none,.store T0 (.tmp 2) (.tmp 23),none⟩]) (.ret))))
def MapV (w:World) (lo tb:Nat) (S:Option Nat) (u:List (Nat × Bytes)) (m:Option Nat):Prop :=
  (m=none∧u=[])∨∃ r es clock,m=some r∧lo≤r∧r ≠ tb∧w.heap[r]?=some (.map es clock)∧TagsEs w (fun k=>S=some k) es clock u
theorem MapV.frame {w w':World} {lo tb:Nat} {S:Option Nat} {u:List (Nat × Bytes)} {m:Option Nat} (h:MapV w lo tb S u m) (hb:∀ k,lo≤k→k < w.heap.size→w'.heap[k]?=w.heap[k]?) (hS:∀ sb,S=some sb→w'.heap[sb]?=w.heap[sb]?):MapV w' lo tb S u m:=by
  rcases h with h | ⟨r,es,clock,h1,h2,h3,h4,h5,h6,h7⟩
  · exact .inl h
  · refine .inr ⟨r,es,clock,h1,h2,h3,by rw [hb r h2 (Array.getElem?_eq_some_iff.1 h4).1];exact h4,h5,h6,fun e he x hx hk=>?_⟩
    obtain ⟨base,cap,q1,q2⟩:=h7 e he x hx hk
    exact ⟨base,cap,q1,bytesAt_keep q2 fun k a hF ha v hv=>by rw [World.cell?_of_block (ha ▸ hS k hF)];exact hv⟩
def SetC (P:Program) (T0:Nat) (F:FuncId):Prop:=FnOK P F∧∀ (w:World) (tb lo k cap:Nat) (S m:Option Nat) (u:List (Nat × Bytes)) (base:Option Addr) (bs:Bytes),lo≤tb→lo≤w.heap.size→(∀ sb,S=some sb→sb < lo) →
  w.heap[tb]?=some (.cells #[.map m] T0 (0,0))→MapV w lo tb S u m→Sorted u→BytesAt w (fun k=>S=some k) base bs →
  Calls P F #[.pointer (some ⟨tb,0,none⟩),.int .u32 (k:Int),.slice base bs.length cap] w fun e w'=>e=.returned (.tuple #[])∧Below lo w w'∧lo≤w'.heap.size∧(∀ k,k < w.heap.size→k ≠ tb→m ≠ some k→w'.heap[k]?=w.heap[k]?) ∧
    ∃ m',w'.heap[tb]?=some (.cells #[.map m'] T0 (0,0))∧MapV w' lo tb S (setTag (k,bs) u) m'
section
variable {P:Program} {R:RTy} {f:FuncId} {fn:Func}
theorem ret_cellAgg {Rr:Ending→World→Prop} {a:Act} {w:World} {r T b:Nat} {cs:List Value} (hr:fn.results=#[.cell r T]) (hT:aggB P T cs.length=true) (hx:getT a r=.pointer (some ⟨b,0,none⟩)) (hc:∀ j v,cs[j]?=some v→w.cell? ⟨b,j,none⟩=some v) (hd:a.defers=[]) (hR:Rr (.returned (.agg cs.toArray)) w):bodyPost P fn Rr .ret a w:=by
  refine ⟨hd,.agg cs.toArray,?_,hR⟩
  obtain ⟨i,hi,hs,ha⟩:=agg_of (w:=w) hT
  have hl:=run_loadCells_list (P:=P) w ⟨b,0,none⟩ cs (fun j v hv=>by rw [add_none,Nat.zero_add];exact hc j v hv)
  have hx':a.tmps[r]?.getD undef=.pointer (some ⟨b,0,none⟩):=by simpa [getT,Array.getD_eq_getD_getElem?] using hx
  simp [results,hr,hx',asAddr,loadVar,ha,sizeOf,typeInfo,hi,hs,hl]
theorem tSet_ok {T0 T1 : Nat} (hT : mapU P T1 = true) (hf0 : fieldOff P T0 0 = some 0) (hf : P.funcs[f]? = some fn) (hb : fn.body.map strip = some (sc_TSet T0 T1)) (hnm : (fn.name == "runtime.NumGoroutine") = false) (hn : fn.ntmps = 21) (hr : fn.results = #[]) : SetC P T0 f := by
  refine ⟨fnOK_of hf hb hnm,fun w tb lo k cap S m u base bs htb hlo hS hrow hm hsu hbs=>?_⟩
  have h1:=(mapU_of hT).1
  refine fCa hf hb hn (by simp) fun a0 hs hd ha=>?_
  have h0:=ha 0 _ rfl
  have g1:=ha 1 _ rfl
  have g2:=ha 2 _ rfl
  simp only [List.getElem_toArray,List.getElem_cons_zero,List.getElem_cons_succ] at h0 g1 g2
  have hcell:w.cell? ⟨tb,0,none⟩=some (.map m):=by rw [cell_of_row _ _ _ _ _ _ hrow];rfl
  have htl:tb < w.heap.size:=(Array.getElem?_eq_some_iff.1 hrow).1
  refine SC.wp_seq (SC.wp_seq (SC.wp_reg ?_))
  iterate 4 (apply ops_1;(focus (simp (disch:=(try simp only [sPu]);omega) [h0,hf0,h1,hcell];try rfl)))
  refine oNo rfl (opw_mapNil (m:=m) hT (by simp (disch:=(try simp only [sPu]);omega)) (oNi ?_))
  simp only [Exit.then]
  refine SC.wp_cond (t:=m.isNone) (by simp (disch:=(try simp only [sPu]);omega)) ?_
  have last:∀ (a:Act) (w1:World) (r clock:Nat) (es:Array MapEntry),a.tmps.size=21→a.defers=[]→getT a 0=.pointer (some ⟨tb,0,none⟩)→getT a 1=.int .u32 (k:Int)→getT a 2=.slice base bs.length cap →
      w1.heap[tb]?=some (.cells #[.map (some r)] T0 (0,0))→lo≤r→r ≠ tb→w1.heap[r]?=some (.map es clock)→TagsEs w1 (fun k=>S=some k) es clock u→BytesAt w1 (fun k=>S=some k) base bs→Below lo w w1→lo≤w1.heap.size→(∀ k,k < w.heap.size→k ≠ tb→w1.heap[k]?=w.heap[k]?)→(r < w.heap.size→m=some r) →
      (SC.reg [mv 15 0,nilc 16 15,fa 17 T0 16 0,ld 18 T1 17,mv 19 1,mv 20 2,⟨none,.mapUpdate T1 (.tmp 18) (.tmp 19) (.tmp 20),none⟩]).wp P (bodyPost P fn (fun e w'=>e=.returned (.tuple #[])∧Below lo w w'∧lo≤w'.heap.size∧(∀ k,k < w.heap.size→k ≠ tb→m ≠ some k→w'.heap[k]?=w.heap[k]?) ∧
    ∃ m',w'.heap[tb]?=some (.cells #[.map m'] T0 (0,0))∧MapV w' lo tb S (setTag (k,bs) u) m')) a w1:=by
    intro a w1 r clock es p1 p2 p3 p4 p5 p6 p7 p8 p9 p10 p11 p12 p13 p14 p15
    have hcell1:w1.cell? ⟨tb,0,none⟩=some (.map (some r)):=by rw [cell_of_row _ _ _ _ _ _ p6];rfl
    refine SC.wp_reg ?_
    iterate 6 (apply ops_1;(focus (simp (disch:=(try simp only [sPu]);omega) [p3,p4,p5,hf0,h1,hcell1];try rfl)))
    refine oNo rfl (opw_mapUpdate (r:=r) (k:=k) (es:=es) (F:=fun k=>S=some k) (u:=u) (base:=base) (cap:=cap) (bs:=bs) hT (by simp (disch:=(try simp only [sPu]);omega)) (by simp (disch:=(try simp only [sPu]);omega) [p4]) (by simp (disch:=(try simp only [sPu]);omega) [p5]) p9 p10 hsu p11 fun es' clock' ht=>oNi ?_)
    rw [pNo]
    refine ⟨by simp only [dPu];exact p2,.tuple #[],by simp [results,hr],rfl,?_,by simpa [mapSet] using p13,fun k hk h2 h3=>?_,some r,?_,.inr ⟨r,es',clock',rfl,p7,p8,mapSet_at p9,ht.1,ht.2.1,fun e he x hx hk=>?_⟩⟩
    · exact p12.trans ⟨rfl,rfl,rfl,by simp [mapSet],fun k hk=>mapSet_other (by omega)⟩
    · rw [mapSet_other (fun e=>h3 (by rw [e];exact p15 (by omega)))]
      exact p14 k hk h2
    · rw [mapSet_other (Ne.symm p8)]
      exact p6
    · obtain ⟨b2,c2,q1,q2⟩:=ht.2.2 e he x hx hk
      exact ⟨b2,c2,q1,bytesAt_keep q2 fun k a hF ha v hv=>by
        rw [World.cell?_of_block (mapSet_other (w:=w1) (by have:=hS k hF;omega))]
        exact hv⟩
  cases m with
  | none =>
    simp only [Option.isNone_none,if_true]
    have hu:u=[]:=by
      rcases hm with h | ⟨r,es,clock,h,-⟩
      · exact h.2
      · cases h
    subst hu
    refine SC.wp_reg ?_
    iterate 1 (apply ops_1;(focus (simp (disch:=(try simp only [sPu]);omega) [h0];try rfl)))
    refine oNo rfl (opw_makeMap ?_)
    have hnew:=heap_alloc_new w (.map #[] 0)
    have hrow2:(w.alloc (.map #[] 0)).heap[tb]?=some (.cells #[.map none] T0 (0,0)):=by rw [Below.heap_alloc _ _ _ htl];exact hrow
    iterate 2 (apply ops_1;(focus (simp (disch:=(try simp only [sPu]);omega) [h0,hf0];try rfl)))
    refine ops_stR (b:=tb) (i:=0) (v:=.map (some w.heap.size)) h1 (by simp (disch:=(try simp only [sPu]);omega)) (by simp (disch:=(try simp only [sPu]);omega)) rfl hrow2 (by simp) (oNi ?_)
    simp only [Exit.then]
    refine last _ _ w.heap.size 0 #[] (by simp [sPu,hs]) (by simp [dPu,hd]) (by simp (disch:=(try simp only [sPu]);omega) [h0]) (by simp (disch:=(try simp only [sPu]);omega) [g1]) (by simp (disch:=(try simp only [sPu]);omega) [g2]) ?_ hlo (by omega) ?_ ⟨by simp,MapKept.stamped_empty 0,fun e he=>by simp at he⟩ ?_ ?_ (by simp;omega) ?_ (fun h=>by omega)
    · have:=setRow_heap _ _ _ (#[Value.map none].setIfInBounds 0 (.map (some w.heap.size))) _ _ hrow2
      rw [this]
      simp
    · rw [setRow_other _ _ _ _ (by omega)]
      exact hnew
    · refine bytesAt_keep hbs fun k a hF ha v hv=>?_
      have:=hS k hF
      rw [World.cell?_of_block (w':=(w.alloc (.map #[] 0)).setRow tb _) (w:=w) (by rw [setRow_other _ _ _ _ (by omega)];exact Below.heap_alloc _ _ _ (by omega))]
      exact hv
    · exact ((Below.refl lo w).alloc hlo _).trans ⟨rfl,rfl,rfl,by simp,fun k hk=>setRow_other _ _ _ _ (by omega)⟩
    · intro k hk h2
      rw [setRow_other _ _ _ _ h2]
      exact Below.heap_alloc _ _ _ hk
  | some r =>
    simp only [Option.isNone_some,Bool.false_eq_true,if_false]
    refine SC.wp_skip ?_
    simp only [Exit.then]
    rcases hm with h | ⟨r',es,clock,h,q1,q2,q3,q4⟩
    · cases h.1
    · cases h
      exact last _ w r clock es (by simp [sPu,hs]) (by simp [dPu,hd]) (by simp (disch:=(try simp only [sPu]);omega) [h0]) (by simp (disch:=(try simp only [sPu]);omega) [g1]) (by simp (disch:=(try simp only [sPu]);omega) [g2]) hrow q1 q2 q3 q4 hbs (Below.refl _ _) hlo (fun _ _ _=>rfl) (fun _=>rfl)
end
end Go.Proofs.YtecdefhecaeclaaDoor.K
namespace Go.Proofs.YtecdefhecaeclaaDoor.K
open Go Go.RowKit Go.Proofs.YtecdefhecaeclaaDoor.T
attribute [local simp] eTm eCo pNo gTp gTn qv qcall vop iop
set_option linter.unusedVariables false
set_option linter.unusedSimpArgs false
set_option maxHeartbeats 2000000
theorem after_bind {α:Type} {st:Option Bytes} {p:Rd α}:after st p=(st.bind p).map (·.2):=by
  cases st <;> rfl
theorem tagN_step {st:Option Bytes} {n k:Nat} {s:Int} {x:Bytes} {acc:List (Nat × Bytes)} (h1:∀ b y r,st=some b→pUv b=some (y,r)→k=y) (h2:∀ b (y:Nat) r,after st pUv=some b→pUv b=some (y,r)→s=(y:Int)) (h3:∀ b y r,after (after st pUv) pUv=some b→pSpan s b=some (y,r)→x=y) :
    st.bind (pTagN (n+1) acc)=(after (after (after st pUv) pUv) (pSpan s)).bind (pTagN n (setTag (k,x) acc)):=by
  cases st with
  | none=>rfl
  | some b =>
    cases hp:pUv b with
    | none =>
      have e1:after (some b) pUv=none:=after_no hp
      rw [e1]
      simp [pTagN,rThen,hp,after]
    | some z =>
      obtain ⟨y,r⟩:=z
      have e1:after (some b) pUv=some r:=after_ok hp
      obtain rfl:=h1 b y r rfl hp
      rw [e1] at h2 h3 ⊢
      cases hp2:pUv r with
      | none =>
        have e2:after (some r) pUv=none:=after_no hp2
        rw [e2]
        simp [pTagN,rThen,hp,hp2,after]
      | some z2 =>
        obtain ⟨y2,r2⟩:=z2
        have e2:after (some r) pUv=some r2:=after_ok hp2
        obtain rfl:=h2 r y2 r2 rfl hp2
        rw [e2] at h3 ⊢
        cases hp3:pSpan (y2:Int) r2 with
        | none =>
          rw [after_no hp3]
          simp [pTagN,rThen,hp,hp2,hp3]
        | some z3 =>
          obtain ⟨y3,r3⟩:=z3
          obtain rfl:=h3 r2 y3 r3 rfl hp3
          rw [after_ok hp3]
          simp [pTagN,rThen,hp,hp2,hp3]
section
variable {P:Program} {R:RTy} {f:FuncId} {fn:Func}
structure TLoop (P:Program) (TR:Nat) (T0:Nat) (w:World) (S:Option Nat) (rb:Nat) (st:Option Bytes) (a:Act) (w':World):Prop where
  size:a.tmps.size=24
  defers:a.defers=[]
  rd:getT a 0=.pointer (some ⟨rb,0,none⟩)
  res:getT a 2=.pointer (some ⟨w.heap.size,0,none⟩)
  tag:getT a 3=.pointer (some ⟨w.heap.size+1,0,none⟩)
  only:Only rb w w'
  heap:w.heap.size+2≤w'.heap.size
  row2:w'.heap[w.heap.size]?=some (.cells #[.map none] T0 (0,0))
  ex:∃ (n:Nat) (acc:List (Nat × Bytes)) (m:Option Nat) (st':Option Bytes),getT a 4=.int .u32 (n:Int)∧n < 4294967296∧RdAt TR w' S rb st'∧w'.heap[w.heap.size+1]?=some (.cells #[.map m] T0 (0,0))∧MapV w' (w.heap.size+1) (w.heap.size+1) S acc m∧Sorted acc∧st.bind (pTags true)=st'.bind (pTagN n acc)
def tMu (a:Act) (_:World):Nat:=match getT a 4 with
  | .int _ n=>n.toNat
  | _=>0
theorem rTagsFn_ok {TR gb T0 T1 T2 F0 F1 F2:Nat} (hm:aggB P T0 1=true) (hz:∃ i z,P.info? T0=some i∧i.zero=some z∧z.cells=#[.map none]) (h1k:intK P T1=some .u32) (h2k:intK P T2=some .i64)
    (hU:RC P TR gb F0 pUv (fun v=>∃ n:Nat,n < 4294967296∧v=.int .u32 (n:Int)) (fun _ _ n v=>v=.int .u32 (n:Int))) (hSp:SpC P TR F1) (hSet:SetC P T0 F2)
    (hf : P.funcs[f]? = some fn) (hb : fn.body.map strip = some (sc_ReadTags T0 T1 T2 F0 F1 F2)) (hnm : (fn.name == "runtime.NumGoroutine") = false) (hn : fn.ntmps = 24) (hr : fn.results = #[.cell 2 T0]) :
    RC P TR gb f (pTags true) (fun v=>∃ m,v=.agg #[m]∧m.oneCell'=true) (fun w F u v=>∃ m,v=.agg #[m]∧TagsV w F u m):=by
  refine ⟨fnOK_of hf hb hnm,fun w S rb st hgb hrd hsrc=>?_⟩
  obtain ⟨iz,z,hiz,hzz,hzc⟩:=hz
  have hrbl:rb < w.heap.size:=RdAt.lt hrd
  refine fCa hf hb hn (by simp) fun a0 hs hd ha=>?_
  have h0:=ha 0 _ rfl
  simp only [List.getElem_toArray,List.getElem_cons_zero,List.getElem_cons_succ] at h0
  refine SC.wp_seq (SC.wp_reg (oNo rfl (opw_alloc hiz hzz (oNi ?_))))
  simp only [Exit.then]
  refine SC.wp_seq (SC.wp_reg (oNo rfl (opw_alloc hiz hzz (oNi ?_))))
  simp only [Exit.then]
  rw [hzc]
  have hn1:=heap_alloc_new w (.cells #[.map none] T0)
  have hn2:=heap_alloc_new (w.alloc (.cells #[.map none] T0)) (.cells #[.map none] T0)
  have hsz1:(w.alloc (.cells #[.map none] T0)).heap.size=w.heap.size+1:=by simp
  rw [hsz1] at hn2 ⊢
  obtain ⟨w2,hw2⟩:∃ w2,w2=(w.alloc (.cells #[.map none] T0)).alloc (.cells #[.map none] T0):=⟨_,rfl⟩
  rw [← hw2] at hn2 ⊢
  have hsz2:w2.heap.size=w.heap.size+2:=by rw [hw2];simp
  have hold:∀ k,k < w.heap.size→w2.heap[k]?=w.heap[k]?:=fun k hk=>by
    rw [hw2,Below.heap_alloc _ _ _ (by simp;omega),Below.heap_alloc _ _ _ hk]
  have hr2:w2.heap[w.heap.size]?=some (.cells #[.map none] T0 (0,0)):=by
    rw [hw2,Below.heap_alloc _ _ _ (by simp)]
    exact hn1
  have hon2:Only rb w w2:=by rw [hw2];exact ((Only.refl rb w).alloc _).alloc _
  have hrd2:RdAt TR w2 S rb st:=RdAt.frame hrd (hold _ hrbl) fun sb h=>hold _ (hsrc sb h).2
  have hsrc2:∀ (w':World),Only rb w w'→∀ sb,S=some sb→sb ≠ rb∧sb < w'.heap.size:=fun w' ho sb h=>⟨(hsrc sb h).1,Nat.lt_of_lt_of_le (hsrc sb h).2 ho.size⟩
  refine SC.wp_seq (SC.wp_seq (SC.wp_reg ?_))
  iterate 1 (apply ops_1;(focus (simp (disch:=(try simp only [sPu]);omega) [h0];try rfl)))
  refine ops_call hU.1 (hU.2 w2 S rb st (by omega) hrd2 (hsrc2 w2 hon2)) (by simp (disch:=(try simp only [sPu]);omega) [h0]) ?_
  rintro e w3 ⟨v,rfl,q1,q2,⟨n,hnl,rfl⟩,q4⟩
  refine ⟨_,rfl,?_⟩
  repeat (apply ops_1;(focus (simp (disch:=(try simp only [sPu]);omega) ;try rfl)))
  refine oNi ?_
  simp only [Exit.then]
  refine SC.wp_block ?_
  refine SC.wp_loop (TLoop P TR T0 w S rb st) tMu ?_ ?_
  · refine ⟨by simp [sPu,hs],by simp [dPu,hd],by simp (disch:=(try simp only [sPu]);omega) [h0],by simp (disch:=(try simp only [sPu]);omega),by simp (disch:=(try simp only [sPu]);omega),hon2.trans q2,by have:=q2.size;omega,?_,n,[],none,after st pUv,by simp (disch:=(try simp only [sPu]);omega),hnl,q1,?_,.inl ⟨rfl,rfl⟩,List.Pairwise.nil,?_⟩
    · rw [q2.block _ (by omega) (by omega)];exact hr2
    · rw [q2.block _ (by omega) (by omega)];exact hn2
    · cases st with
      | none=>rfl
      | some b =>
        cases hp:pUv b with
        | none=>simp [pTags,rThen,hp,after]
        | some zz =>
          obtain ⟨y,r⟩:=zz
          have:=q4 b y r rfl hp
          simp only [Value.int.injEq,true_and] at this
          obtain rfl:n=y:=by omega
          simp [pTags,rThen,hp,after]
  · rintro a w4 ⟨p1,p2,p3,p4,p5,p6,p7,p8,n,acc,m,st',p9,p10,p11,p12,p13,p14,p15⟩
    have hmu:tMu a w4=n:=by simp [tMu,p9]
    refine SC.wp_seq (SC.wp_seq (SC.wp_reg ?_))
    repeat (apply ops_1;(focus (simp (disch:=(try simp only [sPu]);omega) [p9];try rfl)))
    refine oNi (SC.wp_cond (t:=decide ((n:Int) > 0)) (by simp (disch:=(try simp only [sPu]);omega)) ?_)
    by_cases h0n:n=0
    · subst h0n
      rw [if_neg (by simp)]
      refine SC.wp_exit ?_
      simp only [Exit.then,Exit.inBlock,if_true]
      have hcell:∀ j v,[Value.map m][j]?=some v→w4.cell? ⟨w.heap.size+1,0+j,none⟩=some v:=by
        intro j v hj
        rw [Nat.zero_add,cell_of_row _ _ _ _ _ _ p12]
        rw [← List.getElem?_toArray] at hj
        exact hj
      refine SC.wp_seq (SC.wp_reg (oNo rfl (opw_load_agg (cs:=[.map m]) (b:=w.heap.size+1) (o:=0) hm (by simp (disch:=(try simp only [sPu]);omega) [p5]) hcell (oNo rfl (opw_store_agg (cs:=[.map m]) (cur:=#[.map none]) (b:=w.heap.size) (E:=T0) hm (by simp (disch:=(try simp only [sPu]);omega) [p4]) (by simp (disch:=(try simp only [sPu]);omega)) p8 rfl (by intro v hv;simp at hv;subst hv;rfl) (oNi ?_))))))
      rw [pNo]
      simp only [Exit.then]
      refine SC.wp_ret ?_
      have hfin:=setRow_heap w4 w.heap.size _ [Value.map m].toArray _ _ p8
      have hoth:∀ k,k ≠ w.heap.size→(w4.setRow w.heap.size [Value.map m].toArray).heap[k]?=w4.heap[k]?:=fun k hk=>setRow_other _ _ _ _ hk
      have hst':after st (pTags true)=st':=by
        rw [after_bind,p15]
        cases st' <;> simp [pTagN,rOk]
      refine ret_cellAgg (cs:=[.map m]) (b:=w.heap.size) hr hm (by simp (disch:=(try simp only [sPu]);omega) [p4]) ?_ (by simp [dPu,p2]) ⟨_,rfl,?_,?_,⟨.map m,rfl,rfl⟩,fun b x r hst hp=>⟨.map m,rfl,?_⟩⟩
      · intro j v hj
        rw [cell_of_row _ _ _ _ _ _ hfin,List.getElem?_toArray]
        exact hj
      · rw [hst']
        exact RdAt.frame p11 (hoth _ (by omega)) fun sb h=>hoth _ (by have:=(hsrc sb h).2;omega)
      · exact p6.own (Nat.le_refl _) _
      · have hacc:x=acc:=by
          rw [hst] at p15
          simp only [Option.bind_some,hp] at p15
          cases st' with
          | none=>cases p15
          | some r' =>
            simp only [Option.bind_some,pTagN,rOk,Option.some.injEq,Prod.mk.injEq] at p15
            exact p15.1
        subst hacc
        have hmv:=p13.frame (w':=w4.setRow w.heap.size [Value.map m].toArray) (fun k h1 _=>hoth k (by omega)) (fun sb h=>hoth _ (by have:=(hsrc sb h).2;omega))
        rcases hmv with ⟨rfl,rfl⟩ | ⟨r',es,clock,rfl,e2,e3,e4,e5,e6,e7⟩
        · exact .inl ⟨rfl,rfl⟩
        · refine .inr ⟨r',es,clock,rfl,.inr ⟨by omega,(Array.getElem?_eq_some_iff.1 e4).1⟩,e4,e5,e6,fun e he x hx hk=>?_⟩
          obtain ⟨b2,c2,k1,k2⟩:=e7 e he x hx hk
          exact ⟨b2,c2,k1,bytesAt_F k2 fun k hk=>.inl hk⟩
    · rw [if_pos (by simp;omega)]
      refine SC.wp_skip ?_
      simp only [Exit.then]
      obtain ⟨n',rfl⟩:∃ n',n=n'+1:=⟨n - 1,by omega⟩
      refine SC.wp_seq (SC.wp_block (SC.wp_seq (SC.wp_reg ?_)))
      iterate 1 (apply ops_1;(focus (simp (disch:=(try simp only [sPu]);omega) [p3];try rfl)))
      refine ops_call hU.1 (hU.2 w4 S rb st' (by omega) p11 (hsrc2 w4 p6)) (by simp (disch:=(try simp only [sPu]);omega) [p3]) ?_
      rintro e w5 ⟨v,rfl,k1,k2,⟨k,hkl,rfl⟩,k4⟩
      refine ⟨_,rfl,?_⟩
      iterate 1 (apply ops_1;(focus (simp (disch:=(try simp only [sPu]);omega) [p3];try rfl)))
      refine ops_call hU.1 (hU.2 w5 S rb _ (by have:=k2.size;omega) k1 (hsrc2 w5 (p6.trans k2))) (by simp (disch:=(try simp only [sPu]);omega) [p3]) ?_
      rintro e w6 ⟨v,rfl,l1,l2,⟨s,hsl,rfl⟩,l4⟩
      refine ⟨_,rfl,?_⟩
      repeat (apply ops_1;(focus (simp (disch:=(try simp only [sPu]);omega) ;try rfl)))
      refine oNi (SC.wp_reg ?_)
      have hws:IntKind.i64.wrap (s:Int)=(s:Int):=wrap64 (by omega) (by omega)
      iterate 4 (apply ops_1;(focus (simp (disch:=(try simp only [sPu]);omega) [p3,h1k,h2k,hws];try rfl)))
      refine ops_call hSp.1 (hSp.2 w6 S rb _ (s:Int) l1 (hsrc2 w6 ((p6.trans k2).trans l2))) (by simp (disch:=(try simp only [sPu]);omega) [p3]) ?_
      rintro e w7 ⟨S',base,cap,x,rfl,m1,m2,m3,m4,m5⟩
      refine ⟨_,rfl,?_⟩
      have ho7:Only rb w4 w7:=(k2.trans l2).trans m2
      have hrow7:w7.heap[w.heap.size+1]?=some (.cells #[.map m] T0 (0,0)):=by rw [ho7.block _ (by omega) (by omega)];exact p12
      have hmv7:MapV w7 (w.heap.size+1) (w.heap.size+1) S acc m:=p13.frame (fun k h1 h2=>ho7.block k h2 (by omega)) fun sb h=>ho7.block sb (by have:=(hsrc sb h).2;omega) (hsrc sb h).1
      have hb7:BytesAt w7 (fun k=>S=some k) base x:=by
        rcases m5 with rfl | rfl
        · exact .inl m3.2
        · exact bytesAt_src m3 fun sb h=>h
      refine ops_call hSet.1 (hSet.2 w7 (w.heap.size+1) (w.heap.size+1) k cap S m acc base x (Nat.le_refl _) (by have:=ho7.size;omega) (fun sb h=>by have:=(hsrc sb h).2;omega) hrow7 hmv7 p14 hb7) (by simp (disch:=(try simp only [sPu]);omega) [p5]) ?_
      rintro e w8 ⟨rfl,n1,n2,n3,m',n4,n5⟩
      refine ⟨_,rfl,oNi ?_⟩
      simp only [Exit.then,Exit.inBlock]
      have hwn:IntKind.u32.wrap (n':Int)=(n':Int):=wrap_uN (k:=.u32) rfl (n:=n') (by simp only [IntKind.bits];omega)
      refine SC.wp_reg ?_
      repeat (apply ops_1;(focus (simp (disch:=(try simp only [sPu]);omega) [p9,hwn];try rfl)))
      refine oNi ?_
      have ho8:Only rb w w8:=by
        have ho:=p6.trans ho7
        exact ⟨n1.os.trans ho.os,n1.tape.trans ho.tape,n1.output.trans ho.output,Nat.le_trans ho.size n1.size,fun k hk hr=>(n1.block k (by omega)).trans (ho.block k hk hr)⟩
      refine ⟨⟨by simp [sPu,p1],by simp [dPu,p2],by simp (disch:=(try simp only [sPu]);omega) [p3],by simp (disch:=(try simp only [sPu]);omega) [p4],by simp (disch:=(try simp only [sPu]);omega) [p5],ho8,by have:=n1.size;have:=ho7.size;omega,?_,n',setTag (k,x) acc,m',after (after (after st' pUv) pUv) (pSpan (s:Int)),by simp (disch:=(try simp only [sPu]);omega),by omega,?_,n4,n5,setTag_sorted p14,?_⟩,?_⟩
      · rw [n1.block _ (by omega),ho7.block _ (by omega) (by omega)]
        exact p8
      · exact RdAt.frame m1 (n1.block _ (by omega)) fun sb h=>n1.block _ (by have:=(hsrc sb h).2;omega)
      · rw [p15]
        refine tagN_step (fun b y r hb hp=>?_) (fun b y r hb hp=>?_) (fun b y r hb hp=>(m4 b y r hb hp).1)
        · have:=k4 b y r hb hp
          simp only [Value.int.injEq,true_and] at this
          omega
        · have:=l4 b y r hb hp
          simp only [Value.int.injEq,true_and] at this
          omega
      · rw [hmu]
        simp only [tMu]
        simp (disch:=(try simp only [sPu]);omega)
end
end Go.Proofs.YtecdefhecaeclaaDoor.K
namespace Go.Proofs.YtecdefhecaeclaaDoor.K
open Go Go.RowKit Go.Proofs.YtecdefhecaeclaaDoor.T
attribute [local simp] eTm eCo pNo gTp gTn qv qcall vop iop
set_option linter.unusedSimpArgs false
set_option linter.unusedVariables false
set_option maxHeartbeats 4000000
def Keeps (ok:Nat→Bool) (w0 w:World):Prop:=∀ b,ok b=true→w.heap[b]?=w0.heap[b]?
def FieldC (G:List (Nat × Bytes)→Prop) (P:Program) (X:STy) (f fPart:FuncId):Prop :=
  ∀ (w:World) (h:Hd) (ty:Ty) (of_:Int) (sub:Value) (ver:Int) (flex:Bool) (t:Tree) (tv:Value),ofOK of_ ty→SubV w (· < w.heap.size) ty sub→sub.oneCell'=true→SubC (PartC G P X fPart) ty →
    TV G w (· < w.heap.size) t tv→(wField ver flex h ty t).length≤lim →
    Calls P f #[fldV (kindOf ty) h.from_ h.to h.null (-1) h.dflt of_ sub,.int .i64 ver,.bool flex,tv] w (RetOwn X.U8 w (wField ver flex h ty t))
def SubsC (C:Fs→Prop):Fs→Prop
  | .nil=>True
  | .cons _ ty r=>SubC C ty∧SubsC C r
section
variable {G:List (Nat × Bytes)→Prop} {P:Program} {X:STy} {f:FuncId} {fn:Func} {fW fTh fC fWi fF fU fHas fNull fAt fPart fVal fFld:FuncId}
variable {a:Act} {w:World} {K:Act→World→Prop}
theorem opqk_of {w0:World} {ok:Nat→Bool} {s:SOp} {v:Value} (h:qv ok P w0 a s.op=some v):opq P (Keeps ok w0) s a v:=fun o ho w' hS' =>
  qv_sound (w0:=w0) (fun b o hb=>World.cell?_of_block (hS' b hb)) h o (congrArg SOp.op ho)
theorem dk_1 {w0:World} {ok:Nat→Bool} {i d:Nat} {op:Op} {ops:List SOp} {v:Value} {r:List (Nat × Bool)} (hs:ops[i]?=some ⟨some d,op,none⟩) (h:qv ok P w0 a op=some v)
    (hk:dregw P (Keeps ok w0) ops r K (a.put (some d) v) w):dregw P (Keeps ok w0) ops ((i,true) :: r) K a w:=by
  unfold dregw
  exact ⟨_,hs,by simpa only [if_true] using ⟨v,opqk_of (s:=⟨some d,op,none⟩) h,hk⟩⟩
theorem dk_y {w0:World} {ok:Nat→Bool} {i d j dj:Nat} {want:Bool} {op:Op} {ops:List SOp} {v:Value} {r:List (Nat × Bool)} (hs:ops[i]?=some ⟨some d,op,some (j,want)⟩) (hj:(ops[j]?).bind (·.dst)=some dj) (hlt:dj < a.tmps.size) (hb:getT a dj=.bool want) (h:qv ok P w0 a op=some v)
    (hk:dregw P (Keeps ok w0) ops r K (a.put (some d) v) w):dregw P (Keeps ok w0) ops ((i,true) :: r) K a w:=by
  unfold dregw
  exact ⟨_,hs,dj,want,hj,hlt,.inl hb,by simpa only [if_true] using ⟨v,opqk_of (s:=⟨some d,op,some (j,want)⟩) h,hk⟩⟩
theorem own_lt {tU8:Nat} {w:World} {B:Nat} {v:Value} {xs:Bytes} (h:Own tU8 w B v xs):∀ k,v.ownBlock=some k→B≤k∧k < w.heap.size:=fun k hk=>h.lt k hk
theorem own_same {tU8:Nat} {w w':World} {B:Nat} {v:Value} {xs:Bytes} (h:Own tU8 w B v xs) (hb:∀ k,v.ownBlock=some k→w'.heap[k]?=w.heap[k]?):Own tU8 w' B v xs:=by
  refine ⟨h.1,h.2.imp id ?_⟩
  rintro ⟨g,cap,cur,h1,h2,h3,h4⟩
  refine ⟨g,cap,cur,h1,h2,?_,h4⟩
  rw [hb g (by rw [h1];rfl)]
  exact h3
theorem fsAt_drop {w:World} {F:Nat→Prop}:∀ (i:Nat) (fs:Fs) (b o:Nat),FsAt w F fs b o→FsAt w F (Fs.drop i fs) b (o+i * 8)
  | 0,fs,b,o,h=>by simpa [Fs.drop] using h
  | i+1,.nil,b,o,_=>by simp [Fs.drop,FsAt]
  | i+1,.cons h ty r,b,o,hh=>by
    simp only [FsAt] at hh
    have:=fsAt_drop i r b (o+8) hh.2
    rwa [show o+8+i * 8=o+(i+1) * 8 by omega] at this
theorem drop_cons:∀ (i:Nat) (fs:Fs),i < Fs.len fs→∃ h ty,Fs.drop i fs=.cons h ty (Fs.drop (i+1) fs)
  | i,.nil,h=>by simp [Fs.len] at h
  | 0,.cons h ty r,_=>⟨h,ty,by simp [Fs.drop]⟩
  | i+1,.cons h ty r,hi=>by
    simp only [Fs.drop]
    exact drop_cons i r (by simp only [Fs.len] at hi;omega)
theorem drop_len:∀ (fs:Fs),Fs.drop (Fs.len fs) fs=.nil
  | .nil=>rfl
  | .cons h ty r=>by simp only [Fs.len,Fs.drop];exact drop_len r
theorem subsC_drop {C:Fs→Prop}:∀ (i:Nat) (fs:Fs),SubsC C fs→SubsC C (Fs.drop i fs)
  | 0,fs,h=>by simpa [Fs.drop] using h
  | i+1,.nil,_=>by simp [Fs.drop,SubsC]
  | i+1,.cons h ty r,hh=>by
    simp only [SubsC] at hh
    simp only [Fs.drop]
    exact subsC_drop i r hh.2
theorem headD_drop (l:List Tree) (i:Nat):(l.drop i).tail=l.drop (i+1):=by simp
theorem fields_loop (hX:stOK P X=true) (hTF:arrB P X.F 8=true) (S:SmallC P X fW fTh fC fWi fF fU fHas fNull fAt G) (hm:P.follows .mixedOrders=true) (oF:FnOK P fFld) (cFd:FieldC G P X fFld fPart)
    {a:Act} {w w1:World} {Q:Exit→Act→World→Prop} (fs:Fs) (fb:Option Addr) (fcap:Nat) (cP:SubsC (PartC G P X fPart) fs)
    (hfs:Fs.len fs=0∨∃ b o,fb=some ⟨b,o,none⟩∧b < w.heap.size∧FsAt w (· < w.heap.size) fs b o) (hlen63:Fs.len fs < 4294967296)
    (ver:Int) (flex:Bool) (t:Tree) (n:Int) (s l u:Value) (tnull:Bool) (ht:TV G w (· < w.heap.size) t (treV n s tnull l u))
    (hbw:Below w.heap.size w w1) (hsz:w.heap.size+1≤w1.heap.size) (hT5:rangeV w1 w.heap.size 0 5=some [.int .i64 n,s,.bool tnull,l,u])
    (g:a.tmps.size=132) (g0:getT a 0=.slice fb (Fs.len fs) fcap) (g1:getT a 1=.int .i64 ver) (g2:getT a 2=.bool flex) (g7:getT a 7=.pointer (some ⟨w.heap.size,0,none⟩)) (g9:getT a 9=.slice none 0 0)
    (hl:(wFs ver flex fs t.l).length≤lim)
    (hQ:∀ (a':Act) (w':World),a'.tmps.size=132→a'.defers=a.defers→(∀ s,s < 12→s ≠ 9→getT a' s=getT a s)→Own X.U8 w' (w.heap.size+1) (getT a' 9) (wFs ver flex fs t.l)→Below (w.heap.size+1) w1 w'→Q .normal a' w') :
    SC.wp P (.seq (.reg [mv 21 0,lenOp 22 X.Fs 21,⟨some 23,.move (.const (.int .i64 0)),none⟩]) (.block 0 (.loop (.seq (.reg [⟨some 24,.binOp .lss X.I (.tmp 23) (.tmp 22) X.I,none⟩]) (.seq (.cond (.tmp 24) (.skip) (.exit 0)) (.seq (.block 1 (.seq (.reg [mv 25 23,⟨some 26,.indexAddr X.Fs (.tmp 21) (.tmp 23),none⟩,ld 27 X.F 26,⟨some 13,.alloc X.F,none⟩,asg 12 25,⟨none,.store X.F (.tmp 13) (.tmp 27),none⟩]) (.seq (.reg [fa 28 X.F 13 4,ld 29 X.I 28,⟨some 30,.binOp .lss X.I (.tmp 29) (.const (.int .i64 0)) X.I,none⟩,mv 31 30,⟨some 32,.load X.F (.tmp 13),some (3,true)⟩,⟨some 33,.move (.tmp 1),some (3,true)⟩,⟨some 34,.call ⟨.value (.func fHas),#[(.tmp 32),(.tmp 33)],#[]⟩,some (3,true)⟩,⟨some 35,.pick (.tmp 31) (.tmp 34) (.const (.bool false)),none⟩]) (.cond (.tmp 35) (.dreg [mv 36 9,ld 37 X.F 13,mv 38 1,mv 39 2,ld 40 X.T 7,mv 41 12,cal 42 fAt [40,41],cal 43 fFld [37,38,39,42],⟨some 44,.call ⟨.builtin .append,#[(.tmp 36),(.tmp 43)],#[X.Bs,X.Bs]⟩,none⟩,asg 9 44] [[],[],[],[],[],[],[4,5],[1,2,3,6,6],[0,7,7],[8,8,0,1,2,3,4,5,6,7,8]]) (.skip))))) (.reg [⟨some 45,.binOp .add X.I (.tmp 23) (.const (.int .i64 1)) X.I,none⟩,mv 23 45]))))))) Q a w1:=by
  have hst:=st_facts hX
  have hU8s:=hst.2.2.1.1
  have hlim:lim=70368744177664:=rfl
  obtain ⟨hTF1,iF,zF,hiF,hzF,hzFs⟩:=arr_of hTF
  refine SC.wp_seq (SC.wp_reg ?_)
  repeat (first | (apply ops_1;(focus (simp (disch:=(try simp only [sPu]);omega) [hst,g0];try rfl))) | (apply ops_y;(focus rfl);(focus ((try simp only [sPu]);omega));(focus (simp (disch:=(try simp only [sPu]);omega) [hst,g0];done));(focus (simp (disch:=(try simp only [sPu]);omega) [hst,g0];try rfl))) | (apply ops_n;(focus rfl);(focus ((try simp only [sPu]);omega));(focus (first | (left;simp (disch:=(try simp only [sPu]);omega) [hst,g0];done) | (right;simp (disch:=(try simp only [sPu]);omega);done)))))
  refine oNi ?_
  simp only [Exit.then]
  refine SC.wp_block (SC.wp_loop (fun a4 w5=>∃ (j:Nat) (xs:Bytes),a4.tmps.size=132∧a4.defers=a.defers∧(∀ s,s < 12→s ≠ 9→getT a4 s=getT a s)∧getT a4 21=.slice fb (Fs.len fs) fcap∧getT a4 22=.int .i64 (Fs.len fs:Int)∧getT a4 23=.int .i64 (j:Int)∧j≤Fs.len fs ∧
      Own X.U8 w5 (w.heap.size+1) (getT a4 9) xs∧xs ++ wFs ver flex (Fs.drop j fs) (t.l.drop j)=wFs ver flex fs t.l∧Below (w.heap.size+1) w1 w5)
    (fun a4 _=>match getT a4 23 with | .int _ m=>(Fs.len fs - m).toNat | _=>0) ⟨0,[],by simp [sPu,g],by simp [dPu],?_,by simp (disch:=(try simp only [sPu]);omega),by simp (disch:=(try simp only [sPu]);omega),by simp (disch:=(try simp only [sPu]);omega),by omega,by simp (disch:=(try simp only [sPu]);omega) [g9];exact own_nil _ _ _,by simp [Fs.drop],Below.refl _ _⟩ ?_)
  · intro s h1 h2
    simp (disch:=omega) [gTn]
  rintro a4 w5 ⟨j,xs,q,qd,qs,q21,q22,q23,hj,ho,hx,hb5⟩
  have hsz5:w.heap.size+1≤w5.heap.size:=by have:=hb5.size;omega
  refine SC.wp_seq (SC.wp_reg ?_)
  repeat (first | (apply ops_1;(focus (simp (disch:=(try simp only [sPu]);omega) [hst,q22,q23];try rfl))) | (apply ops_y;(focus rfl);(focus ((try simp only [sPu]);omega));(focus (simp (disch:=(try simp only [sPu]);omega) [hst,q22,q23];done));(focus (simp (disch:=(try simp only [sPu]);omega) [hst,q22,q23];try rfl))) | (apply ops_n;(focus rfl);(focus ((try simp only [sPu]);omega));(focus (first | (left;simp (disch:=(try simp only [sPu]);omega) [hst,q22,q23];done) | (right;simp (disch:=(try simp only [sPu]);omega);done)))))
  refine oNi ?_
  simp only [Exit.then]
  refine SC.wp_seq (SC.wp_cond (t:=decide ((j:Int) < (Fs.len fs:Int))) (by simp (disch:=(try simp only [sPu]);omega)) ?_)
  cases e1:decide ((j:Int) < (Fs.len fs:Int))
  · have hje:j=Fs.len fs:=by simp at e1;omega
    subst hje
    rw [if_neg (by simp)]
    refine SC.wp_exit ?_
    simp only [Exit.then,Exit.inBlock,if_true]
    rw [drop_len,wFs,List.append_nil] at hx
    refine hQ _ _ (by simp [sPu,q]) (by simp [dPu,qd]) ?_ ?_ hb5
    · intro s h1 h2
      rw [← qs s h1 h2]
      simp (disch:=omega) [gTn]
    · rw [← hx]
      refine own_eq ho ?_
      simp (disch:=(try simp only [sPu]);omega)
  · have hjl:j < Fs.len fs:=by simp at e1;omega
    rw [if_pos rfl]
    refine SC.wp_skip ?_
    simp only [Exit.then]
    obtain ⟨h,ty,hdrop⟩:=drop_cons j fs hjl
    rcases hfs with hfs | ⟨b,o,rfl,hbF,hfs⟩
    · omega
    have hfj:=fsAt_drop j fs b o hfs
    have hcj:=subsC_drop j fs cP
    rw [hdrop] at hfj hcj hx
    simp only [FsAt,SubsC] at hfj hcj
    obtain ⟨⟨of_,sub,hr8,h1c,hof,hsub⟩,_⟩:=hfj
    have hb5':Below w.heap.size w w5:=hbw.trans (hb5.mono (by omega))
    have hr8':=(rangeV_mono (w:=w5) (hb5'.block b hbF) 8 (o+j * 8)).trans hr8
    have ej:(0:Int)≤(j:Int)∧(j:Int) < (Fs.len fs:Int):=by omega
    have k0:=(qs 0 (by decide) (by decide)).trans g0
    have k1:=(qs 1 (by decide) (by decide)).trans g1
    have k2:=(qs 2 (by decide) (by decide)).trans g2
    have k7:=(qs 7 (by decide) (by decide)).trans g7
    refine SC.wp_seq (SC.wp_block (SC.wp_seq (SC.wp_reg ?_)))
    iterate 3 (first | (apply ops_1;(focus (simp (disch:=(try simp only [sPu]);omega) [hst,q21,q23,ej,hr8',hjl];try rfl))) | (apply ops_y;(focus rfl);(focus ((try simp only [sPu]);omega));(focus (simp (disch:=(try simp only [sPu]);omega) [hst,q21,q23,ej,hr8',hjl];done));(focus (simp (disch:=(try simp only [sPu]);omega) [hst,q21,q23,ej,hr8',hjl];try rfl))) | (apply ops_n;(focus rfl);(focus ((try simp only [sPu]);omega));(focus (first | (left;simp (disch:=(try simp only [sPu]);omega) [hst,q21,q23,ej,hr8',hjl];done) | (right;simp (disch:=(try simp only [sPu]);omega);done)))))
    refine oNo rfl (opw_alloc hiF hzF ?_)
    iterate 1 (first | (apply ops_1;(focus (simp (disch:=(try simp only [sPu]);omega) ;try rfl))) | (apply ops_y;(focus rfl);(focus ((try simp only [sPu]);omega));(focus (simp (disch:=(try simp only [sPu]);omega);done));(focus (simp (disch:=(try simp only [sPu]);omega) ;try rfl))) | (apply ops_n;(focus rfl);(focus ((try simp only [sPu]);omega));(focus (first | (left;simp (disch:=(try simp only [sPu]);omega);done) | (right;simp (disch:=(try simp only [sPu]);omega);done)))))
    refine oNo rfl (opw_store_agg (b:=w5.heap.size) (cs:=[.int .i64 (kindOf ty),.int .i64 h.from_,.int .i64 h.to,.int .i64 h.null,.int .i64 (-1),.int .i64 h.dflt,.int .i64 of_,sub]) hTF1 (by simp (disch:=(try simp only [sPu]);omega)) (by simp (disch:=(try simp only [sPu]);omega)) (heap_alloc_new w5 _) (by simp [hzFs]) (by
      intro v hv
      simp only [List.mem_cons,List.not_mem_nil,or_false] at hv
      rcases hv with rfl | rfl | rfl | rfl | rfl | rfl | rfl | rfl <;> first | rfl | exact h1c) (oNi ?_))
    have hnew:((w5.alloc (.cells zF.cells X.F)).setRow w5.heap.size #[.int .i64 (kindOf ty),.int .i64 h.from_,.int .i64 h.to,.int .i64 h.null,.int .i64 (-1),.int .i64 h.dflt,.int .i64 of_,sub]).heap[w5.heap.size]?=some (.cells #[.int .i64 (kindOf ty),.int .i64 h.from_,.int .i64 h.to,.int .i64 h.null,.int .i64 (-1),.int .i64 h.dflt,.int .i64 of_,sub] X.F (0,0)):=setRow_heap _ _ _ _ _ _ (heap_alloc_new w5 _)
    have hb6:Below w5.heap.size w5 ((w5.alloc (.cells zF.cells X.F)).setRow w5.heap.size #[.int .i64 (kindOf ty),.int .i64 h.from_,.int .i64 h.to,.int .i64 h.null,.int .i64 (-1),.int .i64 h.dflt,.int .i64 of_,sub]):=below_setRow ((Below.refl _ _).alloc (Nat.le_refl _) _) (Nat.le_refl _) _
    have hsz6:((w5.alloc (.cells zF.cells X.F)).setRow w5.heap.size #[.int .i64 (kindOf ty),.int .i64 h.from_,.int .i64 h.to,.int .i64 h.null,.int .i64 (-1),.int .i64 h.dflt,.int .i64 of_,sub]).heap.size=w5.heap.size+1:=by simp
    simp only [Exit.then,pNo]
    generalize ((w5.alloc (.cells zF.cells X.F)).setRow w5.heap.size #[.int .i64 (kindOf ty),.int .i64 h.from_,.int .i64 h.to,.int .i64 h.null,.int .i64 (-1),.int .i64 h.dflt,.int .i64 of_,sub])=w6 at *
    have hc6:∀ i,w6.cell? ⟨w5.heap.size,i,none⟩=#[Value.int .i64 (kindOf ty),.int .i64 h.from_,.int .i64 h.to,.int .i64 h.null,.int .i64 (-1),.int .i64 h.dflt,.int .i64 of_,sub][i]?:=fun i=>cell_of_row _ _ _ _ _ _ hnew
    have hF8:rangeV w6 w5.heap.size 0 8=some [.int .i64 (kindOf ty),.int .i64 h.from_,.int .i64 h.to,.int .i64 h.null,.int .i64 (-1),.int .i64 h.dflt,.int .i64 of_,sub]:=by simp [rangeV,hc6]
    refine gen_act (fun a6=>a6.tmps.size=132∧a6.defers=a.defers∧(∀ s,s < 12→s ≠ 9→getT a6 s=getT a s)∧getT a6 9=getT a4 9∧getT a6 21=.slice (some ⟨b,o,none⟩) (Fs.len fs) fcap∧getT a6 22=.int .i64 (Fs.len fs:Int)∧getT a6 23=.int .i64 (j:Int)∧getT a6 12=.int .i64 (j:Int)∧getT a6 13=.pointer (some ⟨w5.heap.size,0,none⟩))
      ⟨by simp [sPu,q],by simp [dPu,qd],?_,by simp (disch:=(try simp only [sPu]);omega),by simp (disch:=(try simp only [sPu]);omega) [q21],by simp (disch:=(try simp only [sPu]);omega) [q22],by simp (disch:=(try simp only [sPu]);omega) [q23],by simp (disch:=(try simp only [sPu]);omega),by simp (disch:=(try simp only [sPu]);omega)⟩ ?_
    · intro s h1 h2
      rw [← qs s h1 h2]
      simp (disch:=omega) [gTn]
    rintro a6 ⟨p,pd,ps,p9,p21,p22,p23,p12,p13⟩
    have k1:=(ps 1 (by decide) (by decide)).trans g1
    have k2:=(ps 2 (by decide) (by decide)).trans g2
    have k7:=(ps 7 (by decide) (by decide)).trans g7
    clear q qd qs q21 q22 k0
    refine SC.wp_seq (SC.wp_reg ?_)
    iterate 6 (first | (apply ops_1;(focus (simp (disch:=(try simp only [sPu]);omega) [hst,hc6,hF8,k1,p13];try rfl))) | (apply ops_y;(focus rfl);(focus ((try simp only [sPu]);omega));(focus (simp (disch:=(try simp only [sPu]);omega) [hst,hc6,hF8,k1,p13];done));(focus (simp (disch:=(try simp only [sPu]);omega) [hst,hc6,hF8,k1,p13];try rfl))) | (apply ops_n;(focus rfl);(focus ((try simp only [sPu]);omega));(focus (first | (left;simp (disch:=(try simp only [sPu]);omega) [hst,hc6,hF8,k1,p13];done) | (right;simp (disch:=(try simp only [sPu]);omega);done)))))
    obtain ⟨fnH,hH1,hH2,hH3⟩:=S.oH
    refine opsw_yes rfl rfl (by (try simp only [sPu]);omega) (by simp (disch:=(try simp only [sPu]);omega)) (opw_call hH1 hH2 hH3 (R:=fun e w'=>e=.returned (.bool (h.has ver))∧Below w6.heap.size w6 w') ?_ ?_)
    · refine Eq.mp (congrArg (fun z=>Calls P fHas z w6 _) ?_) (S.cH w6 (kindOf ty) h.from_ h.to h.null (-1) h.dflt of_ sub ver)
      simp (disch:=(try simp only [sPu]);omega) [fldV]
    rintro e w7 ⟨rfl,hb7⟩
    refine ⟨_,rfl,?_⟩
    repeat (first | (apply ops_1;(focus (simp (disch:=(try simp only [sPu]);omega) ;try rfl))) | (apply ops_y;(focus rfl);(focus ((try simp only [sPu]);omega));(focus (simp (disch:=(try simp only [sPu]);omega);done));(focus (simp (disch:=(try simp only [sPu]);omega) ;try rfl))) | (apply ops_n;(focus rfl);(focus ((try simp only [sPu]);omega));(focus (first | (left;simp (disch:=(try simp only [sPu]);omega);done) | (right;simp (disch:=(try simp only [sPu]);omega);done)))))
    refine oNi ?_
    simp only [Exit.then]
    have hb7':Below w5.heap.size w5 w7:=hb6.trans (hb7.mono (by omega))
    have hsz7:w5.heap.size+1≤w7.heap.size:=by have:=hb7.size;omega
    have hnew7:w7.heap[w5.heap.size]?=w6.heap[w5.heap.size]?:=hb7.block _ (by omega)
    have ew:IntKind.i64.wrap ((j:Int)+1)=((j+1:Nat):Int):=by rw [wrap_i64'];split <;> omega
    have next:∀ (a':Act) (w':World) (ys:Bytes) (Q':Exit→Act→World→Prop),a'.tmps.size=132→a'.defers=a.defers→(∀ s,s < 12→s ≠ 9→getT a' s=getT a s)→getT a' 21=.slice (some ⟨b,o,none⟩) (Fs.len fs) fcap→getT a' 22=.int .i64 (Fs.len fs:Int)→getT a' 23=.int .i64 (j:Int) →
        Own X.U8 w' (w.heap.size+1) (getT a' 9) ys→ys=xs ++ (if h.has ver then wField ver flex h ty ((t.l.drop j).headD Tree.zero) else [])→Below (w.heap.size+1) w5 w' →
        (∀ a'' w'',(∃ (j:Nat) (xs:Bytes),a''.tmps.size=132∧a''.defers=a.defers∧(∀ s,s < 12→s ≠ 9→getT a'' s=getT a s)∧getT a'' 21=.slice (some ⟨b,o,none⟩) (Fs.len fs) fcap∧getT a'' 22=.int .i64 (Fs.len fs:Int)∧getT a'' 23=.int .i64 (j:Int)∧j≤Fs.len fs ∧
          Own X.U8 w'' (w.heap.size+1) (getT a'' 9) xs∧xs ++ wFs ver flex (Fs.drop j fs) (t.l.drop j)=wFs ver flex fs t.l∧Below (w.heap.size+1) w1 w'')→(match getT a'' 23 with | .int _ m=>(Fs.len fs - m).toNat | _=>0) < (Fs.len fs - (j:Int)).toNat→Q' .normal a'' w'') →
        SC.wp P (.reg [⟨some 45,.binOp .add X.I (.tmp 23) (.const (.int .i64 1)) X.I,none⟩,mv 23 45]) Q' a' w':=by
      intro a' w' ys Q' z zd zs z21 z22 z23 zo hy zb hq
      refine SC.wp_reg ?_
      repeat (first | (apply ops_1;(focus (simp (disch:=(try simp only [sPu]);omega) [z23,ew];try rfl))) | (apply ops_y;(focus rfl);(focus ((try simp only [sPu]);omega));(focus (simp (disch:=(try simp only [sPu]);omega) [z23,ew];done));(focus (simp (disch:=(try simp only [sPu]);omega) [z23,ew];try rfl))) | (apply ops_n;(focus rfl);(focus ((try simp only [sPu]);omega));(focus (first | (left;simp (disch:=(try simp only [sPu]);omega) [z23,ew];done) | (right;simp (disch:=(try simp only [sPu]);omega);done)))))
      refine oNi (hq _ _ ⟨j+1,ys,by simp [sPu,z],by simp [dPu,zd],?_,by simp (disch:=(try simp only [sPu]);omega) [z21],by simp (disch:=(try simp only [sPu]);omega) [z22],by simp (disch:=(try simp only [sPu]);omega),by omega,?_,?_,hb5.trans zb⟩ ?_)
      · intro s h1 h2
        rw [← zs s h1 h2]
        simp (disch:=omega) [gTn]
      · refine own_eq zo ?_
        simp (disch:=(try simp only [sPu]);omega)
      · rw [hy,List.append_assoc,← headD_drop,← wFs_cons]
        exact hx
      · simp (disch:=(try simp only [sPu]);omega);omega
    refine SC.wp_cond (t:=h.has ver) (by simp (disch:=(try simp only [sPu]);omega)) ?_
    cases hh:h.has ver
    · rw [if_neg (by simp)]
      refine SC.wp_skip ?_
      simp only [Exit.inBlock,Exit.then]
      refine next _ _ xs _ (by simp [sPu,p]) (by simp [dPu,pd]) ?_ (by simp (disch:=(try simp only [sPu]);omega) [p21]) (by simp (disch:=(try simp only [sPu]);omega) [p22]) (by simp (disch:=(try simp only [sPu]);omega) [p23]) ?_ (by simp [hh]) (hb7'.mono (by omega)) ?_
      · intro s h1 h2
        rw [← ps s h1 h2]
        simp (disch:=omega) [gTn]
      · refine own_eq (own_keep ho hb7') ?_
        simp (disch:=(try simp only [sPu]);omega) [p9]
      · intro a'' w'' hI hlt
        exact ⟨hI,by rw [q23];exact hlt⟩
    · rw [if_pos rfl]
      have hF8d:rangeV w7.drew w5.heap.size 0 8=some [.int .i64 (kindOf ty),.int .i64 h.from_,.int .i64 h.to,.int .i64 h.null,.int .i64 (-1),.int .i64 h.dflt,.int .i64 of_,sub]:=(rangeV_mono (w:=w7.drew) (w0:=w6) hnew7 8 0).trans hF8
      have hT5d:rangeV w7.drew w.heap.size 0 5=some [.int .i64 n,s,.bool tnull,l,u]:=(rangeV_mono (w:=w7.drew) (w0:=w1) ((hb7'.block _ (by omega)).trans (hb5.block _ (by omega))) 5 0).trans hT5
      have hb7w:Below w.heap.size w w7:=hb5'.trans (hb7'.mono (by omega))
      refine SC.wp_dreg hm (Keeps (fun b=>b == w.heap.size || b == w5.heap.size) w7.drew) [(0,true),(1,true),(2,true),(3,true),(4,true),(5,true),(6,false),(7,false),(8,false),(9,true)] (by rfl) (by rfl) (by decide) (fun _ _=>rfl) ?_
      iterate 6 (first | (apply dk_1;(focus rfl);(focus (simp (disch:=(try simp only [sPu]);omega) [hst,k1,k2,k7,p12,p13,hF8d,hT5d];try rfl))) | (apply dk_y;(focus rfl);(focus rfl);(focus ((try simp only [sPu]);omega));(focus (simp (disch:=(try simp only [sPu]);omega) [hst,k1,k2,k7,p12,p13,hF8d,hT5d];done));(focus (simp (disch:=(try simp only [sPu]);omega) [hst,k1,k2,k7,p12,p13,hF8d,hT5d];try rfl))))
      have hkeep:∀ (wa wb:World),w5.heap.size+1≤wa.heap.size→Below wa.heap.size wa wb→Keeps (fun b=>b == w.heap.size || b == w5.heap.size) w7.drew wa→Keeps (fun b=>b == w.heap.size || b == w5.heap.size) w7.drew wb:=by
        intro wa wb z1 z2 z3 bb hbb
        have:bb < wa.heap.size:=by
          simp only [Bool.or_eq_true,beq_iff_eq] at hbb
          omega
        exact (z2.block bb this).trans (z3 bb hbb)
      refine dreg_call rfl S.oA (S.cA w7.drew t (treV n s tnull l u) j (TV.down hb7w.drew (by show w.heap.size≤w7.heap.size;omega) ht)) (by simp (disch:=(try simp only [sPu]);omega) [treV]) ?_
      rintro e w8 ⟨tv,rfl,htv,hb8⟩
      have hb8:Below w7.heap.size w7.drew w8:=hb8
      have hk8:=hkeep w7.drew w8 (by show _≤w7.heap.size;omega) hb8 (fun _ _=>rfl)
      refine ⟨tv,rfl,hk8,?_⟩
      have hsz8:w7.heap.size≤w8.heap.size:=hb8.size
      have hb8w:Below w.heap.size w w8:=hb7w.drew.trans (hb8.mono (by omega))
      have hlf:(wField ver flex h ty ((t.l.drop j).headD Tree.zero)).length≤lim∧xs.length+(wField ver flex h ty ((t.l.drop j).headD Tree.zero)).length≤lim:=by
        rw [wFs_cons,hh,if_pos rfl] at hx
        have:=congrArg List.length hx
        simp only [List.length_append] at this
        omega
      refine dreg_call rfl oF (cFd w8 h ty of_ sub ver flex ((t.l.drop j).headD Tree.zero) tv hof (SubV.mono (w:=w8) (F':=fun x=>x < w8.heap.size) (fun k hk=>by have:k < w.heap.size:=hk;show k < w8.heap.size;omega) (fun k hk=>hb8w.block k hk) ty sub hsub) h1c hcj.1 (TV.down hb8 (by omega) htv) hlf.1) (by simp (disch:=(try simp only [sPu]);omega) [fldV]) ?_
      rintro e w9 ⟨v2,rfl,ho2,hb9⟩
      have hk9:=hkeep w8 w9 (by omega) hb9 hk8
      refine ⟨v2,rfl,hk9,?_⟩
      have hsz9:w8.heap.size≤w9.heap.size:=hb9.size
      have hb59:Below w5.heap.size w5 w9:=hb7'.drew.trans ((hb8.mono (by omega)).trans (hb9.mono (by omega)))
      have ho9:Own X.U8 w9 (w.heap.size+1) (getT a4 9) xs:=own_keep ho hb59
      refine dreg_n rfl rfl (opw_appendU8 (B:=w.heap.size+1) (dv:=getT a4 9) (xv:=v2) (xs:=xs) (bs:=wField ver flex h ty ((t.l.drop j).headD Tree.zero)) hU8s (by simp (disch:=(try simp only [sPu]);omega) [p9]) (by simp (disch:=(try simp only [sPu]);omega)) rfl ho9 (by omega) (src_own hU8s ho2) hlf.2 ?_)
      intro v3 w10 z1 z2 z3 z4
      refine ⟨fun bb hbb=>?_,?_⟩
      · rw [← hk9 bb hbb]
        have hbb':bb=w.heap.size∨bb=w5.heap.size:=by simpa only [Bool.or_eq_true,beq_iff_eq] using hbb
        refine z4.block bb (by omega) (fun e=>?_)
        have:=own_lt ho bb e.symm
        omega
      repeat (first | (apply dk_1;(focus rfl);(focus (simp (disch:=(try simp only [sPu]);omega) ;try rfl))) | (apply dk_y;(focus rfl);(focus rfl);(focus ((try simp only [sPu]);omega));(focus (simp (disch:=(try simp only [sPu]);omega);done));(focus (simp (disch:=(try simp only [sPu]);omega) ;try rfl))))
      refine dreg_nil ?_
      simp only [Exit.inBlock,Exit.then]
      refine next _ _ (xs ++ wField ver flex h ty ((t.l.drop j).headD Tree.zero)) _ (by simp [sPu,p]) (by simp [dPu,pd]) ?_ (by simp (disch:=(try simp only [sPu]);omega) [p21]) (by simp (disch:=(try simp only [sPu]);omega) [p22]) (by simp (disch:=(try simp only [sPu]);omega) [p23]) ?_ (by simp [hh]) ((hb59.mono (by omega)).trans z2) ?_
      · intro s h1 h2
        rw [← ps s h1 h2]
        simp (disch:=omega) [gTn]
      · refine own_eq z1 ?_
        simp (disch:=(try simp only [sPu]);omega)
      · intro a'' w'' hI hlt
        exact ⟨hI,by rw [q23];exact hlt⟩
end
end Go.Proofs.YtecdefhecaeclaaDoor.K
namespace Go.Proofs.YtecdefhecaeclaaDoor.K
open Go Go.RowKit Go.Proofs.YtecdefhecaeclaaDoor.T
attribute [local simp] eTm eCo pNo gTp gTn qv qcall vop iop
set_option linter.unusedSimpArgs false
set_option linter.unusedVariables false
set_option maxHeartbeats 4000000
def UnkC (G:List (Nat × Bytes)→Prop) (P:Program) (f:FuncId):Prop :=
  ∀ (w:World) (fs:Fs) (fv:Value) (ub:Option Addr) (u:List (Nat × Bytes)) (uc:Nat),FsV w (· < w.heap.size) fs fv→Fs.len fs < 4294967296→G u→UTagsAt w (· < w.heap.size) ub u→u.length≤uc →
    Calls P f #[fv,.slice ub u.length uc] w fun e w'=>∃ ub' uc',e=.returned (.slice ub' (unknown u).length uc')∧UTagsAt w' (· < w'.heap.size) ub' (unknown u)∧Below w.heap.size w w'
def KnownC (P:Program) (f:FuncId):Prop :=
  ∀ (w:World) (fs:Fs) (fv:Value),FsV w (· < w.heap.size) fs fv→Fs.len fs < 4294967296→Calls P f #[fv] w fun e w'=>e=.returned (.int .u32 0)∧Below w.heap.size w w'
section
variable {G:List (Nat × Bytes)→Prop} {P:Program} {X:STy} {f:FuncId} {fn:Func} {fW fTh fC fWi fF fU fHas fNull fAt fPart fVal fFld fKn fUs fUnk:FuncId}
theorem tags_loop (hX:stOK P X=true) (hTg:arrB P X.Tg 2=true) (S:SmallC P X fW fTh fC fWi fF fU fHas fNull fAt G) (oUnk:FnOK P fUnk) (cUnk:UnkC G P fUnk)
    {a:Act} {w1:World} {Q:Exit→Act→World→Prop} (fs:Fs) (fv:Value) (hfs:FsV w1 (· < w1.heap.size) fs fv) (hlen63:Fs.len fs < 4294967296) (b7:Nat) (hb7:b7 < w1.heap.size) (n:Int) (s l:Value) (tnull:Bool) (ub:Option Addr) (u:List (Nat × Bytes)) (uc:Nat) (huc:u.length≤uc) (hG:G u) (hu:UTagsAt w1 (· < w1.heap.size) ub u)
    (hc7:∀ i,w1.cell? ⟨b7,i,none⟩=#[Value.int .i64 n,s,.bool tnull,l,.slice ub u.length uc][i]?)
    (g:a.tmps.size=132) (g0:getT a 0=fv) (g7:getT a 7=.pointer (some ⟨b7,0,none⟩)) (g10:getT a 10=.slice none 0 0) (g11:getT a 11=.int .i64 0)
    (hl:((unknown u).flatMap wTag).length≤lim) (hul:(unknown u).length≤most)
    (hQ:∀ (a':Act) (w':World),a'.tmps.size=132→a'.defers=a.defers→(∀ s,s < 10→getT a' s=getT a s)→Own X.U8 w' w1.heap.size (getT a' 10) ((unknown u).flatMap wTag)→getT a' 11=.int .i64 ((unknown u).length:Int)→Below w1.heap.size w1 w'→Q .normal a' w') :
    SC.wp P (.seq (.reg [mv 97 0,fa 98 X.T 7 4,ld 99 X.Tgs 98,cal 100 fUnk [97,99],lenOp 101 X.Tgs 100,⟨some 102,.move (.const (.int .i64 0)),none⟩]) (.block 6 (.loop (.seq (.reg [⟨some 103,.binOp .lss X.I (.tmp 102) (.tmp 101) X.I,none⟩]) (.seq (.cond (.tmp 103) (.skip) (.exit 6)) (.seq (.block 7 (.seq (.reg [⟨some 104,.indexAddr X.Tgs (.tmp 100) (.tmp 102),none⟩,ld 105 X.Tg 104,⟨some 19,.alloc X.Tg,none⟩,⟨none,.store X.Tg (.tmp 19) (.tmp 105),none⟩]) (.seq (.reg [fa 106 X.Tg 19 1,ld 107 X.Bs 106,cal 108 fW [107],asg 20 108]) (.seq (.reg [mv 109 10,fa 110 X.Tg 19 0,ld 111 X.U32 110,⟨some 112,.convert X.U32 X.U64 (.tmp 111),none⟩,cal 113 fU [112],⟨some 114,.call ⟨.builtin .append,#[(.tmp 109),(.tmp 113)],#[X.Bs,X.Bs]⟩,none⟩,mv 115 20,lenOp 116 X.Bs 115,⟨some 117,.convert X.I X.U64 (.tmp 116),none⟩,cal 118 fU [117],⟨some 119,.call ⟨.builtin .append,#[(.tmp 114),(.tmp 118)],#[X.Bs,X.Bs]⟩,none⟩,mv 120 20,⟨some 121,.call ⟨.builtin .append,#[(.tmp 119),(.tmp 120)],#[X.Bs,X.Bs]⟩,none⟩,asg 10 121]) (.reg [mv 122 11,⟨some 123,.binOp .add X.I (.tmp 122) (.const (.int .i64 1)) X.I,none⟩,asg 11 123]))))) (.reg [⟨some 124,.binOp .add X.I (.tmp 102) (.const (.int .i64 1)) X.I,none⟩,mv 102 124]))))))) Q a w1:=by
  have hst:=st_facts hX
  have hU8s:=hst.2.2.1.1
  have hlim:lim=70368744177664:=rfl
  have hmost:most=32767:=rfl
  obtain ⟨hTg1,iF,zF,hiF,hzF,hzFs⟩:=arr_of hTg
  refine SC.wp_seq (SC.wp_reg ?_)
  iterate 3 (apply ops_1;(focus (simp (disch:=(try simp only [sPu]);omega) [hst,g0,g7,hc7];try rfl)))
  refine ops_call oUnk (cUnk w1 fs fv ub u uc hfs hlen63 hG hu huc) (by simp (disch:=(try simp only [sPu]);omega)) ?_
  rintro e w2 ⟨ub',uc',rfl,hu2,hb2⟩
  refine ⟨_,rfl,?_⟩
  generalize unknown u=us at *
  repeat (apply ops_1;(focus (simp (disch:=(try simp only [sPu]);omega) [hst];try rfl)))
  refine oNi ?_
  simp only [Exit.then]
  have hsz2:w1.heap.size≤w2.heap.size:=hb2.size
  refine SC.wp_block (SC.wp_loop (fun a4 w5=>∃ (j:Nat),a4.tmps.size=132∧a4.defers=a.defers∧(∀ s,s < 10→getT a4 s=getT a s)∧getT a4 100=.slice ub' us.length uc'∧getT a4 101=.int .i64 (us.length:Int)∧getT a4 102=.int .i64 (j:Int)∧j≤us.length∧getT a4 11=.int .i64 (j:Int) ∧
      Own X.U8 w5 w2.heap.size (getT a4 10) ((us.take j).flatMap wTag)∧Below w2.heap.size w2 w5)
    (fun a4 _=>match getT a4 102 with | .int _ m=>(us.length - m).toNat | _=>0) ⟨0,by simp [sPu,g],by simp [dPu],?_,by simp (disch:=(try simp only [sPu]);omega),by simp (disch:=(try simp only [sPu]);omega),by simp (disch:=(try simp only [sPu]);omega),by omega,by simp (disch:=(try simp only [sPu]);omega) [g11],by simp (disch:=(try simp only [sPu]);omega) [g10];exact own_nil _ _ _,Below.refl _ _⟩ ?_)
  · intro s h1
    simp (disch:=omega) [gTn]
  rintro a4 w5 ⟨j,q,qd,qs,q100,q101,q102,hj,q11,ho,hb5⟩
  have hsz5:w2.heap.size≤w5.heap.size:=hb5.size
  refine SC.wp_seq (SC.wp_reg ?_)
  repeat (apply ops_1;(focus (simp (disch:=(try simp only [sPu]);omega) [hst,q101,q102];try rfl)))
  refine oNi ?_
  simp only [Exit.then]
  refine SC.wp_seq (SC.wp_cond (t:=decide ((j:Int) < (us.length:Int))) (by simp (disch:=(try simp only [sPu]);omega)) ?_)
  cases e1:decide ((j:Int) < (us.length:Int))
  · have hje:j=us.length:=by simp at e1;omega
    subst hje
    rw [if_neg (by simp)]
    refine SC.wp_exit ?_
    simp only [Exit.then,Exit.inBlock,if_true]
    rw [List.take_length] at ho
    refine hQ _ _ (by simp [sPu,q]) (by simp [dPu,qd]) ?_ ?_ (by simp (disch:=(try simp only [sPu]);omega) [q11]) (hb2.trans (hb5.mono hsz2))
    · intro s h1
      rw [← qs s h1]
      simp (disch:=omega) [gTn]
    · refine own_eq (own_down ho hsz2) ?_
      simp (disch:=(try simp only [sPu]);omega)
  · have hjl:j < us.length:=by simp at e1;omega
    rw [if_pos rfl]
    refine SC.wp_skip ?_
    simp only [Exit.then]
    rcases hu2 with hu2 | ⟨b,o,rfl,hbF,hu2⟩
    · subst hu2;simp at hjl
    obtain ⟨hx32,vb,vc,hr2,hvb,hvc⟩:=hu2 j _ (List.getElem?_eq_getElem hjl)
    have hr2':=(rangeV_mono (w:=w5) (hb5.block b hbF) 2 (o+j * 2)).trans hr2
    have ej:(0:Int)≤(j:Int)∧(j:Int) < (us.length:Int):=by omega
    obtain ⟨tf1,tf2⟩:=take_flat us wTag j hjl
    have hcj:(wTag us[j]).length=(uvarint us[j].1).length+((uvarint (whole us[j].2).length).length+(whole us[j].2).length):=by simp [wTag,Nat.add_assoc]
    have hwt:wTag us[j]=uvarint us[j].1 ++ uvarint (whole us[j].2).length ++ whole us[j].2:=rfl
    generalize us[j]=x at *
    refine SC.wp_seq (SC.wp_block (SC.wp_seq (SC.wp_reg ?_)))
    iterate 2 (apply ops_1;(focus (simp (disch:=(try simp only [sPu]);omega) [hst,q100,q102,ej,hr2',hjl];try rfl)))
    refine oNo rfl (opw_alloc hiF hzF ?_)
    refine oNo rfl (opw_store_agg (b:=w5.heap.size) (cs:=[.int .u32 (x.1:Int),.slice vb x.2.length vc]) hTg1 (by simp (disch:=(try simp only [sPu]);omega)) (by simp (disch:=(try simp only [sPu]);omega)) (heap_alloc_new w5 _) (by simp [hzFs]) (by simp [Value.oneCell']) (oNi ?_))
    have hnew:((w5.alloc (.cells zF.cells X.Tg)).setRow w5.heap.size #[.int .u32 (x.1:Int),.slice vb x.2.length vc]).heap[w5.heap.size]?=some (.cells #[.int .u32 (x.1:Int),.slice vb x.2.length vc] X.Tg (0,0)):=setRow_heap _ _ _ _ _ _ (heap_alloc_new w5 _)
    have hb6:Below w5.heap.size w5 ((w5.alloc (.cells zF.cells X.Tg)).setRow w5.heap.size #[.int .u32 (x.1:Int),.slice vb x.2.length vc]):=below_setRow ((Below.refl _ _).alloc (Nat.le_refl _) _) (Nat.le_refl _) _
    have hsz6:((w5.alloc (.cells zF.cells X.Tg)).setRow w5.heap.size #[.int .u32 (x.1:Int),.slice vb x.2.length vc]).heap.size=w5.heap.size+1:=by simp
    simp only [Exit.then,pNo]
    generalize ((w5.alloc (.cells zF.cells X.Tg)).setRow w5.heap.size #[.int .u32 (x.1:Int),.slice vb x.2.length vc])=w6 at *
    have hc6:∀ i,w6.cell? ⟨w5.heap.size,i,none⟩=#[Value.int .u32 (x.1:Int),.slice vb x.2.length vc][i]?:=fun i=>cell_of_row _ _ _ _ _ _ hnew
    refine SC.wp_seq (SC.wp_reg ?_)
    iterate 2 (apply ops_1;(focus (simp (disch:=(try simp only [sPu]);omega) [hst,hc6];try rfl)))
    refine ops_call S.oW (S.cW w6 vb x.2.length vc hvc) (by simp (disch:=(try simp only [sPu]);omega)) ?_
    rintro e w7 ⟨rfl,rfl⟩
    refine ⟨_,rfl,?_⟩
    repeat (apply ops_1;(focus (simp (disch:=(try simp only [sPu]);omega) ;try rfl)))
    refine oNi ?_
    simp only [Exit.then]
    have ewl:(whole x.2).length=min x.2.length most:=by simp [whole,Nat.min_comm]
    refine gen_act (fun a6=>a6.tmps.size=132∧a6.defers=a.defers∧(∀ s,s < 10→getT a6 s=getT a s)∧getT a6 10=getT a4 10∧getT a6 11=.int .i64 (j:Int)∧getT a6 100=.slice (some ⟨b,o,none⟩) us.length uc'∧getT a6 101=.int .i64 (us.length:Int)∧getT a6 102=.int .i64 (j:Int)∧getT a6 19=.pointer (some ⟨w5.heap.size,0,none⟩)∧getT a6 20=.slice vb (whole x.2).length vc)
      ⟨by simp [sPu,q],by simp [dPu,qd],?_,by simp (disch:=(try simp only [sPu]);omega),by simp (disch:=(try simp only [sPu]);omega) [q11],by simp (disch:=(try simp only [sPu]);omega) [q100],by simp (disch:=(try simp only [sPu]);omega) [q101],by simp (disch:=(try simp only [sPu]);omega) [q102],by simp (disch:=(try simp only [sPu]);omega),by simp (disch:=(try simp only [sPu]);omega) [ewl]⟩ ?_
    · intro s h1
      rw [← qs s h1]
      simp (disch:=omega) [gTn]
    rintro a6 ⟨p,pd,ps,p10,p11,p100,p101,p102,p19,p20⟩
    have hwl:(whole x.2).length≤most:=by rw [ewl];omega
    have ek:(x.1:Int) % 18446744073709551616=(x.1:Int):=by omega
    have el:((whole x.2).length:Int) % 18446744073709551616=((whole x.2).length:Int):=by omega
    have hBv6:BytesAt w6 (fun k=>k < w2.heap.size) vb (whole x.2):=bytesAt_mono (bytesAt_whole hvb most) (fun _ h=>h) (fun k hk=>(hb6.block k (by omega)).trans (hb5.block k hk))
    generalize whole x.2=wx at *
    have hl':((us.take j).flatMap wTag).length+(uvarint x.1).length+(uvarint wx.length).length+wx.length≤lim:=by omega
    have ho6:Own X.U8 w6 w2.heap.size (getT a4 10) ((us.take j).flatMap wTag):=own_keep ho hb6
    refine SC.wp_seq (SC.wp_reg ?_)
    iterate 4 (apply ops_1;(focus (simp (disch:=(try simp only [sPu]);omega) [hst,hc6,p10,p19,wrap_u64,ek];try rfl)))
    refine ops_call S.oU (S.cU w6 x.1 (by omega)) (by simp (disch:=(try simp only [sPu]);omega)) ?_
    rintro e w7 ⟨v1,rfl,o1,b1⟩
    refine ⟨v1,rfl,?_⟩
    have s7:w6.heap.size≤w7.heap.size:=b1.size
    refine oNo rfl (opw_appendU8 (B:=w2.heap.size) (dv:=getT a4 10) (xv:=v1) (xs:=(us.take j).flatMap wTag) (bs:=uvarint x.1) hU8s (by simp (disch:=(try simp only [sPu]);omega) [p10]) (by simp (disch:=(try simp only [sPu]);omega)) rfl (own_keep ho6 b1) (by omega) (src_own hU8s o1) (by omega) ?_)
    intro v2 w8 o2 b2 s8 _
    have e117:True:=trivial
    iterate 3 (apply ops_1;(focus (simp (disch:=(try simp only [sPu]);omega) [hst,p20,wrap_u64,el];try rfl)))
    refine ops_call S.oU (S.cU w8 wx.length (by omega)) (by simp (disch:=(try simp only [sPu]);omega)) ?_
    rintro e w9 ⟨v3,rfl,o3,b3⟩
    refine ⟨v3,rfl,?_⟩
    have s9:w8.heap.size≤w9.heap.size:=b3.size
    refine oNo rfl (opw_appendU8 (B:=w2.heap.size) (dv:=v2) (xv:=v3) (xs:=(us.take j).flatMap wTag ++ uvarint x.1) (bs:=uvarint wx.length) hU8s (by simp (disch:=(try simp only [sPu]);omega)) (by simp (disch:=(try simp only [sPu]);omega)) rfl (own_keep o2 b3) (by omega) (src_own hU8s o3) (by rw [List.length_append];omega) ?_)
    intro v4 w10 o4 b4 s10 _
    have b610:Below w2.heap.size w6 w10:=(b1.mono (by omega)).trans (b2.trans ((b3.mono (by omega)).trans b4))
    iterate 1 (apply ops_1;(focus (simp (disch:=(try simp only [sPu]);omega) [p20];try rfl)))
    refine oNo rfl (opw_appendU8 (B:=w2.heap.size) (dv:=v4) (xv:=.slice vb wx.length vc) (xs:=(us.take j).flatMap wTag ++ uvarint x.1 ++ uvarint wx.length) (bs:=wx) hU8s (by simp (disch:=(try simp only [sPu]);omega)) (by simp (disch:=(try simp only [sPu]);omega)) rfl o4 s10 (src_bytes hU8s (bytesAt_mono (F':=fun _=>True) hBv6 (fun _ _=>trivial) (fun k hk=>b610.block k hk)) vc) (by rw [List.length_append,List.length_append];omega) ?_)
    intro v5 w11 o5 b5 s11 _
    repeat (apply ops_1;(focus (simp (disch:=(try simp only [sPu]);omega) ;try rfl)))
    refine oNi ?_
    simp only [Exit.then]
    have ew:IntKind.i64.wrap ((j:Int)+1)=((j+1:Nat):Int):=by rw [wrap_i64'];split <;> omega
    refine SC.wp_reg ?_
    repeat (apply ops_1;(focus (simp (disch:=(try simp only [sPu]);omega) [p11,ew];try rfl)))
    refine oNi ?_
    simp only [Exit.inBlock,Exit.then]
    refine SC.wp_reg ?_
    repeat (apply ops_1;(focus (simp (disch:=(try simp only [sPu]);omega) [p102,ew];try rfl)))
    refine oNi ?_
    refine ⟨⟨j+1,by simp [sPu,p],by simp [dPu,pd],?_,by simp (disch:=(try simp only [sPu]);omega) [p100],by simp (disch:=(try simp only [sPu]);omega) [p101],by simp (disch:=(try simp only [sPu]);omega),by omega,by simp (disch:=(try simp only [sPu]);omega),?_,hb5.trans ((hb6.mono (by omega)).trans (b610.trans b5))⟩,?_⟩
    · intro s h1
      rw [← ps s h1]
      simp (disch:=omega) [gTn]
    · rw [tf1,hwt,← List.append_assoc,← List.append_assoc]
      refine own_eq o5 ?_
      simp (disch:=(try simp only [sPu]);omega)
    · rw [q102]
      simp (disch:=(try simp only [sPu]);omega);omega
end
end Go.Proofs.YtecdefhecaeclaaDoor.K
namespace Go.Proofs.YtecdefhecaeclaaDoor.K
open Go Go.RowKit Go.Proofs.YtecdefhecaeclaaDoor.T
attribute [local simp] eTm eCo pNo gTp gTn qv qcall vop iop
set_option linter.unusedSimpArgs false
set_option linter.unusedVariables false
set_option maxHeartbeats 4000000
theorem insTag_length (t:Nat × Bytes):∀ l,(insTag t l).length≤l.length+1
  | []=>by simp [insTag]
  | x :: r=>by
    simp only [insTag]
    have:=insTag_length t r
    split
    · simp;omega
    · split <;> simp
theorem foldl_ins_length:∀ (l acc:List (Nat × Bytes)),(l.foldl (fun acc t=>insTag t acc) acc).length≤l.length+acc.length
  | [],acc=>by simp
  | x :: l,acc=>by
    simp only [List.foldl_cons,List.length_cons]
    have h1:=foldl_ins_length l (insTag x acc)
    have h2:=insTag_length x acc
    omega
theorem unknown_length (u:List (Nat × Bytes)):(unknown u).length≤most:=by
  have h:=foldl_ins_length (u.take most) []
  have h2:(u.take most).length≤most:=by rw [List.length_take];omega
  unfold unknown
  simp only [List.length_nil] at h
  omega
section
variable {G:List (Nat × Bytes)→Prop} {P:Program} {X:STy} {f:FuncId} {fn:Func} {fW fTh fC fWi fF fU fHas fNull fAt fPart fVal fFld fKn fUs fUnk:FuncId}
theorem known_ok (hX:stOK P X=true) (hTF:arrB P X.F 8=true) (hf:P.funcs[f]?=some fn) (hb:fn.body.map strip=some (sc_known X.Fs X.I X.F X.U32)) (hn:fn.ntmps=23) (hr:fn.results=#[.tmp 2]):KnownC P f:=by
  intro w fs fv hfs hlen63
  have hst:=st_facts hX
  obtain ⟨hTF1,iF,zF,hiF,hzF,hzFs⟩:=arr_of hTF
  obtain ⟨fb,fcap,rfl,hfs⟩:=hfs
  refine fCa hf hb hn (by simp) fun a0 hs hd ha=>?_
  have h0:=ha 0 _ rfl
  simp only [List.getElem_toArray,List.getElem_cons_zero,List.getElem_cons_succ] at h0
  refine SC.wp_seq (SC.wp_reg ?_)
  repeat (apply ops_1;(focus (simp (disch:=(try simp only [sPu]);omega) ;try rfl)))
  refine oNi (SC.wp_seq (SC.wp_reg ?_))
  repeat (apply ops_1;(focus (simp (disch:=(try simp only [sPu]);omega) ;try rfl)))
  refine oNi (SC.wp_seq (SC.wp_seq (SC.wp_reg ?_)))
  repeat (apply ops_1;(focus (simp (disch:=(try simp only [sPu]);omega) [hst,h0];try rfl)))
  refine oNi ?_
  simp only [Exit.then]
  refine SC.wp_block (SC.wp_loop (fun a4 w5=>∃ (j:Nat),a4.tmps.size=23∧a4.defers=[]∧getT a4 6=.slice fb (Fs.len fs) fcap∧getT a4 7=.int .i64 (Fs.len fs:Int)∧getT a4 8=.int .i64 (j:Int)∧j≤Fs.len fs∧getT a4 3=.int .u32 0∧Below w.heap.size w w5)
    (fun a4 _=>match getT a4 8 with | .int _ m=>(Fs.len fs - m).toNat | _=>0) ⟨0,by simp [sPu,hs],by simp [dPu,hd],by simp (disch:=(try simp only [sPu]);omega),by simp (disch:=(try simp only [sPu]);omega),by simp (disch:=(try simp only [sPu]);omega),by omega,by simp (disch:=(try simp only [sPu]);omega),Below.refl _ _⟩ ?_)
  rintro a4 w5 ⟨j,q,qd,q6,q7,q8,hj,q3,hb5⟩
  have hsz5:w.heap.size≤w5.heap.size:=hb5.size
  refine SC.wp_seq (SC.wp_reg ?_)
  repeat (apply ops_1;(focus (simp (disch:=(try simp only [sPu]);omega) [hst,q7,q8];try rfl)))
  refine oNi ?_
  simp only [Exit.then]
  refine SC.wp_seq (SC.wp_cond (t:=decide ((j:Int) < (Fs.len fs:Int))) (by simp (disch:=(try simp only [sPu]);omega)) ?_)
  cases e1:decide ((j:Int) < (Fs.len fs:Int))
  · rw [if_neg (by simp)]
    refine SC.wp_exit ?_
    simp only [Exit.then,Exit.inBlock,if_true]
    refine SC.wp_seq (SC.wp_reg ?_)
    repeat (apply ops_1;(focus (simp (disch:=(try simp only [sPu]);omega) [q3];try rfl)))
    refine oNi (SC.wp_ret (ret_tmp hr (by simp [dPu,qd]) ⟨?_,hb5⟩))
    simp (disch:=(try simp only [sPu]);omega)
  · have hjl:j < Fs.len fs:=by simp at e1;omega
    rw [if_pos rfl]
    refine SC.wp_skip ?_
    simp only [Exit.then]
    obtain ⟨h,ty,hdrop⟩:=drop_cons j fs hjl
    rcases hfs with hfs | ⟨b,o,rfl,hbF,hfs⟩
    · omega
    have hfj:=fsAt_drop j fs b o hfs
    rw [hdrop] at hfj
    simp only [FsAt] at hfj
    obtain ⟨⟨of_,sub,hr8,h1c,hof,hsub⟩,_⟩:=hfj
    have hr8':=(rangeV_mono (w:=w5) (hb5.block b hbF) 8 (o+j * 8)).trans hr8
    have ej:(0:Int)≤(j:Int)∧(j:Int) < (Fs.len fs:Int):=by omega
    refine SC.wp_seq (SC.wp_block (SC.wp_seq (SC.wp_reg ?_)))
    iterate 2 (apply ops_1;(focus (simp (disch:=(try simp only [sPu]);omega) [hst,q6,q8,ej,hr8',hjl];try rfl)))
    refine oNo rfl (opw_alloc hiF hzF ?_)
    refine oNo rfl (opw_store_agg (b:=w5.heap.size) (cs:=[.int .i64 (kindOf ty),.int .i64 h.from_,.int .i64 h.to,.int .i64 h.null,.int .i64 (-1),.int .i64 h.dflt,.int .i64 of_,sub]) hTF1 (by simp (disch:=(try simp only [sPu]);omega)) (by simp (disch:=(try simp only [sPu]);omega)) (heap_alloc_new w5 _) (by simp [hzFs]) (by
      intro v hv
      simp only [List.mem_cons,List.not_mem_nil,or_false] at hv
      rcases hv with rfl | rfl | rfl | rfl | rfl | rfl | rfl | rfl <;> first | rfl | exact h1c) (oNi ?_))
    have hnew:((w5.alloc (.cells zF.cells X.F)).setRow w5.heap.size #[.int .i64 (kindOf ty),.int .i64 h.from_,.int .i64 h.to,.int .i64 h.null,.int .i64 (-1),.int .i64 h.dflt,.int .i64 of_,sub]).heap[w5.heap.size]?=some (.cells #[.int .i64 (kindOf ty),.int .i64 h.from_,.int .i64 h.to,.int .i64 h.null,.int .i64 (-1),.int .i64 h.dflt,.int .i64 of_,sub] X.F (0,0)):=setRow_heap _ _ _ _ _ _ (heap_alloc_new w5 _)
    have hb6:Below w5.heap.size w5 ((w5.alloc (.cells zF.cells X.F)).setRow w5.heap.size #[.int .i64 (kindOf ty),.int .i64 h.from_,.int .i64 h.to,.int .i64 h.null,.int .i64 (-1),.int .i64 h.dflt,.int .i64 of_,sub]):=below_setRow ((Below.refl _ _).alloc (Nat.le_refl _) _) (Nat.le_refl _) _
    simp only [Exit.then,pNo]
    generalize ((w5.alloc (.cells zF.cells X.F)).setRow w5.heap.size #[.int .i64 (kindOf ty),.int .i64 h.from_,.int .i64 h.to,.int .i64 h.null,.int .i64 (-1),.int .i64 h.dflt,.int .i64 of_,sub])=w6 at *
    have hc6:∀ i,w6.cell? ⟨w5.heap.size,i,none⟩=#[Value.int .i64 (kindOf ty),.int .i64 h.from_,.int .i64 h.to,.int .i64 h.null,.int .i64 (-1),.int .i64 h.dflt,.int .i64 of_,sub][i]?:=fun i=>cell_of_row _ _ _ _ _ _ hnew
    refine SC.wp_seq (SC.wp_reg ?_)
    repeat (apply ops_1;(focus (simp (disch:=(try simp only [sPu]);omega) [hst,hc6];try rfl)))
    refine oNi (SC.wp_cond (t:=false) (by simp (disch:=(try simp only [sPu]);omega)) ?_)
    rw [if_neg (by simp)]
    refine SC.wp_skip ?_
    simp only [Exit.inBlock,Exit.then]
    have ew:IntKind.i64.wrap ((j:Int)+1)=((j+1:Nat):Int):=by rw [wrap_i64'];split <;> omega
    refine SC.wp_reg ?_
    repeat (apply ops_1;(focus (simp (disch:=(try simp only [sPu]);omega) [q8,ew];try rfl)))
    refine oNi ?_
    refine ⟨⟨j+1,by simp [sPu,q],by simp [dPu,qd],by simp (disch:=(try simp only [sPu]);omega) [q6],by simp (disch:=(try simp only [sPu]);omega) [q7],by simp (disch:=(try simp only [sPu]);omega),by omega,by simp (disch:=(try simp only [sPu]);omega) [q3],hb5.trans (hb6.mono hsz5)⟩,?_⟩
    rw [q8]
    simp (disch:=(try simp only [sPu]);omega);omega
theorem unkNil_ok (hX:stOK P X=true) (oK:FnOK P fKn) (cK:KnownC P fKn) (hf:P.funcs[f]?=some fn) (hb:fn.body.map strip=some (sc_unknown X.Tgs X.I X.Tg X.U32 fKn)) (hn:fn.ntmps=85) (hr:fn.results=#[.tmp 4]):UnkC (fun u=>u=[]) P f:=by
  intro w fs fv ub u uc hfs hlen63 hG hu huc
  subst hG
  have hst:=st_facts hX
  refine fCa hf hb hn (by simp) fun a0 hs hd ha=>?_
  have h0:=ha 0 _ rfl
  have h1:=ha 1 _ rfl
  simp only [List.getElem_toArray,List.getElem_cons_zero,List.getElem_cons_succ] at h0 h1
  refine SC.wp_seq (SC.wp_reg ?_)
  repeat (first | (apply ops_1;(focus (simp (disch:=(try simp only [sPu]);omega) ;try rfl))) | (apply ops_y;(focus rfl);(focus ((try simp only [sPu]);omega));(focus (simp (disch:=(try simp only [sPu]);omega);done));(focus (simp (disch:=(try simp only [sPu]);omega) ;try rfl))) | (apply ops_n;(focus rfl);(focus ((try simp only [sPu]);omega));(focus (first | (left;simp (disch:=(try simp only [sPu]);omega);done) | (right;simp (disch:=(try simp only [sPu]);omega);done)))))
  refine oNi (SC.wp_seq (SC.wp_reg ?_))
  iterate 1 (first | (apply ops_1;(focus (simp (disch:=(try simp only [sPu]);omega) [h0];try rfl))) | (apply ops_y;(focus rfl);(focus ((try simp only [sPu]);omega));(focus (simp (disch:=(try simp only [sPu]);omega) [h0];done));(focus (simp (disch:=(try simp only [sPu]);omega) [h0];try rfl))) | (apply ops_n;(focus rfl);(focus ((try simp only [sPu]);omega));(focus (first | (left;simp (disch:=(try simp only [sPu]);omega) [h0];done) | (right;simp (disch:=(try simp only [sPu]);omega);done)))))
  refine ops_call oK (cK w fs fv hfs hlen63) (by simp (disch:=(try simp only [sPu]);omega)) ?_
  rintro e w2 ⟨rfl,hb2⟩
  refine ⟨_,rfl,?_⟩
  repeat (first | (apply ops_1;(focus (simp (disch:=(try simp only [sPu]);omega) ;try rfl))) | (apply ops_y;(focus rfl);(focus ((try simp only [sPu]);omega));(focus (simp (disch:=(try simp only [sPu]);omega);done));(focus (simp (disch:=(try simp only [sPu]);omega) ;try rfl))) | (apply ops_n;(focus rfl);(focus ((try simp only [sPu]);omega));(focus (first | (left;simp (disch:=(try simp only [sPu]);omega);done) | (right;simp (disch:=(try simp only [sPu]);omega);done)))))
  refine oNi (SC.wp_seq (SC.wp_reg ?_))
  repeat (first | (apply ops_1;(focus (simp (disch:=(try simp only [sPu]);omega) ;try rfl))) | (apply ops_y;(focus rfl);(focus ((try simp only [sPu]);omega));(focus (simp (disch:=(try simp only [sPu]);omega);done));(focus (simp (disch:=(try simp only [sPu]);omega) ;try rfl))) | (apply ops_n;(focus rfl);(focus ((try simp only [sPu]);omega));(focus (first | (left;simp (disch:=(try simp only [sPu]);omega);done) | (right;simp (disch:=(try simp only [sPu]);omega);done)))))
  refine oNi (SC.wp_seq (SC.wp_seq (SC.wp_reg ?_)))
  repeat (first | (apply ops_1;(focus (simp (disch:=(try simp only [sPu]);omega) [hst,h1];try rfl))) | (apply ops_y;(focus rfl);(focus ((try simp only [sPu]);omega));(focus (simp (disch:=(try simp only [sPu]);omega) [hst,h1];done));(focus (simp (disch:=(try simp only [sPu]);omega) [hst,h1];try rfl))) | (apply ops_n;(focus rfl);(focus ((try simp only [sPu]);omega));(focus (first | (left;simp (disch:=(try simp only [sPu]);omega) [hst,h1];done) | (right;simp (disch:=(try simp only [sPu]);omega);done)))))
  refine oNi ?_
  simp only [Exit.then]
  refine gen_act (fun a6=>a6.tmps.size=85∧a6.defers=[]∧getT a6 6=.slice none 0 0∧getT a6 18=.int .i64 0∧getT a6 19=.int .i64 0)
    ⟨by simp [sPu,hs],by simp [dPu,hd],by simp (disch:=(try simp only [sPu]);omega),by simp (disch:=(try simp only [sPu]);omega),by simp (disch:=(try simp only [sPu]);omega)⟩ ?_
  rintro a6 ⟨p,pd,p6,p18,p19⟩
  refine SC.wp_block (SC.wp_loop (fun a' w'=>a'=a6∧w'=w2) (fun _ _=>0) ⟨rfl,rfl⟩ ?_)
  rintro _ _ ⟨rfl,rfl⟩
  refine SC.wp_seq (SC.wp_reg ?_)
  repeat (first | (apply ops_1;(focus (simp (disch:=(try simp only [sPu]);omega) [p18,p19];try rfl))) | (apply ops_y;(focus rfl);(focus ((try simp only [sPu]);omega));(focus (simp (disch:=(try simp only [sPu]);omega) [p18,p19];done));(focus (simp (disch:=(try simp only [sPu]);omega) [p18,p19];try rfl))) | (apply ops_n;(focus rfl);(focus ((try simp only [sPu]);omega));(focus (first | (left;simp (disch:=(try simp only [sPu]);omega) [p18,p19];done) | (right;simp (disch:=(try simp only [sPu]);omega);done)))))
  refine oNi ?_
  simp only [Exit.then]
  refine SC.wp_seq (SC.wp_cond (t:=false) (by simp (disch:=(try simp only [sPu]);omega)) ?_)
  rw [if_neg (by simp)]
  refine SC.wp_exit ?_
  simp only [Exit.then,Exit.inBlock,if_true]
  refine SC.wp_seq (SC.wp_reg ?_)
  repeat (first | (apply ops_1;(focus (simp (disch:=(try simp only [sPu]);omega) [p6];try rfl))) | (apply ops_y;(focus rfl);(focus ((try simp only [sPu]);omega));(focus (simp (disch:=(try simp only [sPu]);omega) [p6];done));(focus (simp (disch:=(try simp only [sPu]);omega) [p6];try rfl))) | (apply ops_n;(focus rfl);(focus ((try simp only [sPu]);omega));(focus (first | (left;simp (disch:=(try simp only [sPu]);omega) [p6];done) | (right;simp (disch:=(try simp only [sPu]);omega);done)))))
  refine oNi (SC.wp_ret (ret_tmp hr (by simp [dPu,pd]) ⟨none,0,?_,.inl rfl,hb2⟩))
  simp (disch:=(try simp only [sPu]);omega)
  rfl
theorem part_ok (hX:stOK P X=true) (hTF:arrB P X.F 8=true) (hTg:arrB P X.Tg 2=true) (S:SmallC P X fW fTh fC fWi fF fU fHas fNull fAt G) (hm:P.follows .mixedOrders=true) (oF:FnOK P fFld) (cFd:FieldC G P X fFld fPart)
    (oK:FnOK P fKn) (cK:KnownC P fKn) (oUnk:FnOK P fUnk) (cUnk:UnkC G P fUnk)
    (hf:P.funcs[f]?=some fn) (hb:fn.body.map strip=some (sc_part X.T X.Fs X.I X.F X.Bs X.B X.U32 X.U64 X.Tgs X.Tg fHas fAt fFld fKn fUs fU fUnk fW)) (hn:fn.ntmps=132) (hr:fn.results=#[.tmp 8])
    (fs:Fs) (hlen63:Fs.len fs < 4294967296) (cP:SubsC (PartC G P X fPart) fs):PartC G P X f fs:=by
  intro w fv ver flex tv t hfv ht hl
  have hst:=st_facts hX
  have hU8s:=hst.2.2.1.1
  have hlim:lim=70368744177664:=rfl
  have hmost:most=32767:=rfl
  refine fCa hf hb hn (by simp) fun a0 hs hd ha=>?_
  have h0:=ha 0 _ rfl
  have h1:=ha 1 _ rfl
  have h2:=ha 2 _ rfl
  have h3:=ha 3 _ rfl
  simp only [List.getElem_toArray,List.getElem_cons_zero,List.getElem_cons_succ] at h0 h1 h2 h3
  have ht0:=ht
  have hfv0:=hfv
  cases ht with
  | mk n s tnull l u sb lb ub sc lc uc b o cs hs1 hsc hlc huc hll hrr htt hG hu =>
  obtain ⟨fb,fcap,rfl,hfs⟩:=hfv
  refine SC.wp_seq (SC.wp_reg (ops_box (B:=w.heap.size) (w0:=w) (by rw [eTm,h3];rfl) (Nat.le_refl _) (Below.refl _ _) fun w1 q1 q2 q3 hc q5=>?_))
  repeat (first | (apply ops_1;(focus (simp (disch:=(try simp only [sPu]);omega) ;try rfl))) | (apply ops_y;(focus rfl);(focus ((try simp only [sPu]);omega));(focus (simp (disch:=(try simp only [sPu]);omega);done));(focus (simp (disch:=(try simp only [sPu]);omega) ;try rfl))) | (apply ops_n;(focus rfl);(focus ((try simp only [sPu]);omega));(focus (first | (left;simp (disch:=(try simp only [sPu]);omega);done) | (right;simp (disch:=(try simp only [sPu]);omega);done)))))
  refine oNi (SC.wp_seq (SC.wp_reg ?_))
  repeat (first | (apply ops_1;(focus (simp (disch:=(try simp only [sPu]);omega) ;try rfl))) | (apply ops_y;(focus rfl);(focus ((try simp only [sPu]);omega));(focus (simp (disch:=(try simp only [sPu]);omega);done));(focus (simp (disch:=(try simp only [sPu]);omega) ;try rfl))) | (apply ops_n;(focus rfl);(focus ((try simp only [sPu]);omega));(focus (first | (left;simp (disch:=(try simp only [sPu]);omega);done) | (right;simp (disch:=(try simp only [sPu]);omega);done)))))
  refine oNi (SC.wp_seq (SC.wp_reg ?_))
  repeat (first | (apply ops_1;(focus (simp (disch:=(try simp only [sPu]);omega) ;try rfl))) | (apply ops_y;(focus rfl);(focus ((try simp only [sPu]);omega));(focus (simp (disch:=(try simp only [sPu]);omega);done));(focus (simp (disch:=(try simp only [sPu]);omega) ;try rfl))) | (apply ops_n;(focus rfl);(focus ((try simp only [sPu]);omega));(focus (first | (left;simp (disch:=(try simp only [sPu]);omega);done) | (right;simp (disch:=(try simp only [sPu]);omega);done)))))
  refine oNi ?_
  simp only [Exit.then]
  clear q1 q5
  have hT5:rangeV w1 w.heap.size 0 5=some [.int .i64 n,.slice sb s.length sc,.bool tnull,.slice lb l.length lc,.slice ub u.length uc]:=by simp [rangeV,hc]
  have hlF:(wFs ver flex fs (Tree.mk n s tnull l u).l).length≤lim:=by rw [List.length_append] at hl;omega
  have fin:∀ (a:Act) (w':World) (v:Value) (out:Bytes),a.defers=[]→getT a 8=v→Own X.U8 w' w.heap.size v out→Below w.heap.size w w'→out=wFs ver flex fs (Tree.mk n s tnull l u).l ++ wTags flex (Tree.mk n s tnull l u).u →
      bodyPost P fn (RetOwn X.U8 w (wFs ver flex fs (Tree.mk n s tnull l u).l ++ wTags flex (Tree.mk n s tnull l u).u)) .ret a w':=by
    intro a w' v out p1 p2 p3 p4 p5
    subst p5
    exact ret_tmp hr p1 ⟨v,by rw [p2],p3,p4⟩
  refine SC.wp_seq (fields_loop hX hTF S hm oF cFd (w:=w) fs fb fcap cP hfs hlen63 ver flex _ n _ _ _ tnull ht0 q2 (by omega) hT5 (by simp [sPu,hs]) (by simp (disch:=(try simp only [sPu]);omega) [h0]) (by simp (disch:=(try simp only [sPu]);omega) [h1]) (by simp (disch:=(try simp only [sPu]);omega) [h2]) (by simp (disch:=(try simp only [sPu]);omega)) (by simp (disch:=(try simp only [sPu]);omega)) hlF ?_)
  intro a2 w2 p pd ps po hb2
  have k0:getT a2 0=.slice fb (Fs.len fs) fcap:=by rw [ps 0 (by decide) (by decide)];simp (disch:=(try simp only [sPu]);omega) [h0]
  have k2:getT a2 2=.bool flex:=by rw [ps 2 (by decide) (by decide)];simp (disch:=(try simp only [sPu]);omega) [h2]
  have k7:getT a2 7=.pointer (some ⟨w.heap.size,0,none⟩):=by rw [ps 7 (by decide) (by decide)];simp (disch:=(try simp only [sPu]);omega)
  have k10:getT a2 10=.slice none 0 0:=by rw [ps 10 (by decide) (by decide)];simp (disch:=(try simp only [sPu]);omega)
  have k11:getT a2 11=.int .i64 0:=by rw [ps 11 (by decide) (by decide)];simp (disch:=(try simp only [sPu]);omega)
  have pd2:a2.defers=[]:=by rw [pd];simp [dPu,hd]
  have hsz2:w.heap.size+1≤w2.heap.size:=by have:=hb2.size;omega
  have hbw2:Below w.heap.size w w2:=q2.trans (hb2.mono (by omega))
  clear ps pd hs hd h0 h1 h2 h3 ha
  simp only [Exit.then]
  refine SC.wp_seq (SC.wp_seq (SC.wp_reg ?_))
  repeat (first | (apply ops_1;(focus (simp (disch:=(try simp only [sPu]);omega) [k2];try rfl))) | (apply ops_y;(focus rfl);(focus ((try simp only [sPu]);omega));(focus (simp (disch:=(try simp only [sPu]);omega) [k2];done));(focus (simp (disch:=(try simp only [sPu]);omega) [k2];try rfl))) | (apply ops_n;(focus rfl);(focus ((try simp only [sPu]);omega));(focus (first | (left;simp (disch:=(try simp only [sPu]);omega) [k2];done) | (right;simp (disch:=(try simp only [sPu]);omega);done)))))
  refine oNi ?_
  simp only [Exit.then]
  refine SC.wp_cond (t:=!flex) (by simp (disch:=(try simp only [sPu]);omega)) ?_
  cases flex
  · rw [if_pos (by rfl)]
    refine SC.wp_seq (SC.wp_reg ?_)
    repeat (first | (apply ops_1;(focus (simp (disch:=(try simp only [sPu]);omega) ;try rfl))) | (apply ops_y;(focus rfl);(focus ((try simp only [sPu]);omega));(focus (simp (disch:=(try simp only [sPu]);omega);done));(focus (simp (disch:=(try simp only [sPu]);omega) ;try rfl))) | (apply ops_n;(focus rfl);(focus ((try simp only [sPu]);omega));(focus (first | (left;simp (disch:=(try simp only [sPu]);omega);done) | (right;simp (disch:=(try simp only [sPu]);omega);done)))))
    refine oNi (SC.wp_ret ?_)
    simp only [Exit.then]
    refine fin _ _ (getT a2 9) _ (by simp [dPu,pd2]) (by simp (disch:=(try simp only [sPu]);omega)) (own_down po (by omega)) hbw2 (by simp [wTags])
  · rw [if_neg (by simp)]
    refine SC.wp_skip ?_
    simp only [Exit.then]
    refine SC.wp_seq (SC.wp_seq (SC.wp_reg ?_))
    iterate 1 (first | (apply ops_1;(focus (simp (disch:=(try simp only [sPu]);omega) [k0];try rfl))) | (apply ops_y;(focus rfl);(focus ((try simp only [sPu]);omega));(focus (simp (disch:=(try simp only [sPu]);omega) [k0];done));(focus (simp (disch:=(try simp only [sPu]);omega) [k0];try rfl))) | (apply ops_n;(focus rfl);(focus ((try simp only [sPu]);omega));(focus (first | (left;simp (disch:=(try simp only [sPu]);omega) [k0];done) | (right;simp (disch:=(try simp only [sPu]);omega);done)))))
    refine ops_call oK (cK w2 fs _ (FsV.down hbw2 (by omega) hfv0) hlen63) (by simp (disch:=(try simp only [sPu]);omega)) ?_
    rintro e w3 ⟨rfl,hb3⟩
    refine ⟨_,rfl,?_⟩
    have ew0:IntKind.i64.wrap 0=0:=rfl
    repeat (first | (apply ops_1;(focus (simp (disch:=(try simp only [sPu]);omega) [hst,ew0];try rfl))) | (apply ops_y;(focus rfl);(focus ((try simp only [sPu]);omega));(focus (simp (disch:=(try simp only [sPu]);omega) [hst,ew0];done));(focus (simp (disch:=(try simp only [sPu]);omega) [hst,ew0];try rfl))) | (apply ops_n;(focus rfl);(focus ((try simp only [sPu]);omega));(focus (first | (left;simp (disch:=(try simp only [sPu]);omega) [hst,ew0];done) | (right;simp (disch:=(try simp only [sPu]);omega);done)))))
    refine oNi ?_
    simp only [Exit.then]
    refine gen_act (fun a6=>a6.tmps.size=132∧a6.defers=[]∧getT a6 0=.slice fb (Fs.len fs) fcap∧getT a6 7=.pointer (some ⟨w.heap.size,0,none⟩)∧getT a6 9=getT a2 9∧getT a6 10=.slice none 0 0∧getT a6 11=.int .i64 0∧getT a6 51=.int .i64 0∧getT a6 52=.int .i64 0)
      ⟨by simp [sPu,p],by simp [dPu,pd2],by simp (disch:=(try simp only [sPu]);omega) [k0],by simp (disch:=(try simp only [sPu]);omega) [k7],by simp (disch:=(try simp only [sPu]);omega),by simp (disch:=(try simp only [sPu]);omega) [k10],by simp (disch:=(try simp only [sPu]);omega) [k11],by simp (disch:=(try simp only [sPu]);omega),by simp (disch:=(try simp only [sPu]);omega)⟩ ?_
    rintro a6 ⟨z,zd,z0,z7,z9,z10,z11,z51,z52⟩
    refine SC.wp_block (SC.wp_loop (fun a' w'=>a'=a6∧w'=w3) (fun _ _=>0) ⟨rfl,rfl⟩ ?_)
    rintro _ _ ⟨rfl,rfl⟩
    rename_i a6 w3
    refine SC.wp_seq (SC.wp_reg ?_)
    repeat (first | (apply ops_1;(focus (simp (disch:=(try simp only [sPu]);omega) [z51,z52];try rfl))) | (apply ops_y;(focus rfl);(focus ((try simp only [sPu]);omega));(focus (simp (disch:=(try simp only [sPu]);omega) [z51,z52];done));(focus (simp (disch:=(try simp only [sPu]);omega) [z51,z52];try rfl))) | (apply ops_n;(focus rfl);(focus ((try simp only [sPu]);omega));(focus (first | (left;simp (disch:=(try simp only [sPu]);omega) [z51,z52];done) | (right;simp (disch:=(try simp only [sPu]);omega);done)))))
    refine oNi ?_
    simp only [Exit.then]
    refine SC.wp_seq (SC.wp_cond (t:=false) (by simp (disch:=(try simp only [sPu]);omega)) ?_)
    rw [if_neg (by simp)]
    refine SC.wp_exit ?_
    simp only [Exit.then,Exit.inBlock,if_true]
    have hsz3:w2.heap.size≤w3.heap.size:=hb3.size
    have hbw3:Below w.heap.size w w3:=hbw2.trans (hb3.mono (by omega))
    have hc3:∀ j,w3.cell? ⟨w.heap.size,j,none⟩=#[Value.int .i64 n,.slice sb s.length sc,.bool tnull,.slice lb l.length lc,.slice ub u.length uc][j]?:=fun j =>
      (World.cell?_of_block (w:=w1) (w':=w3) (a:=⟨w.heap.size,j,none⟩) ((hb3.block w.heap.size (by omega)).trans (hb2.block w.heap.size (by omega)))).trans (hc j)
    have hul:=unknown_length u
    have htl:((unknown u).flatMap wTag).length≤lim∧(wFs ver true fs l).length+((uvarint (unknown u).length).length+((unknown u).flatMap wTag).length)≤lim:=by
      simp only [wTags,if_true,List.length_append,Tree.l,Tree.u] at hl
      omega
    refine SC.wp_seq (tags_loop hX hTg S oUnk cUnk fs _ (FsV.down hbw3 (by omega) hfv0) hlen63 w.heap.size (by omega) n _ _ tnull ub u uc huc hG (tagsAt_mono hu (fun k hk=>by have:k < w.heap.size:=hk;show k < w3.heap.size;omega) (fun k hk=>hbw3.block k hk)) hc3 (by simp [sPu,z]) (by simp (disch:=(try simp only [sPu]);omega) [z0]) (by simp (disch:=(try simp only [sPu]);omega) [z7]) (by simp (disch:=(try simp only [sPu]);omega) [z10]) (by simp (disch:=(try simp only [sPu]);omega) [z11]) htl.1 hul ?_)
    intro a7 w4 y yd ys yo y11 hb4
    have y9:getT a7 9=getT a2 9:=by rw [ys 9 (by decide)];simp (disch:=(try simp only [sPu]);omega) [z9]
    have yd2:a7.defers=[]:=by rw [yd];simp [dPu,zd]
    have hsz4:w3.heap.size≤w4.heap.size:=hb4.size
    simp only [Exit.then]
    have eu:((unknown u).length:Int) % 18446744073709551616=((unknown u).length:Int):=by omega
    refine SC.wp_seq (SC.wp_reg ?_)
    iterate 3 (first | (apply ops_1;(focus (simp (disch:=(try simp only [sPu]);omega) [hst,y9,y11,wrap_u64,eu];try rfl))) | (apply ops_y;(focus rfl);(focus ((try simp only [sPu]);omega));(focus (simp (disch:=(try simp only [sPu]);omega) [hst,y9,y11,wrap_u64,eu];done));(focus (simp (disch:=(try simp only [sPu]);omega) [hst,y9,y11,wrap_u64,eu];try rfl))) | (apply ops_n;(focus rfl);(focus ((try simp only [sPu]);omega));(focus (first | (left;simp (disch:=(try simp only [sPu]);omega) [hst,y9,y11,wrap_u64,eu];done) | (right;simp (disch:=(try simp only [sPu]);omega);done)))))
    refine ops_call S.oU (S.cU w4 (unknown u).length (by omega)) (by simp (disch:=(try simp only [sPu]);omega)) ?_
    rintro e w5 ⟨v1,rfl,o1,b1⟩
    refine ⟨v1,rfl,?_⟩
    have hsz5:w4.heap.size≤w5.heap.size:=b1.size
    have hb25:Below w2.heap.size w2 w5:=hb3.trans ((hb4.mono hsz3).trans (b1.mono (by omega)))
    have po5:Own X.U8 w5 (w.heap.size+1) (getT a2 9) (wFs ver true fs l):=own_keep po hb25
    refine oNo rfl (opw_appendU8 (B:=w.heap.size+1) (dv:=getT a2 9) (xv:=v1) (xs:=wFs ver true fs l) (bs:=uvarint (unknown u).length) hU8s (by simp (disch:=(try simp only [sPu]);omega)) (by simp (disch:=(try simp only [sPu]);omega)) rfl po5 (by omega) (src_own hU8s o1) (by omega) ?_)
    intro v2 w6 o2 b2 s6 g6
    have yo5:=own_keep yo b1
    have yo6:Own X.U8 w6 w3.heap.size (getT a7 10) ((unknown u).flatMap wTag):=own_same yo5 (fun k hk=>by
      have h1:=own_lt yo5 k hk
      refine g6.block k h1.2 (fun e=>?_)
      have h2:=own_lt po k e.symm
      omega)
    iterate 1 (first | (apply ops_1;(focus (simp (disch:=(try simp only [sPu]);omega) ;try rfl))) | (apply ops_y;(focus rfl);(focus ((try simp only [sPu]);omega));(focus (simp (disch:=(try simp only [sPu]);omega);done));(focus (simp (disch:=(try simp only [sPu]);omega) ;try rfl))) | (apply ops_n;(focus rfl);(focus ((try simp only [sPu]);omega));(focus (first | (left;simp (disch:=(try simp only [sPu]);omega);done) | (right;simp (disch:=(try simp only [sPu]);omega);done)))))
    refine oNo rfl (opw_appendU8 (B:=w.heap.size+1) (dv:=v2) (xv:=getT a7 10) (xs:=wFs ver true fs l ++ uvarint (unknown u).length) (bs:=(unknown u).flatMap wTag) hU8s (by simp (disch:=(try simp only [sPu]);omega)) (by simp (disch:=(try simp only [sPu]);omega)) rfl o2 s6 (src_own hU8s yo6) (by rw [List.length_append];omega) ?_)
    intro v3 w7 o3 b3 s7 _
    repeat (first | (apply ops_1;(focus (simp (disch:=(try simp only [sPu]);omega) ;try rfl))) | (apply ops_y;(focus rfl);(focus ((try simp only [sPu]);omega));(focus (simp (disch:=(try simp only [sPu]);omega);done));(focus (simp (disch:=(try simp only [sPu]);omega) ;try rfl))) | (apply ops_n;(focus rfl);(focus ((try simp only [sPu]);omega));(focus (first | (left;simp (disch:=(try simp only [sPu]);omega);done) | (right;simp (disch:=(try simp only [sPu]);omega);done)))))
    refine oNi (SC.wp_ret ?_)
    try simp only [Exit.then]
    refine fin _ _ v3 _ (by simp [dPu,yd2]) (by simp (disch:=(try simp only [sPu]);omega)) (own_down o3 (by omega)) (hbw2.trans ((hb25.mono (by omega)).trans ((b2.mono (by omega)).trans (b3.mono (by omega))))) (by simp [wTags,Tree.l,Tree.u])
end
end Go.Proofs.YtecdefhecaeclaaDoor.K
