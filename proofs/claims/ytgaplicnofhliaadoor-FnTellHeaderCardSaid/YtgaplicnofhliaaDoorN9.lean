/- Generic texts: R20 R21 R22 R23 S18 R24 H1 Z3 H2 H3. No condition. -/
import Derived.Test.YtgaplicnofhliaaDoorN8
namespace Go.Proofs.YtgaplicnofhliaaDoor.K
open Go Go.RowKit Go.Proofs.YtgaplicnofhliaaDoor.T
attribute [local simp] eTm eCo pNo gTp gTn qv qcall vop iop
set_option linter.unusedVariables false
set_option linter.unusedSimpArgs false
def rdNew (P:Program) (TR:Nat):Bool:=aggB P TR 2 && (match P.info? TR,P.underlying TR with
  | some it,some (.struct fs)=>(match it.zero with | some z=>(match z.cells.toList with | [.slice none 0 0,.bool false]=>true | _=>false) | none=>false) &&
      (match fs.toList.mapM (fun f=>(P.info? f.type).map fun i=>(f.offset,i.size)) with | some [(0,1),(1,1)]=>true | _=>false)
  | _,_=>false)
theorem rdNew_of {P:Program} {TR:Nat} (h:rdNew P TR=true):aggB P TR 2=true∧(∃ it z,P.info? TR=some it∧it.zero=some z∧z.cells=#[.slice none 0 0,.bool false])∧∀ v:Value,v.oneCell'=true→P.built TR [(0,v)]=some #[v,.bool false]:=by
  simp only [rdNew,Bool.and_eq_true] at h
  obtain ⟨h1,h⟩:=h
  split at h <;> try (simp at h;done)
  rename_i it fs hi hu
  simp only [Bool.and_eq_true] at h
  obtain ⟨hz,hp⟩:=h
  split at hz <;> try (simp at hz;done)
  rename_i z hz0
  split at hz <;> try (simp at hz;done)
  rename_i hzl
  have hzc:z.cells=#[.slice none 0 0,.bool false]:=Array.ext' (by simpa using hzl)
  split at hp <;> try (simp at hp;done)
  rename_i hpl
  refine ⟨h1,⟨it,z,hi,hz0,hzc⟩,fun v hv=>?_⟩
  have hvc:=cells_oneCell hv
  simp only [Program.built,hi,hu,hz0,hpl,hzc]
  simp [Instr.fill,hvc]
def topEnd (size:Nat):Option (Nat × Nat)→Nat
  | none=>size
  | some (_,off)=>off
theorem wpL_gen {P:Program} {l:List SC} {Q:Exit→Act→World→Prop} {a:Act} {w:World} (C:Act→Prop) (ha:C a) (h:∀ a,C a→wpL P Q l a w):wpL P Q l a w:=h a ha
theorem top_body {X:RX} {fs:Fs} {S p v t bk b o lo size:Nat} {tags:Option (Nat × Nat)} {O:Nat→Prop} {a:Act} {w:World} {st:Option Bytes} {Q:Exit→Act→World→Prop} {rest:List SC} (hX:X.ok)
    (hok:okRFs X.P X.I X.c S fs=true) (hokt:okRTags X.P X.I X.c S tags=true) (hlay:layFs lo (topEnd size tags) fs=true) (hszt:∀ f off,tags=some (f,off)→off < size∧lo≤off) (hlo:lo≤size) (hdef:DefFs X.P fs) (hi:RInv X a w st) (hp:getT a p=.pointer (some ⟨b,o,none⟩)) (ho:Opn X O b w) (hrow:RowAt w b o size) (hfr:FrFs w b fs o)
    (hpv:p < v) (hv:10≤v) (hvT:v+rVs fs≤X.T0) (ht:X.T0≤t) (htN:t+rFT X.c fs+rTagsT tags≤X.N)
    (hQ:∀ a' w',RInv X a' w' (after st (pBody X.ver X.flex fs))→RSame X a a' v t→Foot X.rb b (o+lo) (o+size) w w' →
      (∀ r x r',st=some r→pBody X.ver X.flex fs r=some (x,r')→FitFs X.ver fs x.l→FitTags x.u→HFs X.G w' (FO O w') X.ver X.flex fs b o x.l∧TagsAt X.G w' (FO O w') X.flex b o tags x.u)→wpL X.P Q rest a' w')
    (hR:RetOK X Q (after st (pBody X.ver X.flex fs)=none)) :
    wpL X.P Q (rFs X.I X.c S p v t bk fs ++ (rTagsL X.I S p tags (t+rFT X.c fs) ++ rest)) a w:=by
  obtain ⟨n,hlf,hns,hn⟩:∃ n,layFs lo n fs=true∧n≤size∧(tags=none∧n=size∨∃ f,tags=some (f,n)):=by
    cases tags with
    | none=>exact ⟨size,hlay,Nat.le_refl _,.inl ⟨rfl,rfl⟩⟩
    | some z=>exact ⟨z.2,hlay,Nat.le_of_lt (hszt z.1 z.2 rfl).1,.inr ⟨z.1,rfl⟩⟩
  have hln:lo≤n:=by
    rcases hn with ⟨rfl,rfl⟩ | ⟨f,rfl⟩
    · exact hlo
    · exact (hszt f n rfl).2
  refine fs_all hX fs S p v t bk b o lo n O a w st Q _ hok hlf hdef hi hp ho (hrow.mono (by omega)) hfr hpv hv hvT ht (by omega) ?_ ?_
  · intro a1 w1 hi1 hs1 hf1 hv1
    refine rTags_ok hX hokt hi1 ((hs1 p (.inl hpv)).trans hp) (ho.mono hf1.size) (hf1.rowAt hrow) (fun f off e=>(hszt f off e).1) (by omega) (by omega) htN ?_
    intro a2 w2 hi2 hs2 hf2 hv2
    refine hQ a2 w2 (by rw [after_body];exact hi2) (fun s hs=>(hs2 s (by omega)).trans (hs1 s hs)) ?_ ?_
    · refine (hf1.mono (by omega) (by omega)).trans (hf2.mono ?_ (Nat.le_refl _))
      rcases hn with ⟨rfl,rfl⟩ | ⟨f,rfl⟩
      · simp only;omega
      · simp only;omega
    · intro r x r' hst hpx hfit hfu
      unfold pBody at hpx
      obtain ⟨xs,r1,q1,q2⟩:=rThen_some hpx
      obtain ⟨u,r2,q3,q4⟩:=rThen_some q2
      obtain ⟨rfl,rfl⟩:=rOk_some q4
      have hst2:after st (pFs X.ver X.flex fs)=some r1:=by rw [hst];exact after_ok q1
      refine ⟨?_,hv2 r1 u _ hst2 q3 hfu⟩
      have h1:=hv1 r xs r1 hst q1 hfit
      refine hFs_frame (hf2.fo (ho.mono hf1.size)) X.ver X.flex fs lo n b o xs hlf (fun j h1 h2=>hf2.cell (hf1.rowAt hrow) ?_) h1
      rcases hn with ⟨rfl,rfl⟩ | ⟨f,rfl⟩
      · left;simp only;omega
      · left;simp only;omega
  · intro a' w' h1 h2 h3 h4
    refine hR a' w' h1 h2 h3 ?_
    rw [after_body,h4]
    rfl
structure RTop where
  S:Nat
  size:Nat
  d:Nat
  t:Nat
  N:Nat
  flex:Option Int
  tags:Option (Nat × Nat)
  fs:Fs
def RTop.chk (P:Program) (I:RIds) (M:RTop):Bool :=
  okRFs P I (rCtx M.flex) M.S M.fs && okRTags P I (rCtx M.flex) M.S M.tags && layFs 1 (topEnd M.size M.tags) M.fs && (match M.tags with | none=>true | some (_,off)=>decide (off < M.size∧1≤off)) &&
  decide (1≤M.size∧rS M.flex+1+rVs M.fs≤M.t∧rT1 M.t M.flex+1+rFT (rCtx M.flex) M.fs+rTagsT M.tags+1≤M.N) && fieldB P M.S 0 0 && intB P I.tI16 .i16 && oneB P I.tI16 && rdNew P I.tRd
def ReadC (P:Program) (I:RIds) (M:RTop) (B:Nat) (G:List (Nat × Bytes)→Prop) (err:Value) (F:FuncId) (w0:World):Prop :=
  ∀ (S:Option Nat) (b:Nat) (cs:Array Value) (E:TypeId) (base:Option Addr) (src:Bytes) (cap:Nat) (ver:Int),0≤ver→B≤b→B≤w0.heap.size→w0.heap[b]?=some (.cells cs E (0,0))→M.size≤cs.size→cs[0]?=some (.int .i16 ver) →
    FrFs w0 b M.fs 0→src.length≤cap→SrcAt w0 S base src→(∀ sb,S=some sb→sb ≠ b∧sb < w0.heap.size) →
    Calls P F #[.pointer (some ⟨b,0,none⟩),.slice base src.length cap,.bool false] w0 fun e w'=>Below B w0 w'∧B≤w'.heap.size ∧
      match pBody ver (flexAt M.flex ver) M.fs src with
      | none=>e=.returned err
      | some (x,r)=>e=.returned .nilIface∧b < w'.heap.size∧w'.cell? ⟨b,0,none⟩=some (.int .i16 ver) ∧
        (FitFs ver M.fs x.l→FitTags x.u→∃ F:Nat→Prop,(∀ k,F k→k < w'.heap.size)∧HFs G w' F ver (flexAt M.flex ver) M.fs b 0 x.l∧TagsAt G w' F (flexAt M.flex ver) b 0 M.tags x.u)
section
variable {P:Program} {I:RIds} {M:RTop} {B:Nat} {G:List (Nat × Bytes)→Prop} {err:Value} {Gl:World→Prop} {gb:Nat} {f:FuncId} {fn:Func} {w0:World}
theorem readFrom_ok {out:List (Nat × Value)} (hk:KR P I I.tRd gb err Gl) (hG:∀ u,G u) (hgl:∀ w,Below B w0 w→Gl w) (hgb:gb < B) (hchk:M.chk P I=true) (hdef:DefFs P M.fs) (hd:DefAt P M.d M.size out) (hout:outFs out M.fs 0=true) (hoa:(out.all fun x=>decide (x.1 < M.size∧0 < x.1))=true)
    (hf:P.funcs[f]?=some fn) (hb:fn.body.map strip=some (rTop I M.S M.d M.t M.flex M.tags M.fs)) (hn:fn.ntmps=M.N) (hr:fn.results=#[.tmp 6]):ReadC P I M B G err f w0:=by
  intro S b cs E base src cap ver hver hBb hBw hcs hlen hvc hfr hcap hsr hsrc
  simp only [RTop.chk,Bool.and_eq_true,decide_eq_true_eq] at hchk
  obtain ⟨⟨⟨⟨⟨⟨⟨⟨c1,c2⟩,c3⟩,c4⟩,c5,c6,c7⟩,c8⟩,c9⟩,c10⟩,c11⟩:=hchk
  obtain ⟨r1,⟨rit,rz,rzi,rzz,rzc⟩,r3⟩:=rdNew_of c11
  have hrS:9≤rS M.flex:=by cases M.flex <;> simp [rS]
  have hbl:b < w0.heap.size:=(Array.getElem?_eq_some_iff.1 hcs).1
  have hoa':∀ x ∈ out,x.1 < M.size∧0 < x.1:=fun x hx=>by simpa using (List.all_eq_true.1 hoa) x hx
  have hT1:M.t+9≤rT1 M.t M.flex:=by cases M.flex <;> simp [rT1]
  refine fCa hf hb hn (by simp;omega) fun a0 hs hdf ha=>?_
  have h0:=ha 0 _ rfl
  have h1:=ha 1 _ rfl
  have h2:=ha 2 _ rfl
  simp only [List.getElem_toArray,List.getElem_cons_zero,List.getElem_cons_succ] at h0 h1 h2
  refine wpL_seqs _ _ _ ?_
  simp only [List.cons_append,List.nil_append,wpL]
  refine SC.wp_reg (oNo rfl (opw_assign (oNi ?_)))
  simp only [Exit.then,eCo]
  refine SC.wp_reg (ops_mv (ops_call (argsV:=#[.pointer (some ⟨b,0,none⟩)]) hd.1 (hd.2 w0 b 0 cs E hcs (by omega)) (by simp (disch:=(try simp only [sPu]);omega) [h0]) ?_))
  rintro e w1 ⟨rfl,hw1⟩
  refine ⟨_,rfl,oNi ?_⟩
  simp only [Exit.then]
  have hds:(dSetAll 0 out cs).size=cs.size:=dSetAll_size _ _ _
  have hrow1:w1.heap[b]?=some (.cells (dSetAll 0 out cs) E (0,0)):=by rw [hw1];exact setRow_heap _ _ _ _ _ _ hcs
  have hoth1:∀ k,k ≠ b→w1.heap[k]?=w0.heap[k]?:=fun k hk=>by rw [hw1];exact setRow_other _ _ _ _ hk
  have hsz1:w1.heap.size=w0.heap.size:=by rw [hw1];simp
  have hbelow1:Below B w0 w1:=by rw [hw1];exact ⟨rfl,rfl,rfl,by simp,fun k hk=>setRow_other _ _ _ _ (by omega)⟩
  have hv1:(dSetAll 0 out cs)[0]?=some (.int .i16 ver):=by
    rw [dSetAll_other out cs fun x hx=>by have:=(hoa' x hx).2;omega]
    exact hvc
  have hfr1:FrFs w1 b M.fs 0:=by
    have:=outFs_ok (w:=w0) (w':=w1) (b:=b) (q:=0) (out:=out) (fun j hj=>by
      rw [Nat.zero_add,cell_of_row _ _ _ _ _ _ hrow1,cell_of_row _ _ _ _ _ _ hcs]
      exact dSetAll_other out cs fun x hx=>by rw [Nat.zero_add];exact hj x hx) M.fs 0 hout (by simpa using hfr)
    simpa using this
  refine SC.wp_reg (ops_mv (oNo rfl (opw_build (cs:=#[.slice base src.length cap,.bool false]) ?_ (oNo rfl (opw_alloc rzi rzz ?_)))))
  · have:(#[(0,Operand.tmp (M.t+2))].map fun x:Nat × Operand=>(x.1,Act.eval (((((a0.put (some 6) .nilIface).put (some M.t) (getT (a0.put (some 6) .nilIface) 0)).put (some (M.t+1)) (.tuple #[])).put (some (M.t+2)) (getT (((a0.put (some 6) .nilIface).put (some M.t) (getT (a0.put (some 6) .nilIface) 0)).put (some (M.t+1)) (.tuple #[])) 1))) x.2)).toList=[(0,.slice base src.length cap)]:=by
      simp only [List.map_toArray,List.map_cons,List.map_nil]
      rw [eTm,gTp (by simp only [sPu];omega),gTn (by omega),gTn (by omega),gTn (by omega),h1]
    rw [this]
    exact r3 _ rfl
  have hnew:=heap_alloc_new w1 (.cells rz.cells I.tRd)
  refine oNo rfl (opw_store_agg (cs:=[.slice base src.length cap,.bool false]) (cur:=rz.cells) (b:=w1.heap.size) (E:=I.tRd) r1 (by simp (disch:=(try simp only [sPu]);omega)) (by simp (disch:=(try simp only [sPu]);omega)) hnew (by rw [rzc];rfl) (by intro v hv;simp at hv;rcases hv with rfl | rfl <;> rfl) (oNi ?_))
  rw [pNo]
  simp only [Exit.then]
  obtain ⟨rb,hrb⟩:∃ rb,rb=w1.heap.size:=⟨_,rfl⟩
  rw [← hrb] at hnew ⊢
  obtain ⟨w2,hw2⟩:∃ w2,w2=(w1.alloc (.cells rz.cells I.tRd)).setRow rb [Value.slice base src.length cap,.bool false].toArray:=⟨_,rfl⟩
  rw [← hw2]
  have hrow2:w2.heap[rb]?=some (.cells #[.slice base src.length cap,.bool false] I.tRd (0,0)):=by rw [hw2];exact setRow_heap _ _ _ _ _ _ hnew
  have hoth2:∀ k,k < w1.heap.size→w2.heap[k]?=w1.heap[k]?:=fun k hk=>by
    rw [hw2,setRow_other _ _ _ _ (by omega)]
    exact Below.heap_alloc _ _ _ hk
  have hsz2:w2.heap.size=w1.heap.size+1:=by rw [hw2];simp
  have hbelow2:Below B w0 w2:=by
    rw [hw2]
    exact (hbelow1.alloc (by omega) _).trans ⟨rfl,rfl,rfl,by simp,fun k hk=>setRow_other _ _ _ _ (by omega)⟩
  have hrb2:w2.heap[b]?=some (.cells (dSetAll 0 out cs) E (0,0)):=by rw [hoth2 b (by omega)];exact hrow1
  have hvc2:w2.cell? ⟨b,0,none⟩=some (.int .i16 ver):=by rw [cell_of_row _ _ _ _ _ _ hrb2];exact hv1
  refine SC.wp_reg (ops_mv (ops_nilc (ad:=⟨b,0,none⟩) (by simp (disch:=(try simp only [sPu]);omega) [h0]) (ops_fa c8 (b:=b) (o:=0) (by simp (disch:=(try simp only [sPu]);omega)) (ops_ld c10 (ad:=⟨b,0,none⟩) (v:=.int .i16 ver) (by simp (disch:=(try simp only [sPu]);omega)) hvc2 (ops_asg (oNi ?_))))))
  simp only [Exit.then]
  refine SC.wp_reg (ops_mv (oNi ?_))
  simp only [Exit.then]
  refine wpL_gen (fun a=>a.tmps.size=M.N∧a.defers=[]∧getT a 2=.bool false∧getT a 7=.pointer (some ⟨rb,0,none⟩)∧getT a 8=.int .i16 ver∧getT a 0=.pointer (some ⟨b,0,none⟩)) ⟨by simp [sPu,hs,hn],by simp [dPu,hdf],by simp (disch:=(try simp only [sPu]);omega) [h2],by simp (disch:=(try simp only [sPu]);omega),by simp (disch:=(try simp only [sPu]);omega),by simp (disch:=(try simp only [sPu]);omega) [h0]⟩ fun a2 ⟨p1,p2,p3,p4,p5,p6⟩=>?_
  have mid:∀ a:Act,a.tmps.size=M.N∧a.defers=[]∧getT a 2=.bool false∧getT a 7=.pointer (some ⟨rb,0,none⟩)∧getT a 8=.int .i16 ver∧getT a 0=.pointer (some ⟨b,0,none⟩)∧(M.flex ≠ none→getT a 9=.bool (flexAt M.flex ver)) →
      wpL P (bodyPost P fn (fun e w'=>Below B w0 w'∧B≤w'.heap.size ∧
      match pBody ver (flexAt M.flex ver) M.fs src with
      | none=>e=.returned err
      | some (x,r)=>e=.returned .nilIface∧b < w'.heap.size∧w'.cell? ⟨b,0,none⟩=some (.int .i16 ver) ∧
        (FitFs ver M.fs x.l→FitTags x.u→∃ F:Nat→Prop,(∀ k,F k→k < w'.heap.size)∧HFs G w' F ver (flexAt M.flex ver) M.fs b 0 x.l∧TagsAt G w' F (flexAt M.flex ver) b 0 M.tags x.u))) (.reg [mv (rT1 M.t M.flex) 0,asg (rS M.flex) (rT1 M.t M.flex)] :: (rFs I (rCtx M.flex) M.S (rS M.flex) (rS M.flex+1) (rT1 M.t M.flex+1) 0 M.fs ++ rTagsL I M.S (rS M.flex) M.tags (rT1 M.t M.flex+1+rFT (rCtx M.flex) M.fs) ++
        [.reg [cal (rT1 M.t M.flex+1+rFT (rCtx M.flex) M.fs+rTagsT M.tags) I.rCompl [7],asg 6 (rT1 M.t M.flex+1+rFT (rCtx M.flex) M.fs+rTagsT M.tags)],.ret])) a w2:=by
    clear p1 p2 p3 p4 p5 p6
    rintro a ⟨p1,p2,p3,p4,p5,p6,p7⟩
    simp only [wpL]
    refine SC.wp_reg (ops_mv (ops_asg (oNi ?_)))
    simp only [Exit.then]
    obtain ⟨X,hX⟩:∃ X:RX,X=⟨P,I,I.tRd,S,rb,G,rCtx M.flex,w0,B,ver,flexAt M.flex ver,M.t,M.N,err,Gl,gb⟩:=⟨_,rfl⟩
    have hXok:X.ok:=by
      rw [hX]
      refine ⟨hk,hgb,by cases M.flex <;> rfl,by simp only;omega,?_,by simp only;omega,hver,hG,hgl⟩
      intro h
      cases hfl:M.flex with
      | none=>rfl
      | some n=>rw [hfl] at h;cases h
    have hg:∀ s,s < 9→getT ((a.put (some (rT1 M.t M.flex)) (getT a 0)).put (some (rS M.flex)) (getT (a.put (some (rT1 M.t M.flex)) (getT a 0)) (rT1 M.t M.flex))) s=getT a s:=fun s h=>by
      rw [gTn (by omega),gTn (by omega)]
    have hpS:getT ((a.put (some (rT1 M.t M.flex)) (getT a 0)).put (some (rS M.flex)) (getT (a.put (some (rT1 M.t M.flex)) (getT a 0)) (rT1 M.t M.flex))) (rS M.flex)=.pointer (some ⟨b,0,none⟩):=by
      rw [gTp (by simp only [sPu];omega),gTp (by omega)]
      exact p6
    have hg9:M.flex ≠ none→getT ((a.put (some (rT1 M.t M.flex)) (getT a 0)).put (some (rS M.flex)) (getT (a.put (some (rT1 M.t M.flex)) (getT a 0)) (rT1 M.t M.flex))) 9=.bool (flexAt M.flex ver):=fun h=>by
      have:rS M.flex=10:=by cases hfl:M.flex <;> simp_all [rS]
      rw [gTn (by omega),gTn (by omega)]
      exact p7 h
    have hs3:((a.put (some (rT1 M.t M.flex)) (getT a 0)).put (some (rS M.flex)) (getT (a.put (some (rT1 M.t M.flex)) (getT a 0)) (rT1 M.t M.flex))).tmps.size=M.N:=by simp only [sPu];exact p1
    have hd3:((a.put (some (rT1 M.t M.flex)) (getT a 0)).put (some (rS M.flex)) (getT (a.put (some (rT1 M.t M.flex)) (getT a 0)) (rT1 M.t M.flex))).defers=[]:=by simp only [dPu];exact p2
    generalize ((a.put (some (rT1 M.t M.flex)) (getT a 0)).put (some (rS M.flex)) (getT (a.put (some (rT1 M.t M.flex)) (getT a 0)) (rT1 M.t M.flex)))=a3 at hg hpS hg9 hs3 hd3 ⊢
    rw [List.append_assoc]
    have hi:RInv X a3 w2 (some src):=by
      rw [hX]
      refine ⟨hs3,hd3,by rw [hg 2 (by omega)];exact p3,by rw [hg 7 (by omega)];exact p4,by rw [hg 8 (by omega)];exact p5,fun h=>?_,⟨base,cap,hrow2,hcap,?_⟩,fun sb hsb=>⟨by have:=(hsrc sb hsb).2;show sb ≠ rb;omega,by have:=(hsrc sb hsb).2;show sb < w2.heap.size;omega⟩,hbelow2,by show B≤w2.heap.size;omega⟩
      · refine hg9 fun e=>?_
        rw [e] at h
        cases h
      · have:SrcAt w2 S base src:=hsr.frame fun sb hsb=>by rw [hoth2 sb (by have:=(hsrc sb hsb).2;omega),hoth1 sb (hsrc sb hsb).1]
        cases S <;> exact this
    have hopn:Opn X (fun k=>k=rb∨k=b) b w2:=by
      rw [hX]
      refine ⟨.inl rfl,.inr rfl,fun k hk=>by rcases hk with rfl | rfl <;> omega,fun sb hsb h=>?_,by simp only;omega,hBb⟩
      have:=hsrc sb hsb
      rcases h with h | h
      · omega
      · exact this.1 h
    have hfr2:FrFs w2 b M.fs 0:=by
      refine frFs_frame (w:=w1) M.fs 1 (topEnd M.size M.tags) 0 c3 (fun j h1 h2=>World.cell?_of_block (hoth2 b (by omega))) hfr1
    subst hX
    refine top_body (X:=⟨P,I,I.tRd,S,rb,G,rCtx M.flex,w0,B,ver,flexAt M.flex ver,M.t,M.N,err,Gl,gb⟩) (fs:=M.fs) (S:=M.S) (p:=rS M.flex) (v:=rS M.flex+1) (t:=rT1 M.t M.flex+1) (bk:=0) (b:=b) (o:=0) (tags:=M.tags) (lo:=1) (size:=M.size) (O:=fun k=>k=rb∨k=b) (st:=some src) hXok c1 c2 c3 (fun f off e=>by rw [e] at c4;simpa using c4) c5 hdef hi hpS hopn ⟨_,_,hrb2,by omega⟩ hfr2 (by omega) (by omega) c6 (by simp only;omega) (by simp only;omega) ?_ ?_
    · intro a4 w4 hi4 hs4 hf4 hv4
      simp only [wpL]
      refine SC.wp_reg (ops_call (argsV:=#[.pointer (some ⟨rb,0,none⟩)]) hk.complF (hk.compl w4 S rb _ (hgl _ hi4.below) hi4.at_) ?_ ?_)
      · simp only [List.map_cons,List.map_nil,List.map_toArray,eTm]
        rw [hi4.rd]
      rintro e w5 ⟨rfl,rfl⟩
      refine ⟨_,rfl,ops_asg (oNi ?_)⟩
      simp only [Exit.then]
      refine SC.wp_ret ?_
      simp only [Exit.then]
      have hsz4:a4.tmps.size=M.N:=hi4.size
      refine ret_tmp hr (by simp only [dPu];exact hi4.defers) ⟨hi4.below,hi4.heap,?_⟩
      have hres:getT ((a4.put (some (rT1 M.t M.flex+1+rFT (rCtx M.flex) M.fs+rTagsT M.tags)) (if (after (some src) (pBody ver (flexAt M.flex ver) M.fs)).isSome=true then Value.nilIface else err)).put (some 6) (getT (a4.put (some (rT1 M.t M.flex+1+rFT (rCtx M.flex) M.fs+rTagsT M.tags)) (if (after (some src) (pBody ver (flexAt M.flex ver) M.fs)).isSome=true then Value.nilIface else err)) (rT1 M.t M.flex+1+rFT (rCtx M.flex) M.fs+rTagsT M.tags))) 6=(if (after (some src) (pBody ver (flexAt M.flex ver) M.fs)).isSome=true then Value.nilIface else err):=by
        rw [gTp (by simp only [sPu];omega),gTp (by omega)]
      rw [hres]
      cases hp:pBody ver (flexAt M.flex ver) M.fs src with
      | none=>simp [after_no hp]
      | some z =>
        obtain ⟨x,r⟩:=z
        have hlt4:b < w5.heap.size:=Nat.lt_of_lt_of_le (by omega) hf4.size
        refine ⟨by simp [after_ok hp],hlt4,?_,fun hfit hfu=>⟨FO (fun k=>k=rb∨k=b) w5,fun k hk=>hk.1,hv4 src x r rfl hp hfit hfu⟩⟩
        rw [hf4.cell (q:=0) (n:=0) ⟨_,_,hrb2,Nat.zero_le _⟩ (j:=0) (by omega)]
        exact hvc2
    · intro a' w' e1 e2 e3 e4
      refine ret_tmp hr e1 ⟨e3,Nat.le_trans hBw e3.size,?_⟩
      cases hp:pBody ver (flexAt M.flex ver) M.fs src with
      | none=>simp only;rw [e2]
      | some z =>
        rw [after_ok hp] at e4
        cases e4
  cases hfl:M.flex with
  | none =>
    rw [hfl] at mid
    simp only [rFlexL,List.nil_append]
    exact mid a2 ⟨p1,p2,p3,p4,p5,p6,fun h=>absurd rfl h⟩
  | some n =>
    rw [hfl] at mid
    simp only [rFlexL,List.cons_append,List.nil_append,wpL]
    have ht1:rT1 M.t (some n)=M.t+12:=rfl
    rw [hfl] at c7 hT1
    refine SC.wp_reg (ops_mv (ops_1 (v:=.bool (decide (n≤ver))) (by simp (disch:=(try simp only [sPu]);omega) [p5,qv,vop,iop]) (ops_asg (oNi ?_))))
    simp only [Exit.then]
    refine SC.wp_reg (ops_mv (oNi ?_))
    simp only [Exit.then]
    exact mid _ ⟨by simp [sPu,p1],by simp [dPu,p2],by simp (disch:=(try simp only [sPu]);omega) [p3],by simp (disch:=(try simp only [sPu]);omega) [p4],by simp (disch:=(try simp only [sPu]);omega) [p5],by simp (disch:=(try simp only [sPu]);omega) [p6],fun _=>by simp (disch:=(try simp only [sPu]);omega) [flexAt]⟩
end
end Go.Proofs.YtgaplicnofhliaaDoor.K
namespace Go.Proofs.YtgaplicnofhliaaDoor.K
open Go Go.RowKit Go.Proofs.YtgaplicnofhliaaDoor.T
set_option linter.unusedVariables false
set_option linter.unusedSimpArgs false
set_option maxHeartbeats 1000000
def mapU (P:Program) (T:Nat):Bool:=oneB P T && (match P.underlying T with
  | some (.map k _)=>(match P.underlying k with | some (.int .u32)=>true | _=>false)
  | _=>false)
theorem mapU_of {P:Program} {T:Nat} (h:mapU P T=true):oneB P T=true∧∃ k e,P.underlying T=some (.map k e)∧P.underlying k=some (.int .u32):=by
  simp only [mapU,Bool.and_eq_true] at h
  obtain ⟨h1,h⟩:=h
  split at h <;> try (simp at h;done)
  rename_i k e hu
  split at h <;> try (simp at h;done)
  rename_i hk
  exact ⟨h1,k,e,hu,hk⟩
theorem setTag_self (t:Nat × Bytes):∀ u,t ∈ setTag t u
  | []=>by simp [setTag]
  | x :: r=>by
    simp only [setTag]
    split
    · exact List.mem_cons_of_mem _ (setTag_self t r)
    · split <;> simp
theorem setTag_new {t:Nat × Bytes}:∀ {u:List (Nat × Bytes)},(∀ x ∈ u,x.1 ≠ t.1)→((setTag t u).map (·.1)).Perm (u.map (·.1) ++ [t.1])
  | [],_=>by simp [setTag]
  | x :: r,h=>by
    simp only [setTag]
    split
    · simp only [List.map_cons,List.cons_append]
      exact (setTag_new fun y hy=>h y (List.mem_cons_of_mem _ hy)).cons _
    · rw [if_neg (h x (.head _))]
      simp only [List.map_cons]
      exact (List.perm_append_comm (l₁:=x.1 :: r.map (·.1)) (l₂:=[t.1])).symm
theorem setTag_old {t:Nat × Bytes}:∀ {u:List (Nat × Bytes)},Sorted u→(∃ x ∈ u,x.1=t.1)→(setTag t u).map (·.1)=u.map (·.1)
  | [],_,h=>by simp at h
  | x :: r,hs,h=>by
    have hs':=List.pairwise_cons.1 hs
    simp only [setTag]
    split
    · rename_i hlt
      simp only [List.map_cons]
      rw [setTag_old hs'.2]
      obtain ⟨y,hy,he⟩:=h
      rcases List.mem_cons.1 hy with rfl | hy
      · omega
      · exact ⟨y,hy,he⟩
    · split
      · rename_i he
        simp [he]
      · exfalso
        obtain ⟨y,hy,he⟩:=h
        rcases List.mem_cons.1 hy with rfl | hy
        · omega
        · have:=hs'.1 y hy
          omega
theorem sorted_uniq:∀ {u:List (Nat × Bytes)},Sorted u→∀ x ∈ u,∀ y ∈ u,x.1=y.1→x=y
  | [],_,x,hx,_,_,_=>by simp at hx
  | z :: r,hs,x,hx,y,hy,he=>by
    have hs':=List.pairwise_cons.1 hs
    rcases List.mem_cons.1 hx with e1 | hx1
    · rcases List.mem_cons.1 hy with e2 | hy1
      · rw [e1,e2]
      · have:=hs'.1 y hy1
        rw [← e1] at this
        omega
    · rcases List.mem_cons.1 hy with e2 | hy1
      · have:=hs'.1 x hx1
        rw [← e2] at this
        omega
      · exact sorted_uniq hs'.2 x hx1 y hy1 he
theorem bytesAt_F {w:World} {F F':Nat→Prop} {base:Option Addr} {bs:Bytes} (h:BytesAt w F base bs) (hF:∀ k,F k→F' k):BytesAt w F' base bs:=by
  rcases h with h | ⟨b,q,h1,h2,h3⟩
  · exact .inl h
  · exact .inr ⟨b,q,h1,hF _ h2,h3⟩
theorem bytesAt_keep {w w':World} {F:Nat→Prop} {base:Option Addr} {bs:Bytes} (h:BytesAt w F base bs) (hF:∀ k (a:Addr),F k→a.block=k→∀ v,w.cell? a=some v→w'.cell? a=some v):BytesAt w' F base bs:=by
  rcases h with h | ⟨b,q,h1,h2,h3⟩
  · exact .inl h
  · exact .inr ⟨b,q,h1,h2,fun j u hj=>hF b _ h2 rfl _ (h3 j u hj)⟩
theorem tagsEs_push {w:World} {F:Nat→Prop} {es:Array MapEntry} {clock:Nat} {u:List (Nat × Bytes)} {k:Nat} {bs:Bytes} {base:Option Addr} {cap:Nat} (h:TagsEs w F es clock u) (hn:∀ x ∈ es.toList,x.key ≠ .int .u32 (k:Int)) (hs:Sorted u) (hb:BytesAt w F base bs) :
    TagsEs w F (es.push { key:=.int .u32 (k:Int),val:=.slice base bs.length cap,born:=clock }) (clock+1) (setTag (k,bs) u):=by
  obtain ⟨h1,h2,h3⟩:=h
  have hnk:∀ x ∈ u,x.1 ≠ k:=fun x hx e=>by
    have:Value.int .u32 (x.1:Int) ∈ es.toList.map (·.key):=h1.mem_iff.2 (List.mem_map_of_mem hx)
    obtain ⟨y,hy,hye⟩:=List.mem_map.1 this
    exact hn y hy (by rw [hye,e])
  refine ⟨?_,MapKept.stamped_push h2 hn,?_⟩
  · have hp:=(setTag_new (t:=(k,bs)) hnk).map (fun n:Nat=>Value.int .u32 (n:Int))
    simp only [List.map_map,List.map_append,List.map_cons,List.map_nil,Function.comp_def] at hp
    simp only [Array.toList_push,List.map_append,List.map_cons,List.map_nil]
    exact (h1.append_right _).trans hp.symm
  · intro e he x hx hk
    simp only [Array.toList_push,List.mem_append,List.mem_singleton] at he
    have hst:Sorted (setTag (k,bs) u):=setTag_sorted hs
    rcases he with he | rfl
    · have hxk:x.1 ≠ k:=fun e2=>hn e he (by rw [hk,e2])
      rcases setTag_mem hx with rfl | hx
      · exact absurd rfl hxk
      · exact h3 e he x hx hk
    · simp only [Value.int.injEq,true_and] at hk
      have hxe:x=(k,bs):=sorted_uniq hst x hx _ (setTag_self _ _) (by simp only;omega)
      subst hxe
      exact ⟨base,cap,rfl,hb⟩
theorem tagsEs_modify {w:World} {F:Nat→Prop} {es:Array MapEntry} {clock:Nat} {u:List (Nat × Bytes)} {k j:Nat} {e0:MapEntry} {bs:Bytes} {base:Option Addr} {cap:Nat} (h:TagsEs w F es clock u) (hj:es[j]?=some e0) (hk0:e0.key=.int .u32 (k:Int)) (hs:Sorted u) (hb:BytesAt w F base bs) :
    TagsEs w F (es.modify j fun e=>{ e with key:=.int .u32 (k:Int),val:=.slice base bs.length cap }) clock (setTag (k,bs) u):=by
  obtain ⟨h1,h2,h3⟩:=h
  have hkeys:∀ e',es[j]?=some e'→({ e' with key:=Value.int .u32 (k:Int),val:=.slice base bs.length cap }:MapEntry).key=e'.key:=fun e' he'=>by
    rw [hj] at he'
    cases he'
    exact hk0.symm
  have hmem:e0 ∈ es.toList:=by
    rw [← Array.getElem?_toList] at hj
    exact List.mem_of_getElem? hj
  have hin:∃ x ∈ u,x.1=k:=by
    have:e0.key ∈ u.map fun x=>Value.int .u32 (x.1:Int):=h1.mem_iff.1 (List.mem_map_of_mem hmem)
    obtain ⟨x,hx,hxe⟩:=List.mem_map.1 this
    rw [hk0] at hxe
    simp only [Value.int.injEq,true_and] at hxe
    exact ⟨x,hx,by omega⟩
  refine ⟨?_,MapKept.stamped_modify h2 _ _ (fun _ _=>rfl) (fun e' _ he'=>hkeys e' he'),?_⟩
  · rw [MapKept.modify_keys _ _ hkeys]
    have:(setTag (k,bs) u).map (fun x=>Value.int .u32 (x.1:Int))=u.map fun x=>Value.int .u32 (x.1:Int):=by
      have:=congrArg (List.map fun n:Nat=>Value.int .u32 (n:Int)) (setTag_old (t:=(k,bs)) hs hin)
      simpa only [List.map_map,Function.comp_def] using this
    rw [this]
    exact h1
  · intro e he x hx hk
    have hst:Sorted (setTag (k,bs) u):=setTag_sorted hs
    obtain ⟨i,hi⟩:=List.getElem?_of_mem he
    rw [Array.getElem?_toList,Array.getElem?_modify] at hi
    by_cases hij:j=i
    · subst hij
      rw [if_pos rfl,hj] at hi
      simp only [Option.map_some,Option.some.injEq] at hi
      subst hi
      simp only [Value.int.injEq,true_and] at hk
      have hxe:x=(k,bs):=sorted_uniq hst x hx _ (setTag_self _ _) (by simp only;omega)
      subst hxe
      exact ⟨base,cap,rfl,hb⟩
    · rw [if_neg hij] at hi
      have hem:e ∈ es.toList:=by
        rw [← Array.getElem?_toList] at hi
        exact List.mem_of_getElem? hi
      have hne:e.key ≠ .int .u32 (k:Int):=fun hek=>by
        have hnd:=h2.2.2
        have e1:(es.toList.map (·.key))[i]?=some (.int .u32 (k:Int)):=by rw [List.getElem?_map,Array.getElem?_toList,hi,Option.map_some,hek]
        have e2:(es.toList.map (·.key))[j]?=some (.int .u32 (k:Int)):=by rw [List.getElem?_map,Array.getElem?_toList,hj,Option.map_some,hk0]
        have hil:=(List.getElem?_eq_some_iff.1 e1).1
        have:=(List.getElem?_inj hil hnd).1 (e1.trans e2.symm)
        exact hij this.symm
      have hxk:x.1 ≠ k:=fun e2=>hne (by rw [hk,e2])
      rcases setTag_mem hx with rfl | hx
      · exact absurd rfl hxk
      · exact h3 e hem x hx hk
section
variable {P:Program} {a:Act} {w:World} {K:Act→World→Prop} {d:Option Tmp} {g:Option (Nat × Bool)}
theorem opw_mapNil {T T':Nat} {x:Operand} {m:Option Nat} (hT:mapU P T=true) (hx:a.eval x=.map m) (h:K (a.put d (.bool m.isNone)) w):opw P ⟨d,.binOp .eql T x (.const (.map none)) T',g⟩ a w K:=by
  obtain ⟨-,k,e,hu,hk⟩:=mapU_of hT
  refine oVa (v:=.bool m.isNone) (by simp) (fun p hp=>?_) h
  have he:(Op.equal T (.map m) (.map none)).run P w=.ok m.isNone w:=by
    have hd:∀ d,(Op.equalIn (d+1) T (.map m) (.map none)).run P w=.ok m.isNone w:=fun d=>by
      cases m <;> simp [Op.equalIn,run_underlying hu]
    exact hd 9999
  simp [execOp,hp,hx,eCo,eqGuard,binOp,he]
theorem opw_makeMap {T:Nat} (h:K (a.put d (.map (some w.heap.size))) (w.alloc (.map #[] 0))):opw P ⟨d,.makeMap T none,g⟩ a w K:=by
  refine oVa (v:=.map (some w.heap.size)) (w':=w.alloc (.map #[] 0)) (by simp) (fun p hp=>?_) h
  have:(Instr.makeMap T none).run P w=.ok (.map (some w.heap.size)) (w.alloc (.map #[] 0)):=rfl
  simp [execOp,hp,this]
def mapSet (w:World) (r:Nat) (es:Array MapEntry) (clock:Nat):World:={ w with heap:=w.heap.setIfInBounds r (.map es clock) }
theorem mapSet_at {r:Nat} {es es':Array MapEntry} {c c':Nat} (h:w.heap[r]?=some (.map es c)):(mapSet w r es' c').heap[r]?=some (.map es' c'):=(MapKept.heap_set h).1
theorem mapSet_other {r k:Nat} {es':Array MapEntry} {c':Nat} (hk:k ≠ r):(mapSet w r es' c').heap[k]?=w.heap[k]?:=by
  simp [mapSet,Ne.symm hk]
theorem opw_mapUpdate {T r k clock:Nat} {m x y:Operand} {es:Array MapEntry} {F:Nat→Prop} {u:List (Nat × Bytes)} {base:Option Addr} {cap:Nat} {bs:Bytes} (hT:mapU P T=true) (hm:a.eval m=.map (some r)) (hx:a.eval x=.int .u32 (k:Int)) (hy:a.eval y=.slice base bs.length cap)
    (hr:w.heap[r]?=some (.map es clock)) (ht:TagsEs w F es clock u) (hs:Sorted u) (hb:BytesAt w F base bs)
    (h:∀ es' clock',TagsEs w F es' clock' (setTag (k,bs) u)→K (a.put d undef) (mapSet w r es' clock')):opw P ⟨d,.mapUpdate T m x y,g⟩ a w K:=by
  obtain ⟨-,kt,e,hu,hk⟩:=mapU_of hT
  have hik:MapKept.IsKey (.int .u32) (.int .u32 (k:Int)):=rfl
  have hks:∀ z ∈ es.toList,MapKept.IsKey (.int .u32) z.key:=fun z hz=>by
    have:z.key ∈ u.map fun x=>Value.int .u32 (x.1:Int):=ht.1.mem_iff.1 (List.mem_map_of_mem hz)
    obtain ⟨x,_,hxe⟩:=List.mem_map.1 this
    rw [← hxe]
    rfl
  rcases MapKept.findNow_spec hik es.toList 0 hks with ⟨h1,h2⟩ | ⟨j,e0,h1,h2,h3⟩
  · refine opw_skip (w':=mapSet w r (es.push { key:=.int .u32 (k:Int),val:=.slice base bs.length cap,born:=clock }) (clock+1)) (by simp) (fun p hp=>?_) (h _ _ (tagsEs_push ht h2 hs hb))
    simp [execOp,hp,hm,hx,hy,Instr.mapUpdate,run_underlying hu,MapKept.run_getObj_map hr,MapKept.run_checkKey hk hik,MapKept.run_findKey hk h1,MapKept.run_setObj_map _ hr,Result.andThen,mapSet]
  · have hj:es[j]?=some e0:=by simpa using h2
    refine opw_skip (w':=mapSet w r (es.modify j fun e=>{ e with key:=.int .u32 (k:Int),val:=.slice base bs.length cap }) clock) (by simp) (fun p hp=>?_) (h _ _ (tagsEs_modify ht hj h3 hs hb))
    simp [execOp,hp,hm,hx,hy,Instr.mapUpdate,run_underlying hu,MapKept.run_getObj_map hr,MapKept.run_checkKey hk hik,MapKept.run_findKey hk h1,hj,h3,MapKept.run_keyThatStays hik,MapKept.run_setObj_map _ hr,Result.andThen,mapSet]
end
end Go.Proofs.YtgaplicnofhliaaDoor.K
namespace Go.Proofs.YtgaplicnofhliaaDoor.K
open Go Go.RowKit Go.Proofs.YtgaplicnofhliaaDoor.T
attribute [local simp] eTm eCo pNo gTp gTn qv qcall vop iop
set_option linter.unusedVariables false
set_option linter.unusedSimpArgs false
set_option maxHeartbeats 2000000
def sc_TSet (T0 T1:Nat):SC:=.seq (.seq (.reg [mv 6 0,nilc 7 6,fa 8 T0 7 0,ld 9 T1 8,⟨some 10,.binOp .eql T1 (.tmp 9) (.const (.map none)) T1,none⟩]) (.cond (.tmp 10) (.reg [mv 11 0,⟨some 12,.makeMap T1 none,none⟩,nilc 13 11,fa 14 T0 13 0,⟨none,.store T1 (.tmp 14) (.tmp 12),none⟩]) (.skip))) (.reg [mv 15 0,nilc 16 15,fa 17 T0 16 0,ld 18 T1 17,mv 19 1,mv 20 2,⟨none,.mapUpdate T1 (.tmp 18) (.tmp 19) (.tmp 20),none⟩])
def sc_ReadTags (T0 T1 T2 F0 F1 F2:Nat):SC:=.seq (.reg [⟨some 2,.alloc T0,none⟩]) (.seq (.reg [⟨some 3,.alloc T0,none⟩]) (.seq (.seq (.reg [mv 7 0,cal 8 F0 [7],asg 4 8]) (.block 0 (.loop (.seq (.seq (.reg [mv 9 4,⟨some 10,.binOp .gtr T1 (.tmp 9) (.const (.int .u32 0)) T1,none⟩]) (.cond (.tmp 10) (.skip) (.exit 0))) (.seq (.block 1 (.seq (.reg [mv 13 0,cal 14 F0 [13],mv 15 0,cal 16 F0 [15],asg 5 14,asg 6 16]) (.reg [mv 17 5,mv 18 0,mv 19 6,⟨some 20,.convert T1 T2 (.tmp 19),none⟩,cal 21 F1 [18,20],cal 22 F2 [3,17,21]]))) (.reg [mv 11 4,⟨some 12,.binOp .sub T1 (.tmp 11) (.const (.int .u32 1)) T1,none⟩,asg 4 12])))))) (.seq (.reg [ld 23 T0 3,⟨none,.store T0 (.tmp 2) (.tmp 23),none⟩]) (.ret))))
def MapV (w:World) (lo tb:Nat) (S:Option Nat) (u:List (Nat × Bytes)) (m:Option Nat):Prop :=
  (m=none∧u=[])∨∃ r es clock,m=some r∧lo≤r∧r ≠ tb∧w.heap[r]?=some (.map es clock)∧TagsEs w (fun k=>S=some k) es clock u
theorem MapV.frame {w w':World} {lo tb:Nat} {S:Option Nat} {u:List (Nat × Bytes)} {m:Option Nat} (h:MapV w lo tb S u m) (hb:∀ k,lo≤k→k < w.heap.size→w'.heap[k]?=w.heap[k]?) (hS:∀ sb,S=some sb→w'.heap[sb]?=w.heap[sb]?):MapV w' lo tb S u m:=by
  rcases h with h | ⟨r,es,clock,h1,h2,h3,h4,h5,h6,h7⟩
  · exact .inl h
  · refine .inr ⟨r,es,clock,h1,h2,h3,by rw [hb r h2 (Array.getElem?_eq_some_iff.1 h4).1];exact h4,h5,h6,fun e he x hx hk=>?_⟩
    obtain ⟨base,cap,q1,q2⟩:=h7 e he x hx hk
    exact ⟨base,cap,q1,bytesAt_keep q2 fun k a hF ha v hv=>by rw [World.cell?_of_block (ha ▸ hS k hF)];exact hv⟩
def SetC (P:Program) (T0:Nat) (F:FuncId):Prop:=FnOK P F∧∀ (w:World) (tb lo k cap:Nat) (S m:Option Nat) (u:List (Nat × Bytes)) (base:Option Addr) (bs:Bytes),lo≤tb→lo≤w.heap.size→(∀ sb,S=some sb→sb < lo) →
  w.heap[tb]?=some (.cells #[.map m] T0 (0,0))→MapV w lo tb S u m→Sorted u→BytesAt w (fun k=>S=some k) base bs →
  Calls P F #[.pointer (some ⟨tb,0,none⟩),.int .u32 (k:Int),.slice base bs.length cap] w fun e w'=>e=.returned (.tuple #[])∧Below lo w w'∧lo≤w'.heap.size∧(∀ k,k < w.heap.size→k ≠ tb→m ≠ some k→w'.heap[k]?=w.heap[k]?) ∧
    ∃ m',w'.heap[tb]?=some (.cells #[.map m'] T0 (0,0))∧MapV w' lo tb S (setTag (k,bs) u) m'
section
variable {P:Program} {R:RTy} {f:FuncId} {fn:Func}
theorem ret_cellAgg {Rr:Ending→World→Prop} {a:Act} {w:World} {r T b:Nat} {cs:List Value} (hr:fn.results=#[.cell r T]) (hT:aggB P T cs.length=true) (hx:getT a r=.pointer (some ⟨b,0,none⟩)) (hc:∀ j v,cs[j]?=some v→w.cell? ⟨b,j,none⟩=some v) (hd:a.defers=[]) (hR:Rr (.returned (.agg cs.toArray)) w):bodyPost P fn Rr .ret a w:=by
  refine ⟨hd,.agg cs.toArray,?_,hR⟩
  obtain ⟨i,hi,hs,ha⟩:=agg_of (w:=w) hT
  have hl:=run_loadCells_list (P:=P) w ⟨b,0,none⟩ cs (fun j v hv=>by rw [add_none,Nat.zero_add];exact hc j v hv)
  have hx':a.tmps[r]?.getD undef=.pointer (some ⟨b,0,none⟩):=by simpa [getT,Array.getD_eq_getD_getElem?] using hx
  simp [results,hr,hx',asAddr,loadVar,ha,sizeOf,typeInfo,hi,hs,hl]
theorem tSet_ok {T0 T1 : Nat} (hT : mapU P T1 = true) (hf0 : fieldOff P T0 0 = some 0) (hf : P.funcs[f]? = some fn) (hb : fn.body.map strip = some (sc_TSet T0 T1)) (hnm : (fn.name == "runtime.NumGoroutine") = false) (hn : fn.ntmps = 21) (hr : fn.results = #[]) : SetC P T0 f := by
  refine ⟨fnOK_of hf hb hnm,fun w tb lo k cap S m u base bs htb hlo hS hrow hm hsu hbs=>?_⟩
  have h1:=(mapU_of hT).1
  refine fCa hf hb hn (by simp) fun a0 hs hd ha=>?_
  have h0:=ha 0 _ rfl
  have g1:=ha 1 _ rfl
  have g2:=ha 2 _ rfl
  simp only [List.getElem_toArray,List.getElem_cons_zero,List.getElem_cons_succ] at h0 g1 g2
  have hcell:w.cell? ⟨tb,0,none⟩=some (.map m):=by rw [cell_of_row _ _ _ _ _ _ hrow];rfl
  have htl:tb < w.heap.size:=(Array.getElem?_eq_some_iff.1 hrow).1
  refine SC.wp_seq (SC.wp_seq (SC.wp_reg ?_))
  iterate 4 (apply ops_1;(focus (simp (disch:=(try simp only [sPu]);omega) [h0,hf0,h1,hcell];try rfl)))
  refine oNo rfl (opw_mapNil (m:=m) hT (by simp (disch:=(try simp only [sPu]);omega)) (oNi ?_))
  simp only [Exit.then]
  refine SC.wp_cond (t:=m.isNone) (by simp (disch:=(try simp only [sPu]);omega)) ?_
  have last:∀ (a:Act) (w1:World) (r clock:Nat) (es:Array MapEntry),a.tmps.size=21→a.defers=[]→getT a 0=.pointer (some ⟨tb,0,none⟩)→getT a 1=.int .u32 (k:Int)→getT a 2=.slice base bs.length cap →
      w1.heap[tb]?=some (.cells #[.map (some r)] T0 (0,0))→lo≤r→r ≠ tb→w1.heap[r]?=some (.map es clock)→TagsEs w1 (fun k=>S=some k) es clock u→BytesAt w1 (fun k=>S=some k) base bs→Below lo w w1→lo≤w1.heap.size→(∀ k,k < w.heap.size→k ≠ tb→w1.heap[k]?=w.heap[k]?)→(r < w.heap.size→m=some r) →
      (SC.reg [mv 15 0,nilc 16 15,fa 17 T0 16 0,ld 18 T1 17,mv 19 1,mv 20 2,⟨none,.mapUpdate T1 (.tmp 18) (.tmp 19) (.tmp 20),none⟩]).wp P (bodyPost P fn (fun e w'=>e=.returned (.tuple #[])∧Below lo w w'∧lo≤w'.heap.size∧(∀ k,k < w.heap.size→k ≠ tb→m ≠ some k→w'.heap[k]?=w.heap[k]?) ∧
    ∃ m',w'.heap[tb]?=some (.cells #[.map m'] T0 (0,0))∧MapV w' lo tb S (setTag (k,bs) u) m')) a w1:=by
    intro a w1 r clock es p1 p2 p3 p4 p5 p6 p7 p8 p9 p10 p11 p12 p13 p14 p15
    have hcell1:w1.cell? ⟨tb,0,none⟩=some (.map (some r)):=by rw [cell_of_row _ _ _ _ _ _ p6];rfl
    refine SC.wp_reg ?_
    iterate 6 (apply ops_1;(focus (simp (disch:=(try simp only [sPu]);omega) [p3,p4,p5,hf0,h1,hcell1];try rfl)))
    refine oNo rfl (opw_mapUpdate (r:=r) (k:=k) (es:=es) (F:=fun k=>S=some k) (u:=u) (base:=base) (cap:=cap) (bs:=bs) hT (by simp (disch:=(try simp only [sPu]);omega)) (by simp (disch:=(try simp only [sPu]);omega) [p4]) (by simp (disch:=(try simp only [sPu]);omega) [p5]) p9 p10 hsu p11 fun es' clock' ht=>oNi ?_)
    rw [pNo]
    refine ⟨by simp only [dPu];exact p2,.tuple #[],by simp [results,hr],rfl,?_,by simpa [mapSet] using p13,fun k hk h2 h3=>?_,some r,?_,.inr ⟨r,es',clock',rfl,p7,p8,mapSet_at p9,ht.1,ht.2.1,fun e he x hx hk=>?_⟩⟩
    · exact p12.trans ⟨rfl,rfl,rfl,by simp [mapSet],fun k hk=>mapSet_other (by omega)⟩
    · rw [mapSet_other (fun e=>h3 (by rw [e];exact p15 (by omega)))]
      exact p14 k hk h2
    · rw [mapSet_other (Ne.symm p8)]
      exact p6
    · obtain ⟨b2,c2,q1,q2⟩:=ht.2.2 e he x hx hk
      exact ⟨b2,c2,q1,bytesAt_keep q2 fun k a hF ha v hv=>by
        rw [World.cell?_of_block (mapSet_other (w:=w1) (by have:=hS k hF;omega))]
        exact hv⟩
  cases m with
  | none =>
    simp only [Option.isNone_none,if_true]
    have hu:u=[]:=by
      rcases hm with h | ⟨r,es,clock,h,-⟩
      · exact h.2
      · cases h
    subst hu
    refine SC.wp_reg ?_
    iterate 1 (apply ops_1;(focus (simp (disch:=(try simp only [sPu]);omega) [h0];try rfl)))
    refine oNo rfl (opw_makeMap ?_)
    have hnew:=heap_alloc_new w (.map #[] 0)
    have hrow2:(w.alloc (.map #[] 0)).heap[tb]?=some (.cells #[.map none] T0 (0,0)):=by rw [Below.heap_alloc _ _ _ htl];exact hrow
    iterate 2 (apply ops_1;(focus (simp (disch:=(try simp only [sPu]);omega) [h0,hf0];try rfl)))
    refine ops_stR (b:=tb) (i:=0) (v:=.map (some w.heap.size)) h1 (by simp (disch:=(try simp only [sPu]);omega)) (by simp (disch:=(try simp only [sPu]);omega)) rfl hrow2 (by simp) (oNi ?_)
    simp only [Exit.then]
    refine last _ _ w.heap.size 0 #[] (by simp [sPu,hs]) (by simp [dPu,hd]) (by simp (disch:=(try simp only [sPu]);omega) [h0]) (by simp (disch:=(try simp only [sPu]);omega) [g1]) (by simp (disch:=(try simp only [sPu]);omega) [g2]) ?_ hlo (by omega) ?_ ⟨by simp,MapKept.stamped_empty 0,fun e he=>by simp at he⟩ ?_ ?_ (by simp;omega) ?_ (fun h=>by omega)
    · have:=setRow_heap _ _ _ (#[Value.map none].setIfInBounds 0 (.map (some w.heap.size))) _ _ hrow2
      rw [this]
      simp
    · rw [setRow_other _ _ _ _ (by omega)]
      exact hnew
    · refine bytesAt_keep hbs fun k a hF ha v hv=>?_
      have:=hS k hF
      rw [World.cell?_of_block (w':=(w.alloc (.map #[] 0)).setRow tb _) (w:=w) (by rw [setRow_other _ _ _ _ (by omega)];exact Below.heap_alloc _ _ _ (by omega))]
      exact hv
    · exact ((Below.refl lo w).alloc hlo _).trans ⟨rfl,rfl,rfl,by simp,fun k hk=>setRow_other _ _ _ _ (by omega)⟩
    · intro k hk h2
      rw [setRow_other _ _ _ _ h2]
      exact Below.heap_alloc _ _ _ hk
  | some r =>
    simp only [Option.isNone_some,Bool.false_eq_true,if_false]
    refine SC.wp_skip ?_
    simp only [Exit.then]
    rcases hm with h | ⟨r',es,clock,h,q1,q2,q3,q4⟩
    · cases h.1
    · cases h
      exact last _ w r clock es (by simp [sPu,hs]) (by simp [dPu,hd]) (by simp (disch:=(try simp only [sPu]);omega) [h0]) (by simp (disch:=(try simp only [sPu]);omega) [g1]) (by simp (disch:=(try simp only [sPu]);omega) [g2]) hrow q1 q2 q3 q4 hbs (Below.refl _ _) hlo (fun _ _ _=>rfl) (fun _=>rfl)
end
end Go.Proofs.YtgaplicnofhliaaDoor.K
namespace Go.Proofs.YtgaplicnofhliaaDoor.K
open Go Go.RowKit Go.Proofs.YtgaplicnofhliaaDoor.T
attribute [local simp] eTm eCo pNo gTp gTn qv qcall vop iop
set_option linter.unusedVariables false
set_option linter.unusedSimpArgs false
set_option maxHeartbeats 2000000
theorem after_bind {α:Type} {st:Option Bytes} {p:Rd α}:after st p=(st.bind p).map (·.2):=by
  cases st <;> rfl
theorem tagN_step {st:Option Bytes} {n k:Nat} {s:Int} {x:Bytes} {acc:List (Nat × Bytes)} (h1:∀ b y r,st=some b→pUv b=some (y,r)→k=y) (h2:∀ b (y:Nat) r,after st pUv=some b→pUv b=some (y,r)→s=(y:Int)) (h3:∀ b y r,after (after st pUv) pUv=some b→pSpan s b=some (y,r)→x=y) :
    st.bind (pTagN (n+1) acc)=(after (after (after st pUv) pUv) (pSpan s)).bind (pTagN n (setTag (k,x) acc)):=by
  cases st with
  | none=>rfl
  | some b =>
    cases hp:pUv b with
    | none =>
      have e1:after (some b) pUv=none:=after_no hp
      rw [e1]
      simp [pTagN,rThen,hp,after]
    | some z =>
      obtain ⟨y,r⟩:=z
      have e1:after (some b) pUv=some r:=after_ok hp
      obtain rfl:=h1 b y r rfl hp
      rw [e1] at h2 h3 ⊢
      cases hp2:pUv r with
      | none =>
        have e2:after (some r) pUv=none:=after_no hp2
        rw [e2]
        simp [pTagN,rThen,hp,hp2,after]
      | some z2 =>
        obtain ⟨y2,r2⟩:=z2
        have e2:after (some r) pUv=some r2:=after_ok hp2
        obtain rfl:=h2 r y2 r2 rfl hp2
        rw [e2] at h3 ⊢
        cases hp3:pSpan (y2:Int) r2 with
        | none =>
          rw [after_no hp3]
          simp [pTagN,rThen,hp,hp2,hp3]
        | some z3 =>
          obtain ⟨y3,r3⟩:=z3
          obtain rfl:=h3 r2 y3 r3 rfl hp3
          rw [after_ok hp3]
          simp [pTagN,rThen,hp,hp2,hp3]
section
variable {P:Program} {R:RTy} {f:FuncId} {fn:Func}
structure TLoop (P:Program) (TR:Nat) (T0:Nat) (w:World) (S:Option Nat) (rb:Nat) (st:Option Bytes) (a:Act) (w':World):Prop where
  size:a.tmps.size=24
  defers:a.defers=[]
  rd:getT a 0=.pointer (some ⟨rb,0,none⟩)
  res:getT a 2=.pointer (some ⟨w.heap.size,0,none⟩)
  tag:getT a 3=.pointer (some ⟨w.heap.size+1,0,none⟩)
  only:Only rb w w'
  heap:w.heap.size+2≤w'.heap.size
  row2:w'.heap[w.heap.size]?=some (.cells #[.map none] T0 (0,0))
  ex:∃ (n:Nat) (acc:List (Nat × Bytes)) (m:Option Nat) (st':Option Bytes),getT a 4=.int .u32 (n:Int)∧n < 4294967296∧RdAt TR w' S rb st'∧w'.heap[w.heap.size+1]?=some (.cells #[.map m] T0 (0,0))∧MapV w' (w.heap.size+1) (w.heap.size+1) S acc m∧Sorted acc∧st.bind (pTags true)=st'.bind (pTagN n acc)
def tMu (a:Act) (_:World):Nat:=match getT a 4 with
  | .int _ n=>n.toNat
  | _=>0
theorem rTagsFn_ok {TR gb T0 T1 T2 F0 F1 F2:Nat} (hm:aggB P T0 1=true) (hz:∃ i z,P.info? T0=some i∧i.zero=some z∧z.cells=#[.map none]) (h1k:intK P T1=some .u32) (h2k:intK P T2=some .i64)
    (hU:RC P TR gb F0 pUv (fun v=>∃ n:Nat,n < 4294967296∧v=.int .u32 (n:Int)) (fun _ _ n v=>v=.int .u32 (n:Int))) (hSp:SpC P TR F1) (hSet:SetC P T0 F2)
    (hf : P.funcs[f]? = some fn) (hb : fn.body.map strip = some (sc_ReadTags T0 T1 T2 F0 F1 F2)) (hnm : (fn.name == "runtime.NumGoroutine") = false) (hn : fn.ntmps = 24) (hr : fn.results = #[.cell 2 T0]) :
    RC P TR gb f (pTags true) (fun v=>∃ m,v=.agg #[m]∧m.oneCell'=true) (fun w F u v=>∃ m,v=.agg #[m]∧TagsV w F u m):=by
  refine ⟨fnOK_of hf hb hnm,fun w S rb st hgb hrd hsrc=>?_⟩
  obtain ⟨iz,z,hiz,hzz,hzc⟩:=hz
  have hrbl:rb < w.heap.size:=RdAt.lt hrd
  refine fCa hf hb hn (by simp) fun a0 hs hd ha=>?_
  have h0:=ha 0 _ rfl
  simp only [List.getElem_toArray,List.getElem_cons_zero,List.getElem_cons_succ] at h0
  refine SC.wp_seq (SC.wp_reg (oNo rfl (opw_alloc hiz hzz (oNi ?_))))
  simp only [Exit.then]
  refine SC.wp_seq (SC.wp_reg (oNo rfl (opw_alloc hiz hzz (oNi ?_))))
  simp only [Exit.then]
  rw [hzc]
  have hn1:=heap_alloc_new w (.cells #[.map none] T0)
  have hn2:=heap_alloc_new (w.alloc (.cells #[.map none] T0)) (.cells #[.map none] T0)
  have hsz1:(w.alloc (.cells #[.map none] T0)).heap.size=w.heap.size+1:=by simp
  rw [hsz1] at hn2 ⊢
  obtain ⟨w2,hw2⟩:∃ w2,w2=(w.alloc (.cells #[.map none] T0)).alloc (.cells #[.map none] T0):=⟨_,rfl⟩
  rw [← hw2] at hn2 ⊢
  have hsz2:w2.heap.size=w.heap.size+2:=by rw [hw2];simp
  have hold:∀ k,k < w.heap.size→w2.heap[k]?=w.heap[k]?:=fun k hk=>by
    rw [hw2,Below.heap_alloc _ _ _ (by simp;omega),Below.heap_alloc _ _ _ hk]
  have hr2:w2.heap[w.heap.size]?=some (.cells #[.map none] T0 (0,0)):=by
    rw [hw2,Below.heap_alloc _ _ _ (by simp)]
    exact hn1
  have hon2:Only rb w w2:=by rw [hw2];exact ((Only.refl rb w).alloc _).alloc _
  have hrd2:RdAt TR w2 S rb st:=RdAt.frame hrd (hold _ hrbl) fun sb h=>hold _ (hsrc sb h).2
  have hsrc2:∀ (w':World),Only rb w w'→∀ sb,S=some sb→sb ≠ rb∧sb < w'.heap.size:=fun w' ho sb h=>⟨(hsrc sb h).1,Nat.lt_of_lt_of_le (hsrc sb h).2 ho.size⟩
  refine SC.wp_seq (SC.wp_seq (SC.wp_reg ?_))
  iterate 1 (apply ops_1;(focus (simp (disch:=(try simp only [sPu]);omega) [h0];try rfl)))
  refine ops_call hU.1 (hU.2 w2 S rb st (by omega) hrd2 (hsrc2 w2 hon2)) (by simp (disch:=(try simp only [sPu]);omega) [h0]) ?_
  rintro e w3 ⟨v,rfl,q1,q2,⟨n,hnl,rfl⟩,q4⟩
  refine ⟨_,rfl,?_⟩
  repeat (apply ops_1;(focus (simp (disch:=(try simp only [sPu]);omega) ;try rfl)))
  refine oNi ?_
  simp only [Exit.then]
  refine SC.wp_block ?_
  refine SC.wp_loop (TLoop P TR T0 w S rb st) tMu ?_ ?_
  · refine ⟨by simp [sPu,hs],by simp [dPu,hd],by simp (disch:=(try simp only [sPu]);omega) [h0],by simp (disch:=(try simp only [sPu]);omega),by simp (disch:=(try simp only [sPu]);omega),hon2.trans q2,by have:=q2.size;omega,?_,n,[],none,after st pUv,by simp (disch:=(try simp only [sPu]);omega),hnl,q1,?_,.inl ⟨rfl,rfl⟩,List.Pairwise.nil,?_⟩
    · rw [q2.block _ (by omega) (by omega)];exact hr2
    · rw [q2.block _ (by omega) (by omega)];exact hn2
    · cases st with
      | none=>rfl
      | some b =>
        cases hp:pUv b with
        | none=>simp [pTags,rThen,hp,after]
        | some zz =>
          obtain ⟨y,r⟩:=zz
          have:=q4 b y r rfl hp
          simp only [Value.int.injEq,true_and] at this
          obtain rfl:n=y:=by omega
          simp [pTags,rThen,hp,after]
  · rintro a w4 ⟨p1,p2,p3,p4,p5,p6,p7,p8,n,acc,m,st',p9,p10,p11,p12,p13,p14,p15⟩
    have hmu:tMu a w4=n:=by simp [tMu,p9]
    refine SC.wp_seq (SC.wp_seq (SC.wp_reg ?_))
    repeat (apply ops_1;(focus (simp (disch:=(try simp only [sPu]);omega) [p9];try rfl)))
    refine oNi (SC.wp_cond (t:=decide ((n:Int) > 0)) (by simp (disch:=(try simp only [sPu]);omega)) ?_)
    by_cases h0n:n=0
    · subst h0n
      rw [if_neg (by simp)]
      refine SC.wp_exit ?_
      simp only [Exit.then,Exit.inBlock,if_true]
      have hcell:∀ j v,[Value.map m][j]?=some v→w4.cell? ⟨w.heap.size+1,0+j,none⟩=some v:=by
        intro j v hj
        rw [Nat.zero_add,cell_of_row _ _ _ _ _ _ p12]
        rw [← List.getElem?_toArray] at hj
        exact hj
      refine SC.wp_seq (SC.wp_reg (oNo rfl (opw_load_agg (cs:=[.map m]) (b:=w.heap.size+1) (o:=0) hm (by simp (disch:=(try simp only [sPu]);omega) [p5]) hcell (oNo rfl (opw_store_agg (cs:=[.map m]) (cur:=#[.map none]) (b:=w.heap.size) (E:=T0) hm (by simp (disch:=(try simp only [sPu]);omega) [p4]) (by simp (disch:=(try simp only [sPu]);omega)) p8 rfl (by intro v hv;simp at hv;subst hv;rfl) (oNi ?_))))))
      rw [pNo]
      simp only [Exit.then]
      refine SC.wp_ret ?_
      have hfin:=setRow_heap w4 w.heap.size _ [Value.map m].toArray _ _ p8
      have hoth:∀ k,k ≠ w.heap.size→(w4.setRow w.heap.size [Value.map m].toArray).heap[k]?=w4.heap[k]?:=fun k hk=>setRow_other _ _ _ _ hk
      have hst':after st (pTags true)=st':=by
        rw [after_bind,p15]
        cases st' <;> simp [pTagN,rOk]
      refine ret_cellAgg (cs:=[.map m]) (b:=w.heap.size) hr hm (by simp (disch:=(try simp only [sPu]);omega) [p4]) ?_ (by simp [dPu,p2]) ⟨_,rfl,?_,?_,⟨.map m,rfl,rfl⟩,fun b x r hst hp=>⟨.map m,rfl,?_⟩⟩
      · intro j v hj
        rw [cell_of_row _ _ _ _ _ _ hfin,List.getElem?_toArray]
        exact hj
      · rw [hst']
        exact RdAt.frame p11 (hoth _ (by omega)) fun sb h=>hoth _ (by have:=(hsrc sb h).2;omega)
      · exact p6.own (Nat.le_refl _) _
      · have hacc:x=acc:=by
          rw [hst] at p15
          simp only [Option.bind_some,hp] at p15
          cases st' with
          | none=>cases p15
          | some r' =>
            simp only [Option.bind_some,pTagN,rOk,Option.some.injEq,Prod.mk.injEq] at p15
            exact p15.1
        subst hacc
        have hmv:=p13.frame (w':=w4.setRow w.heap.size [Value.map m].toArray) (fun k h1 _=>hoth k (by omega)) (fun sb h=>hoth _ (by have:=(hsrc sb h).2;omega))
        rcases hmv with ⟨rfl,rfl⟩ | ⟨r',es,clock,rfl,e2,e3,e4,e5,e6,e7⟩
        · exact .inl ⟨rfl,rfl⟩
        · refine .inr ⟨r',es,clock,rfl,.inr ⟨by omega,(Array.getElem?_eq_some_iff.1 e4).1⟩,e4,e5,e6,fun e he x hx hk=>?_⟩
          obtain ⟨b2,c2,k1,k2⟩:=e7 e he x hx hk
          exact ⟨b2,c2,k1,bytesAt_F k2 fun k hk=>.inl hk⟩
    · rw [if_pos (by simp;omega)]
      refine SC.wp_skip ?_
      simp only [Exit.then]
      obtain ⟨n',rfl⟩:∃ n',n=n'+1:=⟨n - 1,by omega⟩
      refine SC.wp_seq (SC.wp_block (SC.wp_seq (SC.wp_reg ?_)))
      iterate 1 (apply ops_1;(focus (simp (disch:=(try simp only [sPu]);omega) [p3];try rfl)))
      refine ops_call hU.1 (hU.2 w4 S rb st' (by omega) p11 (hsrc2 w4 p6)) (by simp (disch:=(try simp only [sPu]);omega) [p3]) ?_
      rintro e w5 ⟨v,rfl,k1,k2,⟨k,hkl,rfl⟩,k4⟩
      refine ⟨_,rfl,?_⟩
      iterate 1 (apply ops_1;(focus (simp (disch:=(try simp only [sPu]);omega) [p3];try rfl)))
      refine ops_call hU.1 (hU.2 w5 S rb _ (by have:=k2.size;omega) k1 (hsrc2 w5 (p6.trans k2))) (by simp (disch:=(try simp only [sPu]);omega) [p3]) ?_
      rintro e w6 ⟨v,rfl,l1,l2,⟨s,hsl,rfl⟩,l4⟩
      refine ⟨_,rfl,?_⟩
      repeat (apply ops_1;(focus (simp (disch:=(try simp only [sPu]);omega) ;try rfl)))
      refine oNi (SC.wp_reg ?_)
      have hws:IntKind.i64.wrap (s:Int)=(s:Int):=wrap64 (by omega) (by omega)
      iterate 4 (apply ops_1;(focus (simp (disch:=(try simp only [sPu]);omega) [p3,h1k,h2k,hws];try rfl)))
      refine ops_call hSp.1 (hSp.2 w6 S rb _ (s:Int) l1 (hsrc2 w6 ((p6.trans k2).trans l2))) (by simp (disch:=(try simp only [sPu]);omega) [p3]) ?_
      rintro e w7 ⟨S',base,cap,x,rfl,m1,m2,m3,m4,m5⟩
      refine ⟨_,rfl,?_⟩
      have ho7:Only rb w4 w7:=(k2.trans l2).trans m2
      have hrow7:w7.heap[w.heap.size+1]?=some (.cells #[.map m] T0 (0,0)):=by rw [ho7.block _ (by omega) (by omega)];exact p12
      have hmv7:MapV w7 (w.heap.size+1) (w.heap.size+1) S acc m:=p13.frame (fun k h1 h2=>ho7.block k h2 (by omega)) fun sb h=>ho7.block sb (by have:=(hsrc sb h).2;omega) (hsrc sb h).1
      have hb7:BytesAt w7 (fun k=>S=some k) base x:=by
        rcases m5 with rfl | rfl
        · exact .inl m3.2
        · exact bytesAt_src m3 fun sb h=>h
      refine ops_call hSet.1 (hSet.2 w7 (w.heap.size+1) (w.heap.size+1) k cap S m acc base x (Nat.le_refl _) (by have:=ho7.size;omega) (fun sb h=>by have:=(hsrc sb h).2;omega) hrow7 hmv7 p14 hb7) (by simp (disch:=(try simp only [sPu]);omega) [p5]) ?_
      rintro e w8 ⟨rfl,n1,n2,n3,m',n4,n5⟩
      refine ⟨_,rfl,oNi ?_⟩
      simp only [Exit.then,Exit.inBlock]
      have hwn:IntKind.u32.wrap (n':Int)=(n':Int):=wrap_uN (k:=.u32) rfl (n:=n') (by simp only [IntKind.bits];omega)
      refine SC.wp_reg ?_
      repeat (apply ops_1;(focus (simp (disch:=(try simp only [sPu]);omega) [p9,hwn];try rfl)))
      refine oNi ?_
      have ho8:Only rb w w8:=by
        have ho:=p6.trans ho7
        exact ⟨n1.os.trans ho.os,n1.tape.trans ho.tape,n1.output.trans ho.output,Nat.le_trans ho.size n1.size,fun k hk hr=>(n1.block k (by omega)).trans (ho.block k hk hr)⟩
      refine ⟨⟨by simp [sPu,p1],by simp [dPu,p2],by simp (disch:=(try simp only [sPu]);omega) [p3],by simp (disch:=(try simp only [sPu]);omega) [p4],by simp (disch:=(try simp only [sPu]);omega) [p5],ho8,by have:=n1.size;have:=ho7.size;omega,?_,n',setTag (k,x) acc,m',after (after (after st' pUv) pUv) (pSpan (s:Int)),by simp (disch:=(try simp only [sPu]);omega),by omega,?_,n4,n5,setTag_sorted p14,?_⟩,?_⟩
      · rw [n1.block _ (by omega),ho7.block _ (by omega) (by omega)]
        exact p8
      · exact RdAt.frame m1 (n1.block _ (by omega)) fun sb h=>n1.block _ (by have:=(hsrc sb h).2;omega)
      · rw [p15]
        refine tagN_step (fun b y r hb hp=>?_) (fun b y r hb hp=>?_) (fun b y r hb hp=>(m4 b y r hb hp).1)
        · have:=k4 b y r hb hp
          simp only [Value.int.injEq,true_and] at this
          omega
        · have:=l4 b y r hb hp
          simp only [Value.int.injEq,true_and] at this
          omega
      · rw [hmu]
        simp only [tMu]
        simp (disch:=(try simp only [sPu]);omega)
end
end Go.Proofs.YtgaplicnofhliaaDoor.K
namespace Go.Proofs.YtgaplicnofhliaaDoor.K
open Go Go.RowKit Go.Proofs.YtgaplicnofhliaaDoor.T
attribute [local simp] eTm eCo pNo gTp gTn qv qcall vop iop
set_option linter.unusedSimpArgs false
set_option linter.unusedVariables false
set_option maxHeartbeats 4000000
def sc_NewPtr (T fDef:Nat):SC:=.seq (.reg [⟨some 0,.assign (.const (.pointer none)),none⟩]) (.seq (.reg [⟨some 1,.alloc T,none⟩]) (.seq (.reg [cal 2 fDef [1]]) (.seq (.reg [asg 0 1]) .ret)))
def sc_MaxV (n:Int):SC:=.seq (.reg [⟨some 2,.assign (.const (.int .i16 0)),none⟩]) (.seq (.reg [⟨some 2,.assign (.const (.int .i16 n)),none⟩]) .ret)
def sc_SetV (T T16:Nat):SC:=.reg [mv 4 0,mv 5 1,nilc 6 4,fa 7 T 6 0,⟨none,.store T16 (.tmp 7) (.tmp 5),none⟩]
def sc_Max (fNP fMV T16 TI:Nat):SC:=.seq (.reg [⟨some 0,.assign (.const (.int .i64 0)),none⟩]) (.seq (.reg [cal 1 fNP [],cal 2 fMV [1],⟨some 3,.convert T16 TI (.tmp 2),none⟩,asg 0 3]) .ret)
def sc_New (fNP fSV fAT TI T16:Nat):SC:=.seq (.reg [⟨some 2,.assign (.const (.slice none 0 0)),none⟩]) (.seq (.reg [cal 4 fNP [],asg 3 4]) (.seq (.reg [mv 5 3,mv 6 0,⟨some 7,.convert TI T16 (.tmp 6),none⟩,cal 8 fSV [5,7]]) (.seq (.reg [mv 9 3,⟨some 10,.call ⟨.value (.func fAT),#[.tmp 9,.const (.slice none 0 0)],#[]⟩,none⟩,asg 2 10]) .ret)))
section
variable {P:Program} {X:STy} {f:FuncId} {fn:Func}
def DefFn (P:Program) (f T:Nat) (cs0 cs:Array Value):Prop :=
  FnOK P f∧∀ (w:World) (b:Nat),w.heap[b]?=some (.cells cs0 T (0,0))→Calls P f #[.pointer (some ⟨b,0,none⟩)] w fun e w'=>e=.returned (.tuple #[])∧w'=w.setRow b cs
theorem newPtr_ok {T fDef:Nat} {cs0 cs:Array Value} (hT:∃ i z,P.info? T=some i∧i.zero=some z∧z.cells=cs0) (hD:DefFn P fDef T cs0 cs) (hf:P.funcs[f]?=some fn) (hb:fn.body.map strip=some (sc_NewPtr T fDef)) (hn:fn.ntmps=3) (hr:fn.results=#[.tmp 0]) (w:World) :
    Calls P f #[] w fun e w'=>∃ b,e=.returned (.pointer (some ⟨b,0,none⟩))∧w.heap.size≤b∧w'.heap[b]?=some (.cells cs T (0,0))∧Below w.heap.size w w':=by
  obtain ⟨i,z,hi,hz,rfl⟩:=hT
  refine fCa hf hb hn (by simp) fun a0 hs hd ha=>?_
  refine SC.wp_seq (SC.wp_reg ?_)
  repeat (apply ops_1;(focus (simp (disch:=(try simp only [sPu]);omega) ;try rfl)))
  refine oNi (SC.wp_seq (SC.wp_reg (oNo rfl (opw_alloc hi hz (oNi ?_)))))
  have hnew:=heap_alloc_new w (.cells z.cells T)
  have hbn:Below w.heap.size w (w.alloc (.cells z.cells T)):=(Below.refl _ _).alloc (Nat.le_refl _) _
  generalize w.alloc (.cells z.cells T)=w1 at *
  simp only [Exit.then]
  refine SC.wp_seq (SC.wp_reg (ops_cal hD.1 (R:=fun e w'=>e=.returned (.tuple #[])∧w'=w1.setRow w.heap.size cs) ?_ ?_))
  · refine Eq.mp (congrArg (fun z=>Calls P fDef z w1 _) ?_) (hD.2 w1 w.heap.size hnew)
    simp (disch:=(try simp only [sPu]);omega)
  rintro e w2 ⟨rfl,rfl⟩
  refine ⟨_,rfl,oNi ?_⟩
  simp only [Exit.then]
  refine SC.wp_seq (SC.wp_reg ?_)
  repeat (apply ops_1;(focus (simp (disch:=(try simp only [sPu]);omega) ;try rfl)))
  refine oNi (SC.wp_ret (ret_tmp hr (by simp [dPu,hd]) ⟨w.heap.size,?_,Nat.le_refl _,setRow_heap w1 _ _ cs _ _ hnew,below_setRow hbn (Nat.le_refl _) _⟩))
  simp (disch:=(try simp only [sPu]);omega)
theorem maxV_ok {n:Int} (hf:P.funcs[f]?=some fn) (hb:fn.body.map strip=some (sc_MaxV n)) (hn:fn.ntmps=3) (hr:fn.results=#[.tmp 2]) (w:World) (v:Value) :
    Calls P f #[v] w fun e w'=>e=.returned (.int .i16 n)∧w'=w:=by
  refine fCa hf hb hn (by simp) fun a0 hs hd ha=>?_
  refine SC.wp_seq (SC.wp_reg ?_)
  repeat (apply ops_1;(focus (simp (disch:=(try simp only [sPu]);omega) ;try rfl)))
  refine oNi (SC.wp_seq (SC.wp_reg ?_))
  repeat (apply ops_1;(focus (simp (disch:=(try simp only [sPu]);omega) ;try rfl)))
  refine oNi (SC.wp_ret (ret_tmp hr (by simp [dPu,hd]) ⟨?_,rfl⟩))
  simp (disch:=(try simp only [sPu]);omega)
theorem max_ok {fNP fMV T16 TI T:Nat} {n:Nat} {cs:Array Value} (h16:intK P T16=some .i16) (hI:intK P TI=some .i64) (hn16:n < 32768) (oNP:FnOK P fNP) (cNP:∀ w:World,Calls P fNP #[] w fun e w'=>∃ b,e=.returned (.pointer (some ⟨b,0,none⟩))∧w.heap.size≤b∧w'.heap[b]?=some (.cells cs T (0,0))∧Below w.heap.size w w')
    (oMV:FnOK P fMV) (cMV:∀ (w:World) (v:Value),Calls P fMV #[v] w fun e w'=>e=.returned (.int .i16 (n:Int))∧w'=w)
    (hf:P.funcs[f]?=some fn) (hb:fn.body.map strip=some (sc_Max fNP fMV T16 TI)) (hn:fn.ntmps=4) (hr:fn.results=#[.tmp 0]) (w:World) :
    Calls P f #[] w fun e w'=>e=.returned (.int .i64 (n:Int))∧Below w.heap.size w w':=by
  refine fCa hf hb hn (by simp) fun a0 hs hd ha=>?_
  have ew:IntKind.i64.wrap (n:Int)=(n:Int):=by rw [wrap_i64'];split <;> omega
  refine SC.wp_seq (SC.wp_reg ?_)
  repeat (apply ops_1;(focus (simp (disch:=(try simp only [sPu]);omega) ;try rfl)))
  refine oNi (SC.wp_seq (SC.wp_reg (ops_cal oNP (cNP w) ?_)))
  rintro e w1 ⟨b,rfl,hb,hc,hbw⟩
  refine ⟨_,rfl,ops_cal oMV (R:=fun e w'=>e=.returned (.int .i16 (n:Int))∧w'=w1) ?_ ?_⟩
  · refine Eq.mp (congrArg (fun z=>Calls P fMV z w1 _) ?_) (cMV w1 (.pointer (some ⟨b,0,none⟩)))
    simp (disch:=(try simp only [sPu]);omega)
  rintro e w2 ⟨rfl,rfl⟩
  refine ⟨_,rfl,?_⟩
  repeat (apply ops_1;(focus (simp (disch:=(try simp only [sPu]);omega) [h16,hI,ew];try rfl)))
  refine oNi (SC.wp_ret (ret_tmp hr (by simp [dPu,hd]) ⟨?_,hbw⟩))
  simp (disch:=(try simp only [sPu]);omega)
theorem setV_ok {T T16:Nat} (h0:fieldOff P T 0=some 0) (h1:oneB P T16=true) (hf:P.funcs[f]?=some fn) (hb:fn.body.map strip=some (sc_SetV T T16)) (hn:fn.ntmps=8) (hr:fn.results=#[]) (w:World) (b:Nat) (cs:Array Value) (E:TypeId) (hc:w.heap[b]?=some (.cells cs E (0,0))) (hcs:0 < cs.size) (n:Int) :
    Calls P f #[.pointer (some ⟨b,0,none⟩),.int .i16 n] w fun e w'=>e=.returned (.tuple #[])∧w'=w.setRow b (cs.setIfInBounds 0 (.int .i16 n)):=by
  refine fCa hf hb hn (by simp) fun a0 hs hd ha=>?_
  have k0:=ha 0 _ rfl
  have k1:=ha 1 _ rfl
  simp only [List.getElem_toArray,List.getElem_cons_zero,List.getElem_cons_succ] at k0 k1
  refine SC.wp_reg ?_
  iterate 4 (apply ops_1;(focus (simp (disch:=(try simp only [sPu]);omega) [k0,k1,h0];try rfl)))
  refine oNo rfl (opw_store_one (ad:=⟨b,0,none⟩) (v:=.int .i16 n) (v0:=cs[0]) h1 (by simp (disch:=(try simp only [sPu]);omega)) (by simp (disch:=(try simp only [sPu]);omega)) rfl (by rw [cell_of_row _ _ _ _ _ _ hc];exact Array.getElem?_eq_getElem hcs) (by simp [World.frozen?,hc]) (oNi ?_))
  refine ⟨by simp [dPu,pNo,hd],.tuple #[],by simp [results,hr],rfl,setCell_eq_setRow _ _ _ _ _ _ _ hc⟩
theorem new_ok {fNP fSV fAT TI T16 T tU8:Nat} {cs:Array Value} {out:Int→Bytes} (h16:intK P T16=some .i16) (hI:intK P TI=some .i64) (oNP:FnOK P fNP) (cNP:∀ w:World,Calls P fNP #[] w fun e w'=>∃ b,e=.returned (.pointer (some ⟨b,0,none⟩))∧w.heap.size≤b∧w'.heap[b]?=some (.cells cs T (0,0))∧Below w.heap.size w w')
    (oSV:FnOK P fSV) (cSV:∀ (w:World) (b:Nat),w.heap[b]?=some (.cells cs T (0,0))→∀ n:Int,Calls P fSV #[.pointer (some ⟨b,0,none⟩),.int .i16 n] w fun e w'=>e=.returned (.tuple #[])∧w'=w.setRow b (cs.setIfInBounds 0 (.int .i16 n)))
    (oAT:FnOK P fAT) (cAT:∀ (w:World) (b:Nat) (n:Int),w.heap[b]?=some (.cells (cs.setIfInBounds 0 (.int .i16 n)) T (0,0))→0≤n→n < 32768→Calls P fAT #[.pointer (some ⟨b,0,none⟩),.slice none 0 0] w fun e w'=>∃ dv,e=.returned dv∧Own tU8 w' w.heap.size dv (out n)∧Below w.heap.size w w')
    (hf:P.funcs[f]?=some fn) (hb:fn.body.map strip=some (sc_New fNP fSV fAT TI T16)) (hn:fn.ntmps=11) (hr:fn.results=#[.tmp 2]) (w:World) (ver:Nat) (hv:ver < 32768) :
    Calls P f #[.int .i64 (ver:Int)] w (RetOwn tU8 w (out ver)):=by
  refine fCa hf hb hn (by simp) fun a0 hs hd ha=>?_
  have k0:=ha 0 _ rfl
  simp only [List.getElem_toArray,List.getElem_cons_zero,List.getElem_cons_succ] at k0
  have ew:IntKind.i16.wrap (ver:Int)=(ver:Int):=by rw [wrap_i16'];split <;> omega
  refine SC.wp_seq (SC.wp_reg ?_)
  repeat (apply ops_1;(focus (simp (disch:=(try simp only [sPu]);omega) ;try rfl)))
  refine oNi (SC.wp_seq (SC.wp_reg (ops_cal oNP (cNP w) ?_)))
  rintro e w1 ⟨b,rfl,hb,hc,hbw⟩
  refine ⟨_,rfl,?_⟩
  have hsw:w.heap.size≤w1.heap.size:=hbw.size
  repeat (apply ops_1;(focus (simp (disch:=(try simp only [sPu]);omega) ;try rfl)))
  refine oNi ?_
  simp only [Exit.then]
  refine SC.wp_seq (SC.wp_reg ?_)
  iterate 3 (apply ops_1;(focus (simp (disch:=(try simp only [sPu]);omega) [h16,hI,k0,ew];try rfl)))
  refine ops_cal oSV (R:=fun e w'=>e=.returned (.tuple #[])∧w'=w1.setRow b (cs.setIfInBounds 0 (.int .i16 (ver:Int)))) ?_ ?_
  · refine Eq.mp (congrArg (fun z=>Calls P fSV z w1 _) ?_) (cSV w1 b hc (ver:Int))
    simp (disch:=(try simp only [sPu]);omega)
  rintro e w2 ⟨rfl,rfl⟩
  refine ⟨_,rfl,oNi ?_⟩
  have hc2:=setRow_heap w1 b _ (cs.setIfInBounds 0 (.int .i16 (ver:Int))) _ _ hc
  have hb2:Below w.heap.size w (w1.setRow b (cs.setIfInBounds 0 (.int .i16 (ver:Int)))):=below_setRow hbw hb _
  have hs2:(w1.setRow b (cs.setIfInBounds 0 (.int .i16 (ver:Int)))).heap.size=w1.heap.size:=by simp
  generalize w1.setRow b (cs.setIfInBounds 0 (.int .i16 (ver:Int)))=w3 at *
  simp only [Exit.then]
  refine SC.wp_seq (SC.wp_reg ?_)
  iterate 1 (apply ops_1;(focus (simp (disch:=(try simp only [sPu]);omega) ;try rfl)))
  refine ops_call oAT (cAT w3 b ver hc2 (by omega) (by omega)) (by simp (disch:=(try simp only [sPu]);omega)) ?_
  rintro e w4 ⟨dv,rfl,ho,hb4⟩
  refine ⟨dv,rfl,?_⟩
  repeat (apply ops_1;(focus (simp (disch:=(try simp only [sPu]);omega) ;try rfl)))
  refine oNi (SC.wp_ret (ret_tmp hr (by simp [dPu,hd]) ⟨dv,?_,own_down ho (by omega),hb2.trans (hb4.mono (by omega))⟩))
  simp (disch:=(try simp only [sPu]);omega)
def sc_LawNew (fMax fSp fVer fNew fDef fWr fSame TI M Fs_:Nat):SC:=.seq (.reg [⟨some 2,.assign (.const (.bool false)),none⟩]) (.seq (.reg [cal 5 fMax [],asg 3 5]) (.seq (.seq (.reg [mv 6 3,⟨some 7,.binOp .lss TI (.tmp 6) (.const (.int .i64 0)) TI,none⟩]) (.cond (.tmp 7) (.seq (.reg [⟨some 2,.assign (.const (.bool false)),none⟩]) .ret) .skip)) (.seq (.reg [cal 8 fSp [],⟨some 4,.alloc M,none⟩,⟨none,.store M (.tmp 4) (.tmp 8),none⟩]) (.seq (.dreg [mv 9 0,mv 10 3,cal 11 fVer [9,10],cal 12 fNew [11],ld 13 M 4,mv 14 0,mv 15 3,cal 16 fVer [14,15],fa 17 M 4 0,ld 18 Fs_ 17,cal 19 fDef [18],cal 20 fWr [13,16,19],cal 21 fSame [12,20],asg 2 21] [[],[],[0,1],[2,2],[],[],[],[5,6,3],[],[8],[9,7],[4,7,10,10],[3,11,11],[12,12,0,1,2,3,4,5,6,7,8,9,10,11,12]]) .ret))))
end
end Go.Proofs.YtgaplicnofhliaaDoor.K
namespace Go.Proofs.YtgaplicnofhliaaDoor.K
open Go Go.RowKit Go.Proofs.YtgaplicnofhliaaDoor.T
attribute [local simp] eTm eCo pNo gTp gTn qv qcall vop iop
set_option linter.unusedVariables false
set_option linter.unusedSimpArgs false
set_option maxHeartbeats 2000000
def sc_ReadFromW (F0:Nat):SC:=.seq (.reg [⟨some 4,.assign (.const .nilIface),none⟩]) (.seq (.reg [mv 5 0,mv 6 1,⟨some 7,.call ⟨.value (.func F0),#[(.tmp 5),(.tmp 6),(.const (.bool false))],#[]⟩,none⟩,asg 4 7]) (.ret))
def sc_Again (T0 T1 T2 T3 F0 F1 F2 F3:Nat):SC:=.seq (.reg [⟨some 4,.assign (.const (.slice none 0 0)),none⟩,⟨some 5,.assign (.const (.bool false)),none⟩]) (.seq (.reg [cal 7 F0 [],asg 6 7]) (.seq (.reg [mv 8 6,mv 9 0,⟨some 10,.convert T0 T1 (.tmp 9),none⟩,cal 11 F1 [8,10]]) (.seq (.seq (.reg [mv 12 6,mv 13 1,⟨some 14,.call ⟨.builtin .append,#[(.const (.slice none 0 0)),(.tmp 13)],#[T2,T2]⟩,none⟩,cal 15 F2 [12,14],⟨some 16,.binOp .neq T3 (.tmp 15) (.const .nilIface) T3,none⟩]) (.cond (.tmp 16) (.seq (.reg [⟨some 4,.assign (.const (.slice none 0 0)),none⟩,⟨some 5,.assign (.const (.bool false)),none⟩]) (.ret)) (.skip))) (.seq (.reg [mv 17 6,⟨some 18,.call ⟨.value (.func F3),#[(.tmp 17),(.const (.slice none 0 0))],#[]⟩,none⟩,asg 4 18,⟨some 5,.assign (.const (.bool true)),none⟩]) (.ret)))))
section
variable {P:Program} {f:FuncId} {fn:Func}
theorem readFromW_ok {F0:Nat} (oF:FnOK P F0) (hf:P.funcs[f]?=some fn) (hb:fn.body.map strip=some (sc_ReadFromW F0)) (hn:fn.ntmps=8) (hr:fn.results=#[.tmp 4]) (w:World) (x y:Value) (R:Ending→World→Prop)
    (hc:Calls P F0 #[x,y,.bool false] w fun e w'=>∃ v,e=.returned v∧R e w'):Calls P f #[x,y] w R:=by
  refine fCa hf hb hn (by simp) fun a0 hs hd ha=>?_
  have h0:=ha 0 _ rfl
  have h1:=ha 1 _ rfl
  simp only [List.getElem_toArray,List.getElem_cons_zero,List.getElem_cons_succ] at h0 h1
  refine SC.wp_seq (SC.wp_reg ?_)
  repeat (apply ops_1;(focus (simp (disch:=(try simp only [sPu]);omega) ;try rfl)))
  refine oNi (SC.wp_seq (SC.wp_reg ?_))
  iterate 2 (apply ops_1;(focus (simp (disch:=(try simp only [sPu]);omega) [h0,h1];try rfl)))
  refine ops_call oF hc (by simp (disch:=(try simp only [sPu]);omega) [h0,h1]) ?_
  rintro e w1 ⟨v,rfl,hR⟩
  refine ⟨_,rfl,?_⟩
  repeat (apply ops_1;(focus (simp (disch:=(try simp only [sPu]);omega) ;try rfl)))
  refine oNi (SC.wp_ret (ret_tmp hr (by simp [dPu,hd]) ?_))
  simp (disch:=(try simp only [sPu]);omega)
  exact hR
def isErr:Value→Bool
  | .iface _ _=>true
  | _=>false
def ifaceT (P:Program) (T:Nat):Bool:=match P.underlying T with
  | some (.interface _)=>true
  | _=>false
theorem opw_isErr {a:Act} {w:World} {K:Act→World→Prop} {d:Option Tmp} {g:Option (Nat × Bool)} {T T':Nat} {x:Operand} {v:Value} (hT:ifaceT P T=true) (hx:a.eval x=v) (hv:v=.nilIface∨∃ t y,v=.iface t y) (h:K (a.put d (.bool (isErr v))) w) :
    opw P ⟨d,.binOp .neq T x (.const .nilIface) T',g⟩ a w K:=by
  unfold ifaceT at hT
  split at hT <;> try (simp at hT;done)
  rename_i ms hu
  refine oVa (v:=.bool (isErr v)) (by simp) (fun p hp=>?_) h
  have he:(Op.equal T v .nilIface).run P w=.ok (!isErr v) w:=by
    have hd:∀ d,(Op.equalIn (d+1) T v .nilIface).run P w=.ok (!isErr v) w:=fun d=>by
      rcases hv with rfl | ⟨t,y,rfl⟩ <;> simp [Op.equalIn,run_underlying hu,isErr]
    exact hd 9999
  rcases hv with rfl | ⟨t,y,rfl⟩ <;> simp [execOp,hp,hx,eCo,eqGuard,binOp,he,isErr]
def AgC (P:Program) (tU8:Nat) (flex:Option Int) (fs:Fs) (gb m:Nat) (Gl:World→Prop) (F:FuncId):Prop:=FnOK P F∧∀ (w:World) (S:Option Nat) (base:Option Addr) (src:Bytes) (cap v:Nat),v≤m→gb < w.heap.size→(∀ w',Below w.heap.size w w'→Gl w')→SrcAt w S base src→(∀ sb,S=some sb→sb < w.heap.size)→src.length≤lim →
  (∀ xs u r,pMsg v (flexAt flex v) fs src=some ((xs,u),r)→FitFs v fs xs∧FitTags u∧(wMsg v (flexAt flex v) fs xs u).length≤lim) →
  Calls P F #[.int .i64 (v:Int),.slice base src.length cap] w fun e w'=>Below w.heap.size w w' ∧
    match pMsg v (flexAt flex v) fs src with
    | none=>e=.returned (.tuple #[.slice none 0 0,.bool false])
    | some ((xs,u),r)=>∃ dv,e=.returned (.tuple #[dv,.bool true])∧Own tU8 w' w.heap.size dv (wMsg v (flexAt flex v) fs xs u)
theorem res2 {a:Act} {w:World} {r1 r2:Nat} {v1 v2:Value} (hr:fn.results=#[.tmp r1,.tmp r2]) (h1:getT a r1=v1) (h2:getT a r2=v2):(results fn a.tmps).run P w=.ok (.tuple #[v1,v2]) w:=by
  have e1:a.tmps.getD r1 undef=v1:=h1
  have e2:a.tmps.getD r2 undef=v2:=h2
  simp only [Array.getD_eq_getD_getElem?] at e1 e2
  simp [results,hr,e1,e2]
theorem own_base {tU8:Nat} {w:World} {B B':Nat} {dv:Value} {xs:Bytes} (h:Own tU8 w B dv xs) (hB:B'≤B):Own tU8 w B' dv xs:=by
  obtain ⟨h1,h2 | ⟨g,cap,cur,e1,e2,e3⟩⟩:=h
  · exact ⟨h1,.inl h2⟩
  · exact ⟨h1,.inr ⟨g,cap,cur,e1,Nat.le_trans hB e2,e3⟩⟩
theorem pMsg_body {ver:Int} {flex:Bool} {fs:Fs} {b:Bytes}:pMsg ver flex fs b=(pBody ver flex fs b).map fun z=>((z.1.l,z.1.u),z.2):=by
  simp only [pMsg,pBody,rThen]
  cases h1:pFs ver flex fs b with
  | none=>rfl
  | some z =>
    obtain ⟨xs,r⟩:=z
    simp only [Option.bind_some]
    cases h2:pTags flex r with
    | none=>rfl
    | some z2=>rfl
theorem again_ok {I:RIds} {M:RTop} {tU8 gb m T0 T1 T2 T3 F0 F1 F2 F3 FR:Nat} {G:List (Nat × Bytes)→Prop} {Gl:World→Prop} {err:Value} {cs:Array Value} {T:TypeId}
    (h0k:intK P T0=some .i64) (h1k:intK P T1=some .i16) (hT2:u8sB P T2 tU8=true) (hT3:ifaceT P T3=true) (hm:m < 32768) (herr:∃ t y,err=.iface t y)
    (oNP:FnOK P F0) (cNP:∀ w:World,Calls P F0 #[] w fun e w'=>∃ b,e=.returned (.pointer (some ⟨b,0,none⟩))∧w.heap.size≤b∧w'.heap[b]?=some (.cells cs T (0,0))∧Below w.heap.size w w')
    (oSV:FnOK P F1) (cSV:∀ (w:World) (b:Nat) (cs:Array Value) (E:TypeId),w.heap[b]?=some (.cells cs E (0,0))→0 < cs.size→∀ n:Int,Calls P F1 #[.pointer (some ⟨b,0,none⟩),.int .i16 n] w fun e w'=>e=.returned (.tuple #[])∧w'=w.setRow b (cs.setIfInBounds 0 (.int .i16 n)))
    (oRF:FnOK P F2) (cRF:∀ (w:World) (x y:Value) (R:Ending→World→Prop),(Calls P FR #[x,y,.bool false] w fun e w'=>∃ v,e=.returned v∧R e w')→Calls P F2 #[x,y] w R)
    (cR:∀ (B:Nat) (w0:World),gb < B→(∀ w',Below B w0 w'→Gl w')→ReadC P I M B G err FR w0)
    (oAT:FnOK P F3) (cAT:∀ (w:World) (b:Nat) (ver:Int) (ts:List Tree) (u:List (Nat × Bytes)),b < w.heap.size→w.cell? ⟨b,0,none⟩=some (.int .i16 ver)→0≤ver→HFs G w (· < w.heap.size) ver (flexAt M.flex ver) M.fs b 0 ts→TagsAt G w (· < w.heap.size) (flexAt M.flex ver) b 0 M.tags u →
      (wFs ver (flexAt M.flex ver) M.fs ts ++ wTags (flexAt M.flex ver) u).length≤lim→Calls P F3 #[.pointer (some ⟨b,0,none⟩),.slice none 0 0] w fun e w'=>∃ dv,e=.returned dv∧Own tU8 w' w.heap.size dv (wFs ver (flexAt M.flex ver) M.fs ts ++ wTags (flexAt M.flex ver) u)∧Below w.heap.size w w')
    (hsz:M.size≤cs.size) (hs1:1≤M.size) (hlay:layFs 1 (topEnd M.size M.tags) M.fs=true) (hfr:frFsB (fun j=>cs[j]?) M.fs 0=true)
    (hf : P.funcs[f]? = some fn) (hb : fn.body.map strip = some (sc_Again T0 T1 T2 T3 F0 F1 F2 F3)) (hnm : (fn.name == "runtime.NumGoroutine") = false) (hn : fn.ntmps = 19) (hr : fn.results = #[.tmp 4, .tmp 5]) : AgC P tU8 M.flex M.fs gb m Gl f := by
  refine ⟨fnOK_of hf hb hnm,fun w S base src cap v hv hgb hgl hsr hS hlen hfit=>?_⟩
  refine fCa hf hb hn (by simp) fun a0 hs hd ha=>?_
  have h0:=ha 0 _ rfl
  have h1:=ha 1 _ rfl
  simp only [List.getElem_toArray,List.getElem_cons_zero,List.getElem_cons_succ] at h0 h1
  refine SC.wp_seq (SC.wp_reg ?_)
  repeat (apply ops_1;(focus (simp (disch:=(try simp only [sPu]);omega) ;try rfl)))
  refine oNi (SC.wp_seq (SC.wp_reg ?_))
  refine ops_call oNP (cNP w) (by simp (disch:=(try simp only [sPu]);omega)) ?_
  rintro e w1 ⟨b,rfl,hbw,hrow,hb1⟩
  refine ⟨_,rfl,?_⟩
  have hbl1:b < w1.heap.size:=(Array.getElem?_eq_some_iff.1 hrow).1
  repeat (apply ops_1;(focus (simp (disch:=(try simp only [sPu]);omega) ;try rfl)))
  refine oNi (SC.wp_seq (SC.wp_reg ?_))
  have hwv:IntKind.i16.wrap (v:Int)=(v:Int):=by
    simp only [IntKind.wrap,IntKind.bits,IntKind.signed]
    simp
    split <;> omega
  iterate 3 (apply ops_1;(focus (simp (disch:=(try simp only [sPu]);omega) [h0,h0k,h1k,hwv];try rfl)))
  refine ops_call oSV (cSV w1 b cs T hrow (by omega) (v:Int)) (by simp (disch:=(try simp only [sPu]);omega)) ?_
  rintro e w2 ⟨rfl,hw2⟩
  refine ⟨_,rfl,oNi ?_⟩
  simp only [Exit.then]
  have hrow2:w2.heap[b]?=some (.cells (cs.setIfInBounds 0 (.int .i16 v)) T (0,0)):=by rw [hw2];exact setRow_heap _ _ _ _ _ _ hrow
  have hb2:Below w.heap.size w w2:=by rw [hw2];exact hb1.trans ⟨rfl,rfl,rfl,by simp,fun k hk=>setRow_other _ _ _ _ (by omega)⟩
  have hsz2:w2.heap.size=w1.heap.size:=by rw [hw2];simp
  refine SC.wp_seq (SC.wp_seq (SC.wp_reg ?_))
  iterate 2 (apply ops_1;(focus (simp (disch:=(try simp only [sPu]);omega) [h1];try rfl)))
  have hS2:SrcAt w2 S base src:=hsr.frame fun sb h=>hb2.block sb (hS sb h)
  have hu8:=(u8s_of hT2).1
  have hsrc:Src P 1 T2 (.slice base src.length cap) src.length (cellsOf src) w2:=by
    cases S with
    | none =>
      obtain ⟨rfl,rfl⟩:=hS2
      exact Src.ofNil w2 hu8 _
    | some sb =>
      obtain ⟨o,rfl,hc⟩:=hS2
      refine Src.ofSlice w2 hu8 ⟨sb,o,none⟩ src.length cap (cellsOf src) (by simp [cLen]) (fun j u hj=>?_) (fun u hu=>?_)
      · rw [add_none]
        simp only [cellsOf,List.getElem?_map,Option.map_eq_some_iff] at hj
        obtain ⟨u',hu',rfl⟩:=hj
        exact hc j u' hu'
      · simp only [cellsOf,List.mem_map] at hu
        obtain ⟨u',_,rfl⟩:=hu
        rfl
  refine oNo rfl (opw_appendU8 (B:=w2.heap.size) (xs:=[]) (bs:=src) (dv:=.slice none 0 0) (xv:=.slice base src.length cap) hT2 (eCo _ _) (by simp (disch:=(try simp only [sPu]);omega)) rfl (World.ownsRow_nil _ _ _ _) (Nat.le_refl _) hsrc (by simpa using hlen) fun dv w3 ho hb3 hbs3 _=>?_)
  rw [List.nil_append] at ho
  have hrow3:w3.heap[b]?=some (.cells (cs.setIfInBounds 0 (.int .i16 v)) T (0,0)):=by rw [hb3.block b (by omega)];exact hrow2
  have hb3':Below w.heap.size w w3:=hb2.trans ⟨hb3.os,hb3.tape,hb3.output,hb3.size,fun k hk=>hb3.block k (by have:=hb2.size;omega)⟩
  obtain ⟨S3,base3,cap3,rfl,hcap3,hsr3,hS3⟩:∃ S3 base3 cap3,dv=.slice base3 src.length cap3∧src.length≤cap3∧SrcAt w3 S3 base3 src∧∀ sb,S3=some sb→sb ≠ b∧sb < w3.heap.size:=by
    obtain ⟨ho1,⟨e1,e2⟩ | ⟨g,c3,cur,e1,e2,e3,e4,e5,e6,e7⟩⟩:=ho
    · have hnil:src=[]:=List.length_eq_zero_iff.1 e2
      subst hnil
      exact ⟨none,none,0,e1,Nat.le_refl _,⟨rfl,rfl⟩,fun sb h=>by cases h⟩
    · refine ⟨some g,some ⟨g,0,none⟩,c3,e1,e4,⟨0,rfl,fun j u hu=>?_⟩,fun sb h=>by cases h;exact ⟨by omega,(Array.getElem?_eq_some_iff.1 e3).1⟩⟩
      rw [cell_of_row _ _ _ _ _ _ e3,Nat.zero_add]
      have hj:(cellsOf src)[j]?=some (cell u):=by simp [cellsOf,hu]
      rw [← e7,List.getElem?_take] at hj
      split at hj
      · rwa [Array.getElem?_toList] at hj
      · cases hj
  have hfr1:FrFs w1 b M.fs 0:=by
    have:=frFsB_ok (w:=w1) (b:=b) (q:=0) (get:=fun j=>cs[j]?) (fun j v hj=>by rw [Nat.zero_add,cell_of_row _ _ _ _ _ _ hrow];exact hj) M.fs 0 hfr
    simpa using this
  have hfr3:FrFs w3 b M.fs 0:=by
    refine frFs_frame (w:=w1) M.fs 1 (topEnd M.size M.tags) 0 hlay (fun j h1 h2=>?_) hfr1
    rw [cell_of_row _ _ _ _ _ _ hrow,cell_of_row _ _ _ _ _ _ hrow3]
    exact Array.getElem?_setIfInBounds_ne (by omega)
  have hcr:=cR w.heap.size w3 hgb (fun w' h=>hgl w' (hb3'.trans h)) S3 b _ T base3 src cap3 (v:Int) (by omega) hbw (by have:=hb3'.size;omega) hrow3 (by rw [Array.size_setIfInBounds];exact hsz) (by simp [show 0 < cs.size by omega]) hfr3 hcap3 hsr3 hS3
  obtain ⟨R,hR⟩:∃ R:Ending→World→Prop,R=fun e w'=>∃ v',e=.returned v'∧((v'=.nilIface∨∃ t y,v'=.iface t y)∧Below w.heap.size w3 w'∧w.heap.size≤w'.heap.size ∧
      match pMsg v (flexAt M.flex v) M.fs src with
      | none=>v'=err
      | some ((xs,u),r)=>v'=.nilIface∧b < w'.heap.size∧w'.cell? ⟨b,0,none⟩=some (.int .i16 v)∧HFs G w' (· < w'.heap.size) v (flexAt M.flex v) M.fs b 0 xs∧TagsAt G w' (· < w'.heap.size) (flexAt M.flex v) b 0 M.tags u):=⟨_,rfl⟩
  refine ops_call oRF (cRF w3 (.pointer (some ⟨b,0,none⟩)) (.slice base3 src.length cap3) R (hcr.mono fun e w' h=>?_)) (by simp (disch:=(try simp only [sPu]);omega)) ?_
  · obtain ⟨z1,z2,z3⟩:=h
    rw [hR]
    simp only [pMsg_body]
    cases hp:pBody v (flexAt M.flex v) M.fs src with
    | none =>
      rw [hp] at z3
      simp only at z3
      subst z3
      exact ⟨_,rfl,_,rfl,.inr herr,z1,z2,rfl⟩
    | some zz =>
      obtain ⟨x,r⟩:=zz
      rw [hp] at z3
      obtain ⟨rfl,y1,y2,y3⟩:=z3
      have hft:=hfit x.l x.u r (by rw [pMsg_body,hp];rfl)
      obtain ⟨F,hF,q1,q2⟩:=y3 hft.1 hft.2.1
      refine ⟨_,rfl,_,rfl,.inl rfl,z1,z2,rfl,y1,y2,?_,?_⟩
      · exact hFs_frame (fun k hk=>⟨hF k hk,rfl⟩) _ _ M.fs 1 (topEnd M.size M.tags) b 0 x.l hlay (fun _ _ _=>rfl) q1
      · cases ht:M.tags with
        | none=>rw [ht] at q2;exact q2
        | some z =>
          rw [ht] at q2
          exact fun hfl=>hTags_frame (fun k hk=>⟨hF k hk,rfl⟩) rfl (q2 hfl)
  rw [hR]
  rintro e w4 ⟨v',rfl,hv',hb4,hs4,hpost⟩
  refine ⟨_,rfl,?_⟩
  refine oNo rfl (opw_isErr (v:=v') hT3 (by simp (disch:=(try simp only [sPu]);omega)) hv' (oNi ?_))
  simp only [Exit.then]
  refine SC.wp_cond (t:=isErr v') (by simp (disch:=(try simp only [sPu]);omega)) ?_
  have hb4':Below w.heap.size w w4:=hb3'.trans hb4
  cases hp:pMsg v (flexAt M.flex v) M.fs src with
  | none =>
    rw [hp] at hpost
    simp only at hpost
    subst hpost
    obtain ⟨t,y,rfl⟩:=herr
    simp only [isErr,if_true]
    refine SC.wp_seq (SC.wp_reg ?_)
    repeat (apply ops_1;(focus (simp (disch:=(try simp only [sPu]);omega) ;try rfl)))
    refine oNi (SC.wp_ret ?_)
    try simp only [Exit.then]
    exact bodyPost_ret_by (v:=.tuple #[.slice none 0 0,.bool false]) (res2 hr (by simp (disch:=(try simp only [sPu]);omega)) (by simp (disch:=(try simp only [sPu]);omega))) (by simp [dPu,hd]) ⟨hb4',rfl⟩
  | some zz =>
    obtain ⟨⟨xs,u⟩,r⟩:=zz
    rw [hp] at hpost
    obtain ⟨rfl,y1,y2,y3,y4⟩:=hpost
    simp only [isErr,Bool.false_eq_true,if_false]
    refine SC.wp_skip ?_
    simp only [Exit.then]
    refine SC.wp_seq (SC.wp_reg ?_)
    iterate 1 (apply ops_1;(focus (simp (disch:=(try simp only [sPu]);omega) ;try rfl)))
    refine ops_call oAT (cAT w4 b v xs u y1 y2 (by omega) y3 y4 (hfit xs u r hp).2.2) (by simp (disch:=(try simp only [sPu]);omega)) ?_
    rintro e w5 ⟨dv5,rfl,ho5,hb5⟩
    refine ⟨_,rfl,?_⟩
    repeat (apply ops_1;(focus (simp (disch:=(try simp only [sPu]);omega) ;try rfl)))
    refine oNi (SC.wp_ret ?_)
    try simp only [Exit.then]
    exact bodyPost_ret_by (v:=.tuple #[dv5,.bool true]) (res2 hr (by simp (disch:=(try simp only [sPu]);omega)) (by simp (disch:=(try simp only [sPu]);omega))) (by simp [dPu,hd]) ⟨hb4'.trans ⟨hb5.os,hb5.tape,hb5.output,hb5.size,fun k hk=>hb5.block k (by omega)⟩,dv5,rfl,own_base ho5 (by omega)⟩
end
end Go.Proofs.YtgaplicnofhliaaDoor.K
namespace Go.Proofs.YtgaplicnofhliaaDoor.K
open Go Go.RowKit Go.Proofs.YtgaplicnofhliaaDoor.T
attribute [local simp] eTm eCo pNo gTp gTn qv qcall vop iop
set_option linter.unusedSimpArgs false
set_option linter.unusedVariables false
set_option maxHeartbeats 4000000
def zz (x:Nat):Int:=if x % 2=0 then ((x / 2:Nat):Int) else -((x / 2:Nat):Int) - 1
def pVar:Rd Int:=rThen pUv fun x=>rOk (zz x)
def sc_KVarint (T0 T1 T2 F0:Nat):SC:=.seq (.reg [⟨some 2,.assign (.const (.int .i32 0)),none⟩,⟨some 3,.assign (.const (.int .i64 0)),none⟩]) (.seq (.reg [mv 7 0,cal 8 F0 [7],mv 6 8,⟨some 9,.extract (.tmp 6) 0,none⟩,⟨some 10,.extract (.tmp 6) 1,none⟩,asg 4 9,asg 5 10]) (.seq (.reg [mv 11 4,⟨some 12,.binOp .shr T0 (.tmp 11) (.const (.int .u64 1)) T1,none⟩,mv 13 4,⟨some 14,.binOp .and T0 (.tmp 13) (.const (.int .u32 1)) T0,none⟩,⟨some 15,.unOp .neg T0 (.tmp 14),none⟩,⟨some 16,.binOp .xor T0 (.tmp 12) (.tmp 15) T0,none⟩,⟨some 17,.convert T0 T2 (.tmp 16),none⟩,mv 18 5,asg 2 17,asg 3 18]) (.ret)))
def sc_RVarint (R:RTy) (F0:Nat):SC:=.seq (.reg [⟨some 2,.assign (.const (.int .i32 0)),none⟩]) (.seq (.reg [mv 6 0,nilc 7 6,fa 8 R.TR 7 0,ld 9 R.TB 8,cal 10 F0 [9],mv 5 10,⟨some 11,.extract (.tmp 5) 0,none⟩,⟨some 12,.extract (.tmp 5) 1,none⟩,asg 3 11,asg 4 12]) (.seq (.seq (.reg [mv 13 4,⟨some 14,.binOp .leq R.I (.tmp 13) (.const (.int .i64 0)) R.I,none⟩]) (.cond (.tmp 14) (rFail R 15 2 (.int .i32 0)) (.skip))) (.seq (rDropV R 21 4) (.seq (.reg [mv 30 3,asg 2 30]) (.ret)))))
section
variable {P:Program} {a:Act} {w:World} {K:Act→World→Prop} {d:Option Tmp} {g:Option (Nat × Bool)}
theorem opw_and {T T':TypeId} {k:IntKind} {x y:Operand} {m n r:Int} (hx:a.eval x=.int k m) (hy:a.eval y=.int k n) (hr:k.wrap ((BitVec.ofInt k.bits m &&& BitVec.ofInt k.bits n).toNat:Int)=r)
    (h:K (a.put d (.int k r)) w):opw P ⟨d,.binOp .and T x y T',g⟩ a w K:=by
  subst hr
  refine oVa (by simp) (fun p hp=>?_) h
  simp [execOp,hp,hx,hy,run_eqGuard_int,binOp,Op.intBits]
theorem opw_xor {T T':TypeId} {k:IntKind} {x y:Operand} {m n r:Int} (hx:a.eval x=.int k m) (hy:a.eval y=.int k n) (hr:k.wrap ((BitVec.ofInt k.bits m ^^^ BitVec.ofInt k.bits n).toNat:Int)=r)
    (h:K (a.put d (.int k r)) w):opw P ⟨d,.binOp .xor T x y T',g⟩ a w K:=by
  subst hr
  refine oVa (by simp) (fun p hp=>?_) h
  simp [execOp,hp,hx,hy,run_eqGuard_int,binOp,Op.intBits]
theorem opw_neg {T:TypeId} {k:IntKind} {x:Operand} {n:Int} (hx:a.eval x=.int k n) (h:K (a.put d (.int k (k.wrap (0 - n)))) w):opw P ⟨d,.unOp .neg T x,g⟩ a w K:=by
  refine oVa (by simp) (fun p hp=>?_) h
  simp [execOp,hp,hx,Op.unary,Op.intArith]
end
theorem and_one {x:Nat} (h:x < 4294967296):IntKind.u32.wrap ((BitVec.ofInt 32 (x:Int) &&& BitVec.ofInt 32 1).toNat:Int)=((x % 2:Nat):Int):=by
  have e:(BitVec.ofInt 32 (x:Int) &&& BitVec.ofInt 32 1).toNat=x % 2:=by
    rw [BitVec.toNat_and,BitVec.toNat_ofInt]
    have e1:(BitVec.ofInt 32 1).toNat=1:=by decide
    rw [e1,Nat.and_one_is_mod]
    omega
  rw [e]
  simp only [IntKind.wrap,IntKind.bits,IntKind.signed]
  simp
  omega
theorem pVar_of {b r:Bytes} {x:Nat} (h:pUv b=some (x,r)):pVar b=some (zz x,r):=by simp [pVar,rThen,h,rOk]
theorem zz_even {x:Nat} (h:x < 4294967296) (hp:x % 2=0) :
    IntKind.i32.wrap (IntKind.u32.wrap ((BitVec.ofInt 32 ((x:Int) / 2) ^^^ BitVec.ofInt 32 (IntKind.u32.wrap (0 - ((x % 2:Nat):Int)))).toNat:Int))=zz x:=by
  rw [hp]
  have e1:IntKind.u32.wrap (0 - ((0:Nat):Int))=0:=by decide
  have e2:(x:Int) / 2=((x / 2:Nat):Int):=by omega
  rw [e1,e2,zz,if_pos hp]
  have e3:BitVec.ofInt 32 0=0#32:=by decide
  rw [e3,BitVec.xor_zero,BitVec.toNat_ofInt]
  simp only [IntKind.wrap,IntKind.bits,IntKind.signed]
  simp
  split <;> omega
theorem zz_odd {x:Nat} (h:x < 4294967296) (hp:x % 2=1) :
    IntKind.i32.wrap (IntKind.u32.wrap ((BitVec.ofInt 32 ((x:Int) / 2) ^^^ BitVec.ofInt 32 (IntKind.u32.wrap (0 - ((x % 2:Nat):Int)))).toNat:Int))=zz x:=by
  rw [hp]
  have e1:IntKind.u32.wrap (0 - ((1:Nat):Int))=4294967295:=by decide
  have e2:(x:Int) / 2=((x / 2:Nat):Int):=by omega
  rw [e1,e2,zz,if_neg (by omega)]
  have e3:BitVec.ofInt 32 4294967295=BitVec.allOnes 32:=by decide
  rw [e3,BitVec.xor_allOnes,BitVec.toNat_not,BitVec.toNat_ofInt]
  simp only [IntKind.wrap,IntKind.bits,IntKind.signed]
  simp
  split <;> omega
section
variable {P:Program} {R:RTy} {f:FuncId} {fn:Func}
theorem res2' {a:Act} {w:World} {r1 r2:Nat} {v1 v2:Value} (hr:fn.results=#[.tmp r1,.tmp r2]) (h1:getT a r1=v1) (h2:getT a r2=v2):(results fn a.tmps).run P w=.ok (.tuple #[v1,v2]) w:=by
  have e1:a.tmps.getD r1 undef=v1:=h1
  have e2:a.tmps.getD r2 undef=v2:=h2
  simp only [Array.getD_eq_getD_getElem?] at e1 e2
  simp [results,hr,e1,e2]
def VarC (P:Program) (F:Nat):Prop:=FnOK P F∧∀ (w:World) (S:Option Nat) (base:Option Addr) (rest:Bytes) (cap:Nat),SrcAt w S base rest →
  Calls P F #[.slice base rest.length cap] w fun e w'=>w'=w∧∃ (x:Nat) (n:Int),e=.returned (.tuple #[.int .i32 (zz x),.int .i64 n]) ∧
    match pUv rest with
    | some (y,r)=>x=y∧n=((rest.length - r.length:Nat):Int)∧0 < n∧r=rest.drop (rest.length - r.length)
    | none=>x=0∧n≤0
theorem kVarint_ok {T0 T1 T2 F0 : Nat} (h0k : intK P T0 = some .u32) (h2k : intK P T2 = some .i32) (hF : UvC P F0) (hf : P.funcs[f]? = some fn) (hb : fn.body.map strip = some (sc_KVarint T0 T1 T2 F0)) (hnm : (fn.name == "runtime.NumGoroutine") = false) (hn : fn.ntmps = 19) (hr : fn.results = #[.tmp 2, .tmp 3]) : VarC P f := by
  refine ⟨fnOK_of hf hb hnm,fun w S base rest cap hsr=>?_⟩
  refine fCa hf hb hn (by simp) fun a0 hs hd ha=>?_
  have h0:=ha 0 _ rfl
  simp only [List.getElem_toArray,List.getElem_cons_zero,List.getElem_cons_succ] at h0
  refine SC.wp_seq (SC.wp_reg ?_)
  repeat (apply ops_1;(focus (simp (disch:=(try simp only [sPu]);omega) ;try rfl)))
  refine oNi (SC.wp_seq (SC.wp_reg ?_))
  iterate 1 (apply ops_1;(focus (simp (disch:=(try simp only [sPu]);omega) [h0];try rfl)))
  refine ops_call hF.1 (hF.2 w S base rest cap hsr) (by simp (disch:=(try simp only [sPu]);omega)) ?_
  rintro e w1 ⟨rfl,x,n,rfl,hxn⟩
  refine ⟨_,rfl,?_⟩
  have hx32:x < 4294967296:=by
    cases hp:pUv rest with
    | none=>rw [hp] at hxn;omega
    | some z=>obtain ⟨y,r⟩:=z;rw [hp] at hxn;rw [hxn.1];exact (pUv_facts hp).1
  iterate 1 (apply ops_1;(focus (simp (disch:=(try simp only [sPu]);omega) ;try rfl)))
  refine oNo rfl (opw_extract (vs:=#[.int .u32 (x:Int),.int .i64 n]) (v:=.int .u32 (x:Int)) (by simp (disch:=(try simp only [sPu]);omega)) rfl ?_)
  refine oNo rfl (opw_extract (vs:=#[.int .u32 (x:Int),.int .i64 n]) (v:=.int .i64 n) (by simp (disch:=(try simp only [sPu]);omega)) rfl ?_)
  repeat (apply ops_1;(focus (simp (disch:=(try simp only [sPu]);omega) ;try rfl)))
  refine oNi (SC.wp_seq (SC.wp_reg ?_))
  have hbit:1≤IntKind.u32.bits:=by decide
  iterate 3 (apply ops_1;(focus (simp (disch:=(try simp only [sPu]);omega) [hbit];try rfl)))
  refine oNo rfl (opw_and (k:=.u32) (m:=(x:Int)) (n:=1) (r:=((x % 2:Nat):Int)) (by simp (disch:=(try simp only [sPu]);omega)) (by simp (disch:=(try simp only [sPu]);omega)) (and_one hx32) ?_)
  refine oNo rfl (opw_neg (k:=.u32) (n:=((x % 2:Nat):Int)) (by simp (disch:=(try simp only [sPu]);omega)) ?_)
  refine oNo rfl (opw_xor (k:=.u32) (m:=(x:Int) / 2) (n:=IntKind.u32.wrap (0 - ((x % 2:Nat):Int))) (r:=IntKind.u32.wrap ((BitVec.ofInt 32 ((x:Int) / 2) ^^^ BitVec.ofInt 32 (IntKind.u32.wrap (0 - ((x % 2:Nat):Int)))).toNat:Int)) (by simp (disch:=(try simp only [sPu]);omega)) (by simp (disch:=(try simp only [sPu]);omega)) rfl ?_)
  refine oNo rfl (opw_convert (k':=.u32) (k:=.i32) (n:=IntKind.u32.wrap ((BitVec.ofInt 32 ((x:Int) / 2) ^^^ BitVec.ofInt 32 (IntKind.u32.wrap (0 - ((x % 2:Nat):Int)))).toNat:Int)) (intB_of h0k) (intB_of h2k) (by simp (disch:=(try simp only [sPu]);omega)) ?_)
  have hz:IntKind.i32.wrap (IntKind.u32.wrap ((BitVec.ofInt 32 ((x:Int) / 2) ^^^ BitVec.ofInt 32 (IntKind.u32.wrap (0 - ((x % 2:Nat):Int)))).toNat:Int))=zz x:=by
    rcases (show x % 2=0∨x % 2=1 by omega) with h | h
    · exact zz_even hx32 h
    · exact zz_odd hx32 h
  rw [hz]
  repeat (apply ops_1;(focus (simp (disch:=(try simp only [sPu]);omega) ;try rfl)))
  refine oNi (SC.wp_ret ?_)
  try simp only [Exit.then]
  exact bodyPost_ret_by (v:=.tuple #[.int .i32 (zz x),.int .i64 n]) (res2' hr (by simp (disch:=(try simp only [sPu]);omega)) (by simp (disch:=(try simp only [sPu]);omega))) (by simp [dPu,hd]) ⟨rfl,x,n,rfl,hxn⟩
theorem rVarint_ok {TR gb F0 : Nat} (hTR : R.TR = TR) (hR : rdOK P R = true) (hF : VarC P F0) (hf : P.funcs[f]? = some fn) (hb : fn.body.map strip = some (sc_RVarint R F0)) (hnm : (fn.name == "runtime.NumGoroutine") = false) (hn : fn.ntmps = 31) (hr : fn.results = #[.tmp 2]) :
    RC P TR gb f pVar (fun v=>∃ n,v=.int .i32 n) (fun _ _ n v=>v=.int .i32 n):=by
  subst hTR
  have hst:=rd_facts hR
  refine ⟨fnOK_of hf hb hnm,fun w S rb st hgb hrd hsrc=>?_⟩
  refine fCa hf hb hn (by simp) fun a0 hs hd ha=>?_
  have h0:=ha 0 _ rfl
  simp only [List.getElem_toArray,List.getElem_cons_zero,List.getElem_cons_succ] at h0
  obtain ⟨bad,xs,base,cap,S1,hrow,hs1,hlen⟩:∃ bad xs base cap S1,rdRow R.TR w rb (.slice base (List.length xs) cap) bad∧SrcAt w S1 base xs∧((st=none∧bad=true∧xs=[])∨(st=some xs∧bad=false∧S1=S∧xs.length≤cap)):=by
    rcases rdAt_row hrd with ⟨rfl,hrow⟩ | ⟨rest,base,cap,rfl,hrow,hcap,hsr⟩
    · exact ⟨_,[],none,0,none,hrow,⟨rfl,rfl⟩,.inl ⟨rfl,rfl,rfl⟩⟩
    · exact ⟨_,rest,base,cap,S,hrow,hsr,.inr ⟨rfl,rfl,rfl,hcap⟩⟩
  have hc:=rdRow_cells hrow
  refine SC.wp_seq (SC.wp_reg ?_)
  repeat (apply ops_1;(focus (simp (disch:=(try simp only [sPu]);omega) ;try rfl)))
  refine oNi (SC.wp_seq (SC.wp_reg ?_))
  iterate 4 (apply ops_1;(focus (simp (disch:=(try simp only [sPu]);omega) [hst,h0,hc];try rfl)))
  refine ops_call hF.1 (hF.2 w S1 base xs cap hs1) (by simp (disch:=(try simp only [sPu]);omega)) ?_
  rintro e w1 ⟨rfl,x,n,rfl,hxn⟩
  refine ⟨_,rfl,?_⟩
  iterate 1 (apply ops_1;(focus (simp (disch:=(try simp only [sPu]);omega) ;try rfl)))
  refine oNo rfl (opw_extract (vs:=#[.int .i32 (zz x),.int .i64 n]) (v:=.int .i32 (zz x)) (by simp (disch:=(try simp only [sPu]);omega)) rfl ?_)
  refine oNo rfl (opw_extract (vs:=#[.int .i32 (zz x),.int .i64 n]) (v:=.int .i64 n) (by simp (disch:=(try simp only [sPu]);omega)) rfl ?_)
  repeat (apply ops_1;(focus (simp (disch:=(try simp only [sPu]);omega) ;try rfl)))
  refine oNi (SC.wp_seq (SC.wp_seq (SC.wp_reg ?_)))
  repeat (apply ops_1;(focus (simp (disch:=(try simp only [sPu]);omega) ;try rfl)))
  refine oNi (SC.wp_cond (t:=decide (n≤0)) (by simp (disch:=(try simp only [sPu]);omega)) ?_)
  refine Decidable.byCases (p:=n≤0) (fun hn0=>?_) (fun hn0=>?_)
  · have hno:after st pVar=none:=by
      rcases hlen with ⟨rfl,-⟩ | ⟨rfl,-⟩
      · rfl
      · refine after_no ?_
        cases hp:pUv xs with
        | none=>simp [pVar,rThen,hp]
        | some z=>obtain ⟨y,r⟩:=z;rw [hp] at hxn;exact absurd hxn.2.2.1 (by omega)
    rw [if_pos (decide_eq_true hn0)]
    refine rFail_ok (S:=S) hR hrow (by simp (disch:=(try simp only [sPu]);omega) [h0]) (by omega) (by simp [sPu,hs]) (by simp [sPu,hs]) fun a' w' q1 q2 q3 q4=>?_
    simp only [Exit.then]
    refine ret_tmp hr (by rw [q1];simp [dPu,hd]) ⟨_,rfl,by rw [hno];exact q3,q4,⟨0,q2⟩,fun b y r h hp=>?_⟩
    subst h
    rw [after_ok hp] at hno
    cases hno
  · rw [if_neg (by simpa using hn0)]
    refine SC.wp_skip ?_
    simp only [Exit.then]
    cases hp:pUv xs with
    | none=>rw [hp] at hxn;exact absurd hxn.2 hn0
    | some z =>
    obtain ⟨y,r⟩:=z
    rw [hp] at hxn
    obtain ⟨rfl,rfl,-,hr2⟩:=hxn
    have hle:xs.length - r.length≤xs.length:=by omega
    refine SC.wp_seq (rDropV_ok (n:=xs.length - r.length) hR hrow hle (by simp (disch:=(try simp only [sPu]);omega) [h0]) (by simp (disch:=(try simp only [sPu]);omega)) (by omega) (by omega) (by simp [sPu,hs]) fun a1 q1 q2 q3=>?_)
    have hs2:a1.tmps.size=31:=by rw [q1];simp [sPu,hs]
    have hd1:a1.defers=[]:=by rw [q2];simp [dPu,hd]
    have h3:getT a1 3=.int .i32 (zz x):=by rw [q3 3 (by omega)];simp (disch:=(try simp only [sPu]);omega)
    simp only [Exit.then]
    refine SC.wp_seq (SC.wp_reg ?_)
    repeat (apply ops_1;(focus (simp (disch:=(try simp only [sPu]);omega) [h3];try rfl)))
    refine oNi (SC.wp_ret ?_)
    rcases hlen with ⟨rfl,rfl,rfl⟩ | ⟨rfl,rfl,rfl,hcap⟩
    · simp [pUv,pUvGo] at hp
    · refine ret_tmp hr (by simp [dPu,hd1]) ⟨_,rfl,?_,(Only.refl rb _).setRow _,⟨zz x,by simp (disch:=(try simp only [sPu]);omega)⟩,fun b y r1 h hp1=>?_⟩
      · rw [after_ok (pVar_of hp)]
        have hz:=rdAt_drop hrow hcap hs1 (fun s h=>(hsrc s h).1) hle
        rw [← hr2] at hz
        exact hz
      · cases h
        rw [pVar_of hp] at hp1
        cases hp1
        simp (disch:=(try simp only [sPu]);omega)
end
end Go.Proofs.YtgaplicnofhliaaDoor.K
namespace Go.Proofs.YtgaplicnofhliaaDoor.K
open Go Go.RowKit Go.Proofs.YtgaplicnofhliaaDoor.T
set_option linter.unusedSimpArgs false
set_option linter.unusedVariables false
section
variable {P:Program} {f:FuncId} {fn:Func}
theorem ops_callg {all:List SOp} {a:Act} {w:World} {t g j dj:Nat} {want:Bool} {args:Array Operand} {argsV:Array Value} {r:List SOp} {K:Act→World→Prop} {R:Ending→World→Prop} (hj:(all[j]?).bind (·.dst)=some dj) (hlt:dj < a.tmps.size) (hb:getT a dj=.bool want) (hf:FnOK P g) (hc:Calls P g argsV w R) (hargs:args.map a.eval=argsV)
    (hR:∀ e w',R e w'→∃ v,e=.returned v∧opsw P all r K (a.put (some t) v) w'):opsw P all (⟨some t,.call ⟨.value (.func g),args,#[]⟩,some (j,want)⟩ :: r) K a w:=by
  obtain ⟨fn,h1,h2,h3⟩:=hf
  refine ⟨dj,want,hj,hlt,.inl hb,?_⟩
  rw [if_pos rfl]
  exact opw_call (R:=R) h1 h2 h3 (by rw [hargs];exact hc) hR
theorem own_src {tU8:Nat} {w:World} {B:Nat} {dv:Value} {xs:Bytes} (h:Own tU8 w B dv xs):∃ S base cap,dv=.slice base xs.length cap∧SrcAt w S base xs∧∀ sb,S=some sb→B≤sb∧sb < w.heap.size:=by
  obtain ⟨ho1,⟨e1,e2⟩ | ⟨g,c3,cur,e1,e2,e3,e4,e5,e6,e7⟩⟩:=h
  · have hnil:xs=[]:=List.length_eq_zero_iff.1 e2
    subst hnil
    exact ⟨none,none,0,e1,⟨rfl,rfl⟩,fun sb h=>by cases h⟩
  · refine ⟨some g,some ⟨g,0,none⟩,c3,e1,⟨0,rfl,fun j u hu=>?_⟩,fun sb h=>by cases h;exact ⟨e2,(Array.getElem?_eq_some_iff.1 e3).1⟩⟩
    rw [cell_of_row _ _ _ _ _ _ e3,Nat.zero_add]
    have hj:(cellsOf xs)[j]?=some (cell u):=by simp [cellsOf,hu]
    rw [← e7,List.getElem?_take] at hj
    split at hj
    · rwa [Array.getElem?_toList] at hj
    · cases hj
end
end Go.Proofs.YtgaplicnofhliaaDoor.K
namespace Go.Proofs.YtgaplicnofhliaaDoor.K
open Go Go.RowKit Go.Proofs.YtgaplicnofhliaaDoor.T
attribute [local simp] eTm eCo pNo gTp gTn qv qcall vop iop
set_option linter.unusedSimpArgs false
set_option linter.unusedVariables false
set_option maxHeartbeats 4000000
def pVB:Rd (Option Bytes):=rThen pVar fun l=>if l < 0 then rOk none else rThen (pSpan l) fun s=>rOk (some s)
def sc_VarintBytes (T0 T1 F0 F1:Nat):SC:=.seq (.reg [⟨some 2,.assign (.const (.slice none 0 0)),none⟩]) (.seq (.reg [mv 4 0,cal 5 F0 [4],asg 3 5]) (.seq (.seq (.reg [mv 6 3,⟨some 7,.binOp .lss T0 (.tmp 6) (.const (.int .i32 0)) T0,none⟩]) (.cond (.tmp 7) (.seq (.reg [⟨some 2,.assign (.const (.slice none 0 0)),none⟩]) (.ret)) (.skip))) (.seq (.reg [mv 8 0,mv 9 3,⟨some 10,.convert T0 T1 (.tmp 9),none⟩,cal 11 F1 [8,10],asg 2 11]) (.ret))))
def sc_VarintString (T0 T1 F0:Nat):SC:=.seq (.reg [⟨some 2,.assign (.const (.string ⟨#[]⟩)),none⟩]) (.seq (.reg [mv 3 0,cal 4 F0 [3],⟨some 5,.convert T0 T1 (.tmp 4),none⟩,asg 2 5]) (.ret))
section
variable {P:Program} {f:FuncId} {fn:Func}
def VBC (P:Program) (TR gb:Nat) (F:FuncId):Prop:=FnOK P F∧∀ (w:World) (S:Option Nat) (rb:Nat) (st:Option Bytes),gb < w.heap.size→RdAt TR w S rb st→(∀ sb,S=some sb→sb ≠ rb∧sb < w.heap.size) →
  Calls P F #[.pointer (some ⟨rb,0,none⟩)] w fun e w'=>∃ (S':Option Nat) (base:Option Addr) (cap:Nat) (x:Bytes),e=.returned (.slice base x.length cap)∧RdAt TR w' S rb (after st pVB)∧Only rb w w'∧SrcAt w' S' base x∧(S'=none∨S'=S) ∧
    ∀ bs y r,st=some bs→pVB bs=some (y,r)→match y with | none=>base=none∧x=[] | some z=>x=z∧S'=S
def VSC (P:Program) (TR gb:Nat) (F:FuncId):Prop:=FnOK P F∧∀ (w:World) (S:Option Nat) (rb:Nat) (st:Option Bytes),gb < w.heap.size→RdAt TR w S rb st→(∀ sb,S=some sb→sb ≠ rb∧sb < w.heap.size) →
  Calls P F #[.pointer (some ⟨rb,0,none⟩)] w fun e w'=>∃ (x:Bytes),e=.returned (.string ⟨x.toArray⟩)∧RdAt TR w' S rb (after st pVB)∧Only rb w w' ∧
    ∀ bs y r,st=some bs→pVB bs=some (y,r)→x=y.getD []
theorem after_vb (st:Option Bytes) (l:Int) (h:∀ b x r,st=some b→pVar b=some (x,r)→x=l):after st pVB=after (after st pVar) (if l < 0 then rOk none else rThen (pSpan l) fun s=>rOk (some s)):=by
  cases st with
  | none=>rfl
  | some b =>
    cases hp:pVar b with
    | none=>simp [after,pVB,rThen,hp]
    | some z =>
      obtain ⟨x,r⟩:=z
      obtain rfl:=h b x r rfl hp
      rw [after_ok hp]
      unfold pVB
      exact after_then _ _ _ rfl hp
theorem varintBytes_ok {TR gb T0 T1 F0 F1 : Nat} (h0k : intK P T0 = some .i32) (h1k : intK P T1 = some .i64) (hF : RC P TR gb F0 pVar (fun v => ∃ n, v = .int .i32 n) (fun _ _ n v => v = .int .i32 n)) (hSp : SpC P TR F1) (hf : P.funcs[f]? = some fn) (hb : fn.body.map strip = some (sc_VarintBytes T0 T1 F0 F1)) (hnm : (fn.name == "runtime.NumGoroutine") = false) (hn : fn.ntmps = 12) (hr : fn.results = #[.tmp 2]) : VBC P TR gb f := by
  refine ⟨fnOK_of hf hb hnm,fun w S rb st hgb hrd hsrc=>?_⟩
  refine fCa hf hb hn (by simp) fun a0 hs hd ha=>?_
  have h0:=ha 0 _ rfl
  simp only [List.getElem_toArray,List.getElem_cons_zero,List.getElem_cons_succ] at h0
  refine SC.wp_seq (SC.wp_reg ?_)
  repeat (apply ops_1;(focus (simp (disch:=(try simp only [sPu]);omega) ;try rfl)))
  refine oNi (SC.wp_seq (SC.wp_reg ?_))
  iterate 1 (apply ops_1;(focus (simp (disch:=(try simp only [sPu]);omega) [h0];try rfl)))
  refine ops_call hF.1 (hF.2 w S rb st hgb hrd hsrc) (by simp (disch:=(try simp only [sPu]);omega) [h0]) ?_
  rintro e w1 ⟨v,rfl,q1,q2,⟨n,rfl⟩,q4⟩
  refine ⟨_,rfl,?_⟩
  have hl:∀ b x r,st=some b→pVar b=some (x,r)→x=n:=fun b x r e1 e2=>by have:=q4 b x r e1 e2;cases this;rfl
  have hav:=after_vb st n hl
  have hsrc1:∀ sb,S=some sb→sb ≠ rb∧sb < w1.heap.size:=fun sb h=>⟨(hsrc sb h).1,Nat.lt_of_lt_of_le (hsrc sb h).2 q2.size⟩
  repeat (apply ops_1;(focus (simp (disch:=(try simp only [sPu]);omega) ;try rfl)))
  refine oNi (SC.wp_seq (SC.wp_seq (SC.wp_reg ?_)))
  repeat (apply ops_1;(focus (simp (disch:=(try simp only [sPu]);omega) ;try rfl)))
  refine oNi (SC.wp_cond (t:=decide (n < 0)) (by simp (disch:=(try simp only [sPu]);omega)) ?_)
  refine Decidable.byCases (p:=n < 0) (fun hlt=>?_) (fun hlt=>?_)
  · rw [if_pos (decide_eq_true hlt)]
    rw [if_pos hlt,after_rOk] at hav
    refine SC.wp_seq (SC.wp_reg ?_)
    repeat (apply ops_1;(focus (simp (disch:=(try simp only [sPu]);omega) ;try rfl)))
    refine oNi (SC.wp_ret ?_)
    try simp only [Exit.then]
    refine ret_tmp hr (by simp [dPu,hd]) ⟨none,none,0,[],by simp (disch:=(try simp only [sPu]);omega),by rw [hav];exact q1,q2,⟨rfl,rfl⟩,.inl rfl,fun bs y r e1 e2=>?_⟩
    obtain ⟨l,r1,k1,k2⟩:=rThen_some e2
    obtain rfl:=hl bs l r1 e1 k1
    rw [if_pos hlt] at k2
    obtain ⟨rfl,rfl⟩:=rOk_some k2
    exact ⟨rfl,rfl⟩
  · rw [if_neg (by simpa using hlt)]
    rw [if_neg hlt] at hav
    refine SC.wp_skip ?_
    simp only [Exit.then]
    refine SC.wp_seq (SC.wp_reg ?_)
    iterate 2 (apply ops_1;(focus (simp (disch:=(try simp only [sPu]);omega) [h0];try rfl)))
    have hw:after st pVar=none∨IntKind.i64.wrap n=n:=by
      cases hst:st with
      | none=>exact .inl rfl
      | some b =>
        cases hp:pVar b with
        | none=>exact .inl (after_no hp)
        | some z =>
          obtain ⟨x,r⟩:=z
          obtain ⟨y,r1,k1,k2⟩:=rThen_some (by simpa only [pVar] using hp)
          obtain ⟨e,rfl⟩:=rOk_some k2
          have hy:=(pUv_facts k1).1
          have hx:=hl b x r1 hst hp
          have hn':n=zz y:=by rw [← hx,← e]
          right
          have:-2147483648≤n∧n < 2147483648:=by
            rw [hn',zz]
            split <;> omega
          rw [wrap_i64']
          split <;> omega
    refine oNo rfl (opw_convert (k':=.i32) (k:=.i64) (n:=n) (intB_of h0k) (intB_of h1k) (by simp (disch:=(try simp only [sPu]);omega)) ?_)
    refine ops_call hSp.1 (hSp.2 w1 S rb _ (IntKind.i64.wrap n) q1 hsrc1) (by simp (disch:=(try simp only [sPu]);omega) [h0]) ?_
    rintro e w2 ⟨S',base,cap,x,rfl,p1,p2,p3,p4,p5⟩
    refine ⟨_,rfl,?_⟩
    repeat (apply ops_1;(focus (simp (disch:=(try simp only [sPu]);omega) ;try rfl)))
    refine oNi (SC.wp_ret ?_)
    try simp only [Exit.then]
    have hfin:after (after st pVar) (pSpan (IntKind.i64.wrap n))=after st pVB:=by
      rw [hav]
      rcases hw with e | e
      · rw [e];rfl
      · rw [e]
        cases after st pVar with
        | none=>rfl
        | some b =>
          cases hp:pSpan n b with
          | none=>simp [after,rThen,hp]
          | some z=>rw [after_ok hp,after_then _ _ _ rfl hp,after_rOk]
    refine ret_tmp hr (by simp [dPu,hd]) ⟨S',base,cap,x,by simp (disch:=(try simp only [sPu]);omega),by rw [← hfin];exact p1,q2.trans p2,p3,p5,fun bs y r e1 e2=>?_⟩
    obtain ⟨l,r1,k1,k2⟩:=rThen_some e2
    obtain rfl:=hl bs l r1 e1 k1
    rw [if_neg hlt] at k2
    obtain ⟨z,r2,k3,k4⟩:=rThen_some k2
    obtain ⟨rfl,rfl⟩:=rOk_some k4
    have haf:after st pVar=some r1:=by rw [e1];exact after_ok k1
    rcases hw with e | e
    · rw [haf] at e;cases e
    · rw [e] at p4
      exact p4 r1 z r2 haf k3
theorem varintString_ok {TR gb T0 T1 F0 : Nat} (hT : bstrB P T0 T1 = true) (hF : VBC P TR gb F0) (hf : P.funcs[f]? = some fn) (hb : fn.body.map strip = some (sc_VarintString T0 T1 F0)) (hnm : (fn.name == "runtime.NumGoroutine") = false) (hn : fn.ntmps = 6) (hr : fn.results = #[.tmp 2]) : VSC P TR gb f := by
  refine ⟨fnOK_of hf hb hnm,fun w S rb st hgb hrd hsrc=>?_⟩
  refine fCa hf hb hn (by simp) fun a0 hs hd ha=>?_
  have h0:=ha 0 _ rfl
  simp only [List.getElem_toArray,List.getElem_cons_zero,List.getElem_cons_succ] at h0
  refine SC.wp_seq (SC.wp_reg ?_)
  repeat (apply ops_1;(focus (simp (disch:=(try simp only [sPu]);omega) ;try rfl)))
  refine oNi (SC.wp_seq (SC.wp_reg ?_))
  iterate 1 (apply ops_1;(focus (simp (disch:=(try simp only [sPu]);omega) [h0];try rfl)))
  refine ops_call hF.1 (hF.2 w S rb st hgb hrd hsrc) (by simp (disch:=(try simp only [sPu]);omega) [h0]) ?_
  rintro e w1 ⟨S',base,cap,x,rfl,q1,q2,q3,q4,q5⟩
  refine ⟨_,rfl,?_⟩
  refine oNo rfl (opw_str (bs:=x) (base:=base) (cap:=cap) hT (by simp (disch:=(try simp only [sPu]);omega)) q3 ?_)
  repeat (apply ops_1;(focus (simp (disch:=(try simp only [sPu]);omega) ;try rfl)))
  refine oNi (SC.wp_ret ?_)
  try simp only [Exit.then]
  refine ret_tmp hr (by simp [dPu,hd]) ⟨x,by simp (disch:=(try simp only [sPu]);omega),q1,q2,fun bs y r e1 e2=>?_⟩
  have:=q5 bs y r e1 e2
  cases y with
  | none=>exact this.2
  | some z=>exact this.1
end
end Go.Proofs.YtgaplicnofhliaaDoor.K
namespace Go.Proofs.YtgaplicnofhliaaDoor.K
open Go Go.RowKit Go.Proofs.YtgaplicnofhliaaDoor.T
attribute [local simp] eTm eCo pNo gTp gTn qv qcall vop iop
set_option linter.unusedSimpArgs false
set_option linter.unusedVariables false
set_option maxHeartbeats 4000000
def sc_HdrRead (TR T1 T2 T3 F0 F1 F2 F3 F4:Nat):SC:=.seq (.reg [⟨some 6,.assign (.const .nilIface),none⟩]) (.seq (.reg [mv 11 0,cal 12 F0 [11]]) (.seq (.reg [mv 13 1,⟨some 14,.build TR #[(0,(.tmp 13))],none⟩,⟨some 7,.alloc TR,none⟩,⟨none,.store TR (.tmp 7) (.tmp 14),none⟩]) (.seq (.reg [mv 15 0,asg 8 15]) (.seq (.seq (.reg [⟨some 9,.assign (.const (.string ⟨#[]⟩)),none⟩]) (.seq (.seq (.reg [mv 16 2]) (.cond (.tmp 16) (.reg [cal 17 F1 [7],asg 9 17]) (.reg [cal 18 F2 [7],asg 9 18]))) (.reg [mv 19 8,mv 20 9,nilc 21 19,fa 22 T1 21 0,⟨none,.store T2 (.tmp 22) (.tmp 20),none⟩]))) (.seq (.seq (.reg [cal 23 F3 [7],asg 10 23]) (.reg [mv 24 8,mv 25 10,nilc 26 24,fa 27 T1 26 1,⟨none,.store T3 (.tmp 27) (.tmp 25),none⟩])) (.seq (.reg [cal 28 F4 [7],asg 6 28]) (.ret)))))))
section
variable {P:Program} {f:FuncId} {fn:Func}
def HdrC (P:Program) (T1 gb:Nat) (err:Value) (Gl:World→Prop) (F:FuncId):Prop:=∀ (B:Nat) (w:World) (S:Option Nat) (b:Nat) (x0:Value) (base:Option Addr) (src:Bytes) (cap:Nat),gb < B→B≤b→B≤w.heap.size→(∀ w',Below B w w'→Gl w') →
  w.heap[b]?=some (.cells #[x0,.slice none 0 0] T1 (0,0))→src.length≤cap→SrcAt w S base src→(∀ sb,S=some sb→sb ≠ b∧sb < w.heap.size) →
  Calls P F #[.pointer (some ⟨b,0,none⟩),.slice base src.length cap,.bool false] w fun e w'=>Below B w w'∧w.heap.size≤w'.heap.size∧(∀ k,k < w.heap.size→k ≠ b→w'.heap[k]?=w.heap[k]?) ∧
    ∃ (k:Bytes) (S':Option Nat) (base':Option Addr) (cap':Nat) (x:Bytes),w'.heap[b]?=some (.cells #[.string ⟨k.toArray⟩,.slice base' x.length cap'] T1 (0,0))∧SrcAt w' S' base' x∧(S'=none∨S'=S) ∧
      e=.returned (if (after (after (some src) pVB) pVB).isSome then .nilIface else err) ∧
      ∀ y1 y2 r1 r2,pVB src=some (y1,r1)→pVB r1=some (y2,r2)→k=y1.getD []∧match y2 with | none=>base'=none∧x=[] | some z=>x=z∧S'=S
theorem hdrRead_ok {TR T1 T2 T3 F0 F1 F2 F3 F4 gb:Nat} {err:Value} {Gl:World→Prop} (hrd:rdNew P TR=true) (hf0:fieldOff P T1 0=some 0) (hf1:fieldOff P T1 1=some 1) (h2:oneB P T2=true) (h3:oneB P T3=true)
    (oD:FnOK P F0) (cD:∀ (w:World) (v:Value),Calls P F0 #[v] w fun e w'=>e=.returned (.tuple #[])∧w'=w) (hS2:VSC P TR gb F2) (hB3:VBC P TR gb F3)
    (oC:FnOK P F4) (cC:∀ (w:World) (S:Option Nat) (rb:Nat) (st:Option Bytes),Gl w→RdAt TR w S rb st→Calls P F4 #[.pointer (some ⟨rb,0,none⟩)] w fun e w'=>e=.returned (if st.isSome then .nilIface else err)∧w'=w)
    (hf:P.funcs[f]?=some fn) (hb:fn.body.map strip=some (sc_HdrRead TR T1 T2 T3 F0 F1 F2 F3 F4)) (hn:fn.ntmps=29) (hr:fn.results=#[.tmp 6]):HdrC P T1 gb err Gl f:=by
  intro B w S b x0 base src cap hgB hBb hBw hgl hrow hcap hsr hS
  obtain ⟨r1,⟨rit,rz,rzi,rzz,rzc⟩,r3⟩:=rdNew_of hrd
  have hbl:b < w.heap.size:=(Array.getElem?_eq_some_iff.1 hrow).1
  refine fCa hf hb hn (by simp) fun a0 hs hd ha=>?_
  have h0:=ha 0 _ rfl
  have h1:=ha 1 _ rfl
  have hh2:=ha 2 _ rfl
  simp only [List.getElem_toArray,List.getElem_cons_zero,List.getElem_cons_succ] at h0 h1 hh2
  refine SC.wp_seq (SC.wp_reg ?_)
  repeat (apply ops_1;(focus (simp (disch:=(try simp only [sPu]);omega) ;try rfl)))
  refine oNi (SC.wp_seq (SC.wp_reg ?_))
  iterate 1 (apply ops_1;(focus (simp (disch:=(try simp only [sPu]);omega) [h0];try rfl)))
  refine ops_call oD (cD w (.pointer (some ⟨b,0,none⟩))) (by simp (disch:=(try simp only [sPu]);omega) [h0]) ?_
  rintro e w1 ⟨rfl,rfl⟩
  refine ⟨_,rfl,oNi ?_⟩
  simp only [Exit.then]
  refine SC.wp_seq (SC.wp_reg ?_)
  iterate 1 (apply ops_1;(focus (simp (disch:=(try simp only [sPu]);omega) [h1];try rfl)))
  refine oNo rfl (opw_build (cs:=#[.slice base src.length cap,.bool false]) ?_ (oNo rfl (opw_alloc rzi rzz ?_)))
  · have e:(#[(0,Operand.tmp 13)].map fun x:Nat × Operand=>(x.1,Act.eval ((((a0.put (some 6) .nilIface).put (some 11) (.pointer (some ⟨b,0,none⟩))).put (some 12) (.tuple #[])).put (some 13) (.slice base src.length cap)) x.2)).toList=[(0,.slice base src.length cap)]:=by
      simp only [List.map_toArray,List.map_cons,List.map_nil]
      rw [eTm,gTp (by simp only [sPu];omega)]
    rw [e]
    exact r3 _ rfl
  have hnew:=heap_alloc_new w1 (.cells rz.cells TR)
  refine oNo rfl (opw_store_agg (cs:=[.slice base src.length cap,.bool false]) (cur:=rz.cells) (b:=w1.heap.size) (E:=TR) r1 (by simp (disch:=(try simp only [sPu]);omega)) (by simp (disch:=(try simp only [sPu]);omega)) hnew (by rw [rzc];rfl) (by intro v hv;simp at hv;rcases hv with rfl | rfl <;> rfl) (oNi ?_))
  rw [pNo]
  simp only [Exit.then]
  obtain ⟨rb,hrb⟩:∃ rb,rb=w1.heap.size:=⟨_,rfl⟩
  rw [← hrb] at hnew ⊢
  obtain ⟨w2,hw2⟩:∃ w2,w2=(w1.alloc (.cells rz.cells TR)).setRow rb [Value.slice base src.length cap,.bool false].toArray:=⟨_,rfl⟩
  rw [← hw2]
  have hrow2:w2.heap[rb]?=some (.cells #[.slice base src.length cap,.bool false] TR (0,0)):=by rw [hw2];exact setRow_heap _ _ _ _ _ _ hnew
  have hoth2:∀ k,k < w1.heap.size→w2.heap[k]?=w1.heap[k]?:=fun k hk=>by
    rw [hw2,setRow_other _ _ _ _ (by omega)]
    exact Below.heap_alloc _ _ _ hk
  have hsz2:w2.heap.size=w1.heap.size+1:=by rw [hw2];simp
  have hbel2:Below B w1 w2:=by
    rw [hw2]
    exact ((Below.refl B w1).alloc hBw _).trans ⟨rfl,rfl,rfl,by simp,fun k hk=>setRow_other _ _ _ _ (by omega)⟩
  have hat2:RdAt TR w2 S rb (some src):=by
    refine ⟨base,cap,hrow2,hcap,?_⟩
    have:SrcAt w2 S base src:=hsr.frame fun sb hsb=>hoth2 sb (hS sb hsb).2
    cases S <;> exact this
  have hS2':∀ sb,S=some sb→sb ≠ rb∧sb < w2.heap.size:=fun sb h=>⟨by have:=(hS sb h).2;omega,by have:=(hS sb h).2;omega⟩
  refine SC.wp_seq (SC.wp_reg ?_)
  repeat (apply ops_1;(focus (simp (disch:=(try simp only [sPu]);omega) [h0];try rfl)))
  refine oNi ?_
  simp only [Exit.then]
  refine SC.wp_seq (SC.wp_seq (SC.wp_reg ?_))
  repeat (apply ops_1;(focus (simp (disch:=(try simp only [sPu]);omega) ;try rfl)))
  refine oNi ?_
  simp only [Exit.then]
  refine SC.wp_seq (SC.wp_seq (SC.wp_reg ?_))
  repeat (apply ops_1;(focus (simp (disch:=(try simp only [sPu]);omega) [hh2];try rfl)))
  refine oNi ?_
  simp only [Exit.then]
  refine SC.wp_cond (t:=false) (by simp (disch:=(try simp only [sPu]);omega)) ?_
  rw [if_neg (by simp)]
  refine SC.wp_reg ?_
  refine ops_call hS2.1 (hS2.2 w2 S rb (some src) (by omega) hat2 hS2') (by simp (disch:=(try simp only [sPu]);omega)) ?_
  rintro e w3 ⟨k,rfl,ha3,ho3,hk3⟩
  refine ⟨_,rfl,?_⟩
  repeat (apply ops_1;(focus (simp (disch:=(try simp only [sPu]);omega) ;try rfl)))
  refine oNi ?_
  simp only [Exit.then]
  have hs3:=ho3.size
  have hb3:w3.heap[b]?=some (.cells #[x0,.slice none 0 0] T1 (0,0)):=by rw [ho3.block b (by omega) (by omega),hoth2 b hbl];exact hrow
  refine SC.wp_reg ?_
  iterate 4 (apply ops_1;(focus (simp (disch:=(try simp only [sPu]);omega) [hf0];try rfl)))
  refine oNo rfl (opw_store_one (ad:=⟨b,0,none⟩) (v:=.string ⟨k.toArray⟩) (v0:=x0) h2 (by simp (disch:=(try simp only [sPu]);omega)) (by simp (disch:=(try simp only [sPu]);omega)) rfl (by rw [cell_of_row _ _ _ _ _ _ hb3];rfl) (by simp [World.frozen?,hb3]) (oNi ?_))
  rw [pNo,setCell_eq_setRow _ _ _ _ _ _ _ hb3]
  simp only [Exit.then]
  have e0:(#[x0,.slice none 0 0]:Array Value).setIfInBounds 0 (.string ⟨k.toArray⟩)=#[.string ⟨k.toArray⟩,.slice none 0 0]:=rfl
  rw [e0]
  obtain ⟨w4,hw4⟩:∃ w4,w4=w3.setRow b #[.string ⟨k.toArray⟩,.slice none 0 0]:=⟨_,rfl⟩
  rw [← hw4]
  have hb4:w4.heap[b]?=some (.cells #[.string ⟨k.toArray⟩,.slice none 0 0] T1 (0,0)):=by rw [hw4];exact setRow_heap _ _ _ _ _ _ hb3
  have hoth4:∀ j,j ≠ b→w4.heap[j]?=w3.heap[j]?:=fun j hj=>by rw [hw4];exact setRow_other _ _ _ _ hj
  have hsz4:w4.heap.size=w3.heap.size:=by rw [hw4];simp
  have ha4:RdAt TR w4 S rb (after (some src) pVB):=RdAt.frame ha3 (hoth4 rb (by omega)) (fun sb h=>hoth4 sb (hS sb h).1)
  have hbel4:Below B w1 w4:=by
    rw [hw4]
    exact (hbel2.trans (ho3.below (by omega) (by omega))).trans ⟨rfl,rfl,rfl,by simp,fun k hk=>setRow_other _ _ _ _ (by omega)⟩
  refine SC.wp_seq (SC.wp_seq (SC.wp_reg ?_))
  refine ops_call hB3.1 (hB3.2 w4 S rb _ (by omega) ha4 (fun sb h=>⟨(hS2' sb h).1,by have:=(hS2' sb h).2;omega⟩)) (by simp (disch:=(try simp only [sPu]);omega)) ?_
  rintro e w5 ⟨S',base',cap',x,rfl,ha5,ho5,hsr5,hS5,hx5⟩
  refine ⟨_,rfl,?_⟩
  repeat (apply ops_1;(focus (simp (disch:=(try simp only [sPu]);omega) ;try rfl)))
  refine oNi ?_
  simp only [Exit.then]
  have hs5:=ho5.size
  have hb5:w5.heap[b]?=some (.cells #[.string ⟨k.toArray⟩,.slice none 0 0] T1 (0,0)):=by rw [ho5.block b (by omega) (by omega)];exact hb4
  refine SC.wp_reg ?_
  iterate 4 (apply ops_1;(focus (simp (disch:=(try simp only [sPu]);omega) [hf1];try rfl)))
  refine oNo rfl (opw_store_one (ad:=⟨b,1,none⟩) (v:=.slice base' x.length cap') (v0:=.slice none 0 0) h3 (by simp (disch:=(try simp only [sPu]);omega)) (by simp (disch:=(try simp only [sPu]);omega)) rfl (by rw [cell_of_row _ _ _ _ _ _ hb5];rfl) (by simp [World.frozen?,hb5]) (oNi ?_))
  rw [pNo,setCell_eq_setRow _ _ _ _ _ _ _ hb5]
  simp only [Exit.then]
  have e1:(#[.string ⟨k.toArray⟩,.slice none 0 0]:Array Value).setIfInBounds 1 (.slice base' x.length cap')=#[.string ⟨k.toArray⟩,.slice base' x.length cap']:=rfl
  rw [e1]
  obtain ⟨w6,hw6⟩:∃ w6,w6=w5.setRow b #[.string ⟨k.toArray⟩,.slice base' x.length cap']:=⟨_,rfl⟩
  rw [← hw6]
  have hb6:w6.heap[b]?=some (.cells #[.string ⟨k.toArray⟩,.slice base' x.length cap'] T1 (0,0)):=by rw [hw6];exact setRow_heap _ _ _ _ _ _ hb5
  have hoth6:∀ j,j ≠ b→w6.heap[j]?=w5.heap[j]?:=fun j hj=>by rw [hw6];exact setRow_other _ _ _ _ hj
  have hsz6:w6.heap.size=w5.heap.size:=by rw [hw6];simp
  have ha6:RdAt TR w6 S rb (after (after (some src) pVB) pVB):=RdAt.frame ha5 (hoth6 rb (by omega)) (fun sb h=>hoth6 sb (hS sb h).1)
  have hbel6:Below B w1 w6:=by
    rw [hw6]
    exact (hbel4.trans (ho5.below (by omega) (by omega))).trans ⟨rfl,rfl,rfl,by simp,fun k hk=>setRow_other _ _ _ _ (by omega)⟩
  have hsr6:SrcAt w6 S' base' x:=hsr5.frame fun sb h=>by
    rcases hS5 with h' | h'
    · rw [h'] at h;cases h
    · exact hoth6 sb (hS sb (h'.symm.trans h)).1
  refine SC.wp_seq (SC.wp_reg ?_)
  refine ops_call oC (cC w6 S rb _ (hgl w6 hbel6) ha6) (by simp (disch:=(try simp only [sPu]);omega)) ?_
  rintro e w7 ⟨rfl,rfl⟩
  refine ⟨_,rfl,?_⟩
  repeat (apply ops_1;(focus (simp (disch:=(try simp only [sPu]);omega) ;try rfl)))
  refine oNi (SC.wp_ret ?_)
  try simp only [Exit.then]
  refine ret_tmp hr (by simp [dPu,hd]) ⟨hbel6,by omega,fun j hj hjb=>?_,k,S',base',cap',x,hb6,hsr6,hS5,by simp (disch:=(try simp only [sPu]);omega),fun y1 y2 r1 r2 k1 k2=>?_⟩
  · rw [hoth6 j hjb,ho5.block j (by omega) (by omega),hoth4 j hjb,ho3.block j (by omega) (by omega),hoth2 j (by omega)]
  · exact ⟨hk3 src y1 r1 rfl k1,hx5 r1 y2 r2 (after_ok k1) k2⟩
end
end Go.Proofs.YtgaplicnofhliaaDoor.K
