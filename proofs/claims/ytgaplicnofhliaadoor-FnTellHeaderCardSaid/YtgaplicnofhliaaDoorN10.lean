/- Generic texts: H4 G1 G2 R25 R26 R27. No condition. -/
import Derived.Test.YtgaplicnofhliaaDoorN9
import Derived.Great.BuildSlice
namespace Go.Proofs.YtgaplicnofhliaaDoor.K
open Go Go.RowKit Go.Proofs.YtgaplicnofhliaaDoor.T
attribute [local simp] eTm eCo pNo gTp gTn qv qcall vop iop
set_option linter.unusedSimpArgs false
set_option linter.unusedVariables false
set_option maxHeartbeats 4000000
def sc_own (T0:Nat):SC:=.seq (.reg [⟨some 2,.assign (.const (.slice none 0 0)),none⟩]) (.seq (.reg [mv 3 0,⟨some 4,.call ⟨.builtin .append,#[(.const (.slice none 0 0)),(.tmp 3)],#[T0,T0]⟩,none⟩,asg 2 4]) (.ret))
def sc_octets (T0 T1:Nat):SC:=.seq (.reg [⟨some 2,.alloc T0,none⟩]) (.seq (.seq (.reg [mv 3 0,⟨some 4,.binOp .eql T1 (.tmp 3) (.const (.slice none 0 0)) T1,none⟩]) (.cond (.tmp 4) (.seq (.reg [⟨some 5,.build T0 #[(0,(.const (.bool true)))],none⟩,⟨none,.store T0 (.tmp 2) (.tmp 5),none⟩]) (.ret)) (.skip))) (.seq (.reg [⟨some 6,.buildSlice T1 0 #[],none⟩,mv 7 0,⟨some 8,.call ⟨.builtin .append,#[(.tmp 6),(.tmp 7)],#[T1,T1]⟩,none⟩,⟨some 9,.build T0 #[(1,(.tmp 8))],none⟩,⟨none,.store T0 (.tmp 2) (.tmp 9),none⟩]) (.ret)))
section
variable {P:Program} {f:FuncId} {fn:Func}
theorem src_of {T tU8:Nat} {w:World} {S:Option Nat} {base:Option Addr} {src:Bytes} {cap:Nat} (hT:u8sB P T tU8=true) (hsr:SrcAt w S base src):Src P 1 T (.slice base src.length cap) src.length (cellsOf src) w:=by
  have hu8:=(u8s_of hT).1
  cases S with
  | none =>
    obtain ⟨rfl,rfl⟩:=hsr
    exact Src.ofNil w hu8 _
  | some sb =>
    obtain ⟨o,rfl,hc⟩:=hsr
    refine Src.ofSlice w hu8 ⟨sb,o,none⟩ src.length cap (cellsOf src) (by simp [cLen]) (fun j u hj=>?_) (fun u hu=>?_)
    · rw [add_none]
      simp only [cellsOf,List.getElem?_map,Option.map_eq_some_iff] at hj
      obtain ⟨u',hu',rfl⟩:=hj
      exact hc j u' hu'
    · simp only [cellsOf,List.mem_map] at hu
      obtain ⟨u',_,rfl⟩:=hu
      rfl
def OwnC (P:Program) (tU8:Nat) (F:FuncId):Prop:=FnOK P F∧∀ (w:World) (S:Option Nat) (base:Option Addr) (src:Bytes) (cap:Nat),SrcAt w S base src→src.length≤lim→Calls P F #[.slice base src.length cap] w (RetOwn tU8 w src)
theorem own_ok {T0 tU8 : Nat} (hT : u8sB P T0 tU8 = true) (hf : P.funcs[f]? = some fn) (hb : fn.body.map strip = some (sc_own T0)) (hnm : (fn.name == "runtime.NumGoroutine") = false) (hn : fn.ntmps = 5) (hr : fn.results = #[.tmp 2]) : OwnC P tU8 f := by
  refine ⟨fnOK_of hf hb hnm,fun w S base src cap hsr hlen=>?_⟩
  refine fCa hf hb hn (by simp) fun a0 hs hd ha=>?_
  have h0:=ha 0 _ rfl
  simp only [List.getElem_toArray,List.getElem_cons_zero,List.getElem_cons_succ] at h0
  refine SC.wp_seq (SC.wp_reg ?_)
  repeat (apply ops_1;(focus (simp (disch:=(try simp only [sPu]);omega) ;try rfl)))
  refine oNi (SC.wp_seq (SC.wp_reg ?_))
  iterate 1 (apply ops_1;(focus (simp (disch:=(try simp only [sPu]);omega) [h0];try rfl)))
  refine oNo rfl (opw_appendU8 (B:=w.heap.size) (xs:=[]) (bs:=src) (dv:=.slice none 0 0) (xv:=.slice base src.length cap) hT (eCo _ _) (by simp (disch:=(try simp only [sPu]);omega)) rfl (World.ownsRow_nil _ _ _ _) (Nat.le_refl _) (src_of hT hsr) (by simpa using hlen) fun dv w3 ho hb3 hbs3 _=>?_)
  rw [List.nil_append] at ho
  repeat (apply ops_1;(focus (simp (disch:=(try simp only [sPu]);omega) ;try rfl)))
  refine oNi (SC.wp_ret ?_)
  try simp only [Exit.then]
  exact ret_tmp hr (by simp [dPu,hd]) ⟨dv,by simp (disch:=(try simp only [sPu]);omega),ho,hb3⟩
def OctC (P:Program) (tU8:Nat) (F:FuncId):Prop:=FnOK P F∧∀ (w:World) (S:Option Nat) (base:Option Addr) (src:Bytes) (cap:Nat),SrcAt w S base src→src.length≤lim→Calls P F #[.slice base src.length cap] w fun e w'=>∃ b2 c2,e=.returned (.agg #[.bool base.isNone,.slice b2 (if base.isNone then 0 else src.length) c2])∧(base.isNone=false→BytesAt w' (fun k=>w.heap.size < k∧k < w'.heap.size) b2 src)∧Below w.heap.size w w'
theorem octets_ok {T0 T1 tU8:Nat} (hT:u8sB P T1 tU8=true) (hsl:sliceB P T1 tU8 1=true) (hA:aggB P T0 2=true) (hz:∃ i z,P.info? T0=some i∧i.zero=some z∧z.cells.size=2) (hz8:∃ i z,P.info? tU8=some i∧i.zero=some z)
    (hB0:P.built T0 [(0,.bool true)]=some #[.bool true,.slice none 0 0]) (hB1:∀ (b:Option Addr) (l c:Nat),P.built T0 [(1,.slice b l c)]=some #[.bool false,.slice b l c])
    (hf : P.funcs[f]? = some fn) (hb : fn.body.map strip = some (sc_octets T0 T1)) (hnm : (fn.name == "runtime.NumGoroutine") = false) (hn : fn.ntmps = 10) (hr : fn.results = #[.cell 2 T0]) : OctC P tU8 f := by
  refine ⟨fnOK_of hf hb hnm,fun w S base src cap hsr hlen=>?_⟩
  obtain ⟨zi,zz,hzi,hzz,hzs⟩:=hz
  refine fCa hf hb hn (by simp) fun a0 hs hd ha=>?_
  have h0:=ha 0 _ rfl
  simp only [List.getElem_toArray,List.getElem_cons_zero,List.getElem_cons_succ] at h0
  refine SC.wp_seq (SC.wp_reg (oNo rfl (opw_alloc hzi hzz (oNi ?_))))
  simp only [Exit.then]
  have hn1:=heap_alloc_new w (.cells zz.cells T0)
  have hb1:Below w.heap.size w (w.alloc (.cells zz.cells T0)):=(Below.refl _ _).alloc (Nat.le_refl _) _
  have hs1:(w.alloc (.cells zz.cells T0)).heap.size=w.heap.size+1:=by simp
  have hlt:∀ sb,S=some sb→w.heap[sb]?=(w.alloc (.cells zz.cells T0)).heap[sb]?∨src=[]:=fun sb h=>by
    by_cases hx:sb < w.heap.size
    · exact .inl (Below.heap_alloc _ _ _ hx).symm
    · right
      rw [h] at hsr
      obtain ⟨o,_,hc⟩:=hsr
      cases src with
      | nil=>rfl
      | cons u r =>
        have:=hc 0 u rfl
        simp [World.cell?,Array.getElem?_eq_none (show w.heap.size≤sb by omega)] at this
  have hsr1:SrcAt (w.alloc (.cells zz.cells T0)) S base src:=by
    cases S with
    | none=>exact hsr
    | some sb =>
      rcases hlt sb rfl with h | h
      · exact hsr.frame fun s hs=>by cases hs;exact h.symm
      · subst h
        obtain ⟨o,ho,_⟩:=hsr
        exact ⟨o,ho,fun j u hu=>by simp at hu⟩
  generalize w.alloc (.cells zz.cells T0)=w1 at hn1 hb1 hs1 hsr1 ⊢
  refine SC.wp_seq (SC.wp_seq (SC.wp_reg ?_))
  iterate 1 (apply ops_1;(focus (simp (disch:=(try simp only [sPu]);omega) [h0];try rfl)))
  refine oNo rfl (opw_eqlnil_slice (base:=base) (len:=src.length) (cap:=cap) hsl (by simp (disch:=(try simp only [sPu]);omega)) (oNi ?_))
  simp only [Exit.then]
  refine SC.wp_cond (t:=base.isNone) (by simp (disch:=(try simp only [sPu]);omega)) ?_
  cases hbn:base.isNone with
  | true =>
    rw [if_pos rfl]
    refine SC.wp_seq (SC.wp_reg ?_)
    refine oNo rfl (opw_build (cs:=#[.bool true,.slice none 0 0]) (by simp only [List.map_toArray,List.map_cons,List.map_nil,eCo];exact hB0) ?_)
    refine oNo rfl (opw_store_agg (cs:=[.bool true,.slice none 0 0]) (cur:=zz.cells) (b:=w.heap.size) (E:=T0) hA (by simp (disch:=(try simp only [sPu]);omega)) (by simp (disch:=(try simp only [sPu]);omega)) hn1 (by rw [hzs];rfl) (by intro v hv;simp at hv;rcases hv with rfl | rfl <;> rfl) (oNi ?_))
    rw [pNo]
    simp only [Exit.then]
    refine SC.wp_ret ?_
    try simp only [Exit.then]
    have hrow:=setRow_heap w1 w.heap.size _ [Value.bool true,.slice none 0 0].toArray _ _ hn1
    refine ret_cellAgg (cs:=[.bool true,.slice none 0 0]) (b:=w.heap.size) hr hA (by simp (disch:=(try simp only [sPu]);omega)) (fun j v hj=>by rw [cell_of_row _ _ _ _ _ _ hrow];simpa using hj) (by simp [dPu,hd]) ⟨none,0,rfl,(fun h=>by cases h),hb1.trans ⟨rfl,rfl,rfl,by simp,fun k hk=>setRow_other _ _ _ _ (by omega)⟩⟩
  | false =>
    rw [if_neg (by simp)]
    refine SC.wp_skip ?_
    simp only [Exit.then]
    refine SC.wp_seq (SC.wp_reg ?_)
    refine oNo rfl (opw_slice00' hsl hz8 ?_)
    have hnew2:=heap_alloc_new w1 (.cells #[] tU8)
    have hs2:(w1.alloc (.cells #[] tU8)).heap.size=w1.heap.size+1:=by simp
    have hb2:Below w1.heap.size w1 (w1.alloc (.cells #[] tU8)):=(Below.refl _ _).alloc (Nat.le_refl _) _
    have hsr2:SrcAt (w1.alloc (.cells #[] tU8)) S base src:=by
      cases S with
      | none=>exact hsr1
      | some sb =>
        obtain ⟨o,ho,hc⟩:=hsr1
        refine ⟨o,ho,fun j u hu=>?_⟩
        have hlt:sb < w1.heap.size:=by
          apply Classical.byContradiction
          intro h
          have:=hc j u hu
          simp [World.cell?,Array.getElem?_eq_none (show w1.heap.size≤sb by omega)] at this
        rw [World.cell?_of_block (Below.heap_alloc _ _ _ hlt)]
        exact hc j u hu
    have hown:Own tU8 (w1.alloc (.cells #[] tU8)) w1.heap.size (.slice (some ⟨w1.heap.size,0,none⟩) 0 0) []:=by
      exact ⟨rfl,.inr ⟨w1.heap.size,0,#[],rfl,Nat.le_refl _,hnew2,Nat.le_refl _,Nat.zero_le _,rfl,rfl⟩⟩
    generalize hw2:w1.alloc (.cells #[] tU8)=w2 at hnew2 hs2 hb2 hsr2 hown ⊢
    have hn2:w2.heap[w.heap.size]?=some (.cells zz.cells T0 (0,0)):=by rw [hb2.block _ (by omega)];exact hn1
    iterate 1 (apply ops_1;(focus (simp (disch:=(try simp only [sPu]);omega) [h0];try rfl)))
    refine oNo rfl (opw_appendU8 (B:=w1.heap.size) (xs:=[]) (bs:=src) (dv:=.slice (some ⟨w1.heap.size,0,none⟩) 0 0) (xv:=.slice base src.length cap) hT (by simp (disch:=(try simp only [sPu]);omega)) (by simp (disch:=(try simp only [sPu]);omega)) rfl hown (by omega) (src_of hT hsr2) (by simpa using hlen) fun dv w3 ho hb3 hbs3 _=>?_)
    rw [List.nil_append] at ho
    obtain ⟨S3,b3,c3,rfl,hsr3,hS3⟩:=own_src ho
    have hn3:w3.heap[w.heap.size]?=some (.cells zz.cells T0 (0,0)):=by rw [hb3.block _ (by omega)];exact hn2
    refine oNo rfl (opw_build (cs:=#[.bool false,.slice b3 src.length c3]) ?_ ?_)
    · simp only [List.map_toArray,List.map_cons,List.map_nil]
      rw [eTm,gTp (by simp only [sPu];omega)]
      exact hB1 _ _ _
    refine oNo rfl (opw_store_agg (cs:=[.bool false,.slice b3 src.length c3]) (cur:=zz.cells) (b:=w.heap.size) (E:=T0) hA (by simp (disch:=(try simp only [sPu]);omega)) (by simp (disch:=(try simp only [sPu]);omega)) hn3 (by rw [hzs];rfl) (by intro v hv;simp at hv;rcases hv with rfl | rfl <;> rfl) (oNi ?_))
    rw [pNo]
    simp only [Exit.then]
    refine SC.wp_ret ?_
    try simp only [Exit.then]
    have hrow:=setRow_heap w3 w.heap.size _ [Value.bool false,.slice b3 src.length c3].toArray _ _ hn3
    have hbw:Below w.heap.size w (w3.setRow w.heap.size [Value.bool false,.slice b3 src.length c3].toArray):=((hb1.trans ⟨hb2.os,hb2.tape,hb2.output,hb2.size,fun k hk=>hb2.block k (by omega)⟩).trans ⟨hb3.os,hb3.tape,hb3.output,hb3.size,fun k hk=>hb3.block k (by omega)⟩).trans ⟨rfl,rfl,rfl,by simp,fun k hk=>setRow_other _ _ _ _ (by omega)⟩
    refine ret_cellAgg (cs:=[.bool false,.slice b3 src.length c3]) (b:=w.heap.size) hr hA (by simp (disch:=(try simp only [sPu]);omega)) (fun j v hj=>by rw [cell_of_row _ _ _ _ _ _ hrow];simpa using hj) (by simp [dPu,hd]) ⟨b3,c3,by simp,fun _=>?_,hbw⟩
    refine bytesAt_src (S:=S3) ?_ fun sb h=>⟨by have:=(hS3 sb h).1;omega,by have:=(hS3 sb h).2;simpa using this⟩
    exact hsr3.frame fun sb h=>setRow_other _ _ _ _ (by have:=(hS3 sb h).1;omega)
end
end Go.Proofs.YtgaplicnofhliaaDoor.K
namespace Go.Proofs.YtgaplicnofhliaaDoor.K
open Go Go.RowKit Go.Proofs.YtgaplicnofhliaaDoor.T
attribute [local simp] eTm eCo pNo gTp gTn qv qcall vop iop
set_option linter.unusedVariables false
set_option linter.unusedSimpArgs false
set_option maxHeartbeats 2000000
structure KTop where
  S:Nat
  size:Nat
  d:Nat
  t:Nat
  N:Nat
  fs:Fs
def kTop (I:RIds) (S d t:Nat) (fs:Fs):SC :=
  seqs ([cset 6 .nilIface,.reg [mv t 0,cal (t+1) d [t]],
    .reg [mv (t+2) 1,⟨some (t+3),.build I.tRd #[(0,.tmp (t+2))],none⟩,⟨some 7,.alloc I.tRd,none⟩,⟨none,.store I.tRd (.tmp 7) (.tmp (t+3)),none⟩],
    .reg [mv (t+4) 0,cal (t+5) I.rI16 [7],nilc (t+6) (t+4),fa (t+7) S (t+6) 0,⟨none,.store I.tI16 (.tmp (t+7)) (.tmp (t+5)),none⟩],
    .reg [mv (t+8) 0,nilc (t+9) (t+8),fa (t+10) S (t+9) 0,ld (t+11) I.tI16 (t+10),asg 8 (t+11)],.reg [mv (t+12) 8],.reg [mv (t+13) 0,asg 9 (t+13)]] ++
      (rFs I (rCtx none) S 9 10 (t+14) 0 fs ++ [.reg [cal (t+14+rFT (rCtx none) fs) I.rCompl [7],asg 6 (t+14+rFT (rCtx none) fs)],.ret]))
def KTop.chk (P:Program) (I:RIds) (M:KTop):Bool :=
  okRFs P I (rCtx none) M.S M.fs && layFs 1 M.size M.fs && decide (1≤M.size∧10+rVs M.fs≤M.t∧M.t+14+rFT (rCtx none) M.fs+1≤M.N) && fieldB P M.S 0 0 && intB P I.tI16 .i16 && oneB P I.tI16 && rdNew P I.tRd
def ReadKC (P:Program) (I:RIds) (M:KTop) (B:Nat) (G:List (Nat × Bytes)→Prop) (err:Value) (F:FuncId) (w0:World):Prop :=
  ∀ (S:Option Nat) (b:Nat) (cs:Array Value) (E:TypeId) (base:Option Addr) (src:Bytes) (cap:Nat),(∀ n r,pInt 2 src=some (n,r)→0≤n)→B≤b→B≤w0.heap.size→w0.heap[b]?=some (.cells cs E (0,0))→M.size≤cs.size →
    FrFs w0 b M.fs 0→src.length≤cap→SrcAt w0 S base src→(∀ sb,S=some sb→sb ≠ b∧sb < w0.heap.size) →
    Calls P F #[.pointer (some ⟨b,0,none⟩),.slice base src.length cap,.bool false] w0 fun e w'=>Below B w0 w'∧B≤w'.heap.size ∧
      match pInt 2 src with
      | none=>e=.returned err
      | some (ver,rest)=>match pBody ver false M.fs rest with
        | none=>e=.returned err
        | some (x,r)=>e=.returned .nilIface∧b < w'.heap.size∧w'.cell? ⟨b,0,none⟩=some (.int .i16 ver) ∧
          (FitFs ver M.fs x.l→FitTags x.u→∃ F:Nat→Prop,(∀ k,F k→k < w'.heap.size)∧HFs G w' F ver false M.fs b 0 x.l∧TagsAt G w' F false b 0 none x.u)
section
variable {P:Program} {I:RIds} {M:KTop} {B:Nat} {G:List (Nat × Bytes)→Prop} {err:Value} {Gl:World→Prop} {gb:Nat} {f:FuncId} {fn:Func} {w0:World}
theorem readKept_ok {out:List (Nat × Value)} (hk:KR P I I.tRd gb err Gl) (hG:∀ u,G u) (hgl:∀ w,Below B w0 w→Gl w) (hgb:gb < B)
    (h16:RC P I.tRd gb I.rI16 (pInt 2) (fun v=>∃ n,v=.int .i16 n) (fun _ _ n v=>v=.int .i16 n))
    (h16z:∀ (w:World) (S:Option Nat) (rb:Nat) (st:Option Bytes),RdAt I.tRd w S rb st→after st (pInt 2)=none→Calls P I.rI16 #[.pointer (some ⟨rb,0,none⟩)] w fun e w'=>e=.returned (.int .i16 0)∧RdAt I.tRd w' S rb none∧Only rb w w')
    (hchk:M.chk P I=true) (hdef:DefFs P M.fs) (hd:DefAt P M.d M.size out) (hout:outFs out M.fs 0=true) (hoa:(out.all fun x=>decide (x.1 < M.size∧0 < x.1))=true)
    (hf:P.funcs[f]?=some fn) (hb:fn.body.map strip=some (kTop I M.S M.d M.t M.fs)) (hn:fn.ntmps=M.N) (hr:fn.results=#[.tmp 6]):ReadKC P I M B G err f w0:=by
  intro S b cs E base src cap hpos hBb hBw hcs hlen hfr hcap hsr hsrc
  simp only [KTop.chk,Bool.and_eq_true,decide_eq_true_eq] at hchk
  obtain ⟨⟨⟨⟨⟨⟨c1,c3⟩,c5,c6,c7⟩,c8⟩,c9⟩,c10⟩,c11⟩:=hchk
  obtain ⟨r1,⟨rit,rz,rzi,rzz,rzc⟩,r3⟩:=rdNew_of c11
  have hbl:b < w0.heap.size:=(Array.getElem?_eq_some_iff.1 hcs).1
  have hoa':∀ x ∈ out,x.1 < M.size∧0 < x.1:=fun x hx=>by simpa using (List.all_eq_true.1 hoa) x hx
  refine fCa hf hb hn (by simp;omega) fun a0 hs hdf ha=>?_
  have h0:=ha 0 _ rfl
  have h1:=ha 1 _ rfl
  have h2:=ha 2 _ rfl
  simp only [List.getElem_toArray,List.getElem_cons_zero,List.getElem_cons_succ] at h0 h1 h2
  refine wpL_seqs _ _ _ ?_
  simp only [List.cons_append,List.nil_append,wpL]
  refine SC.wp_reg (oNo rfl (opw_assign (oNi ?_)))
  simp only [Exit.then,eCo]
  refine SC.wp_reg (ops_mv (ops_call (argsV:=#[.pointer (some ⟨b,0,none⟩)]) hd.1 (hd.2 w0 b 0 cs E hcs (by omega)) (by simp (disch:=(try simp only [sPu]);omega) [h0]) ?_))
  rintro e w1 ⟨rfl,hw1⟩
  refine ⟨_,rfl,oNi ?_⟩
  simp only [Exit.then]
  have hds:(dSetAll 0 out cs).size=cs.size:=dSetAll_size _ _ _
  have hrow1:w1.heap[b]?=some (.cells (dSetAll 0 out cs) E (0,0)):=by rw [hw1];exact setRow_heap _ _ _ _ _ _ hcs
  have hoth1:∀ k,k ≠ b→w1.heap[k]?=w0.heap[k]?:=fun k hk=>by rw [hw1];exact setRow_other _ _ _ _ hk
  have hsz1:w1.heap.size=w0.heap.size:=by rw [hw1];simp
  have hbelow1:Below B w0 w1:=by rw [hw1];exact ⟨rfl,rfl,rfl,by simp,fun k hk=>setRow_other _ _ _ _ (by omega)⟩
  have hfr1:FrFs w1 b M.fs 0:=by
    have:=outFs_ok (w:=w0) (w':=w1) (b:=b) (q:=0) (out:=out) (fun j hj=>by
      rw [Nat.zero_add,cell_of_row _ _ _ _ _ _ hrow1,cell_of_row _ _ _ _ _ _ hcs]
      exact dSetAll_other out cs fun x hx=>by rw [Nat.zero_add];exact hj x hx) M.fs 0 hout (by simpa using hfr)
    simpa using this
  refine SC.wp_reg (ops_mv (oNo rfl (opw_build (cs:=#[.slice base src.length cap,.bool false]) ?_ (oNo rfl (opw_alloc rzi rzz ?_)))))
  · have:(#[(0,Operand.tmp (M.t+2))].map fun x:Nat × Operand=>(x.1,Act.eval (((((a0.put (some 6) .nilIface).put (some M.t) (getT (a0.put (some 6) .nilIface) 0)).put (some (M.t+1)) (.tuple #[])).put (some (M.t+2)) (getT (((a0.put (some 6) .nilIface).put (some M.t) (getT (a0.put (some 6) .nilIface) 0)).put (some (M.t+1)) (.tuple #[])) 1))) x.2)).toList=[(0,.slice base src.length cap)]:=by
      simp only [List.map_toArray,List.map_cons,List.map_nil]
      rw [eTm,gTp (by simp only [sPu];omega),gTn (by omega),gTn (by omega),gTn (by omega),h1]
    rw [this]
    exact r3 _ rfl
  have hnew:=heap_alloc_new w1 (.cells rz.cells I.tRd)
  refine oNo rfl (opw_store_agg (cs:=[.slice base src.length cap,.bool false]) (cur:=rz.cells) (b:=w1.heap.size) (E:=I.tRd) r1 (by simp (disch:=(try simp only [sPu]);omega)) (by simp (disch:=(try simp only [sPu]);omega)) hnew (by rw [rzc];rfl) (by intro v hv;simp at hv;rcases hv with rfl | rfl <;> rfl) (oNi ?_))
  rw [pNo]
  simp only [Exit.then]
  obtain ⟨rb,hrb⟩:∃ rb,rb=w1.heap.size:=⟨_,rfl⟩
  rw [← hrb] at hnew ⊢
  obtain ⟨w2,hw2⟩:∃ w2,w2=(w1.alloc (.cells rz.cells I.tRd)).setRow rb [Value.slice base src.length cap,.bool false].toArray:=⟨_,rfl⟩
  rw [← hw2]
  have hrow2:w2.heap[rb]?=some (.cells #[.slice base src.length cap,.bool false] I.tRd (0,0)):=by rw [hw2];exact setRow_heap _ _ _ _ _ _ hnew
  have hoth2:∀ k,k < w1.heap.size→w2.heap[k]?=w1.heap[k]?:=fun k hk=>by
    rw [hw2,setRow_other _ _ _ _ (by omega)]
    exact Below.heap_alloc _ _ _ hk
  have hsz2:w2.heap.size=w1.heap.size+1:=by rw [hw2];simp
  have hbelow2:Below B w0 w2:=by
    rw [hw2]
    exact (hbelow1.alloc (by omega) _).trans ⟨rfl,rfl,rfl,by simp,fun k hk=>setRow_other _ _ _ _ (by omega)⟩
  have hrb2:w2.heap[b]?=some (.cells (dSetAll 0 out cs) E (0,0)):=by rw [hoth2 b (by omega)];exact hrow1
  have hat2:RdAt I.tRd w2 S rb (some src):=by
    refine ⟨base,cap,hrow2,hcap,?_⟩
    have:SrcAt w2 S base src:=hsr.frame fun sb hsb=>by rw [hoth2 sb (by have:=(hsrc sb hsb).2;omega),hoth1 sb (hsrc sb hsb).1]
    cases S <;> exact this
  have hsr2:∀ sb,S=some sb→sb ≠ rb∧sb < w2.heap.size:=fun sb hsb=>⟨by have:=(hsrc sb hsb).2;omega,by have:=(hsrc sb hsb).2;omega⟩
  have hver:Calls P I.rI16 #[.pointer (some ⟨rb,0,none⟩)] w2 fun e w3=>∃ n:Int,e=.returned (.int .i16 n)∧0≤n∧RdAt I.tRd w3 S rb (after (some src) (pInt 2))∧Only rb w2 w3∧∀ n' r,pInt 2 src=some (n',r)→n=n':=by
    cases hp:pInt 2 src with
    | none =>
      refine (h16z w2 S rb (some src) hat2 (after_no hp)).mono fun e w3 h=>?_
      obtain ⟨q1,q2,q3⟩:=h
      exact ⟨0,q1,Int.le_refl _,by rw [after_no hp];exact q2,q3,fun n' r h=>by cases h⟩
    | some z =>
      obtain ⟨n',r⟩:=z
      refine (h16.2 w2 S rb (some src) (by omega) hat2 hsr2).mono fun e w3 h=>?_
      obtain ⟨v,q1,q2,q3,q4,q5⟩:=h
      have q6:v=.int .i16 n':=q5 src n' r rfl hp
      exact ⟨n',by rw [q1,q6],hpos n' r hp,q2,q3,fun n2 r2 h=>by cases h;rfl⟩
  refine SC.wp_reg (ops_mv (ops_call (argsV:=#[.pointer (some ⟨rb,0,none⟩)]) h16.1 hver (by simp (disch:=(try simp only [sPu]);omega)) ?_))
  rintro e w3 ⟨ver,rfl,hv0,hat3,ho3,hvn⟩
  refine ⟨_,rfl,?_⟩
  have hrb3:w3.heap[b]?=some (.cells (dSetAll 0 out cs) E (0,0)):=by rw [ho3.block b (by omega) (by omega)];exact hrb2
  refine ops_nilc (ad:=⟨b,0,none⟩) (by simp (disch:=(try simp only [sPu]);omega) [h0]) (ops_fa c8 (b:=b) (o:=0) (by simp (disch:=(try simp only [sPu]);omega)) ?_)
  refine oNo rfl (opw_store_one (ad:=⟨b,0,none⟩) (v:=.int .i16 ver) (v0:=(dSetAll 0 out cs)[0]'(by omega)) c10 (by simp (disch:=(try simp only [sPu]);omega)) (by simp (disch:=(try simp only [sPu]);omega)) rfl (by rw [cell_of_row _ _ _ _ _ _ hrb3];exact Array.getElem?_eq_getElem (by omega)) (by simp [World.frozen?,hrb3]) (oNi ?_))
  rw [setCell_eq_setRow _ _ _ _ _ _ _ hrb3,pNo]
  simp only [Exit.then]
  obtain ⟨w4,hw4⟩:∃ w4,w4=w3.setRow b ((dSetAll 0 out cs).setIfInBounds 0 (.int .i16 ver)):=⟨_,rfl⟩
  rw [← hw4]
  have hrb4:w4.heap[b]?=some (.cells ((dSetAll 0 out cs).setIfInBounds 0 (.int .i16 ver)) E (0,0)):=by rw [hw4];exact setRow_heap _ _ _ _ _ _ hrb3
  have hoth4:∀ k,k ≠ b→w4.heap[k]?=w3.heap[k]?:=fun k hk=>by rw [hw4];exact setRow_other _ _ _ _ hk
  have hsz4:w4.heap.size=w3.heap.size:=by rw [hw4];simp
  have hs3:=ho3.size
  have hbelow4:Below B w0 w4:=by
    rw [hw4]
    exact (hbelow2.trans (ho3.below (by omega) (by omega))).trans ⟨rfl,rfl,rfl,by simp,fun k hk=>setRow_other _ _ _ _ (by omega)⟩
  have hat4:RdAt I.tRd w4 S rb (after (some src) (pInt 2)):=by
    cases hp:after (some src) (pInt 2) with
    | none=>rw [hp] at hat3;exact (hoth4 rb (by omega)).trans hat3
    | some rest =>
      rw [hp] at hat3
      obtain ⟨base3,cap3,q1,q2,q3⟩:=hat3
      refine ⟨base3,cap3,(hoth4 rb (by omega)).trans q1,q2,?_⟩
      cases S with
      | none=>exact q3
      | some sb =>
        obtain ⟨o,q4,q5⟩:=q3
        exact ⟨o,q4,fun j u hj=>(World.cell?_of_block (hoth4 sb (hsrc sb rfl).1)).trans (q5 j u hj)⟩
  have hvc4:w4.cell? ⟨b,0,none⟩=some (.int .i16 ver):=by rw [cell_of_row _ _ _ _ _ _ hrb4];exact Array.getElem?_setIfInBounds_self_of_lt (by omega)
  refine SC.wp_reg (ops_mv (ops_nilc (ad:=⟨b,0,none⟩) (by simp (disch:=(try simp only [sPu]);omega) [h0]) (ops_fa c8 (b:=b) (o:=0) (by simp (disch:=(try simp only [sPu]);omega)) (ops_ld c10 (ad:=⟨b,0,none⟩) (v:=.int .i16 ver) (by simp (disch:=(try simp only [sPu]);omega)) hvc4 (ops_asg (oNi ?_))))))
  simp only [Exit.then]
  refine SC.wp_reg (ops_mv (oNi ?_))
  simp only [Exit.then]
  refine SC.wp_reg (ops_mv (ops_asg (oNi ?_)))
  simp only [Exit.then]
  refine wpL_gen (fun a=>a.tmps.size=M.N∧a.defers=[]∧getT a 2=.bool false∧getT a 7=.pointer (some ⟨rb,0,none⟩)∧getT a 8=.int .i16 ver∧getT a 9=.pointer (some ⟨b,0,none⟩)) ⟨by simp [sPu,hs,hn],by simp [dPu,hdf],by simp (disch:=(try simp only [sPu]);omega) [h2],by simp (disch:=(try simp only [sPu]);omega),by simp (disch:=(try simp only [sPu]);omega),by simp (disch:=(try simp only [sPu]);omega) [h0]⟩ fun a2 ⟨p1,p2,p3,p4,p5,p6⟩=>?_
  obtain ⟨X,hX⟩:∃ X:RX,X=⟨P,I,I.tRd,S,rb,G,rCtx none,w0,B,ver,false,M.t,M.N,err,Gl,gb⟩:=⟨_,rfl⟩
  have hXok:X.ok:=by
    rw [hX]
    exact ⟨hk,hgb,rfl,by simp only;omega,fun _=>rfl,by simp only;omega,hv0,hG,hgl⟩
  have hi:RInv X a2 w4 (after (some src) (pInt 2)):=by
    rw [hX]
    exact ⟨p1,p2,p3,p4,p5,fun h=>(by cases h),hat4,fun sb hsb=>⟨(hsr2 sb hsb).1,by have:=(hsr2 sb hsb).2;show sb < w4.heap.size;omega⟩,hbelow4,by show B≤w4.heap.size;omega⟩
  have hopn:Opn X (fun k=>k=rb∨k=b) b w4:=by
    rw [hX]
    refine ⟨.inl rfl,.inr rfl,fun k hk=>by rcases hk with rfl | rfl <;> omega,fun sb hsb h=>?_,by simp only;omega,hBb⟩
    have:=hsrc sb hsb
    rcases h with h | h
    · omega
    · exact this.1 h
  have hfr4:FrFs w4 b M.fs 0:=by
    refine frFs_frame (w:=w1) M.fs 1 M.size 0 c3 (fun j h1 h2=>?_) hfr1
    rw [cell_of_row _ _ _ _ _ _ hrow1,cell_of_row _ _ _ _ _ _ hrb4]
    exact Array.getElem?_setIfInBounds_ne (by omega)
  subst hX
  have hgoal:∀ (e:Ending) (w':World),Below B w0 w'→B≤w'.heap.size→(after (after (some src) (pInt 2)) (pBody ver false M.fs)=none→e=.returned err) →
      (∀ rest x r,pInt 2 src=some (ver,rest)→pBody ver false M.fs rest=some (x,r)→e=.returned .nilIface∧b < w'.heap.size∧w'.cell? ⟨b,0,none⟩=some (.int .i16 ver)∧(FitFs ver M.fs x.l→FitTags x.u→∃ F:Nat→Prop,(∀ k,F k→k < w'.heap.size)∧HFs G w' F ver false M.fs b 0 x.l∧TagsAt G w' F false b 0 none x.u)) →
      Below B w0 w'∧B≤w'.heap.size∧match pInt 2 src with
      | none=>e=.returned err
      | some (ver,rest)=>match pBody ver false M.fs rest with
        | none=>e=.returned err
        | some (x,r)=>e=.returned .nilIface∧b < w'.heap.size∧w'.cell? ⟨b,0,none⟩=some (.int .i16 ver) ∧
          (FitFs ver M.fs x.l→FitTags x.u→∃ F:Nat→Prop,(∀ k,F k→k < w'.heap.size)∧HFs G w' F ver false M.fs b 0 x.l∧TagsAt G w' F false b 0 none x.u):=by
    intro e w' g1 g2 g3 g4
    refine ⟨g1,g2,?_⟩
    cases hp:pInt 2 src with
    | none=>exact g3 (by rw [after_no hp];rfl)
    | some z =>
      obtain ⟨n',rest⟩:=z
      obtain rfl:=hvn n' rest hp
      simp only
      cases hq:pBody ver false M.fs rest with
      | none=>exact g3 (by rw [after_ok hp];exact after_no hq)
      | some z2 =>
        obtain ⟨x,r⟩:=z2
        exact g4 rest x r hp hq
  have hcalls:=top_body (X:=⟨P,I,I.tRd,S,rb,G,rCtx none,w0,B,ver,false,M.t,M.N,err,Gl,gb⟩) (fs:=M.fs) (S:=M.S) (p:=9) (v:=10) (t:=M.t+14) (bk:=0) (b:=b) (o:=0) (tags:=none) (lo:=1) (size:=M.size) (O:=fun k=>k=rb∨k=b) (st:=after (some src) (pInt 2)) (a:=a2) (w:=w4) (rest:=[.reg [cal (M.t+14+rFT (rCtx none) M.fs) I.rCompl [7],asg 6 (M.t+14+rFT (rCtx none) M.fs)],.ret]) (Q:=bodyPost P fn fun e w'=>Below B w0 w'∧B≤w'.heap.size∧match pInt 2 src with
      | none=>e=.returned err
      | some (ver,rest)=>match pBody ver false M.fs rest with
        | none=>e=.returned err
        | some (x,r)=>e=.returned .nilIface∧b < w'.heap.size∧w'.cell? ⟨b,0,none⟩=some (.int .i16 ver) ∧
          (FitFs ver M.fs x.l→FitTags x.u→∃ F:Nat→Prop,(∀ k,F k→k < w'.heap.size)∧HFs G w' F ver false M.fs b 0 x.l∧TagsAt G w' F false b 0 none x.u)) hXok c1 rfl c3 (fun f off e=>by cases e) c5 hdef hi p6 hopn ⟨_,_,hrb4,by simp;omega⟩ hfr4 (by omega) (by omega) c6 (by simp only;omega) (by simp only [rTagsT,Option.isSome_none,Bool.false_eq_true,if_false];omega) ?_ ?_
  · simpa only [rTagsL,List.nil_append] using hcalls
  · intro a4 w5 hi5 hs5 hf5 hv5
    simp only [wpL]
    refine SC.wp_reg (ops_call (argsV:=#[.pointer (some ⟨rb,0,none⟩)]) hk.complF (hk.compl w5 S rb _ (hgl _ hi5.below) hi5.at_) ?_ ?_)
    · simp only [List.map_cons,List.map_nil,List.map_toArray,eTm]
      rw [hi5.rd]
    rintro e w6 ⟨rfl,rfl⟩
    refine ⟨_,rfl,ops_asg (oNi ?_)⟩
    simp only [Exit.then]
    refine SC.wp_ret ?_
    simp only [Exit.then]
    have hsz5:a4.tmps.size=M.N:=hi5.size
    have hres:getT ((a4.put (some (M.t+14+rFT (rCtx none) M.fs)) (if (after (after (some src) (pInt 2)) (pBody ver false M.fs)).isSome=true then Value.nilIface else err)).put (some 6) (getT (a4.put (some (M.t+14+rFT (rCtx none) M.fs)) (if (after (after (some src) (pInt 2)) (pBody ver false M.fs)).isSome=true then Value.nilIface else err)) (M.t+14+rFT (rCtx none) M.fs))) 6=(if (after (after (some src) (pInt 2)) (pBody ver false M.fs)).isSome=true then Value.nilIface else err):=by
      rw [gTp (by simp only [sPu];omega),gTp (by omega)]
    refine ret_tmp hr (by simp only [dPu];exact hi5.defers) ?_
    rw [hres]
    refine hgoal _ _ hi5.below hi5.heap (fun h=>by rw [h];rfl) fun rest x r hp hq=>?_
    have hst:after (some src) (pInt 2)=some rest:=after_ok hp
    refine ⟨by rw [hst,after_ok hq];rfl,Nat.lt_of_lt_of_le (by omega) hf5.size,?_,fun hfit hfu=>⟨FO (fun k=>k=rb∨k=b) w6,fun k hk=>hk.1,hv5 rest x r hst hq hfit hfu⟩⟩
    rw [hf5.cell (q:=0) (n:=0) ⟨_,_,hrb4,Nat.zero_le _⟩ (j:=0) (by omega)]
    exact hvc4
  · intro a' w' e1 e2 e3 e4
    exact ret_tmp hr e1 (hgoal _ _ e3 (Nat.le_trans hBw e3.size) (fun _=>by rw [e2]) fun rest x r hp hq=>by
      rw [after_ok hp,after_ok hq] at e4
      cases e4)
end
end Go.Proofs.YtgaplicnofhliaaDoor.K
namespace Go.Proofs.YtgaplicnofhliaaDoor.K
open Go Go.RowKit Go.Proofs.YtgaplicnofhliaaDoor.T
attribute [local simp] eTm eCo pNo gTp gTn qv qcall vop iop
set_option linter.unusedVariables false
set_option linter.unusedSimpArgs false
set_option maxHeartbeats 4000000
def sc_NewV (T0 F0:Nat):SC:=.seq (.reg [⟨some 0,.alloc T0,none⟩]) (.seq (.reg [⟨some 1,.alloc T0,none⟩]) (.seq (.reg [cal 2 F0 [1]]) (.seq (.reg [ld 3 T0 1,⟨none,.store T0 (.tmp 0) (.tmp 3),none⟩]) (.ret))))
def sc_AgainK (T0 T1 T2 F0 F1 F2:Nat):SC:=.seq (.reg [⟨some 2,.assign (.const (.slice none 0 0)),none⟩,⟨some 3,.assign (.const (.bool false)),none⟩]) (.seq (.reg [cal 5 F0 [],⟨some 4,.alloc T0,none⟩,⟨none,.store T0 (.tmp 4) (.tmp 5),none⟩]) (.seq (.seq (.reg [mv 6 0,⟨some 7,.call ⟨.builtin .append,#[(.const (.slice none 0 0)),(.tmp 6)],#[T1,T1]⟩,none⟩,cal 8 F1 [4,7],⟨some 9,.binOp .neq T2 (.tmp 8) (.const .nilIface) T2,none⟩]) (.cond (.tmp 9) (.seq (.reg [⟨some 2,.assign (.const (.slice none 0 0)),none⟩,⟨some 3,.assign (.const (.bool false)),none⟩]) (.ret)) (.skip))) (.seq (.reg [⟨some 10,.call ⟨.value (.func F2),#[(.tmp 4),(.const (.slice none 0 0))],#[]⟩,none⟩,asg 2 10,⟨some 3,.assign (.const (.bool true)),none⟩]) (.ret))))
section
variable {P:Program} {f:FuncId} {fn:Func}
theorem newV_ok {T fDef n:Nat} {cs0 cs:Array Value} (hT:∃ i z,P.info? T=some i∧i.zero=some z∧z.cells=cs0) (hA:aggB P T n=true) (h0:cs0.size=n) (h1:cs.size=n) (hone:∀ v ∈ cs.toList,v.oneCell'=true) (hD:DefFn P fDef T cs0 cs) (hf:P.funcs[f]?=some fn) (hb:fn.body.map strip=some (sc_NewV T fDef)) (hn:fn.ntmps=4) (hr:fn.results=#[.cell 0 T]) (w:World) :
    Calls P f #[] w fun e w'=>e=.returned (.agg cs.toList.toArray)∧Below w.heap.size w w':=by
  obtain ⟨i,z,hi,hz,rfl⟩:=hT
  refine fCa hf hb hn (by simp) fun a0 hs hd ha=>?_
  refine SC.wp_seq (SC.wp_reg (oNo rfl (opw_alloc hi hz (oNi ?_))))
  simp only [Exit.then]
  refine SC.wp_seq (SC.wp_reg (oNo rfl (opw_alloc hi hz (oNi ?_))))
  simp only [Exit.then]
  have hn1:=heap_alloc_new w (.cells z.cells T)
  have hb1:Below w.heap.size w (w.alloc (.cells z.cells T)):=(Below.refl _ _).alloc (Nat.le_refl _) _
  have hs1:(w.alloc (.cells z.cells T)).heap.size=w.heap.size+1:=by simp
  generalize w.alloc (.cells z.cells T)=w1 at hn1 hb1 hs1 ⊢
  have hn2:=heap_alloc_new w1 (.cells z.cells T)
  have hn1':(w1.alloc (.cells z.cells T)).heap[w.heap.size]?=some (.cells z.cells T (0,0)):=by rw [Below.heap_alloc _ _ _ (by omega)];exact hn1
  have hb2:Below w.heap.size w (w1.alloc (.cells z.cells T)):=hb1.alloc (by omega) _
  have hs2:(w1.alloc (.cells z.cells T)).heap.size=w.heap.size+2:=by simp;omega
  generalize w1.alloc (.cells z.cells T)=w2 at hn2 hn1' hb2 hs2 ⊢
  refine SC.wp_seq (SC.wp_reg (ops_cal hD.1 (R:=fun e w'=>e=.returned (.tuple #[])∧w'=w2.setRow w1.heap.size cs) ?_ ?_))
  · refine Eq.mp (congrArg (fun z=>Calls P fDef z w2 _) ?_) (hD.2 w2 w1.heap.size hn2)
    simp (disch:=(try simp only [sPu]);omega)
  rintro e w3 ⟨rfl,hw3⟩
  refine ⟨_,rfl,oNi ?_⟩
  simp only [Exit.then]
  have hn3:w3.heap[w1.heap.size]?=some (.cells cs T (0,0)):=by rw [hw3];exact setRow_heap _ _ _ _ _ _ hn2
  have hn3':w3.heap[w.heap.size]?=some (.cells z.cells T (0,0)):=by rw [hw3,setRow_other _ _ _ _ (by omega)];exact hn1'
  have hb3:Below w.heap.size w w3:=by rw [hw3];exact hb2.trans ⟨rfl,rfl,rfl,by simp,fun k hk=>setRow_other _ _ _ _ (by omega)⟩
  have hlen:cs.toList.length=n:=by simpa using h1
  refine SC.wp_seq (SC.wp_reg ?_)
  refine oNo rfl (opw_load_agg (cs:=cs.toList) (b:=w1.heap.size) (o:=0) (by rw [hlen];exact hA) (by simp (disch:=(try simp only [sPu]);omega)) (fun j v hj=>by rw [Nat.zero_add,cell_of_row _ _ _ _ _ _ hn3];simpa using hj) ?_)
  refine oNo rfl (opw_store_agg (cs:=cs.toList) (cur:=z.cells) (b:=w.heap.size) (E:=T) (by rw [hlen];exact hA) (by simp (disch:=(try simp only [sPu]);omega)) (by simp (disch:=(try simp only [sPu]);omega)) hn3' (by rw [hlen];exact h0) hone (oNi ?_))
  simp only [Exit.then,pNo]
  have hn4:=setRow_heap w3 w.heap.size z.cells cs.toList.toArray T (0,0) hn3'
  refine SC.wp_ret ?_
  refine ret_cellAgg (cs:=cs.toList) hr (by rw [hlen];exact hA) (b:=w.heap.size) (by simp (disch:=(try simp only [sPu]);omega)) (fun j v hj=>by rw [cell_of_row _ _ _ _ _ _ hn4];simpa using hj) (by simp [dPu,hd]) ⟨rfl,hb3.trans ⟨rfl,rfl,rfl,by simp,fun k hk=>setRow_other _ _ _ _ (by omega)⟩⟩
def pKept (fs:Fs):Rd (Int × List Tree):=rThen (pInt 2) fun n=>rThen (pFs n false fs) fun xs=>rOk (n,xs)
def AgKC (P:Program) (tU8:Nat) (fs:Fs) (gb:Nat) (Gl:World→Prop) (F:FuncId):Prop:=FnOK P F∧∀ (w:World) (S:Option Nat) (base:Option Addr) (src:Bytes) (cap:Nat),gb < w.heap.size→(∀ w',Below w.heap.size w w'→Gl w')→SrcAt w S base src→(∀ sb,S=some sb→sb < w.heap.size)→src.length≤lim →
  (∀ n r,pInt 2 src=some (n,r)→0≤n) →
  (∀ n xs r,pKept fs src=some ((n,xs),r)→FitFs n fs xs∧(fixed n 2 ++ wFs n false fs xs).length≤lim) →
  Calls P F #[.slice base src.length cap] w fun e w'=>Below w.heap.size w w' ∧
    match pKept fs src with
    | none=>e=.returned (.tuple #[.slice none 0 0,.bool false])
    | some ((n,xs),r)=>∃ dv,e=.returned (.tuple #[dv,.bool true])∧Own tU8 w' w.heap.size dv (fixed n 2 ++ wFs n false fs xs)
def hdV (T16:Nat):Hd:=⟨0,-1,-1,0,0,0,T16,false⟩
theorem wFs_ver {n:Int} {T16:Nat} {fs:Fs} {xs:List Tree} (h:0≤n):wFs n false (.cons (hdV T16) (.prim .i16) fs) (Tree.mk n [] false [] [] :: xs)=fixed n 2 ++ wFs n false fs xs:=by
  have:(hdV T16).has n=true:=by simp [Hd.has,hdV,h]
  simp [wFs,this,wField,wTy,wPrim,PK.width,Tree.n]
theorem againK_ok {I:RIds} {M:KTop} {tU8 gb n T16 T0 T1 T2 F0 F1 F2 FR:Nat} {G:List (Nat × Bytes)→Prop} {Gl:World→Prop} {err:Value} {cs:Array Value}
    (hT:((P.info? T0).bind (·.zero)).isSome=true) (hA:aggB P T0 n=true) (hz:(zcOf P T0).size=n) (hcs:cs.size=n) (hone:∀ v ∈ cs.toList,v.oneCell'=true) (hT1:u8sB P T1 tU8=true) (hT2:ifaceT P T2=true) (herr:∃ t y,err=.iface t y)
    (oNV:FnOK P F0) (cNV:∀ w:World,Calls P F0 #[] w fun e w'=>e=.returned (.agg cs.toList.toArray)∧Below w.heap.size w w')
    (oRF:FnOK P F1) (cRF:∀ (w:World) (x y:Value) (R:Ending→World→Prop),(Calls P FR #[x,y,.bool false] w fun e w'=>∃ v,e=.returned v∧R e w')→Calls P F1 #[x,y] w R)
    (cR:∀ (B:Nat) (w0:World),gb < B→(∀ w',Below B w0 w'→Gl w')→ReadKC P I M B G err FR w0)
    (oAT:FnOK P F2) (cAT:∀ (w:World) (b:Nat) (ver:Int) (ts:List Tree) (u:List (Nat × Bytes)),b < w.heap.size→w.cell? ⟨b,0,none⟩=some (.int .i16 ver)→0≤ver→HFs G w (· < w.heap.size) ver (flexAt none ver) (.cons (hdV T16) (.prim .i16) M.fs) b 0 ts→TagsAt G w (· < w.heap.size) (flexAt none ver) b 0 none u →
      (wFs ver (flexAt none ver) (.cons (hdV T16) (.prim .i16) M.fs) ts ++ wTags (flexAt none ver) u).length≤lim→Calls P F2 #[.pointer (some ⟨b,0,none⟩),.slice none 0 0] w fun e w'=>∃ dv,e=.returned dv∧Own tU8 w' w.heap.size dv (wFs ver (flexAt none ver) (.cons (hdV T16) (.prim .i16) M.fs) ts ++ wTags (flexAt none ver) u)∧Below w.heap.size w w')
    (hsz:M.size=n) (hs1:1≤M.size) (hlay:layFs 1 M.size M.fs=true) (hfr:frFsB (fun j=>cs[j]?) M.fs 0=true)
    (hf : P.funcs[f]? = some fn) (hb : fn.body.map strip = some (sc_AgainK T0 T1 T2 F0 F1 F2)) (hnm : (fn.name == "runtime.NumGoroutine") = false) (hn : fn.ntmps = 11) (hr : fn.results = #[.tmp 2, .tmp 3]) : AgKC P tU8 M.fs gb Gl f := by
  refine ⟨fnOK_of hf hb hnm,fun w S base src cap hgb hgl hsr hS hlen hpos hfit=>?_⟩
  obtain ⟨zi,zz,hzi,hzz,hzc⟩:=zc_of hT
  have hcl:cs.toList.length=n:=by simpa using hcs
  refine fCa hf hb hn (by simp) fun a0 hs hd ha=>?_
  have h0:=ha 0 _ rfl
  simp only [List.getElem_toArray,List.getElem_cons_zero,List.getElem_cons_succ] at h0
  refine SC.wp_seq (SC.wp_reg ?_)
  repeat (apply ops_1;(focus (simp (disch:=(try simp only [sPu]);omega) ;try rfl)))
  refine oNi (SC.wp_seq (SC.wp_reg ?_))
  refine ops_call oNV (cNV w) (by simp (disch:=(try simp only [sPu]);omega)) ?_
  rintro e w1 ⟨rfl,hb1⟩
  refine ⟨_,rfl,?_⟩
  refine oNo rfl (opw_alloc hzi hzz ?_)
  have hn1:=heap_alloc_new w1 (.cells zz.cells T0)
  have hb1':Below w.heap.size w (w1.alloc (.cells zz.cells T0)):=hb1.alloc hb1.size _
  obtain ⟨b,hb⟩:∃ b,b=w1.heap.size:=⟨_,rfl⟩
  have hs1':(w1.alloc (.cells zz.cells T0)).heap.size=b+1:=by simp [hb]
  have hbw:w.heap.size≤b:=by rw [hb];exact hb1.size
  rw [← hb] at hn1 ⊢
  generalize w1.alloc (.cells zz.cells T0)=w1' at hn1 hb1' hs1' ⊢
  refine oNo rfl (opw_store_agg (cs:=cs.toList) (cur:=zz.cells) (b:=b) (E:=T0) (by rw [hcl];exact hA) (by simp (disch:=(try simp only [sPu]);omega)) (by simp (disch:=(try simp only [sPu]);omega)) hn1 (by rw [hcl,hzc];exact hz) hone (oNi ?_))
  simp only [Exit.then,pNo]
  obtain ⟨w2,hw2⟩:∃ w2,w2=w1'.setRow b cs.toList.toArray:=⟨_,rfl⟩
  rw [← hw2]
  have hrow2:w2.heap[b]?=some (.cells cs T0 (0,0)):=by rw [hw2];simpa using setRow_heap w1' b _ cs.toList.toArray _ _ hn1
  have hsz2:w2.heap.size=b+1:=by rw [hw2];simpa using hs1'
  have hb2:Below w.heap.size w w2:=by rw [hw2];exact hb1'.trans ⟨rfl,rfl,rfl,by simp,fun k hk=>setRow_other _ _ _ _ (by omega)⟩
  refine SC.wp_seq (SC.wp_seq (SC.wp_reg ?_))
  iterate 1 (apply ops_1;(focus (simp (disch:=(try simp only [sPu]);omega) [h0];try rfl)))
  have hS2:SrcAt w2 S base src:=hsr.frame fun sb h=>hb2.block sb (hS sb h)
  have hu8:=(u8s_of hT1).1
  have hsrc:Src P 1 T1 (.slice base src.length cap) src.length (cellsOf src) w2:=by
    cases S with
    | none =>
      obtain ⟨rfl,rfl⟩:=hS2
      exact Src.ofNil w2 hu8 _
    | some sb =>
      obtain ⟨o,rfl,hc⟩:=hS2
      refine Src.ofSlice w2 hu8 ⟨sb,o,none⟩ src.length cap (cellsOf src) (by simp [cLen]) (fun j u hj=>?_) (fun u hu=>?_)
      · rw [add_none]
        simp only [cellsOf,List.getElem?_map,Option.map_eq_some_iff] at hj
        obtain ⟨u',hu',rfl⟩:=hj
        exact hc j u' hu'
      · simp only [cellsOf,List.mem_map] at hu
        obtain ⟨u',_,rfl⟩:=hu
        rfl
  refine oNo rfl (opw_appendU8 (B:=w2.heap.size) (xs:=[]) (bs:=src) (dv:=.slice none 0 0) (xv:=.slice base src.length cap) hT1 (eCo _ _) (by simp (disch:=(try simp only [sPu]);omega)) rfl (World.ownsRow_nil _ _ _ _) (Nat.le_refl _) hsrc (by simpa using hlen) fun dv w3 ho hb3 hbs3 _=>?_)
  rw [List.nil_append] at ho
  have hrow3:w3.heap[b]?=some (.cells cs T0 (0,0)):=by rw [hb3.block b (by omega)];exact hrow2
  have hb3':Below w.heap.size w w3:=hb2.trans ⟨hb3.os,hb3.tape,hb3.output,hb3.size,fun k hk=>hb3.block k (by have:=hb2.size;omega)⟩
  obtain ⟨S3,base3,cap3,rfl,hcap3,hsr3,hS3⟩:∃ S3 base3 cap3,dv=.slice base3 src.length cap3∧src.length≤cap3∧SrcAt w3 S3 base3 src∧∀ sb,S3=some sb→sb ≠ b∧sb < w3.heap.size:=by
    obtain ⟨ho1,⟨e1,e2⟩ | ⟨g,c3,cur,e1,e2,e3,e4,e5,e6,e7⟩⟩:=ho
    · have hnil:src=[]:=List.length_eq_zero_iff.1 e2
      subst hnil
      exact ⟨none,none,0,e1,Nat.le_refl _,⟨rfl,rfl⟩,fun sb h=>by cases h⟩
    · refine ⟨some g,some ⟨g,0,none⟩,c3,e1,e4,⟨0,rfl,fun j u hu=>?_⟩,fun sb h=>by cases h;exact ⟨by omega,(Array.getElem?_eq_some_iff.1 e3).1⟩⟩
      rw [cell_of_row _ _ _ _ _ _ e3,Nat.zero_add]
      have hj:(cellsOf src)[j]?=some (cell u):=by simp [cellsOf,hu]
      rw [← e7,List.getElem?_take] at hj
      split at hj
      · rwa [Array.getElem?_toList] at hj
      · cases hj
  have hfr3:FrFs w3 b M.fs 0:=by
    have:=frFsB_ok (w:=w3) (b:=b) (q:=0) (get:=fun j=>cs[j]?) (fun j v hj=>by rw [Nat.zero_add,cell_of_row _ _ _ _ _ _ hrow3];exact hj) M.fs 0 hfr
    simpa using this
  have hs3:=hb3'.size
  have hcr:=cR w.heap.size w3 hgb (fun w' h=>hgl w' (hb3'.trans h)) S3 b cs T0 base3 src cap3 hpos hbw hs3 hrow3 (by omega) hfr3 hcap3 hsr3 hS3
  obtain ⟨R,hR⟩:∃ R:Ending→World→Prop,R=fun e w'=>∃ v',e=.returned v'∧((v'=.nilIface∨∃ t y,v'=.iface t y)∧Below w.heap.size w3 w'∧w.heap.size≤w'.heap.size ∧
      match pKept M.fs src with
      | none=>v'=err
      | some ((v,xs),r)=>v'=.nilIface∧0≤v∧b < w'.heap.size∧w'.cell? ⟨b,0,none⟩=some (.int .i16 v)∧HFs G w' (· < w'.heap.size) v false M.fs b 0 xs):=⟨_,rfl⟩
  refine ops_call oRF (cRF w3 (.pointer (some ⟨b,0,none⟩)) (.slice base3 src.length cap3) R (hcr.mono fun e w' h=>?_)) (by simp (disch:=(try simp only [sPu]);omega)) ?_
  · obtain ⟨z1,z2,z3⟩:=h
    rw [hR]
    cases hp:pInt 2 src with
    | none =>
      rw [hp] at z3
      simp only at z3
      subst z3
      have hk:pKept M.fs src=none:=by simp [pKept,rThen,hp]
      exact ⟨_,rfl,_,rfl,.inr herr,z1,z2,by rw [hk]⟩
    | some zn =>
      obtain ⟨v,rest⟩:=zn
      rw [hp] at z3
      simp only at z3
      cases hq:pBody v false M.fs rest with
      | none =>
        rw [hq] at z3
        simp only at z3
        subst z3
        have hk:pKept M.fs src=none:=by
          have:pFs v false M.fs rest=none:=by
            cases h:pFs v false M.fs rest with
            | none=>rfl
            | some y =>
              obtain ⟨xs,r⟩:=y
              simp [pBody,rThen,h,pTags,rOk] at hq
          simp [pKept,rThen,hp,this]
        exact ⟨_,rfl,_,rfl,.inr herr,z1,z2,by rw [hk]⟩
      | some y =>
        obtain ⟨x,r⟩:=y
        rw [hq] at z3
        obtain ⟨rfl,y1,y2,y3⟩:=z3
        obtain ⟨xs,r1,hx1,hx2⟩:=rThen_some (by simpa only [pBody] using hq)
        obtain ⟨u,r2,hu1,hu2⟩:=rThen_some hx2
        obtain ⟨rfl,rfl⟩:=rOk_some hu2
        have hu:u=[]:=by
          simp only [pTags,Bool.false_eq_true,if_false] at hu1
          exact (rOk_some hu1).1.symm
        subst hu
        have hk:pKept M.fs src=some ((v,xs),r1):=by simp [pKept,rThen,hp,hx1,rOk]
        obtain ⟨hf1,hf2⟩:=hfit v xs r1 hk
        obtain ⟨F,hF,q1,q2⟩:=y3 hf1 ⟨rfl,Nat.zero_le _,fun x hx=>by cases hx⟩
        refine ⟨_,rfl,_,rfl,.inl rfl,z1,z2,?_⟩
        rw [hk]
        exact ⟨rfl,hpos v rest hp,y1,y2,hFs_frame (fun k hk=>⟨hF k hk,rfl⟩) _ _ M.fs 1 M.size b 0 xs hlay (fun _ _ _=>rfl) q1⟩
  rw [hR]
  rintro e w4 ⟨v',rfl,hv',hb4,hs4,hpost⟩
  refine ⟨_,rfl,?_⟩
  refine oNo rfl (opw_isErr (v:=v') hT2 (by simp (disch:=(try simp only [sPu]);omega)) hv' (oNi ?_))
  simp only [Exit.then]
  refine SC.wp_cond (t:=isErr v') (by simp (disch:=(try simp only [sPu]);omega)) ?_
  have hb4':Below w.heap.size w w4:=hb3'.trans hb4
  cases hp:pKept M.fs src with
  | none =>
    rw [hp] at hpost
    simp only at hpost
    subst hpost
    obtain ⟨t,y,rfl⟩:=herr
    simp only [isErr,if_true]
    refine SC.wp_seq (SC.wp_reg ?_)
    repeat (apply ops_1;(focus (simp (disch:=(try simp only [sPu]);omega) ;try rfl)))
    refine oNi (SC.wp_ret ?_)
    try simp only [Exit.then]
    exact bodyPost_ret_by (v:=.tuple #[.slice none 0 0,.bool false]) (res2 hr (by simp (disch:=(try simp only [sPu]);omega)) (by simp (disch:=(try simp only [sPu]);omega))) (by simp [dPu,hd]) ⟨hb4',rfl⟩
  | some zz =>
    obtain ⟨⟨v,xs⟩,r⟩:=zz
    rw [hp] at hpost
    obtain ⟨rfl,hv0,y1,y2,y3⟩:=hpost
    simp only [isErr,Bool.false_eq_true,if_false]
    refine SC.wp_skip ?_
    simp only [Exit.then]
    refine SC.wp_seq (SC.wp_reg ?_)
    have hw:wFs v (flexAt none v) (.cons (hdV T16) (.prim .i16) M.fs) (Tree.mk v [] false [] [] :: xs) ++ wTags (flexAt none v) []=fixed v 2 ++ wFs v false M.fs xs:=by
      have:flexAt none v=false:=rfl
      rw [this,wFs_ver hv0]
      simp [wTags]
    have hH:HFs G w4 (· < w4.heap.size) v (flexAt none v) (.cons (hdV T16) (.prim .i16) M.fs) b 0 (Tree.mk v [] false [] [] :: xs):=by
      refine ⟨fun _=>?_,y3⟩
      simp only [HTy,HPrim]
      rw [if_neg (by decide)]
      exact ⟨_,y2,rfl⟩
    have hcat:=cAT w4 b v (Tree.mk v [] false [] [] :: xs) [] y1 y2 hv0 hH rfl (by rw [hw];exact (hfit v xs r hp).2)
    rw [hw] at hcat
    refine ops_call oAT hcat (by simp (disch:=(try simp only [sPu]);omega)) ?_
    rintro e w5 ⟨dv5,rfl,ho5,hb5⟩
    refine ⟨_,rfl,?_⟩
    repeat (apply ops_1;(focus (simp (disch:=(try simp only [sPu]);omega) ;try rfl)))
    refine oNi (SC.wp_ret ?_)
    try simp only [Exit.then]
    exact bodyPost_ret_by (v:=.tuple #[dv5,.bool true]) (res2 hr (by simp (disch:=(try simp only [sPu]);omega)) (by simp (disch:=(try simp only [sPu]);omega))) (by simp [dPu,hd]) ⟨hb4'.trans ⟨hb5.os,hb5.tape,hb5.output,hb5.size,fun k hk=>hb5.block k (by omega)⟩,dv5,rfl,own_base ho5 (by omega)⟩
end
end Go.Proofs.YtgaplicnofhliaaDoor.K
namespace Go.Proofs.YtgaplicnofhliaaDoor.K
open Go Go.RowKit Go.Proofs.YtgaplicnofhliaaDoor.T
set_option linter.unusedVariables false
set_option linter.unusedSimpArgs false
set_option maxHeartbeats 2000000
theorem ins_same {t:Nat × Bytes}:∀ {acc:List (Nat × Bytes)} {p:Nat} {x:Nat × Bytes},(∀ i x,i < p→acc[i]?=some x→x.1 < t.1)→acc[p]?=some x→x.1=t.1→insTag t acc=acc
  | [],p,x,_,h,_=>by simp at h
  | y :: r,0,x,_,h,e=>by
    simp at h
    subst h
    simp only [insTag]
    rw [if_neg (by omega),if_pos e]
  | y :: r,p+1,x,h1,h,e=>by
    have hy:=h1 0 y (by omega) rfl
    simp only [insTag]
    rw [if_pos hy,ins_same (acc:=r) (p:=p) (x:=x) (fun i z hi hz=>h1 (i+1) z (by omega) (by simpa using hz)) (by simpa using h) e]
theorem ins_new {t:Nat × Bytes}:∀ {acc:List (Nat × Bytes)} {p:Nat},p≤acc.length→(∀ i x,i < p→acc[i]?=some x→x.1 < t.1)→(∀ x,acc[p]?=some x→t.1 < x.1)→insTag t acc=acc.take p ++ t :: acc.drop p
  | [],p,hp,_,_=>by
    obtain rfl:p=0:=by simpa using hp
    rfl
  | y :: r,0,_,_,h2=>by
    have:=h2 y rfl
    simp only [insTag]
    rw [if_neg (by omega),if_neg (by omega)]
    rfl
  | y :: r,p+1,hp,h1,h2=>by
    have hy:=h1 0 y (by omega) rfl
    simp only [insTag]
    rw [if_pos hy,ins_new (acc:=r) (p:=p) (by simpa using hp) (fun i z hi hz=>h1 (i+1) z (by omega) (by simpa using hz)) (fun x hx=>h2 x (by simpa using hx))]
    rfl
def cells2 (rows:List (Value × Value)):List Value:=rows.flatMap fun r=>[r.1,r.2]
theorem cells2_length (rows:List (Value × Value)):(cells2 rows).length=rows.length * 2:=by
  induction rows with
  | nil=>rfl
  | cons r l ih=>simp only [cells2,List.flatMap_cons,List.length_append,List.length_cons,List.length_nil] at ih ⊢;omega
theorem cells2_get:∀ (rows:List (Value × Value)) (j:Nat),(cells2 rows)[j]?=(rows[j / 2]?).map fun r=>if j % 2=0 then r.1 else r.2
  | [],j=>by simp [cells2]
  | r :: l,0=>by simp [cells2]
  | r :: l,1=>by simp [cells2]
  | r :: l,j+2=>by
    have ih:=cells2_get l j
    have:(cells2 (r :: l))[j+2]?=(cells2 l)[j]?:=by simp [cells2]
    rw [this,ih,show (j+2) / 2=j / 2+1 by omega,show (j+2) % 2=j % 2 by omega]
    simp
theorem cells2_append (a b:List (Value × Value)):cells2 (a ++ b)=cells2 a ++ cells2 b:=by simp [cells2]
def Out2 (w:World) (B T:Nat) (v:Value) (rows:List (Value × Value)):Prop:=w.ownsRow B T 2 v rows.length (cells2 rows)
theorem Out2.nil (w:World) (B T:Nat):Out2 w B T (.slice none 0 0) []:=World.ownsRow_nil _ _ _ _
theorem Out2.at {w:World} {B T:Nat} {v:Value} {rows:List (Value × Value)} (h:Out2 w B T v rows):∃ base cap,v=.slice base rows.length cap∧rows.length≤cap ∧
    (rows=[]∨∃ g cur,base=some ⟨g,0,none⟩∧B≤g∧w.heap[g]?=some (.cells cur T (0,0))∧cur.size=cap * 2∧cur.toList.take (rows.length * 2)=cells2 rows):=by
  obtain ⟨h1,⟨rfl,h2⟩ | ⟨g,cap,cur,rfl,e2,e3,e4,e5,e6,e7⟩⟩:=h
  · refine ⟨none,0,by rw [h2],by omega,.inl (List.length_eq_zero_iff.1 h2)⟩
  · exact ⟨_,cap,rfl,e4,.inr ⟨g,cur,rfl,e2,e3,e6,e7⟩⟩
theorem Out2.read {w:World} {B T:Nat} {v:Value} {rows:List (Value × Value)} (h:Out2 w B T v rows) {k:Nat} {r:Value × Value} (hk:rows[k]?=some r):∃ g cap,v=.slice (some ⟨g,0,none⟩) rows.length cap∧B≤g∧w.cell? ⟨g,k * 2,none⟩=some r.1∧rangeV w g (k * 2) 2=some [r.1,r.2]:=by
  obtain ⟨base,cap,rfl,hc,h | ⟨g,cur,rfl,e2,e3,e4,e5⟩⟩:=h.at
  · subst h
    simp at hk
  · have hkl:k < rows.length:=(List.getElem?_eq_some_iff.1 hk).1
    have hget:∀ j,j < rows.length * 2→w.cell? ⟨g,j,none⟩=(cells2 rows)[j]?:=fun j hj=>by
      rw [cell_of_row _ _ _ _ _ _ e3,← e5,List.getElem?_take,if_pos hj,Array.getElem?_toList]
    have c1:w.cell? ⟨g,k * 2,none⟩=some r.1:=by
      rw [hget _ (by omega),cells2_get,show k * 2 / 2=k by omega,hk]
      simp
    have c2:w.cell? ⟨g,k * 2+1,none⟩=some r.2:=by
      rw [hget _ (by omega),cells2_get,show (k * 2+1) / 2=k by omega,hk]
      simp [show (k * 2+1) % 2=1 by omega]
    refine ⟨g,cap,rfl,e2,c1,?_⟩
    have:=rangeV_of (w:=w) (b:=g) [r.1,r.2] (k * 2) (fun j v hj=>by
      match j,hj with
      | 0,hj=>simp at hj;subst hj;simpa using c1
      | 1,hj=>simp at hj;subst hj;exact c2)
    exact this
section
variable {P:Program} {a:Act} {w:World} {K:Act→World→Prop} {d:Option Tmp} {g:Option (Nat × Bool)}
theorem opw_store2 {T E B k g0 cap:Nat} {x y:Operand} {rows:List (Value × Value)} {r:Value × Value} (hT:aggB P T 2=true) (ho:Out2 w B E (.slice (some ⟨g0,0,none⟩) rows.length cap) rows) (hk:k < rows.length) (hx:a.eval x=.pointer (some ⟨g0,k * 2,none⟩)) (hy:a.eval y=.agg #[r.1,r.2])
    (h1:r.1.oneCell'=true) (h2:r.2.oneCell'=true) (h:∀ w',Out2 w' B E (.slice (some ⟨g0,0,none⟩) rows.length cap) (rows.set k r)→w'.heap.size=w.heap.size→(∀ b,b ≠ g0→w'.heap[b]?=w.heap[b]?)→Below B w w'→K (a.put d undef) w'):opw P ⟨d,.store T x y,g⟩ a w K:=by
  obtain ⟨i,hi,hs,_⟩:=agg_of (w:=w) hT
  obtain ⟨q1,⟨q2,-⟩ | ⟨g',cap',cur,e1,e2,e3,e4,e5,e6,e7⟩⟩:=ho
  · cases q2
  cases e1
  have hst:=run_storeCells_at P g0 (k * 2) E [r.1,r.2] 0 cur w e3 (by simp;omega) (by intro v hv;simp at hv;rcases hv with rfl | rfl <;> assumption)
  simp only [Nat.add_zero] at hst
  refine opw_skip (w':=w.setRow g0 (cur.toList.take (k * 2) ++ [r.1,r.2] ++ cur.toList.drop (k * 2+2)).toArray) (by simp) (fun p hp=>?_) (h _ ?_ (by simp) (fun b hb=>setRow_other _ _ _ _ hb) ⟨rfl,rfl,rfl,by simp,fun b hb=>setRow_other _ _ _ _ (by omega)⟩)
  · simp only [execOp,hp,hx,hy,Instr.storeAt,Instr.sureAddr,storeVar,sizeOf,typeInfo,hi,hs,Value.cells]
    simp only [List.length_cons,List.length_nil] at hst
    simp [hst,hi,hs]
  · unfold Out2 World.ownsRow
    rw [List.length_set,cells2_length,List.length_set]
    have hcl:cur.toList.length=cap * 2:=by simpa using e6
    refine ⟨rfl,.inr ⟨g0,cap,_,rfl,e2,setRow_heap _ _ _ _ _ _ e3,e4,e5,by simp [hcl];omega,?_⟩⟩
    apply List.ext_getElem?
    intro j
    rw [cells2_get]
    simp only [List.toList_toArray]
    have hold:∀ j,j < rows.length * 2→cur.toList[j]?=(rows[j / 2]?).map fun r=>if j % 2=0 then r.1 else r.2:=fun j hj=>by
      rw [← cells2_get,← e7,List.getElem?_take,if_pos hj]
    by_cases hj:j < rows.length * 2
    · rw [List.getElem?_take,if_pos hj]
      by_cases hjk:j / 2=k
      · rw [hjk,List.getElem?_set_self hk]
        rw [List.append_assoc,List.getElem?_append_right (by simp;omega)]
        rw [List.getElem?_append_left (by simp;omega)]
        simp only [List.length_take,hcl,Nat.min_eq_left (show k * 2≤cap * 2 by omega)]
        rcases Nat.mod_two_eq_zero_or_one j with h0 | h0
        · rw [show j - k * 2=0 by omega,h0];rfl
        · rw [show j - k * 2=1 by omega,h0];rfl
      · rw [List.getElem?_set_ne (Ne.symm hjk),← hold j hj]
        rcases Nat.lt_or_ge j (k * 2) with hlt | hge
        · rw [List.append_assoc,List.getElem?_append_left (by simp;omega),List.getElem?_take,if_pos hlt]
        · rw [List.getElem?_append_right (by simp;omega),List.getElem?_drop]
          congr 1
          simp only [List.length_append,List.length_take,hcl,List.length_cons,List.length_nil,Nat.min_eq_left (show k * 2≤cap * 2 by omega)]
          omega
    · rw [List.getElem?_take,if_neg hj,List.getElem?_eq_none (by rw [List.length_set];omega)]
      rfl
end
end Go.Proofs.YtgaplicnofhliaaDoor.K
namespace Go.Proofs.YtgaplicnofhliaaDoor.K
open Go Go.RowKit Go.Proofs.YtgaplicnofhliaaDoor.T
set_option linter.unusedVariables false
set_option linter.unusedSimpArgs false
set_option maxHeartbeats 4000000
def zTag:List Value:=[.int .u32 0,.slice none 0 0]
def tagTB (P:Program) (X:STy):Bool:=aggB P X.Tg 2 && (match P.underlying X.Tgs with | some (.slice e)=>e == X.Tg | _=>false) &&
  (match P.info? X.Tg,P.underlying X.Tg with
  | some it,some (.struct _)=>(match it.zero with | some z=>(match z.cells.toList with | [.int .u32 0,.slice none 0 0]=>true | _=>false) | none=>false) && it.size == 2 && decide (it.bytes≤1000)
  | _,_=>false)
structure TagT (P:Program) (X:STy):Prop where
  agg:aggB P X.Tg 2=true
  row:P.underlying X.Tgs=some (.slice X.Tg)
  info:∃ i z,P.info? X.Tg=some i∧i.zero=some z∧z.cells=#[.int .u32 0,.slice none 0 0]∧i.size=2∧i.bytes≤1000
  built:P.built X.Tg []=some #[.int .u32 0,.slice none 0 0]
section
variable {P:Program} {X:STy} {f fKn:FuncId} {fn:Func}
theorem opw_build2 (hT:TagT P X) {a:Act} {w:World} {K:Act→World→Prop} {d:Option Tmp} {g:Option (Nat × Bool)} {x:Operand} {r:Value × Value} (hx:a.eval x=.agg #[r.1,r.2]) (h1:r.1.oneCell'=true) (h2:r.2.oneCell'=true)
    (h:K (a.put d (.slice (some ⟨w.heap.size,0,none⟩) 1 1)) (w.alloc (.cells #[r.1,r.2] X.Tg))):opw P ⟨d,.buildSlice X.Tgs 1 #[(0,x)],g⟩ a w K:=by
  obtain ⟨i,z,hi,hz,hzc,hsz,_⟩:=hT.info
  refine oVa (v:=.slice (some ⟨w.heap.size,0,none⟩) 1 1) (w':=w.alloc (.cells #[r.1,r.2] X.Tg)) (by simp) (fun p hp=>?_) h
  have hr:=run_buildSlice (P:=P) w X.Tgs X.Tg 1 #[(0,.agg #[r.1,r.2])] #[r.1,r.2] i z hT.row hi hz (by rw [hsz];decide) (by rw [hsz];decide) (by
    rw [hsz]
    have hz5:∀ (zf:Nat→Value),(Array.range (1 * 2)).map zf=#[zf 0,zf 1]:=fun zf=>Array.ext' (by simp [Array.toList_map,Array.toList_range,List.range,List.range.loop])
    rw [hz5]
    simp [Instr.fill,Value.cells])
  simp only [execOp,hp]
  simp [hx,hr]
theorem opw_append2 (hT:TagT P X) {a:Act} {w:World} {K:Act→World→Prop} {d:Option Tmp} {g:Option (Nat × Bool)} {x y:Operand} {B:Nat} {lv:Value} {rows:List (Value × Value)} {r:Value × Value} {ad:Addr} {ts:Array TypeId} (hts:ts=#[X.Tgs,X.Tgs]) (hx:a.eval x=lv) (hy:a.eval y=.slice (some ad) 1 1) (ho:Out2 w B X.Tg lv rows) (hB:B≤w.heap.size) (hj:rows.length < 4294967296)
    (hrc:∀ i v,[r.1,r.2][i]?=some v→w.cell? (ad.add i)=some v) (h1:r.1.oneCell'=true) (h2:r.2.oneCell'=true)
    (h:∀ lv' w',Out2 w' B X.Tg lv' (rows ++ [r])→w.grownBy w' lv.ownBlock→(lv'.ownBlock=lv.ownBlock∨∃ b,lv'.ownBlock=some b∧w.heap.size≤b)→K (a.put d lv') w'):opw P ⟨d,.call ⟨.builtin .append,#[x,y],ts⟩,g⟩ a w K:=by
  subst hts
  obtain ⟨i,z,hi,hz,hzc,hsz,hby⟩:=hT.info
  have hb:(rows.length+1) * i.bytes≤140737488355328:=Nat.le_trans (Nat.mul_le_mul (show rows.length+1≤4294967296 by omega) hby) (by decide)
  refine opw_of fun o next Q hd hop hn=>?_
  obtain ⟨v',w',hr,h2,h3,h4⟩:=run_append_src2 (P:=P) w B X.Tgs X.Tgs o.type X.Tg i z 2 i.bytes hT.row hi hz hsz rfl (by rw [hzc];rfl) (by decide) lv rows.length (cells2 rows) ho (.slice (some ad) 1 1) 1 [r.1,r.2] (Src.ofSlice w hT.row ad 1 1 [r.1,r.2] rfl hrc (by intro v hv;simp at hv;rcases hv with rfl | rfl <;> assumption)) (by simp only [maxLen];omega) hb hB
  have hop':o.op=.call ⟨.builtin .append,#[x,y],#[X.Tgs,X.Tgs]⟩:=stripOp_eq (by simp) hop
  have hr':(execOp a.eval o).run P w=.ok (.value v') w':=by
    simp [execOp,hop',resolve,invoke,builtin,hx,hy,hr]
  rw [hr',Oper.upon_value,hd]
  refine hn _ _ (h v' w' ?_ h3 h4)
  unfold Out2
  rw [cells2_append,List.length_append]
  exact h2
def TRow (w0:World) (x:Nat × Bytes) (r:Value × Value):Prop:=r.1=.int .u32 (x.1:Int)∧x.1 < 4294967296∧∃ vb vc,r.2=.slice vb x.2.length vc∧BytesAt w0 (· < w0.heap.size) vb x.2∧x.2.length≤vc
def TRows (w0:World) (acc:List (Nat × Bytes)) (rows:List (Value × Value)):Prop:=acc.length=rows.length∧∀ (i:Nat) (x:Nat × Bytes) (r:Value × Value),acc[i]?=some x→rows[i]?=some r→TRow w0 x r
theorem TRows.ins {w0:World} {acc:List (Nat × Bytes)} {rows:List (Value × Value)} {x:Nat × Bytes} {r:Value × Value} (h:TRows w0 acc rows) (hr:TRow w0 x r) {p:Nat} (hp:p≤acc.length):TRows w0 (acc.take p ++ x :: acc.drop p) (rows.take p ++ r :: rows.drop p):=by
  have hl:=h.1
  refine ⟨by simp;omega,fun i y s hy hs=>?_⟩
  rcases Nat.lt_trichotomy i p with hi | hi | hi
  · rw [List.getElem?_append_left (by simp;omega),List.getElem?_take,if_pos hi] at hy hs
    exact h.2 i y s hy hs
  · subst hi
    rw [List.getElem?_append_right (by simp;omega),show i - (acc.take i).length=0 by simp;omega] at hy
    rw [List.getElem?_append_right (by simp;omega),show i - (rows.take i).length=0 by simp;omega] at hs
    simp at hy hs
    subst hy
    subst hs
    exact hr
  · rw [List.getElem?_append_right (by simp;omega),show i - (acc.take p).length=(i - 1 - p)+1 by simp;omega,List.getElem?_cons_succ,List.getElem?_drop,show p+(i - 1 - p)=i - 1 by omega] at hy
    rw [List.getElem?_append_right (by simp;omega),show i - (rows.take p).length=(i - 1 - p)+1 by simp;omega,List.getElem?_cons_succ,List.getElem?_drop,show p+(i - 1 - p)=i - 1 by omega] at hs
    exact h.2 (i - 1) y s hy hs
theorem last_set {rows:List (Value × Value)} {k:Nat} {z r:Value × Value} (hk:k≤rows.length):(rows.take k ++ z :: rows.drop k).set k r=rows.take k ++ r :: rows.drop k:=by
  rw [List.set_append_right _ _ (by simp;omega),show k - (rows.take k).length=0 by simp;omega,List.set_cons_zero]
theorem shift_set {rows:List (Value × Value)} {k:Nat} {z:Value × Value} (hk:k < rows.length):(rows.take (k+1) ++ z :: rows.drop (k+1)).set (k+1) rows[k]=rows.take k ++ rows[k] :: rows.drop k:=by
  have h1:rows.take (k+1)=rows.take k ++ [rows[k]]:=by rw [List.take_add_one,List.getElem?_eq_getElem hk];rfl
  have h2:rows.drop k=rows[k] :: rows.drop (k+1):=List.drop_eq_getElem_cons hk
  rw [last_set (by omega),h1,List.append_assoc]
  rw [h2]
  rfl
theorem hole_get {rows:List (Value × Value)} {k:Nat} {z:Value × Value} (hk:k < rows.length):(rows.take (k+1) ++ z :: rows.drop (k+1))[k]?=some rows[k]:=by
  rw [List.getElem?_append_left (by simp;omega),List.getElem?_take,if_pos (by omega),List.getElem?_eq_getElem hk]
end
end Go.Proofs.YtgaplicnofhliaaDoor.K
namespace Go.Proofs.YtgaplicnofhliaaDoor.K
open Go Go.RowKit Go.Proofs.YtgaplicnofhliaaDoor.T
attribute [local simp] eTm eCo pNo gTp gTn qv qcall vop iop
set_option linter.unusedVariables false
set_option linter.unusedSimpArgs false
set_option maxHeartbeats 4000000
def sc_ubody (T0 T1 T2 T3:Nat):SC:=.seq (.reg [⟨some 21,.indexAddr T0 (.tmp 17) (.tmp 19),none⟩,ld 22 T2 21,⟨some 8,.alloc T2,none⟩,⟨none,.store T2 (.tmp 8) (.tmp 22),none⟩]) (.seq (.reg [⟨some 9,.assign (.const (.int .i64 0)),none⟩]) (.seq (.block 2 (.loop (.seq (.seq (.dreg [mv 23 9,mv 24 6,lenOp 25 T0 24,⟨some 26,.binOp .lss T1 (.tmp 23) (.tmp 25) T1,none⟩,mv 27 26,⟨some 28,.move (.tmp 6),some (4,true)⟩,⟨some 29,.move (.tmp 9),some (4,true)⟩,⟨some 30,.indexAddr T0 (.tmp 28) (.tmp 29),some (4,true)⟩,⟨some 31,.fieldAddr T2 (.tmp 30) 0,some (4,true)⟩,⟨some 32,.load T3 (.tmp 31),some (4,true)⟩,⟨some 33,.fieldAddr T2 (.tmp 8) 0,some (4,true)⟩,⟨some 34,.load T3 (.tmp 33),some (4,true)⟩,⟨some 35,.binOp .lss T3 (.tmp 32) (.tmp 34) T3,some (4,true)⟩,⟨some 36,.pick (.tmp 27) (.tmp 35) (.const (.bool false)),none⟩] [[],[],[1],[0,2],[3],[4],[4],[5,6,4],[7,4],[8,4],[4],[10,4],[9,11,4],[4,12]]) (.cond (.tmp 36) (.skip) (.exit 2))) (.block 3 (.reg [mv 37 9,⟨some 38,.binOp .add T1 (.tmp 37) (.const (.int .i64 1)) T1,none⟩,asg 9 38]))))) (.seq (.seq (.dreg [fa 39 T2 8 0,ld 40 T3 39,mv 41 5,⟨some 42,.binOp .lss T3 (.tmp 40) (.tmp 41) T3,none⟩,mv 43 42,⟨some 44,.move (.tmp 9),some (4,false)⟩,⟨some 45,.move (.tmp 6),some (4,false)⟩,⟨some 46,.call ⟨.builtin .len,#[(.tmp 45)],#[T0]⟩,some (4,false)⟩,⟨some 47,.binOp .lss T1 (.tmp 44) (.tmp 46) T1,some (4,false)⟩,⟨some 48,.move (.tmp 47),some (4,false)⟩,⟨some 49,.move (.tmp 6),some (9,true)⟩,⟨some 50,.move (.tmp 9),some (9,true)⟩,⟨some 51,.indexAddr T0 (.tmp 49) (.tmp 50),some (9,true)⟩,⟨some 52,.fieldAddr T2 (.tmp 51) 0,some (9,true)⟩,⟨some 53,.load T3 (.tmp 52),some (9,true)⟩,⟨some 54,.fieldAddr T2 (.tmp 8) 0,some (9,true)⟩,⟨some 55,.load T3 (.tmp 54),some (9,true)⟩,⟨some 56,.binOp .eql T3 (.tmp 53) (.tmp 55) T3,some (9,true)⟩,⟨some 57,.pick (.tmp 48) (.tmp 56) (.const (.bool false)),some (4,false)⟩,⟨some 58,.pick (.tmp 43) (.const (.bool true)) (.tmp 57),none⟩] [[],[0],[],[1,2],[3],[4],[4],[6,4],[5,7,4],[8,4,4],[9],[9],[10,11,9],[12,9],[13,9],[9],[15,9],[14,16,9],[9,17,4],[4,18]]) (.cond (.tmp 58) (.exit 1) (.skip))) (.seq (.reg [mv 59 6,⟨some 60,.build T2 #[],none⟩,⟨some 61,.buildSlice T0 1 #[(0,(.tmp 60))],none⟩,⟨some 62,.call ⟨.builtin .append,#[(.tmp 59),(.tmp 61)],#[T0,T0]⟩,none⟩,asg 6 62]) (.seq (.seq (.reg [mv 63 6,lenOp 64 T0 63,⟨some 65,.binOp .sub T1 (.tmp 64) (.const (.int .i64 1)) T1,none⟩,asg 10 65]) (.block 4 (.loop (.seq (.seq (.reg [mv 66 10,mv 67 9,⟨some 68,.binOp .gtr T1 (.tmp 66) (.tmp 67) T1,none⟩]) (.cond (.tmp 68) (.skip) (.exit 4))) (.seq (.block 5 (.reg [mv 71 6,mv 72 10,mv 73 6,mv 74 10,⟨some 75,.binOp .sub T1 (.tmp 74) (.const (.int .i64 1)) T1,none⟩,⟨some 76,.indexAddr T0 (.tmp 73) (.tmp 75),none⟩,ld 77 T2 76,⟨some 78,.indexAddr T0 (.tmp 71) (.tmp 72),none⟩,⟨none,.store T2 (.tmp 78) (.tmp 77),none⟩])) (.reg [mv 69 10,⟨some 70,.binOp .sub T1 (.tmp 69) (.const (.int .i64 1)) T1,none⟩,asg 10 70])))))) (.reg [mv 79 6,mv 80 9,ld 81 T2 8,⟨some 82,.indexAddr T0 (.tmp 79) (.tmp 80),none⟩,⟨none,.store T2 (.tmp 82) (.tmp 81),none⟩]))))))
def sc_utail (T0 T1 T2 T3:Nat):SC:=.seq (.seq (.dreg [fa 39 T2 8 0,ld 40 T3 39,mv 41 5,⟨some 42,.binOp .lss T3 (.tmp 40) (.tmp 41) T3,none⟩,mv 43 42,⟨some 44,.move (.tmp 9),some (4,false)⟩,⟨some 45,.move (.tmp 6),some (4,false)⟩,⟨some 46,.call ⟨.builtin .len,#[(.tmp 45)],#[T0]⟩,some (4,false)⟩,⟨some 47,.binOp .lss T1 (.tmp 44) (.tmp 46) T1,some (4,false)⟩,⟨some 48,.move (.tmp 47),some (4,false)⟩,⟨some 49,.move (.tmp 6),some (9,true)⟩,⟨some 50,.move (.tmp 9),some (9,true)⟩,⟨some 51,.indexAddr T0 (.tmp 49) (.tmp 50),some (9,true)⟩,⟨some 52,.fieldAddr T2 (.tmp 51) 0,some (9,true)⟩,⟨some 53,.load T3 (.tmp 52),some (9,true)⟩,⟨some 54,.fieldAddr T2 (.tmp 8) 0,some (9,true)⟩,⟨some 55,.load T3 (.tmp 54),some (9,true)⟩,⟨some 56,.binOp .eql T3 (.tmp 53) (.tmp 55) T3,some (9,true)⟩,⟨some 57,.pick (.tmp 48) (.tmp 56) (.const (.bool false)),some (4,false)⟩,⟨some 58,.pick (.tmp 43) (.const (.bool true)) (.tmp 57),none⟩] [[],[0],[],[1,2],[3],[4],[4],[6,4],[5,7,4],[8,4,4],[9],[9],[10,11,9],[12,9],[13,9],[9],[15,9],[14,16,9],[9,17,4],[4,18]]) (.cond (.tmp 58) (.exit 1) (.skip))) (.seq (.reg [mv 59 6,⟨some 60,.build T2 #[],none⟩,⟨some 61,.buildSlice T0 1 #[(0,(.tmp 60))],none⟩,⟨some 62,.call ⟨.builtin .append,#[(.tmp 59),(.tmp 61)],#[T0,T0]⟩,none⟩,asg 6 62]) (.seq (.seq (.reg [mv 63 6,lenOp 64 T0 63,⟨some 65,.binOp .sub T1 (.tmp 64) (.const (.int .i64 1)) T1,none⟩,asg 10 65]) (.block 4 (.loop (.seq (.seq (.reg [mv 66 10,mv 67 9,⟨some 68,.binOp .gtr T1 (.tmp 66) (.tmp 67) T1,none⟩]) (.cond (.tmp 68) (.skip) (.exit 4))) (.seq (.block 5 (.reg [mv 71 6,mv 72 10,mv 73 6,mv 74 10,⟨some 75,.binOp .sub T1 (.tmp 74) (.const (.int .i64 1)) T1,none⟩,⟨some 76,.indexAddr T0 (.tmp 73) (.tmp 75),none⟩,ld 77 T2 76,⟨some 78,.indexAddr T0 (.tmp 71) (.tmp 72),none⟩,⟨none,.store T2 (.tmp 78) (.tmp 77),none⟩])) (.reg [mv 69 10,⟨some 70,.binOp .sub T1 (.tmp 69) (.const (.int .i64 1)) T1,none⟩,asg 10 70])))))) (.reg [mv 79 6,mv 80 9,ld 81 T2 8,⟨some 82,.indexAddr T0 (.tmp 79) (.tmp 80),none⟩,⟨none,.store T2 (.tmp 82) (.tmp 81),none⟩])))
def sc_urest (T0 T1 T2 T3:Nat):SC:=.seq (.reg [mv 59 6,⟨some 60,.build T2 #[],none⟩,⟨some 61,.buildSlice T0 1 #[(0,(.tmp 60))],none⟩,⟨some 62,.call ⟨.builtin .append,#[(.tmp 59),(.tmp 61)],#[T0,T0]⟩,none⟩,asg 6 62]) (.seq (.seq (.reg [mv 63 6,lenOp 64 T0 63,⟨some 65,.binOp .sub T1 (.tmp 64) (.const (.int .i64 1)) T1,none⟩,asg 10 65]) (.block 4 (.loop (.seq (.seq (.reg [mv 66 10,mv 67 9,⟨some 68,.binOp .gtr T1 (.tmp 66) (.tmp 67) T1,none⟩]) (.cond (.tmp 68) (.skip) (.exit 4))) (.seq (.block 5 (.reg [mv 71 6,mv 72 10,mv 73 6,mv 74 10,⟨some 75,.binOp .sub T1 (.tmp 74) (.const (.int .i64 1)) T1,none⟩,⟨some 76,.indexAddr T0 (.tmp 73) (.tmp 75),none⟩,ld 77 T2 76,⟨some 78,.indexAddr T0 (.tmp 71) (.tmp 72),none⟩,⟨none,.store T2 (.tmp 78) (.tmp 77),none⟩])) (.reg [mv 69 10,⟨some 70,.binOp .sub T1 (.tmp 69) (.const (.int .i64 1)) T1,none⟩,asg 10 70])))))) (.reg [mv 79 6,mv 80 9,ld 81 T2 8,⟨some 82,.indexAddr T0 (.tmp 79) (.tmp 80),none⟩,⟨none,.store T2 (.tmp 82) (.tmp 81),none⟩]))
section
variable {P:Program} {X:STy} {f fKn:FuncId} {fn:Func}
theorem w64q {n:Int} (h1:-9223372036854775808≤n) (h2:n < 9223372036854775808):IntKind.i64.wrap n=n:=by
  simp only [IntKind.wrap,IntKind.bits,IntKind.signed]
  simp
  split <;> omega
structure UL (X:STy) (ub:Option Addr) (uc:Nat) (l:List (Nat × Bytes)) (w:World) (i:Nat) (acc:List (Nat × Bytes)) (rows:List (Value × Value)) (v:Value) (a:Act) (w':World):Prop where
  size:a.tmps.size=85
  defers:a.defers=[]
  s5:getT a 5=.int .u32 0
  s6:getT a 6=v
  s17:getT a 17=.slice ub l.length uc
  s18:getT a 18=.int .i64 (l.length:Int)
  s19:getT a 19=.int .i64 (i:Int)
  rws:TRows w acc rows
  out:Out2 w' w.heap.size X.Tg v rows
  below:Below w.heap.size w w'
theorem Out2.frame {w w':World} {B T:Nat} {v:Value} {rows:List (Value × Value)} (h:Out2 w B T v rows) (hb:∀ k,B≤k→k < w.heap.size→w'.heap[k]?=w.heap[k]?):Out2 w' B T v rows:=by
  refine ⟨h.1,h.2.imp id ?_⟩
  rintro ⟨g,cap,cur,q1,q2,q3,q4⟩
  exact ⟨g,cap,cur,q1,q2,by rw [hb g q2 (Array.getElem?_eq_some_iff.1 q3).1];exact q3,q4⟩
structure UT (X:STy) (bb:Option Addr) (uc:Nat) (l:List (Nat × Bytes)) (w:World) (i tb q:Nat) (x:Nat × Bytes) (r:Value × Value) (acc:List (Nat × Bytes)) (rows:List (Value × Value)) (v:Value) (a:Act) (w':World):Prop where
  size:a.tmps.size=85
  defers:a.defers=[]
  s5:getT a 5=.int .u32 0
  s6:getT a 6=v
  s8:getT a 8=.pointer (some ⟨tb,0,none⟩)
  s9:getT a 9=.int .i64 (q:Int)
  s17:getT a 17=.slice bb l.length uc
  s18:getT a 18=.int .i64 (l.length:Int)
  s19:getT a 19=.int .i64 (i:Int)
  hq:q≤acc.length
  less:∀ j y,j < q→acc[j]?=some y→y.1 < x.1
  ge:∀ y,acc[q]?=some y→¬ y.1 < x.1
  tbw:w.heap.size≤tb
  row:w'.heap[tb]?=some (.cells #[r.1,r.2] X.Tg (0,0))
  hr:TRow w x r
  rws:TRows w acc rows
  out:Out2 w' w.heap.size X.Tg v rows
  tbv:v.ownBlock ≠ some tb
  below:Below w.heap.size w w'
theorem unk_tail (hX:stOK P X=true) (hm:P.follows .mixedOrders=true) (hT:TagT P X) {ub:Option Addr} {uc i tb q:Nat} {l:List (Nat × Bytes)} {w w5:World} {acc:List (Nat × Bytes)} {rows:List (Value × Value)} {v:Value} {a:Act} {Q:Exit→Act→World→Prop} {x:Nat × Bytes} {r:Value × Value}
    (h:UT X ub uc l w i tb q x r acc rows v a w5) (hacc:acc.length≤32767)
    (hsame:∀ a' w',UL X ub uc l w i (insTag x acc) rows v a' w'→Q (.exit 1) a' w') (hnew:∀ a' w' rows' v',UL X ub uc l w i (insTag x acc) rows' v' a' w'→Q .normal a' w'):(sc_utail X.Tgs X.I X.Tg X.U32).wp P Q a w5:=by
  have hst:=st_facts hX
  obtain ⟨p,pd,p5,p6,p8,p9,p17,p18,p19,hq,hless,hge,htbw,hrow,hxr,hrows,hout,htbv,hbel⟩:=h
  have hlr:=hrows.1
  have htb:tb < w5.heap.size:=(Array.getElem?_eq_some_iff.1 hrow).1
  have hkey:w5.drew.cell? ⟨tb,0,none⟩=some (.int .u32 (x.1:Int)):=by
    have:w5.cell? ⟨tb,0,none⟩=some (.int .u32 (x.1:Int)):=by rw [cell_of_row _ _ _ _ _ _ hrow,← hxr.1];rfl
    exact this
  have hx0:decide ((x.1:Int) < 0)=false:=decide_eq_false (by omega)
  have hx00:¬ ((x.1:Int) < 0):=by omega
  obtain ⟨vbase,vcap,hv,hvc',hv2⟩:=hout.at
  have hout':Out2 w5.drew w.heap.size X.Tg v rows:=hout
  have go:∀ a:Act,a.tmps.size=85∧a.defers=[]∧getT a 5=.int .u32 0∧getT a 6=v∧getT a 8=.pointer (some ⟨tb,0,none⟩)∧getT a 9=.int .i64 (q:Int)∧getT a 17=.slice ub l.length uc∧getT a 18=.int .i64 (l.length:Int)∧getT a 19=.int .i64 (i:Int)→(∀ y,acc[q]?=some y→x.1 < y.1)→(sc_urest X.Tgs X.I X.Tg X.U32).wp P Q a w5.drew:=by
    clear p pd p5 p6 p8 p9 p17 p18 p19
    rintro a ⟨p,pd,p5,p6,p8,p9,p17,p18,p19⟩ hgt
    refine SC.wp_seq (SC.wp_reg ?_)
    iterate 1 (first | (apply ops_1;(focus (simp (disch:=(try simp only [sPu]);omega) [p6];try rfl))) | (apply ops_y;(focus rfl);(focus ((try simp only [sPu]);omega));(focus (simp (disch:=(try simp only [sPu]);omega) [p6];done));(focus (simp (disch:=(try simp only [sPu]);omega) [p6];try rfl))) | (apply ops_n;(focus rfl);(focus ((try simp only [sPu]);omega));(focus (first | (left;simp (disch:=(try simp only [sPu]);omega) [p6];done) | (right;simp (disch:=(try simp only [sPu]);omega);done)))))
    refine oNo rfl (opw_build (cs:=#[.int .u32 0,.slice none 0 0]) (by simpa using hT.built) ?_)
    refine oNo rfl (opw_build2 (r:=(.int .u32 0,.slice none 0 0)) hT (by simp (disch:=(try simp only [sPu]);omega)) rfl rfl ?_)
    change opsw P _ _ _ _ (w5.drew.alloc (.cells #[.int .u32 0,.slice none 0 0] X.Tg))
    have hnb:=heap_alloc_new w5.drew (.cells #[.int .u32 0,.slice none 0 0] X.Tg)
    have hds:w5.drew.heap.size=w5.heap.size:=rfl
    have hws5:w.heap.size≤w5.heap.size:=hbel.size
    have hsz6:(w5.drew.alloc (.cells #[.int .u32 0,.slice none 0 0] X.Tg)).heap.size=w5.heap.size+1:=by simp
    have hoth6:∀ k,k < w5.heap.size→(w5.drew.alloc (.cells #[.int .u32 0,.slice none 0 0] X.Tg)).heap[k]?=w5.heap[k]?:=fun k hk=>Below.heap_alloc _ _ _ hk
    have hbel6:Below w.heap.size w (w5.drew.alloc (.cells #[.int .u32 0,.slice none 0 0] X.Tg)):=hbel.drew.alloc hbel.size _
    have hnb':∀ (i:Nat) (u:Value),[(Value.int .u32 0),.slice none 0 0][i]?=some u→(w5.drew.alloc (.cells #[.int .u32 0,.slice none 0 0] X.Tg)).cell? ((⟨w5.drew.heap.size,0,none⟩:Addr).add i)=some u:=fun i u hi=>by
      rw [add_none,cell_of_row _ _ _ _ _ _ hnb]
      simpa using hi
    have hout6:Out2 (w5.drew.alloc (.cells #[.int .u32 0,.slice none 0 0] X.Tg)) w.heap.size X.Tg v rows:=hout.frame fun k h1 h2=>hoth6 k h2
    refine oNo rfl (opw_append2 (B:=w.heap.size) (lv:=v) (rows:=rows) (r:=(.int .u32 0,.slice none 0 0)) (ad:=⟨w5.drew.heap.size,0,none⟩) hT rfl (by simp (disch:=(try simp only [sPu]);omega) [p6]) (by simp (disch:=(try simp only [sPu]);omega)) hout6 (by omega) (by omega) hnb' rfl rfl fun v7 w7 hout7 hgr7 hown7=>?_)
    have hrow7:w7.heap[tb]?=some (.cells #[r.1,r.2] X.Tg (0,0)):=by
      rw [hgr7.block tb (by omega) (fun e=>htbv e.symm),hoth6 tb htb]
      exact hrow
    have htb7:v7.ownBlock ≠ some tb:=by
      rcases hown7 with e | ⟨bb,e,hb⟩
      · rw [e];exact htbv
      · rw [e];intro e2;cases e2;omega
    have hbel7:Below w.heap.size w w7:=hbel6.trans ⟨hgr7.os,hgr7.tape,hgr7.output,hgr7.size,fun k hk=>hgr7.block k (by have:=hbel6.size;omega) (fun e=>by have:=(World.ownsRow.lt hout6 k e.symm).1;omega)⟩
    repeat (first | (apply ops_1;(focus (simp (disch:=(try simp only [sPu]);omega) ;try rfl))) | (apply ops_y;(focus rfl);(focus ((try simp only [sPu]);omega));(focus (simp (disch:=(try simp only [sPu]);omega);done));(focus (simp (disch:=(try simp only [sPu]);omega) ;try rfl))) | (apply ops_n;(focus rfl);(focus ((try simp only [sPu]);omega));(focus (first | (left;simp (disch:=(try simp only [sPu]);omega);done) | (right;simp (disch:=(try simp only [sPu]);omega);done)))))
    refine oNi (SC.wp_seq (SC.wp_seq (SC.wp_reg ?_)))
    obtain ⟨vb7,vc7,hv7,hvc7,hv72⟩:=hout7.at
    have hl7:(rows ++ [((.int .u32 0,.slice none 0 0):Value × Value)]).length=rows.length+1:=by simp
    rw [hl7] at hv7
    have hwl:IntKind.i64.wrap (rows.length:Int)=(rows.length:Int):=w64q (by omega) (by omega)
    have p6v:=hv7
    repeat (first | (apply ops_1;(focus (simp (disch:=(try simp only [sPu]);omega) [hst,hv7,hwl];try rfl))) | (apply ops_y;(focus rfl);(focus ((try simp only [sPu]);omega));(focus (simp (disch:=(try simp only [sPu]);omega) [hst,hv7,hwl];done));(focus (simp (disch:=(try simp only [sPu]);omega) [hst,hv7,hwl];try rfl))) | (apply ops_n;(focus rfl);(focus ((try simp only [sPu]);omega));(focus (first | (left;simp (disch:=(try simp only [sPu]);omega) [hst,hv7,hwl];done) | (right;simp (disch:=(try simp only [sPu]);omega);done)))))
    refine oNi ?_
    simp only [Exit.then]
    have hins:insTag x acc=acc.take q ++ x :: acc.drop q:=ins_new hq hless hgt
    refine SC.wp_block (SC.wp_loop (fun a' w'=>∃ (k:Nat) (z:Value × Value),a'.tmps.size=85∧a'.defers=[]∧getT a' 5=.int .u32 0∧getT a' 6=.slice vb7 (rows.length+1) vc7∧getT a' 8=.pointer (some ⟨tb,0,none⟩)∧getT a' 9=.int .i64 (q:Int)∧getT a' 10=.int .i64 (k:Int)∧getT a' 17=.slice ub l.length uc∧getT a' 18=.int .i64 (l.length:Int)∧getT a' 19=.int .i64 (i:Int)∧q≤k∧k≤rows.length ∧
        Out2 w' w.heap.size X.Tg (.slice vb7 (rows.length+1) vc7) (rows.take k ++ z :: rows.drop k)∧w'.heap[tb]?=some (.cells #[r.1,r.2] X.Tg (0,0))∧Below w.heap.size w w')
      (fun a' _=>match getT a' 10 with | .int _ m=>m.toNat | _=>0) ⟨rows.length,(.int .u32 0,.slice none 0 0),by simp [sPu,p],by simp [dPu,pd],by simp (disch:=(try simp only [sPu]);omega) [p5],by simp (disch:=(try simp only [sPu]);omega) [hv7],by simp (disch:=(try simp only [sPu]);omega) [p8],by simp (disch:=(try simp only [sPu]);omega) [p9],by simp (disch:=(try simp only [sPu]);omega),by simp (disch:=(try simp only [sPu]);omega) [p17],by simp (disch:=(try simp only [sPu]);omega) [p18],by simp (disch:=(try simp only [sPu]);omega) [p19],by omega,Nat.le_refl _,by rw [List.take_length,List.drop_length,← hv7];exact hout7,hrow7,hbel7⟩ ?_)
    clear p pd p5 p6 p8 p9 p17 p18 p19 a
    rintro a w8 ⟨k,z,p,pd,p5,p6,p8,p9,p10,p17,p18,p19,hqk,hkr,hout8,hrow8,hbel8⟩
    refine SC.wp_seq (SC.wp_seq (SC.wp_reg ?_))
    repeat (first | (apply ops_1;(focus (simp (disch:=(try simp only [sPu]);omega) [p9,p10];try rfl))) | (apply ops_y;(focus rfl);(focus ((try simp only [sPu]);omega));(focus (simp (disch:=(try simp only [sPu]);omega) [p9,p10];done));(focus (simp (disch:=(try simp only [sPu]);omega) [p9,p10];try rfl))) | (apply ops_n;(focus rfl);(focus ((try simp only [sPu]);omega));(focus (first | (left;simp (disch:=(try simp only [sPu]);omega) [p9,p10];done) | (right;simp (disch:=(try simp only [sPu]);omega);done)))))
    refine oNi (SC.wp_cond (t:=decide ((k:Int) > (q:Int))) (by simp (disch:=(try simp only [sPu]);omega)) ?_)
    have hlen8:(rows.take k ++ z :: rows.drop k).length=rows.length+1:=by simp;omega
    by_cases hkq:k=q
    · subst hkq
      rw [if_neg (by simp)]
      refine SC.wp_exit ?_
      simp only [Exit.then,Exit.inBlock,if_true]
      have hkl:k < (rows.take k ++ z :: rows.drop k).length:=by omega
      obtain ⟨g8,cap8,hv8,hg8,-,-⟩:=hout8.read (List.getElem?_eq_getElem hkl)
      rw [hv8,hlen8] at p6
      rw [hv8] at hout8
      have hki:(0:Int)≤(k:Int)∧(k:Int) < ((rows.length+1:Nat):Int):=by omega
      have hki2:(k:Int) < (rows.length:Int)+1:=by omega
      have hrow8r:rangeV w8 tb 0 2=some [r.1,r.2]:=by
        have hc:∀ i,w8.cell? ⟨tb,i,none⟩=#[r.1,r.2][i]?:=fun i=>cell_of_row _ _ _ _ _ _ hrow8
        simp [rangeV,hc]
      refine SC.wp_reg ?_
      iterate 4 (first | (apply ops_1;(focus (simp (disch:=(try simp only [sPu]);omega) [hst,p6,p8,p9,hki,hki2,hrow8r];try rfl))) | (apply ops_y;(focus rfl);(focus ((try simp only [sPu]);omega));(focus (simp (disch:=(try simp only [sPu]);omega) [hst,p6,p8,p9,hki,hki2,hrow8r];done));(focus (simp (disch:=(try simp only [sPu]);omega) [hst,p6,p8,p9,hki,hki2,hrow8r];try rfl))) | (apply ops_n;(focus rfl);(focus ((try simp only [sPu]);omega));(focus (first | (left;simp (disch:=(try simp only [sPu]);omega) [hst,p6,p8,p9,hki,hki2,hrow8r];done) | (right;simp (disch:=(try simp only [sPu]);omega);done)))))
      obtain ⟨hxr1,hxr2,xvb,xvc,hxr3,hxr4,hxr5⟩:=hxr
      refine oNo rfl (opw_store2 (B:=w.heap.size) (k:=k) (g0:=g8) (cap:=cap8) (r:=r) (rows:=rows.take k ++ z :: rows.drop k) hT.agg (by rw [hlen8] at hout8 ⊢;exact hout8) hkl (by simp (disch:=(try simp only [sPu]);omega)) (by simp (disch:=(try simp only [sPu]);omega)) (by rw [hxr1];rfl) (by rw [hxr3];rfl) fun w9 hout9 hs9 hoth9 hb9=>oNi ?_)
      rw [last_set hkr] at hout9
      refine hnew _ w9 (rows.take k ++ r :: rows.drop k) (.slice (some ⟨g8,0,none⟩) (rows.take k ++ z :: rows.drop k).length cap8) ?_
      rw [hins]
      exact ⟨by simp [sPu,p],by simp [dPu,pd],by simp (disch:=(try simp only [sPu]);omega) [p5],by simp (disch:=(try simp only [sPu]);omega) [p6,hlen8],by simp (disch:=(try simp only [sPu]);omega) [p17],by simp (disch:=(try simp only [sPu]);omega) [p18],by simp (disch:=(try simp only [sPu]);omega) [p19],hrows.ins ⟨hxr1,hxr2,xvb,xvc,hxr3,hxr4,hxr5⟩ (by omega),hout9,hbel8.trans hb9⟩
    · rw [if_pos (by simp;omega)]
      refine SC.wp_skip ?_
      simp only [Exit.then]
      obtain ⟨k',rfl⟩:∃ k',k=k'+1:=⟨k - 1,by omega⟩
      have hkl:k' < rows.length:=by omega
      obtain ⟨g8,cap8,hv8,hg8,-,hrg8⟩:=hout8.read (hole_get (z:=z) hkl)
      rw [hlen8] at hv8
      cases hv8
      have hki:(0:Int)≤(k':Int)∧(k':Int) < ((rows.length+1:Nat):Int):=by omega
      have hki2:(k':Int) < (rows.length:Int)+1:=by omega
      have hki3:((k':Int)+1) < (rows.length:Int)+1:=by omega
      have hki4:(0:Int)≤(k':Int)+1:=by omega
      have hwk:IntKind.i64.wrap (k':Int)=(k':Int):=w64q (by omega) (by omega)
      have hrk:=hrows.2 k' acc[k'] rows[k'] (List.getElem?_eq_getElem (by omega)) (List.getElem?_eq_getElem hkl)
      obtain ⟨hk1,hk2,xvb,xvc,hk3,hk4,hk5⟩:=hrk
      refine SC.wp_seq (SC.wp_block (SC.wp_reg ?_))
      iterate 8 (first | (apply ops_1;(focus (simp (disch:=(try simp only [sPu]);omega) [hst,p6,p10,hki,hki2,hki3,hki4,hwk,hrg8];try rfl))) | (apply ops_y;(focus rfl);(focus ((try simp only [sPu]);omega));(focus (simp (disch:=(try simp only [sPu]);omega) [hst,p6,p10,hki,hki2,hki3,hki4,hwk,hrg8];done));(focus (simp (disch:=(try simp only [sPu]);omega) [hst,p6,p10,hki,hki2,hki3,hki4,hwk,hrg8];try rfl))) | (apply ops_n;(focus rfl);(focus ((try simp only [sPu]);omega));(focus (first | (left;simp (disch:=(try simp only [sPu]);omega) [hst,p6,p10,hki,hki2,hki3,hki4,hwk,hrg8];done) | (right;simp (disch:=(try simp only [sPu]);omega);done)))))
      refine oNo rfl (opw_store2 (B:=w.heap.size) (k:=k'+1) (g0:=g8) (cap:=vc7) (r:=rows[k']) (rows:=rows.take (k'+1) ++ z :: rows.drop (k'+1)) hT.agg (by rw [hlen8];exact hout8) (by omega) (by simp (disch:=(try simp only [sPu]);omega)) (by simp (disch:=(try simp only [sPu]);omega)) (by rw [hk1];rfl) (by rw [hk3];rfl) fun w9 hout9 hs9 hoth9 hb9=>oNi ?_)
      simp only [Exit.then,Exit.inBlock]
      refine SC.wp_reg ?_
      repeat (first | (apply ops_1;(focus (simp (disch:=(try simp only [sPu]);omega) [hst,p10,hwk];try rfl))) | (apply ops_y;(focus rfl);(focus ((try simp only [sPu]);omega));(focus (simp (disch:=(try simp only [sPu]);omega) [hst,p10,hwk];done));(focus (simp (disch:=(try simp only [sPu]);omega) [hst,p10,hwk];try rfl))) | (apply ops_n;(focus rfl);(focus ((try simp only [sPu]);omega));(focus (first | (left;simp (disch:=(try simp only [sPu]);omega) [hst,p10,hwk];done) | (right;simp (disch:=(try simp only [sPu]);omega);done)))))
      refine oNi ?_
      rw [shift_set hkl,hlen8] at hout9
      have htbg:tb ≠ g8:=fun e=>by
        rw [hv7] at htb7
        exact htb7 (by rw [e];rfl)
      refine ⟨⟨k',rows[k'],by simp [sPu,p],by simp [dPu,pd],by simp (disch:=(try simp only [sPu]);omega) [p5],by simp (disch:=(try simp only [sPu]);omega) [p6],by simp (disch:=(try simp only [sPu]);omega) [p8],by simp (disch:=(try simp only [sPu]);omega) [p9],by simp (disch:=(try simp only [sPu]);omega),by simp (disch:=(try simp only [sPu]);omega) [p17],by simp (disch:=(try simp only [sPu]);omega) [p18],by simp (disch:=(try simp only [sPu]);omega) [p19],by omega,by omega,hout9,by rw [hoth9 tb htbg];exact hrow8,hbel8.trans hb9⟩,?_⟩
      have e10:getT a 10=.int .i64 ((k':Int)+1):=by simpa using p10
      simp only [e10]
      simp (disch:=(try simp only [sPu]);omega)
  refine SC.wp_seq (SC.wp_seq (SC.wp_dreg hm (Below w5.heap.size w5.drew) [(0,true),(1,true),(2,true),(3,true),(4,true),(5,true),(6,true),(7,true),(8,true),(9,true),(10,true),(11,true),(12,true),(13,true),(14,true),(15,true),(16,true),(17,true),(18,true),(19,true)] (by rfl) (by rfl) (by decide) (Below.refl _ _) ?_))
  by_cases hql:q < rows.length
  · obtain ⟨g,cap,hvg,hgB,hcg,hrg⟩:=hout.read (List.getElem?_eq_getElem hql)
    have hgl:g < w5.heap.size:=by
      rcases Nat.lt_or_ge g w5.heap.size with h | h
      · exact h
      · simp [World.cell?,Array.getElem?_eq_none h] at hcg
    have hqa:q < acc.length:=by omega
    have htr:=hrows.2 q acc[q] rows[q] (List.getElem?_eq_getElem hqa) (List.getElem?_eq_getElem hql)
    rw [htr.1] at hcg
    have hcg':w5.drew.cell? ⟨g,q * 2,none⟩=some (.int .u32 (acc[q].1:Int)):=hcg
    have hqi:(0:Int)≤(q:Int)∧(q:Int) < (rows.length:Int):=by omega
    have p6':=p6
    rw [hvg] at p6'
    have hlt1:decide ((q:Int) < (rows.length:Int))=true:=decide_eq_true hqi.2
    repeat (first | (apply dr_1;(focus rfl);(focus (simp (disch:=(try simp only [sPu]);omega) [hst,p5,p6',p8,p9,hqi,hcg',hgl,htb,hkey,hlt1,hx0,hx00];try rfl))) | (apply dr_y;(focus rfl);(focus rfl);(focus ((try simp only [sPu]);omega));(focus (simp (disch:=(try simp only [sPu]);omega) [hst,p5,p6',p8,p9,hqi,hcg',hgl,htb,hkey,hlt1,hx0,hx00];done));(focus (simp (disch:=(try simp only [sPu]);omega) [hst,p5,p6',p8,p9,hqi,hcg',hgl,htb,hkey,hlt1,hx0,hx00];try rfl))) | (apply dr_n;(focus rfl);(focus rfl);(focus ((try simp only [sPu]);omega));(focus (first | (left;simp (disch:=(try simp only [sPu]);omega) [hst,p5,p6',p8,p9,hqi,hcg',hgl,htb,hkey,hlt1,hx0,hx00];done) | (right;simp (disch:=(try simp only [sPu]);omega);done)))))
    refine dreg_nil ?_
    simp only [Exit.then]
    refine SC.wp_cond (t:=((acc[q].1:Int) == (x.1:Int))) (by simp (disch:=(try simp only [sPu]);omega)) ?_
    by_cases he:acc[q].1=x.1
    · rw [if_pos (by rw [beq_iff_eq];omega)]
      refine SC.wp_exit ?_
      simp only [Exit.then]
      have hins:insTag x acc=acc:=ins_same hless (List.getElem?_eq_getElem hqa) he
      refine hsame _ _ (by
        rw [hins]
        exact ⟨by simp [sPu,p],by simp [dPu,pd],by simp (disch:=(try simp only [sPu]);omega) [p5],by simp (disch:=(try simp only [sPu]);omega) [p6],by simp (disch:=(try simp only [sPu]);omega) [p17],by simp (disch:=(try simp only [sPu]);omega) [p18],by simp (disch:=(try simp only [sPu]);omega) [p19],hrows,hout',hbel.drew⟩)
    · rw [if_neg (by simp;omega)]
      refine SC.wp_skip ?_
      simp only [Exit.then]
      refine go _ ⟨by simp [sPu,p],by simp [dPu,pd],by simp (disch:=(try simp only [sPu]);omega) [p5],by simp (disch:=(try simp only [sPu]);omega) [p6],by simp (disch:=(try simp only [sPu]);omega) [p8],by simp (disch:=(try simp only [sPu]);omega) [p9],by simp (disch:=(try simp only [sPu]);omega) [p17],by simp (disch:=(try simp only [sPu]);omega) [p18],by simp (disch:=(try simp only [sPu]);omega) [p19]⟩ fun y hy=>?_
      have:=hge y hy
      rw [List.getElem?_eq_getElem hqa] at hy
      cases hy
      omega
  · have hlt1:decide ((q:Int) < (rows.length:Int))=false:=decide_eq_false (by omega)
    have p6':=p6
    rw [hv] at p6'
    repeat (first | (apply dr_1;(focus rfl);(focus (simp (disch:=(try simp only [sPu]);omega) [hst,p5,p6',p8,p9,htb,hkey,hlt1,hql,hx0,hx00];try rfl))) | (apply dr_y;(focus rfl);(focus rfl);(focus ((try simp only [sPu]);omega));(focus (simp (disch:=(try simp only [sPu]);omega) [hst,p5,p6',p8,p9,htb,hkey,hlt1,hql,hx0,hx00];done));(focus (simp (disch:=(try simp only [sPu]);omega) [hst,p5,p6',p8,p9,htb,hkey,hlt1,hql,hx0,hx00];try rfl))) | (apply dr_n;(focus rfl);(focus rfl);(focus ((try simp only [sPu]);omega));(focus (first | (left;simp (disch:=(try simp only [sPu]);omega) [hst,p5,p6',p8,p9,htb,hkey,hlt1,hql,hx0,hx00];done) | (right;simp (disch:=(try simp only [sPu]);omega);done)))))
    refine dreg_nil ?_
    simp only [Exit.then]
    refine SC.wp_cond (t:=false) (by simp (disch:=(try simp only [sPu]);omega)) ?_
    rw [if_neg (by simp)]
    refine SC.wp_skip ?_
    simp only [Exit.then]
    refine go _ ⟨by simp [sPu,p],by simp [dPu,pd],by simp (disch:=(try simp only [sPu]);omega) [p5],by simp (disch:=(try simp only [sPu]);omega) [p6],by simp (disch:=(try simp only [sPu]);omega) [p8],by simp (disch:=(try simp only [sPu]);omega) [p9],by simp (disch:=(try simp only [sPu]);omega) [p17],by simp (disch:=(try simp only [sPu]);omega) [p18],by simp (disch:=(try simp only [sPu]);omega) [p19]⟩ fun y hy=>?_
    rw [List.getElem?_eq_none (by omega)] at hy
    cases hy
theorem unk_body (hX:stOK P X=true) (hm:P.follows .mixedOrders=true) (hT:TagT P X) {ub:Option Addr} {uc i:Nat} {l:List (Nat × Bytes)} {w w3:World} {acc:List (Nat × Bytes)} {rows:List (Value × Value)} {v:Value} {a:Act} {Q:Exit→Act→World→Prop} {x:Nat × Bytes} {b o:Nat}
    (h:UL X ub uc l w i acc rows v a w3) (hi:i < l.length) (hub:ub=some ⟨b,o,none⟩) (hbB:b < w.heap.size) (hx4:x.1 < 4294967296) {vb:Option Addr} {vc:Nat} (hrng:rangeV w b (o+i * 2) 2=some [.int .u32 (x.1:Int),.slice vb x.2.length vc]) (hbs:BytesAt w (· < w.heap.size) vb x.2) (hvc:x.2.length≤vc) (hacc:acc.length≤32767)
    (hQ:∀ a' w' rows' v',UL X ub uc l w i (insTag x acc) rows' v' a' w'→Q .normal a' w'):(SC.block 1 (sc_ubody X.Tgs X.I X.Tg X.U32)).wp P Q a w3:=by
  have hst:=st_facts hX
  obtain ⟨p,pd,p5,p6,p17,p18,p19,hrows,hout,hbel⟩:=h
  subst hub
  have hws:=hbel.size
  have hrng3:rangeV w3 b (o+i * 2) 2=some [.int .u32 (x.1:Int),.slice vb x.2.length vc]:=by rw [rangeV_mono (hbel.block b hbB)];exact hrng
  obtain ⟨iT,zT,hiT,hzT,hzTc,_,_⟩:=hT.info
  refine SC.wp_block ?_
  refine SC.wp_seq (SC.wp_reg ?_)
  have hii:(0:Int)≤(i:Int)∧(i:Int) < (l.length:Int):=by omega
  iterate 2 (first | (apply ops_1;(focus (simp (disch:=(try simp only [sPu]);omega) [hst,p17,p19,hii,hrng3];try rfl))) | (apply ops_y;(focus rfl);(focus ((try simp only [sPu]);omega));(focus (simp (disch:=(try simp only [sPu]);omega) [hst,p17,p19,hii,hrng3];done));(focus (simp (disch:=(try simp only [sPu]);omega) [hst,p17,p19,hii,hrng3];try rfl))) | (apply ops_n;(focus rfl);(focus ((try simp only [sPu]);omega));(focus (first | (left;simp (disch:=(try simp only [sPu]);omega) [hst,p17,p19,hii,hrng3];done) | (right;simp (disch:=(try simp only [sPu]);omega);done)))))
  refine oNo rfl (opw_alloc hiT hzT ?_)
  have hnew:=heap_alloc_new w3 (.cells zT.cells X.Tg)
  refine oNo rfl (opw_store_agg (cs:=[.int .u32 (x.1:Int),.slice vb x.2.length vc]) (cur:=zT.cells) (b:=w3.heap.size) (E:=X.Tg) hT.agg (by simp (disch:=(try simp only [sPu]);omega)) (by simp (disch:=(try simp only [sPu]);omega)) hnew (by rw [hzTc];rfl) (by intro v hv;simp at hv;rcases hv with rfl | rfl <;> rfl) (oNi ?_))
  rw [pNo]
  simp only [Exit.then]
  refine SC.wp_seq (SC.wp_reg ?_)
  repeat (first | (apply ops_1;(focus (simp (disch:=(try simp only [sPu]);omega) ;try rfl))) | (apply ops_y;(focus rfl);(focus ((try simp only [sPu]);omega));(focus (simp (disch:=(try simp only [sPu]);omega);done));(focus (simp (disch:=(try simp only [sPu]);omega) ;try rfl))) | (apply ops_n;(focus rfl);(focus ((try simp only [sPu]);omega));(focus (first | (left;simp (disch:=(try simp only [sPu]);omega);done) | (right;simp (disch:=(try simp only [sPu]);omega);done)))))
  refine oNi ?_
  simp only [Exit.then]
  obtain ⟨w4,hw4⟩:∃ w4,w4=(w3.alloc (.cells zT.cells X.Tg)).setRow w3.heap.size [Value.int .u32 (x.1:Int),.slice vb x.2.length vc].toArray:=⟨_,rfl⟩
  rw [← hw4]
  have hrow4:w4.heap[w3.heap.size]?=some (.cells #[.int .u32 (x.1:Int),.slice vb x.2.length vc] X.Tg (0,0)):=by rw [hw4];exact setRow_heap _ _ _ _ _ _ hnew
  have hoth4:∀ k,k < w3.heap.size→w4.heap[k]?=w3.heap[k]?:=fun k hk=>by
    rw [hw4,setRow_other _ _ _ _ (by omega)]
    exact Below.heap_alloc _ _ _ hk
  have hsz4:w4.heap.size=w3.heap.size+1:=by rw [hw4];simp
  have hbel4:Below w.heap.size w w4:=by
    rw [hw4]
    exact (hbel.alloc (by omega) _).trans ⟨rfl,rfl,rfl,by simp,fun k hk=>setRow_other _ _ _ _ (by omega)⟩
  have hout4:Out2 w4 w.heap.size X.Tg v rows:=hout.frame fun k h1 h2=>hoth4 k h2
  have hlr:=hrows.1
  have hxr:TRow w x (.int .u32 (x.1:Int),.slice vb x.2.length vc):=⟨rfl,hx4,vb,vc,rfl,hbs,hvc⟩
  have htv:v.ownBlock ≠ some w3.heap.size:=fun e=>by
    have:=(World.ownsRow.lt hout _ e).2
    omega
  have tail:∀ a w5 q,UT X (some ⟨b,o,none⟩) uc l w i w3.heap.size q x (.int .u32 (x.1:Int),.slice vb x.2.length vc) acc rows v a w5→(sc_utail X.Tgs X.I X.Tg X.U32).wp P (Exit.inBlock 1 Q) a w5:=fun a w5 q hu =>
    unk_tail hX hm hT hu hacc (fun a' w' hul=>by
      simp only [Exit.inBlock,if_true]
      exact hQ _ _ _ _ hul) (fun a' w' rows' v' hul=>by
      simp only [Exit.inBlock]
      exact hQ _ _ _ _ hul)
  refine SC.wp_seq (SC.wp_block (SC.wp_loop (fun a' w'=>∃ p:Nat,a'.tmps.size=85∧a'.defers=[]∧getT a' 5=.int .u32 0∧getT a' 6=v∧getT a' 8=.pointer (some ⟨w3.heap.size,0,none⟩)∧getT a' 9=.int .i64 (p:Int)∧getT a' 17=.slice (some ⟨b,o,none⟩) l.length uc∧getT a' 18=.int .i64 (l.length:Int)∧getT a' 19=.int .i64 (i:Int)∧p≤acc.length∧(∀ j y,j < p→acc[j]?=some y→y.1 < x.1)∧Below w4.heap.size w4 w')
    (fun a' _=>match getT a' 9 with | .int _ m=>(acc.length - m).toNat | _=>0) ⟨0,by simp [sPu,p],by simp [dPu,pd],by simp (disch:=(try simp only [sPu]);omega) [p5],by simp (disch:=(try simp only [sPu]);omega) [p6],by simp (disch:=(try simp only [sPu]);omega),by simp (disch:=(try simp only [sPu]);omega),by simp (disch:=(try simp only [sPu]);omega) [p17],by simp (disch:=(try simp only [sPu]);omega) [p18],by simp (disch:=(try simp only [sPu]);omega) [p19],by omega,fun j y hj=>by omega,Below.refl _ _⟩ ?_))
  clear p pd p5 p6 p17 p18 p19 a
  rintro a w5 ⟨q,p,pd,p5,p6,p8,p9,p17,p18,p19,hq,hless,hb5⟩
  have hs5:=hb5.size
  have hout5:Out2 w5 w.heap.size X.Tg v rows:=hout4.frame fun k h1 h2=>hb5.block k h2
  have hrow5:w5.heap[w3.heap.size]?=some (.cells #[.int .u32 (x.1:Int),.slice vb x.2.length vc] X.Tg (0,0)):=by rw [hb5.block _ (by omega)];exact hrow4
  have hkey5:w5.drew.cell? ⟨w3.heap.size,0,none⟩=some (.int .u32 (x.1:Int)):=by
    have:w5.cell? ⟨w3.heap.size,0,none⟩=some (.int .u32 (x.1:Int)):=by rw [cell_of_row _ _ _ _ _ _ hrow5];rfl
    exact this
  have htb5:w3.heap.size < w5.heap.size:=by omega
  have hb5w:Below w.heap.size w w5:=⟨hb5.os.trans hbel4.os,hb5.tape.trans hbel4.tape,hb5.output.trans hbel4.output,Nat.le_trans hbel4.size hb5.size,fun k hk=>(hb5.block k (by omega)).trans (hbel4.block k hk)⟩
  refine SC.wp_seq (SC.wp_seq (SC.wp_dreg hm (Below w5.heap.size w5.drew) [(0,true),(1,true),(2,true),(3,true),(4,true),(5,true),(6,true),(7,true),(8,true),(9,true),(10,true),(11,true),(12,true),(13,true)] (by rfl) (by rfl) (by decide) (Below.refl _ _) ?_))
  obtain ⟨vbase,vcap,hv,hvc',hv2⟩:=hout5.at
  by_cases hql:q < rows.length
  · obtain ⟨g,cap,hvg,hgB,hcg,hrg⟩:=hout5.read (List.getElem?_eq_getElem hql)
    have hgl:g < w5.heap.size:=by
      rcases Nat.lt_or_ge g w5.heap.size with h | h
      · exact h
      · simp [World.cell?,Array.getElem?_eq_none h] at hcg
    have hqa:q < acc.length:=by omega
    have htr:=hrows.2 q acc[q] rows[q] (List.getElem?_eq_getElem hqa) (List.getElem?_eq_getElem hql)
    rw [htr.1] at hcg
    have hcg':w5.drew.cell? ⟨g,q * 2,none⟩=some (.int .u32 (acc[q].1:Int)):=hcg
    have hqi:(0:Int)≤(q:Int)∧(q:Int) < (rows.length:Int):=by omega
    rw [hvg] at p6
    have hlt1:decide ((q:Int) < (rows.length:Int))=true:=decide_eq_true hqi.2
    repeat (first | (apply dr_1;(focus rfl);(focus (simp (disch:=(try simp only [sPu]);omega) [hst,p6,p8,p9,hqi,hcg',hgl,htb5,hkey5,hlt1];try rfl))) | (apply dr_y;(focus rfl);(focus rfl);(focus ((try simp only [sPu]);omega));(focus (simp (disch:=(try simp only [sPu]);omega) [hst,p6,p8,p9,hqi,hcg',hgl,htb5,hkey5,hlt1];done));(focus (simp (disch:=(try simp only [sPu]);omega) [hst,p6,p8,p9,hqi,hcg',hgl,htb5,hkey5,hlt1];try rfl))) | (apply dr_n;(focus rfl);(focus rfl);(focus ((try simp only [sPu]);omega));(focus (first | (left;simp (disch:=(try simp only [sPu]);omega) [hst,p6,p8,p9,hqi,hcg',hgl,htb5,hkey5,hlt1];done) | (right;simp (disch:=(try simp only [sPu]);omega);done)))))
    refine dreg_nil ?_
    simp only [Exit.then]
    refine SC.wp_cond (t:=decide ((acc[q].1:Int) < (x.1:Int))) (by simp (disch:=(try simp only [sPu]);omega)) ?_
    by_cases hlx:acc[q].1 < x.1
    · rw [if_pos (decide_eq_true (by omega))]
      refine SC.wp_skip ?_
      simp only [Exit.then]
      have hwq:IntKind.i64.wrap ((q:Int)+1)=(q:Int)+1:=w64q (by omega) (by omega)
      refine SC.wp_block (SC.wp_reg ?_)
      repeat (first | (apply ops_1;(focus (simp (disch:=(try simp only [sPu]);omega) [hst,p9,hwq];try rfl))) | (apply ops_y;(focus rfl);(focus ((try simp only [sPu]);omega));(focus (simp (disch:=(try simp only [sPu]);omega) [hst,p9,hwq];done));(focus (simp (disch:=(try simp only [sPu]);omega) [hst,p9,hwq];try rfl))) | (apply ops_n;(focus rfl);(focus ((try simp only [sPu]);omega));(focus (first | (left;simp (disch:=(try simp only [sPu]);omega) [hst,p9,hwq];done) | (right;simp (disch:=(try simp only [sPu]);omega);done)))))
      refine oNi ?_
      simp only [Exit.then,Exit.inBlock]
      refine ⟨⟨q+1,by simp [sPu,p],by simp [dPu,pd],by simp (disch:=(try simp only [sPu]);omega) [p5],by simp (disch:=(try simp only [sPu]);omega) [p6,hvg],by simp (disch:=(try simp only [sPu]);omega) [p8],by simp (disch:=(try simp only [sPu]);omega),by simp (disch:=(try simp only [sPu]);omega) [p17],by simp (disch:=(try simp only [sPu]);omega) [p18],by simp (disch:=(try simp only [sPu]);omega) [p19],by omega,fun j y hj hy=>?_,hb5.drew⟩,?_⟩
      · by_cases hjq:j=q
        · subst hjq
          rw [List.getElem?_eq_getElem hqa] at hy
          cases hy
          exact hlx
        · exact hless j y (by omega) hy
      · have e9:getT a 9=.int .i64 (q:Int):=p9
        simp only [e9]
        simp (disch:=(try simp only [sPu]);omega)
        omega
    · rw [if_neg (by rw [decide_eq_false (by omega)];simp)]
      refine SC.wp_exit ?_
      simp only [Exit.then,Exit.inBlock,if_true]
      refine tail _ w5.drew q ⟨by simp [sPu,p],by simp [dPu,pd],by simp (disch:=(try simp only [sPu]);omega) [p5],by simp (disch:=(try simp only [sPu]);omega) [p6,hvg],by simp (disch:=(try simp only [sPu]);omega) [p8],by simp (disch:=(try simp only [sPu]);omega) [p9],by simp (disch:=(try simp only [sPu]);omega) [p17],by simp (disch:=(try simp only [sPu]);omega) [p18],by simp (disch:=(try simp only [sPu]);omega) [p19],hq,hless,fun y hy=>?_,hws,hrow5,hxr,hrows,hout5,htv,hb5w.drew⟩
      rw [List.getElem?_eq_getElem hqa] at hy
      cases hy
      exact hlx
  · have hlt1:decide ((q:Int) < (rows.length:Int))=false:=decide_eq_false (by omega)
    rw [hv] at p6
    repeat (first | (apply dr_1;(focus rfl);(focus (simp (disch:=(try simp only [sPu]);omega) [hst,p6,p8,p9,hlt1,hql];try rfl))) | (apply dr_y;(focus rfl);(focus rfl);(focus ((try simp only [sPu]);omega));(focus (simp (disch:=(try simp only [sPu]);omega) [hst,p6,p8,p9,hlt1,hql];done));(focus (simp (disch:=(try simp only [sPu]);omega) [hst,p6,p8,p9,hlt1,hql];try rfl))) | (apply dr_n;(focus rfl);(focus rfl);(focus ((try simp only [sPu]);omega));(focus (first | (left;simp (disch:=(try simp only [sPu]);omega) [hst,p6,p8,p9,hlt1,hql];done) | (right;simp (disch:=(try simp only [sPu]);omega);done)))))
    refine dreg_nil ?_
    simp only [Exit.then]
    refine SC.wp_cond (t:=false) (by simp (disch:=(try simp only [sPu]);omega)) ?_
    rw [if_neg (by simp)]
    refine SC.wp_exit ?_
    simp only [Exit.then,Exit.inBlock,if_true]
    refine tail _ w5.drew q ⟨by simp [sPu,p],by simp [dPu,pd],by simp (disch:=(try simp only [sPu]);omega) [p5],by simp (disch:=(try simp only [sPu]);omega) [p6,hv],by simp (disch:=(try simp only [sPu]);omega) [p8],by simp (disch:=(try simp only [sPu]);omega) [p9],by simp (disch:=(try simp only [sPu]);omega) [p17],by simp (disch:=(try simp only [sPu]);omega) [p18],by simp (disch:=(try simp only [sPu]);omega) [p19],hq,hless,fun y hy=>?_,hws,hrow5,hxr,hrows,hout5,htv,hb5w.drew⟩
    rw [List.getElem?_eq_none (by omega)] at hy
    cases hy
theorem unk_ok (hX:stOK P X=true) (hm:P.follows .mixedOrders=true) (hT:TagT P X) (oK:FnOK P fKn) (cK:KnownC P fKn) (hf:P.funcs[f]?=some fn) (hb:fn.body.map strip=some (sc_unknown X.Tgs X.I X.Tg X.U32 fKn)) (hn:fn.ntmps=85) (hr:fn.results=#[.tmp 4]):UnkC (fun _=>True) P f:=by
  intro w fs fv ub u uc hfs hlen63 hG hu huc
  have hst:=st_facts hX
  refine fCa hf hb hn (by simp) fun a0 hs hd ha=>?_
  have h0:=ha 0 _ rfl
  have h1:=ha 1 _ rfl
  simp only [List.getElem_toArray,List.getElem_cons_zero,List.getElem_cons_succ] at h0 h1
  refine SC.wp_seq (SC.wp_reg ?_)
  repeat (first | (apply ops_1;(focus (simp (disch:=(try simp only [sPu]);omega) ;try rfl))) | (apply ops_y;(focus rfl);(focus ((try simp only [sPu]);omega));(focus (simp (disch:=(try simp only [sPu]);omega);done));(focus (simp (disch:=(try simp only [sPu]);omega) ;try rfl))) | (apply ops_n;(focus rfl);(focus ((try simp only [sPu]);omega));(focus (first | (left;simp (disch:=(try simp only [sPu]);omega);done) | (right;simp (disch:=(try simp only [sPu]);omega);done)))))
  refine oNi (SC.wp_seq (SC.wp_reg ?_))
  iterate 1 (first | (apply ops_1;(focus (simp (disch:=(try simp only [sPu]);omega) [h0];try rfl))) | (apply ops_y;(focus rfl);(focus ((try simp only [sPu]);omega));(focus (simp (disch:=(try simp only [sPu]);omega) [h0];done));(focus (simp (disch:=(try simp only [sPu]);omega) [h0];try rfl))) | (apply ops_n;(focus rfl);(focus ((try simp only [sPu]);omega));(focus (first | (left;simp (disch:=(try simp only [sPu]);omega) [h0];done) | (right;simp (disch:=(try simp only [sPu]);omega);done)))))
  refine ops_call oK (cK w fs fv hfs hlen63) (by simp (disch:=(try simp only [sPu]);omega)) ?_
  rintro e w2 ⟨rfl,hb2⟩
  refine ⟨_,rfl,?_⟩
  repeat (first | (apply ops_1;(focus (simp (disch:=(try simp only [sPu]);omega) ;try rfl))) | (apply ops_y;(focus rfl);(focus ((try simp only [sPu]);omega));(focus (simp (disch:=(try simp only [sPu]);omega);done));(focus (simp (disch:=(try simp only [sPu]);omega) ;try rfl))) | (apply ops_n;(focus rfl);(focus ((try simp only [sPu]);omega));(focus (first | (left;simp (disch:=(try simp only [sPu]);omega);done) | (right;simp (disch:=(try simp only [sPu]);omega);done)))))
  refine oNi (SC.wp_seq (SC.wp_reg ?_))
  repeat (first | (apply ops_1;(focus (simp (disch:=(try simp only [sPu]);omega) ;try rfl))) | (apply ops_y;(focus rfl);(focus ((try simp only [sPu]);omega));(focus (simp (disch:=(try simp only [sPu]);omega);done));(focus (simp (disch:=(try simp only [sPu]);omega) ;try rfl))) | (apply ops_n;(focus rfl);(focus ((try simp only [sPu]);omega));(focus (first | (left;simp (disch:=(try simp only [sPu]);omega);done) | (right;simp (disch:=(try simp only [sPu]);omega);done)))))
  refine oNi (SC.wp_seq (SC.wp_seq (SC.wp_reg ?_)))
  obtain ⟨l,hl⟩:∃ l,l=u.take most:=⟨_,rfl⟩
  have hll:l.length≤u.length:=by rw [hl,List.length_take];omega
  have hlm:l.length≤32767:=by rw [hl,List.length_take];exact Nat.min_le_left _ _
  have hmin:(if (32767:Int) < (u.length:Int) then (32767:Int) else (u.length:Int))=(l.length:Int):=by
    rw [hl,List.length_take,show most=32767 from rfl]
    split <;> omega
  have hmin2:(if (u.length:Int) < 32767 then (u.length:Int) else (32767:Int))=(l.length:Int):=by
    rw [hl,List.length_take,show most=32767 from rfl]
    split <;> omega
  have hlc:(l.length:Int)≤(uc:Int):=by omega
  repeat (first | (apply ops_1;(focus (simp (disch:=(try simp only [sPu]);omega) [hst,h1,hmin,hmin2,hlc];try rfl))) | (apply ops_y;(focus rfl);(focus ((try simp only [sPu]);omega));(focus (simp (disch:=(try simp only [sPu]);omega) [hst,h1,hmin,hmin2,hlc];done));(focus (simp (disch:=(try simp only [sPu]);omega) [hst,h1,hmin,hmin2,hlc];try rfl))) | (apply ops_n;(focus rfl);(focus ((try simp only [sPu]);omega));(focus (first | (left;simp (disch:=(try simp only [sPu]);omega) [hst,h1,hmin,hmin2,hlc];done) | (right;simp (disch:=(try simp only [sPu]);omega);done)))))
  refine oNi ?_
  simp only [Exit.then]
  refine gen_act (fun a6=>a6.tmps.size=85∧a6.defers=[]∧getT a6 5=.int .u32 0∧getT a6 6=.slice none 0 0∧getT a6 17=.slice ub l.length uc∧getT a6 18=.int .i64 (l.length:Int)∧getT a6 19=.int .i64 0)
    ⟨by simp [sPu,hs],by simp [dPu,hd],by simp (disch:=(try simp only [sPu]);omega),by simp (disch:=(try simp only [sPu]);omega),by simp (disch:=(try simp only [sPu]);omega),by simp (disch:=(try simp only [sPu]);omega),by simp (disch:=(try simp only [sPu]);omega)⟩ ?_
  rintro a6 ⟨p,pd,p5,p6,p17,p18,p19⟩
  refine SC.wp_block (SC.wp_loop (fun a' w'=>∃ (i:Nat) (acc:List (Nat × Bytes)) (rows:List (Value × Value)) (v:Value),UL X ub uc l w i acc rows v a' w'∧i≤l.length∧acc=(l.take i).foldl (fun acc t=>insTag t acc) [])
    (fun a' _=>match getT a' 19 with | .int _ m=>(l.length - m).toNat | _=>0) ⟨0,[],[],.slice none 0 0,⟨p,pd,p5,p6,p17,p18,p19,⟨rfl,fun i x r hx=>by simp at hx⟩,Out2.nil _ _ _,hb2⟩,Nat.zero_le _,rfl⟩ ?_)
  clear p pd p5 p6 p17 p18 p19 a6
  rintro a w3 ⟨i,acc,rows,v,hul,hil,hacc⟩
  have hul':=hul
  obtain ⟨p,pd,p5,p6,p17,p18,p19,hrows,hout,hbel⟩:=hul'
  refine SC.wp_seq (SC.wp_reg ?_)
  repeat (first | (apply ops_1;(focus (simp (disch:=(try simp only [sPu]);omega) [p18,p19];try rfl))) | (apply ops_y;(focus rfl);(focus ((try simp only [sPu]);omega));(focus (simp (disch:=(try simp only [sPu]);omega) [p18,p19];done));(focus (simp (disch:=(try simp only [sPu]);omega) [p18,p19];try rfl))) | (apply ops_n;(focus rfl);(focus ((try simp only [sPu]);omega));(focus (first | (left;simp (disch:=(try simp only [sPu]);omega) [p18,p19];done) | (right;simp (disch:=(try simp only [sPu]);omega);done)))))
  refine oNi ?_
  simp only [Exit.then]
  refine SC.wp_seq (SC.wp_cond (t:=decide ((i:Int) < (l.length:Int))) (by simp (disch:=(try simp only [sPu]);omega)) ?_)
  by_cases hlt:i < l.length
  · rw [if_pos (decide_eq_true (by omega))]
    refine SC.wp_skip ?_
    simp only [Exit.then]
    have hiu:u[i]?=some l[i]:=by
      have:(u.take most)[i]?=some l[i]:=by rw [← hl];exact List.getElem?_eq_getElem hlt
      rw [List.getElem?_take] at this
      split at this
      · exact this
      · cases this
    rcases hu with hu | ⟨b,o,hub,hbB,hall⟩
    · rw [hu] at hiu
      simp at hiu
    obtain ⟨hx4,vb,vc,hrng,hbs,hvc⟩:=hall i _ hiu
    have haccl:acc.length≤32767:=by
      rw [hacc]
      have:=foldl_ins_length (l.take i) []
      simp only [List.length_take,List.length_nil] at this
      omega
    refine SC.wp_seq (unk_body hX hm hT (ub:=ub) (uc:=uc) (l:=l) (w:=w) (i:=i) (acc:=acc) (rows:=rows) (v:=v) (b:=b) (o:=o) (x:=l[i]) ⟨by simpa [sPu] using p,by simpa [dPu] using pd,by simp (disch:=(try simp only [sPu]);omega) [p5],by simp (disch:=(try simp only [sPu]);omega) [p6],by simp (disch:=(try simp only [sPu]);omega) [p17],by simp (disch:=(try simp only [sPu]);omega) [p18],by simp (disch:=(try simp only [sPu]);omega) [p19],hrows,hout,hbel⟩ hlt hub hbB hx4 hrng hbs hvc haccl fun a' w' rows' v' hul2=>?_)
    obtain ⟨z,zd,z5,z6,z17,z18,z19,hrows2,hout2,hbel2⟩:=hul2
    simp only [Exit.then]
    have hwi:IntKind.i64.wrap ((i:Int)+1)=(i:Int)+1:=w64q (by omega) (by omega)
    refine SC.wp_reg ?_
    repeat (first | (apply ops_1;(focus (simp (disch:=(try simp only [sPu]);omega) [z19,hwi];try rfl))) | (apply ops_y;(focus rfl);(focus ((try simp only [sPu]);omega));(focus (simp (disch:=(try simp only [sPu]);omega) [z19,hwi];done));(focus (simp (disch:=(try simp only [sPu]);omega) [z19,hwi];try rfl))) | (apply ops_n;(focus rfl);(focus ((try simp only [sPu]);omega));(focus (first | (left;simp (disch:=(try simp only [sPu]);omega) [z19,hwi];done) | (right;simp (disch:=(try simp only [sPu]);omega);done)))))
    refine oNi ?_
    refine ⟨⟨i+1,insTag l[i] acc,rows',v',⟨by simp [sPu,z],by simp [dPu,zd],by simp (disch:=(try simp only [sPu]);omega) [z5],by simp (disch:=(try simp only [sPu]);omega) [z6],by simp (disch:=(try simp only [sPu]);omega) [z17],by simp (disch:=(try simp only [sPu]);omega) [z18],by simp (disch:=(try simp only [sPu]);omega),hrows2,hout2,hbel2⟩,by omega,?_⟩,?_⟩
    · rw [List.take_add_one,List.getElem?_eq_getElem hlt,Option.toList_some,List.foldl_append,← hacc]
      rfl
    · have e19:getT a 19=.int .i64 (i:Int):=p19
      simp only [e19]
      simp (disch:=(try simp only [sPu]);omega)
      omega
  · rw [if_neg (by rw [decide_eq_false (by omega)];simp)]
    refine SC.wp_exit ?_
    simp only [Exit.then,Exit.inBlock,if_true]
    refine SC.wp_seq (SC.wp_reg ?_)
    repeat (first | (apply ops_1;(focus (simp (disch:=(try simp only [sPu]);omega) [p6];try rfl))) | (apply ops_y;(focus rfl);(focus ((try simp only [sPu]);omega));(focus (simp (disch:=(try simp only [sPu]);omega) [p6];done));(focus (simp (disch:=(try simp only [sPu]);omega) [p6];try rfl))) | (apply ops_n;(focus rfl);(focus ((try simp only [sPu]);omega));(focus (first | (left;simp (disch:=(try simp only [sPu]);omega) [p6];done) | (right;simp (disch:=(try simp only [sPu]);omega);done)))))
    refine oNi (SC.wp_ret ?_)
    have hfin:acc=unknown u:=by
      rw [hacc,show i=l.length by omega,List.take_length,hl]
      rfl
    obtain ⟨base,cap,hv,hvc,hv2⟩:=hout.at
    rw [← hrows.1,hfin] at hv
    refine ret_tmp hr (by simp [dPu,pd]) ⟨base,cap,by rw [← hv];simp (disch:=(try simp only [sPu]);omega),?_,hbel⟩
    rcases hv2 with h0 | ⟨g,cur,rfl,h2,h3,h4,h5⟩
    · refine .inl (List.length_eq_zero_iff.1 ?_)
      rw [← hfin,hrows.1,h0]
      rfl
    · refine .inr ⟨g,0,rfl,(Array.getElem?_eq_some_iff.1 h3).1,fun j x hx=>?_⟩
      rw [← hfin] at hx
      have hjl:j < rows.length:=by rw [← hrows.1];exact (List.getElem?_eq_some_iff.1 hx).1
      obtain ⟨g',cap',hv',hg',hc',hr'⟩:=hout.read (List.getElem?_eq_getElem hjl)
      obtain ⟨t1,t2,vb,vc,t3,t4,t5⟩:=hrows.2 j x rows[j] hx (List.getElem?_eq_getElem hjl)
      rw [← hfin,hrows.1] at hv
      rw [hv] at hv'
      cases hv'
      refine ⟨t2,vb,vc,?_,?_,t5⟩
      · rw [Nat.zero_add,hr',t1,t3]
      · exact bytesAt_mono t4 (fun k hk=>Nat.lt_of_lt_of_le hk hbel.size) fun k hk=>hbel.block k hk
end
end Go.Proofs.YtgaplicnofhliaaDoor.K
