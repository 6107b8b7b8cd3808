/- Generic texts: R20 R21 R22 R23 S18 R24 Z3 E1. No condition. -/
import Derived.Test.YtjbbohfaihkolaaN8
import Derived.Maps.RangeRun
namespace Go.Proofs.Ytjbbohfaihkolaa.K
open Go Go.RowKit Go.Proofs.Ytjbbohfaihkolaa.T
attribute [local simp] eTm eCo pNo gTp gTn qv qcall vop iop
set_option linter.unusedVariables false
set_option linter.unusedSimpArgs false
def rdNew (P:Program) (TR:Nat):Bool:=aggB P TR 2 && (match P.info? TR,P.underlying TR with
  | some it,some (.struct fs)=>(match it.zero with | some z=>(match z.cells.toList with | [.slice none 0 0,.bool false]=>true | _=>false) | none=>false) &&
      (match fs.toList.mapM (fun f=>(P.info? f.type).map fun i=>(f.offset,i.size)) with | some [(0,1),(1,1)]=>true | _=>false)
  | _,_=>false)
def topEnd (size:Nat):Option (Nat × Nat)→Nat
  | none=>size
  | some (_,off)=>off
structure RTop where
  S:Nat
  size:Nat
  d:Nat
  t:Nat
  N:Nat
  flex:Option Int
  tags:Option (Nat × Nat)
  fs:Fs
def RTop.chk (P:Program) (I:RIds) (M:RTop):Bool :=
  okRFs P I (rCtx M.flex) M.S M.fs && okRTags P I (rCtx M.flex) M.S M.tags && layFs 1 (topEnd M.size M.tags) M.fs && (match M.tags with | none=>true | some (_,off)=>decide (off < M.size∧1≤off)) &&
  decide (1≤M.size∧rS M.flex+1+rVs M.fs≤M.t∧rT1 M.t M.flex+1+rFT (rCtx M.flex) M.fs+rTagsT M.tags+1≤M.N) && fieldB P M.S 0 0 && intB P I.tI16 .i16 && oneB P I.tI16 && rdNew P I.tRd
section
variable {P:Program} {I:RIds} {M:RTop} {B:Nat} {G:List (Nat × Bytes)→Prop} {err:Value} {Gl:World→Prop} {gb:Nat} {f:FuncId} {fn:Func} {w0:World}
end
end Go.Proofs.Ytjbbohfaihkolaa.K
namespace Go.Proofs.Ytjbbohfaihkolaa.K
open Go Go.RowKit Go.Proofs.Ytjbbohfaihkolaa.T
set_option linter.unusedVariables false
set_option linter.unusedSimpArgs false
set_option maxHeartbeats 1000000
def mapU (P:Program) (T:Nat):Bool:=oneB P T && (match P.underlying T with
  | some (.map k _)=>(match P.underlying k with | some (.int .u32)=>true | _=>false)
  | _=>false)
theorem mapU_of {P:Program} {T:Nat} (h:mapU P T=true):oneB P T=true∧∃ k e,P.underlying T=some (.map k e)∧P.underlying k=some (.int .u32):=by
  simp only [mapU,Bool.and_eq_true] at h
  obtain ⟨h1,h⟩:=h
  split at h <;> try (simp at h;done)
  rename_i k e hu
  split at h <;> try (simp at h;done)
  rename_i hk
  exact ⟨h1,k,e,hu,hk⟩
theorem bytesAt_keep {w w':World} {F:Nat→Prop} {base:Option Addr} {bs:Bytes} (h:BytesAt w F base bs) (hF:∀ k (a:Addr),F k→a.block=k→∀ v,w.cell? a=some v→w'.cell? a=some v):BytesAt w' F base bs:=by
  rcases h with h | ⟨b,q,h1,h2,h3⟩
  · exact .inl h
  · exact .inr ⟨b,q,h1,h2,fun j u hj=>hF b _ h2 rfl _ (h3 j u hj)⟩
section
variable {P:Program} {a:Act} {w:World} {K:Act→World→Prop} {d:Option Tmp} {g:Option (Nat × Bool)}
end
end Go.Proofs.Ytjbbohfaihkolaa.K
namespace Go.Proofs.Ytjbbohfaihkolaa.K
open Go Go.RowKit Go.Proofs.Ytjbbohfaihkolaa.T
attribute [local simp] eTm eCo pNo gTp gTn qv qcall vop iop
set_option linter.unusedVariables false
set_option linter.unusedSimpArgs false
set_option maxHeartbeats 2000000
def MapV (w:World) (lo tb:Nat) (S:Option Nat) (u:List (Nat × Bytes)) (m:Option Nat):Prop :=
  (m=none∧u=[])∨∃ r es clock,m=some r∧lo≤r∧r ≠ tb∧w.heap[r]?=some (.map es clock)∧TagsEs w (fun k=>S=some k) es clock u
theorem MapV.frame {w w':World} {lo tb:Nat} {S:Option Nat} {u:List (Nat × Bytes)} {m:Option Nat} (h:MapV w lo tb S u m) (hb:∀ k,lo≤k→k < w.heap.size→w'.heap[k]?=w.heap[k]?) (hS:∀ sb,S=some sb→w'.heap[sb]?=w.heap[sb]?):MapV w' lo tb S u m:=by
  rcases h with h | ⟨r,es,clock,h1,h2,h3,h4,h5,h6,h7⟩
  · exact .inl h
  · refine .inr ⟨r,es,clock,h1,h2,h3,by rw [hb r h2 (Array.getElem?_eq_some_iff.1 h4).1];exact h4,h5,h6,fun e he x hx hk=>?_⟩
    obtain ⟨base,cap,q1,q2⟩:=h7 e he x hx hk
    exact ⟨base,cap,q1,bytesAt_keep q2 fun k a hF ha v hv=>by rw [World.cell?_of_block (ha ▸ hS k hF)];exact hv⟩
section
variable {P:Program} {R:RTy} {f:FuncId} {fn:Func}
end
end Go.Proofs.Ytjbbohfaihkolaa.K
namespace Go.Proofs.Ytjbbohfaihkolaa.K
open Go Go.RowKit Go.Proofs.Ytjbbohfaihkolaa.T
attribute [local simp] eTm eCo pNo gTp gTn qv qcall vop iop
set_option linter.unusedVariables false
set_option linter.unusedSimpArgs false
set_option maxHeartbeats 2000000
section
variable {P:Program} {R:RTy} {f:FuncId} {fn:Func}
end
end Go.Proofs.Ytjbbohfaihkolaa.K
namespace Go.Proofs.Ytjbbohfaihkolaa.K
open Go Go.RowKit Go.Proofs.Ytjbbohfaihkolaa.T
attribute [local simp] eTm eCo pNo gTp gTn qv qcall vop iop
set_option linter.unusedSimpArgs false
set_option linter.unusedVariables false
set_option maxHeartbeats 4000000
def sc_NewPtr (T fDef:Nat):SC:=.seq (.reg [⟨some 0,.assign (.const (.pointer none)),none⟩]) (.seq (.reg [⟨some 1,.alloc T,none⟩]) (.seq (.reg [cal 2 fDef [1]]) (.seq (.reg [asg 0 1]) .ret)))
def sc_MaxV (n:Int):SC:=.seq (.reg [⟨some 2,.assign (.const (.int .i16 0)),none⟩]) (.seq (.reg [⟨some 2,.assign (.const (.int .i16 n)),none⟩]) .ret)
def sc_SetV (T T16:Nat):SC:=.reg [mv 4 0,mv 5 1,nilc 6 4,fa 7 T 6 0,⟨none,.store T16 (.tmp 7) (.tmp 5),none⟩]
def sc_Max (fNP fMV T16 TI:Nat):SC:=.seq (.reg [⟨some 0,.assign (.const (.int .i64 0)),none⟩]) (.seq (.reg [cal 1 fNP [],cal 2 fMV [1],⟨some 3,.convert T16 TI (.tmp 2),none⟩,asg 0 3]) .ret)
def sc_New (fNP fSV fAT TI T16:Nat):SC:=.seq (.reg [⟨some 2,.assign (.const (.slice none 0 0)),none⟩]) (.seq (.reg [cal 4 fNP [],asg 3 4]) (.seq (.reg [mv 5 3,mv 6 0,⟨some 7,.convert TI T16 (.tmp 6),none⟩,cal 8 fSV [5,7]]) (.seq (.reg [mv 9 3,⟨some 10,.call ⟨.value (.func fAT),#[.tmp 9,.const (.slice none 0 0)],#[]⟩,none⟩,asg 2 10]) .ret)))
section
variable {P:Program} {X:STy} {f:FuncId} {fn:Func}
def DefFn (P:Program) (f T:Nat) (cs0 cs:Array Value):Prop :=
  FnOK P f∧∀ (w:World) (b:Nat),w.heap[b]?=some (.cells cs0 T (0,0))→Calls P f #[.pointer (some ⟨b,0,none⟩)] w fun e w'=>e=.returned (.tuple #[])∧w'=w.setRow b cs
theorem newPtr_ok {T fDef:Nat} {cs0 cs:Array Value} (hT:∃ i z,P.info? T=some i∧i.zero=some z∧z.cells=cs0) (hD:DefFn P fDef T cs0 cs) (hf:P.funcs[f]?=some fn) (hb:fn.body.map strip=some (sc_NewPtr T fDef)) (hn:fn.ntmps=3) (hr:fn.results=#[.tmp 0]) (w:World) :
    Calls P f #[] w fun e w'=>∃ b,e=.returned (.pointer (some ⟨b,0,none⟩))∧w.heap.size≤b∧w'.heap[b]?=some (.cells cs T (0,0))∧Below w.heap.size w w':=by
  obtain ⟨i,z,hi,hz,rfl⟩:=hT
  refine fCa hf hb hn (by simp) fun a0 hs hd ha=>?_
  refine SC.wp_seq (SC.wp_reg ?_)
  repeat (apply ops_1;(focus (simp (disch:=(try simp only [sPu]);omega) ;try rfl)))
  refine oNi (SC.wp_seq (SC.wp_reg (oNo rfl (opw_alloc hi hz (oNi ?_)))))
  have hnew:=heap_alloc_new w (.cells z.cells T)
  have hbn:Below w.heap.size w (w.alloc (.cells z.cells T)):=(Below.refl _ _).alloc (Nat.le_refl _) _
  generalize w.alloc (.cells z.cells T)=w1 at *
  simp only [Exit.then]
  refine SC.wp_seq (SC.wp_reg (ops_cal hD.1 (R:=fun e w'=>e=.returned (.tuple #[])∧w'=w1.setRow w.heap.size cs) ?_ ?_))
  · refine Eq.mp (congrArg (fun z=>Calls P fDef z w1 _) ?_) (hD.2 w1 w.heap.size hnew)
    simp (disch:=(try simp only [sPu]);omega)
  rintro e w2 ⟨rfl,rfl⟩
  refine ⟨_,rfl,oNi ?_⟩
  simp only [Exit.then]
  refine SC.wp_seq (SC.wp_reg ?_)
  repeat (apply ops_1;(focus (simp (disch:=(try simp only [sPu]);omega) ;try rfl)))
  refine oNi (SC.wp_ret (ret_tmp hr (by simp [dPu,hd]) ⟨w.heap.size,?_,Nat.le_refl _,setRow_heap w1 _ _ cs _ _ hnew,below_setRow hbn (Nat.le_refl _) _⟩))
  simp (disch:=(try simp only [sPu]);omega)
theorem maxV_ok {n:Int} (hf:P.funcs[f]?=some fn) (hb:fn.body.map strip=some (sc_MaxV n)) (hn:fn.ntmps=3) (hr:fn.results=#[.tmp 2]) (w:World) (v:Value) :
    Calls P f #[v] w fun e w'=>e=.returned (.int .i16 n)∧w'=w:=by
  refine fCa hf hb hn (by simp) fun a0 hs hd ha=>?_
  refine SC.wp_seq (SC.wp_reg ?_)
  repeat (apply ops_1;(focus (simp (disch:=(try simp only [sPu]);omega) ;try rfl)))
  refine oNi (SC.wp_seq (SC.wp_reg ?_))
  repeat (apply ops_1;(focus (simp (disch:=(try simp only [sPu]);omega) ;try rfl)))
  refine oNi (SC.wp_ret (ret_tmp hr (by simp [dPu,hd]) ⟨?_,rfl⟩))
  simp (disch:=(try simp only [sPu]);omega)
theorem max_ok {fNP fMV T16 TI T:Nat} {n:Nat} {cs:Array Value} (h16:intK P T16=some .i16) (hI:intK P TI=some .i64) (hn16:n < 32768) (oNP:FnOK P fNP) (cNP:∀ w:World,Calls P fNP #[] w fun e w'=>∃ b,e=.returned (.pointer (some ⟨b,0,none⟩))∧w.heap.size≤b∧w'.heap[b]?=some (.cells cs T (0,0))∧Below w.heap.size w w')
    (oMV:FnOK P fMV) (cMV:∀ (w:World) (v:Value),Calls P fMV #[v] w fun e w'=>e=.returned (.int .i16 (n:Int))∧w'=w)
    (hf:P.funcs[f]?=some fn) (hb:fn.body.map strip=some (sc_Max fNP fMV T16 TI)) (hn:fn.ntmps=4) (hr:fn.results=#[.tmp 0]) (w:World) :
    Calls P f #[] w fun e w'=>e=.returned (.int .i64 (n:Int))∧Below w.heap.size w w':=by
  refine fCa hf hb hn (by simp) fun a0 hs hd ha=>?_
  have ew:IntKind.i64.wrap (n:Int)=(n:Int):=by rw [wrap_i64'];split <;> omega
  refine SC.wp_seq (SC.wp_reg ?_)
  repeat (apply ops_1;(focus (simp (disch:=(try simp only [sPu]);omega) ;try rfl)))
  refine oNi (SC.wp_seq (SC.wp_reg (ops_cal oNP (cNP w) ?_)))
  rintro e w1 ⟨b,rfl,hb,hc,hbw⟩
  refine ⟨_,rfl,ops_cal oMV (R:=fun e w'=>e=.returned (.int .i16 (n:Int))∧w'=w1) ?_ ?_⟩
  · refine Eq.mp (congrArg (fun z=>Calls P fMV z w1 _) ?_) (cMV w1 (.pointer (some ⟨b,0,none⟩)))
    simp (disch:=(try simp only [sPu]);omega)
  rintro e w2 ⟨rfl,rfl⟩
  refine ⟨_,rfl,?_⟩
  repeat (apply ops_1;(focus (simp (disch:=(try simp only [sPu]);omega) [h16,hI,ew];try rfl)))
  refine oNi (SC.wp_ret (ret_tmp hr (by simp [dPu,hd]) ⟨?_,hbw⟩))
  simp (disch:=(try simp only [sPu]);omega)
theorem setV_ok {T T16:Nat} (h0:fieldOff P T 0=some 0) (h1:oneB P T16=true) (hf:P.funcs[f]?=some fn) (hb:fn.body.map strip=some (sc_SetV T T16)) (hn:fn.ntmps=8) (hr:fn.results=#[]) (w:World) (b:Nat) (cs:Array Value) (E:TypeId) (hc:w.heap[b]?=some (.cells cs E (0,0))) (hcs:0 < cs.size) (n:Int) :
    Calls P f #[.pointer (some ⟨b,0,none⟩),.int .i16 n] w fun e w'=>e=.returned (.tuple #[])∧w'=w.setRow b (cs.setIfInBounds 0 (.int .i16 n)):=by
  refine fCa hf hb hn (by simp) fun a0 hs hd ha=>?_
  have k0:=ha 0 _ rfl
  have k1:=ha 1 _ rfl
  simp only [List.getElem_toArray,List.getElem_cons_zero,List.getElem_cons_succ] at k0 k1
  refine SC.wp_reg ?_
  iterate 4 (apply ops_1;(focus (simp (disch:=(try simp only [sPu]);omega) [k0,k1,h0];try rfl)))
  refine oNo rfl (opw_store_one (ad:=⟨b,0,none⟩) (v:=.int .i16 n) (v0:=cs[0]) h1 (by simp (disch:=(try simp only [sPu]);omega)) (by simp (disch:=(try simp only [sPu]);omega)) rfl (by rw [cell_of_row _ _ _ _ _ _ hc];exact Array.getElem?_eq_getElem hcs) (by simp [World.frozen?,hc]) (oNi ?_))
  refine ⟨by simp [dPu,pNo,hd],.tuple #[],by simp [results,hr],rfl,setCell_eq_setRow _ _ _ _ _ _ _ hc⟩
theorem new_ok {fNP fSV fAT TI T16 T tU8:Nat} {cs:Array Value} {out:Int→Bytes} (h16:intK P T16=some .i16) (hI:intK P TI=some .i64) (oNP:FnOK P fNP) (cNP:∀ w:World,Calls P fNP #[] w fun e w'=>∃ b,e=.returned (.pointer (some ⟨b,0,none⟩))∧w.heap.size≤b∧w'.heap[b]?=some (.cells cs T (0,0))∧Below w.heap.size w w')
    (oSV:FnOK P fSV) (cSV:∀ (w:World) (b:Nat),w.heap[b]?=some (.cells cs T (0,0))→∀ n:Int,Calls P fSV #[.pointer (some ⟨b,0,none⟩),.int .i16 n] w fun e w'=>e=.returned (.tuple #[])∧w'=w.setRow b (cs.setIfInBounds 0 (.int .i16 n)))
    (oAT:FnOK P fAT) (cAT:∀ (w:World) (b:Nat) (n:Int),w.heap[b]?=some (.cells (cs.setIfInBounds 0 (.int .i16 n)) T (0,0))→0≤n→n < 32768→Calls P fAT #[.pointer (some ⟨b,0,none⟩),.slice none 0 0] w fun e w'=>∃ dv,e=.returned dv∧Own tU8 w' w.heap.size dv (out n)∧Below w.heap.size w w')
    (hf:P.funcs[f]?=some fn) (hb:fn.body.map strip=some (sc_New fNP fSV fAT TI T16)) (hn:fn.ntmps=11) (hr:fn.results=#[.tmp 2]) (w:World) (ver:Nat) (hv:ver < 32768) :
    Calls P f #[.int .i64 (ver:Int)] w (RetOwn tU8 w (out ver)):=by
  refine fCa hf hb hn (by simp) fun a0 hs hd ha=>?_
  have k0:=ha 0 _ rfl
  simp only [List.getElem_toArray,List.getElem_cons_zero,List.getElem_cons_succ] at k0
  have ew:IntKind.i16.wrap (ver:Int)=(ver:Int):=by rw [wrap_i16'];split <;> omega
  refine SC.wp_seq (SC.wp_reg ?_)
  repeat (apply ops_1;(focus (simp (disch:=(try simp only [sPu]);omega) ;try rfl)))
  refine oNi (SC.wp_seq (SC.wp_reg (ops_cal oNP (cNP w) ?_)))
  rintro e w1 ⟨b,rfl,hb,hc,hbw⟩
  refine ⟨_,rfl,?_⟩
  have hsw:w.heap.size≤w1.heap.size:=hbw.size
  repeat (apply ops_1;(focus (simp (disch:=(try simp only [sPu]);omega) ;try rfl)))
  refine oNi ?_
  simp only [Exit.then]
  refine SC.wp_seq (SC.wp_reg ?_)
  iterate 3 (apply ops_1;(focus (simp (disch:=(try simp only [sPu]);omega) [h16,hI,k0,ew];try rfl)))
  refine ops_cal oSV (R:=fun e w'=>e=.returned (.tuple #[])∧w'=w1.setRow b (cs.setIfInBounds 0 (.int .i16 (ver:Int)))) ?_ ?_
  · refine Eq.mp (congrArg (fun z=>Calls P fSV z w1 _) ?_) (cSV w1 b hc (ver:Int))
    simp (disch:=(try simp only [sPu]);omega)
  rintro e w2 ⟨rfl,rfl⟩
  refine ⟨_,rfl,oNi ?_⟩
  have hc2:=setRow_heap w1 b _ (cs.setIfInBounds 0 (.int .i16 (ver:Int))) _ _ hc
  have hb2:Below w.heap.size w (w1.setRow b (cs.setIfInBounds 0 (.int .i16 (ver:Int)))):=below_setRow hbw hb _
  have hs2:(w1.setRow b (cs.setIfInBounds 0 (.int .i16 (ver:Int)))).heap.size=w1.heap.size:=by simp
  generalize w1.setRow b (cs.setIfInBounds 0 (.int .i16 (ver:Int)))=w3 at *
  simp only [Exit.then]
  refine SC.wp_seq (SC.wp_reg ?_)
  iterate 1 (apply ops_1;(focus (simp (disch:=(try simp only [sPu]);omega) ;try rfl)))
  refine ops_call oAT (cAT w3 b ver hc2 (by omega) (by omega)) (by simp (disch:=(try simp only [sPu]);omega)) ?_
  rintro e w4 ⟨dv,rfl,ho,hb4⟩
  refine ⟨dv,rfl,?_⟩
  repeat (apply ops_1;(focus (simp (disch:=(try simp only [sPu]);omega) ;try rfl)))
  refine oNi (SC.wp_ret (ret_tmp hr (by simp [dPu,hd]) ⟨dv,?_,own_down ho (by omega),hb2.trans (hb4.mono (by omega))⟩))
  simp (disch:=(try simp only [sPu]);omega)
def sc_LawNew (fMax fSp fVer fNew fDef fWr fSame TI M Fs_:Nat):SC:=.seq (.reg [⟨some 2,.assign (.const (.bool false)),none⟩]) (.seq (.reg [cal 5 fMax [],asg 3 5]) (.seq (.seq (.reg [mv 6 3,⟨some 7,.binOp .lss TI (.tmp 6) (.const (.int .i64 0)) TI,none⟩]) (.cond (.tmp 7) (.seq (.reg [⟨some 2,.assign (.const (.bool false)),none⟩]) .ret) .skip)) (.seq (.reg [cal 8 fSp [],⟨some 4,.alloc M,none⟩,⟨none,.store M (.tmp 4) (.tmp 8),none⟩]) (.seq (.dreg [mv 9 0,mv 10 3,cal 11 fVer [9,10],cal 12 fNew [11],ld 13 M 4,mv 14 0,mv 15 3,cal 16 fVer [14,15],fa 17 M 4 0,ld 18 Fs_ 17,cal 19 fDef [18],cal 20 fWr [13,16,19],cal 21 fSame [12,20],asg 2 21] [[],[],[0,1],[2,2],[],[],[],[5,6,3],[],[8],[9,7],[4,7,10,10],[3,11,11],[12,12,0,1,2,3,4,5,6,7,8,9,10,11,12]]) .ret))))
end
end Go.Proofs.Ytjbbohfaihkolaa.K
namespace Go.Proofs.Ytjbbohfaihkolaa.K
open Go Go.RowKit Go.Proofs.Ytjbbohfaihkolaa.T
attribute [local simp] eTm eCo pNo gTp gTn qv qcall vop iop
set_option linter.unusedVariables false
set_option linter.unusedSimpArgs false
set_option maxHeartbeats 2000000
section
variable {P:Program} {f:FuncId} {fn:Func}
end
end Go.Proofs.Ytjbbohfaihkolaa.K
namespace Go.Proofs.Ytjbbohfaihkolaa.K
open Go Go.RowKit Go.Proofs.Ytjbbohfaihkolaa.T
set_option linter.unusedSimpArgs false
set_option linter.unusedVariables false
section
variable {P:Program} {f:FuncId} {fn:Func}
end
end Go.Proofs.Ytjbbohfaihkolaa.K
namespace Go.Proofs.Ytjbbohfaihkolaa.K
open Go Go.RowKit Go.Proofs.Ytjbbohfaihkolaa.T
attribute [local simp] eTm eCo pNo gTp gTn qv qcall vop iop
set_option linter.unusedVariables false
set_option linter.unusedSimpArgs false
set_option maxHeartbeats 4000000
def sc_Each1 (T0 T1:Nat):SC:=.seq (.reg [⟨some 5,.assign (.const (.bool false)),none⟩]) (.seq (.dreg [ld 6 T0 2,mv 7 0,⟨some 8,.indexAddr T0 (.tmp 6) (.tmp 7),none⟩,ld 9 T1 8,ld 10 T0 2,mv 11 1,⟨some 12,.indexAddr T0 (.tmp 10) (.tmp 11),none⟩,ld 13 T1 12,⟨some 14,.binOp .lss T1 (.tmp 9) (.tmp 13) T1,none⟩,asg 5 14] [[],[],[0,1],[2],[],[],[4,5],[6],[3,7],[8,0,1,2,3,4,5,6,7,8]]) (.ret))
def sc_AppendEach1 (T0 T1 T2 F0:Nat):SC:=.seq (.reg [ld 5 T0 2,mv 6 0,cal 7 F0 [5,6],⟨none,.store T0 (.tmp 2) (.tmp 7),none⟩]) (.seq (.reg [ld 8 T0 2,mv 9 1,lenOp 10 T0 9,⟨some 11,.convert T1 T2 (.tmp 10),none⟩,cal 12 F0 [8,11],⟨none,.store T0 (.tmp 2) (.tmp 12),none⟩]) (.reg [ld 13 T0 2,mv 14 1,⟨some 15,.call ⟨.builtin .append,#[(.tmp 13),(.tmp 14)],#[T0,T0]⟩,none⟩,⟨none,.store T0 (.tmp 2) (.tmp 15),none⟩]))
section
variable {P:Program} {f:FuncId} {fn:Func}
theorem less_ok {T0 T1:Nat} (hm:P.follows .mixedOrders=true) (h0:oneB P T0=true) (hs0:sliceN P T0=some 1) (h1:oneB P T1=true) (hf:P.funcs[f]?=some fn) (hb:fn.body.map strip=some (sc_Each1 T0 T1)) (hn:fn.ntmps=15) (hr:fn.results=#[.tmp 5])
    (w:World) (q blk n cap i j x y:Nat) (hq:w.cell? ⟨q,0,none⟩=some (.slice (some ⟨blk,0,none⟩) n cap)) (hqs:q < w.heap.size) (hbs:blk < w.heap.size) (hi:i < n) (hj:j < n) (hx:w.cell? ⟨blk,i,none⟩=some (.int .u32 (x:Int))) (hy:w.cell? ⟨blk,j,none⟩=some (.int .u32 (y:Int))) :
    Calls P f #[.int .i64 (i:Int),.int .i64 (j:Int),.pointer (some ⟨q,0,none⟩)] w fun e w'=>e=.returned (.bool (decide (x < y)))∧w'=w.drew:=by
  refine fCa hf hb hn (by simp) fun a0 hs hd ha=>?_
  have k0:=ha 0 _ rfl
  have k1:=ha 1 _ rfl
  have k2:=ha 2 _ rfl
  simp only [List.getElem_toArray,List.getElem_cons_zero,List.getElem_cons_succ] at k0 k1 k2
  have hq':w.drew.cell? ⟨q,0,none⟩=some (.slice (some ⟨blk,0,none⟩) n cap):=hq
  have hx':w.drew.cell? ⟨blk,i,none⟩=some (.int .u32 (x:Int)):=hx
  have hy':w.drew.cell? ⟨blk,j,none⟩=some (.int .u32 (y:Int)):=hy
  have ei:(0:Int)≤(i:Int)∧(i:Int) < (n:Int):=by omega
  have ej:(0:Int)≤(j:Int)∧(j:Int) < (n:Int):=by omega
  refine SC.wp_seq (SC.wp_reg ?_)
  repeat (apply ops_1;(focus (simp (disch:=(try simp only [sPu]);omega) ;try rfl)))
  refine oNi (SC.wp_seq (SC.wp_dreg hm (Below w.heap.size w.drew) [(0,true),(1,true),(2,true),(3,true),(4,true),(5,true),(6,true),(7,true),(8,true),(9,true)] (by rfl) (by rfl) (by decide) (Below.refl _ _) ?_))
  repeat (apply dr_1;(focus rfl);(focus (simp (disch:=(try simp only [sPu]);omega) [h0,hs0,h1,k0,k1,k2,hq',hqs,hbs,ei,ej,hx',hy',hi,hj];try rfl)))
  refine dreg_nil ?_
  simp only [Exit.then]
  refine SC.wp_ret (ret_tmp hr (by simp [dPu,hd]) ⟨?_,rfl⟩)
  simp (disch:=(try simp only [sPu]);omega)
structure Turns (c:Nat) (dv dv':Value) (w w':World):Prop where
  os:w'.os=w.os
  tape:w'.tape=w.tape
  output:w'.output=w.output
  size:w.heap.size≤w'.heap.size
  block:∀ j,j < w.heap.size→j ≠ c→some j ≠ dv.ownBlock→w'.heap[j]?=w.heap[j]?
  own:dv'.ownBlock=dv.ownBlock∨∃ b,dv'.ownBlock=some b∧w.heap.size≤b
theorem Turns.refl (c:Nat) (dv:Value) (w:World):Turns c dv dv w w:=⟨rfl,rfl,rfl,Nat.le_refl _,fun _ _ _ _=>rfl,.inl rfl⟩
theorem Turns.trans {c:Nat} {d1 d2 d3:Value} {w1 w2 w3:World} (h:Turns c d1 d2 w1 w2) (h':Turns c d2 d3 w2 w3):Turns c d1 d3 w1 w3:=by
  have hs:=h.size
  refine ⟨h'.os.trans h.os,h'.tape.trans h.tape,h'.output.trans h.output,Nat.le_trans h.size h'.size,fun k hk hc hne=>?_,?_⟩
  · rw [h'.block k (by omega) hc ?_]
    · exact h.block k hk hc hne
    · rcases h.own with e | ⟨b,e,hb⟩
      · rw [e];exact hne
      · rw [e];intro e2;cases e2;omega
  · rcases h'.own with e | ⟨b,e,hb⟩
    · rcases h.own with e2 | ⟨b,e2,hb⟩
      · exact .inl (e.trans e2)
      · exact .inr ⟨b,e.trans e2,hb⟩
    · exact .inr ⟨b,e,by omega⟩
theorem Turns.of {B c:Nat} {d d':Value} {w w1:World} {cs:Array Value} (h:BelG B d d' w w1):Turns c d d' w (w1.setRow c cs):=by
  obtain ⟨h1,h2,h3⟩:=h
  exact ⟨h1.os,h1.tape,h1.output,by simpa using h1.size,fun j hj hc hne=>by rw [setRow_other _ _ _ _ hc];exact h2 j hj hne,h3⟩
theorem own_row {tU8:Nat} {w:World} {B c:Nat} {v:Value} {xs:Bytes} {cs:Array Value} (h:Own tU8 w B v xs) (hne:v.ownBlock ≠ some c):Own tU8 (w.setRow c cs) B v xs:=by
  refine ⟨h.1,h.2.imp id ?_⟩
  rintro ⟨g,cap,cur,h1,h2,h3,h4⟩
  refine ⟨g,cap,cur,h1,h2,?_,h4⟩
  rw [setRow_other]
  · exact h3
  · intro e;subst e;exact hne (by rw [h1];rfl)
theorem own_ltB {tU8:Nat} {w:World} {B b:Nat} {v:Value} {xs:Bytes} (h:Own tU8 w B v xs) (hb:v.ownBlock=some b):B≤b∧b < w.heap.size:=h.lt b hb
theorem own_one {tU8:Nat} {w:World} {B:Nat} {dv:Value} {xs:Bytes} (h:Own tU8 w B dv xs):dv.oneCell'=true:=by rcases h.2 with ⟨rfl,_⟩ | ⟨g,cap,cur,rfl,_⟩ <;> rfl
theorem bytesAt_turns {w w':World} {B c:Nat} {dv dv':Value} {base:Option Addr} {bs:Bytes} (h:BytesAt w (· < B) base bs) (hB:B≤w.heap.size) (hc:B≤c) (hd:∀ b,dv.ownBlock=some b→B≤b) (ht:Turns c dv dv' w w'):BytesAt w' (· < B) base bs :=
  bytesAt_mono h (fun _ h=>h) fun k hk=>ht.block k (by omega) (by omega) fun e=>by have:=hd k e.symm;omega
theorem cl_ok {T0 T1 T2 F0 tU8:Nat} (hT:u8sB P T0 tU8=true) (h0:oneB P T0=true) (hs0:sliceN P T0=some 1) (h1k:intK P T1=some .i64) (h2k:intK P T2=some .u32) (cU:∀ n:Nat,n < 4294967296→AP2 P tU8 F0 #[.int .u32 (n:Int)] (uvarint n))
    (hf:P.funcs[f]?=some fn) (hb:fn.body.map strip=some (sc_AppendEach1 T0 T1 T2 F0)) (hn:fn.ntmps=16) (hr:fn.results=#[])
    (w:World) (B c k cap:Nat) (dv:Value) (xs bs:Bytes) (base:Option Addr) (ho:Own tU8 w B dv xs) (hne:dv.ownBlock ≠ some c) (hc:w.heap[c]?=some (.cells #[dv] T0 (0,0))) (hBc:B≤c) (hk:k < 4294967296) (hbs:BytesAt w (· < B) base bs) (hm:bs.length≤most) (hl:xs.length+(wTag (k,bs)).length≤lim) :
    Calls P f #[.int .u32 (k:Int),.slice base bs.length cap,.pointer (some ⟨c,0,none⟩)] w fun e w'=>e=.returned (.tuple #[])∧∃ dv',w'.heap[c]?=some (.cells #[dv'] T0 (0,0))∧Own tU8 w' B dv' (xs ++ wTag (k,bs))∧dv'.ownBlock ≠ some c∧Turns c dv dv' w w':=by
  have hmost:most=32767:=rfl
  have hcs:c < w.heap.size:=(Array.getElem?_eq_some_iff.1 hc).1
  have hwt:wTag (k,bs)=uvarint k ++ uvarint bs.length ++ bs:=by simp only [wTag,whole_of hm]
  rw [hwt] at hl ⊢
  simp only [List.length_append] at hl
  have hcell:∀ {w:World} {v:Value},w.heap[c]?=some (.cells #[v] T0 (0,0))→w.cell? ⟨c,0,none⟩=some v:=fun h=>by rw [cell_of_row _ _ _ _ _ _ h];rfl
  have ownNe:∀ {d d':Value} {w1 w2:World},BelG B d d' w1 w2→d.ownBlock ≠ some c→c < w1.heap.size→d'.ownBlock ≠ some c:=fun h h1 h2=>by
    rcases h.2.2 with e | ⟨b,e,hb⟩
    · rw [e];exact h1
    · rw [e];intro e2;cases e2;omega
  refine fCa hf hb hn (by simp) fun a0 hs hd ha=>?_
  have k0:=ha 0 _ rfl
  have k1:=ha 1 _ rfl
  have k2:=ha 2 _ rfl
  simp only [List.getElem_toArray,List.getElem_cons_zero,List.getElem_cons_succ] at k0 k1 k2
  have hc0:=hcell hc
  refine SC.wp_seq (SC.wp_reg ?_)
  iterate 2 (apply ops_1;(focus (simp (disch:=(try simp only [sPu]);omega) [h0,k0,k2,hc0];try rfl)))
  refine ops_call (cU k hk).1 ((cU k hk).2 w B dv xs ho (by omega) (by omega)) (by simp (disch:=(try simp only [sPu]);omega) [k0]) ?_
  rintro e w1 ⟨d1,rfl,o1,g1,hs1⟩
  refine ⟨_,rfl,?_⟩
  have n1:=ownNe g1 hne hcs
  have hc1:w1.heap[c]?=some (.cells #[dv] T0 (0,0)):=by rw [g1.2.1 c hcs fun e=>hne e.symm];exact hc
  refine ops_stR (b:=c) (i:=0) (cs:=#[dv]) (v:=d1) h0 (by simp (disch:=(try simp only [sPu]);omega) [k2]) (by simp (disch:=(try simp only [sPu]);omega)) (own_one o1) hc1 (by simp) ?_
  have t1:Turns c dv d1 w (w1.setRow c (#[dv].setIfInBounds 0 d1)):=Turns.of g1
  have hr1:(w1.setRow c (#[dv].setIfInBounds 0 d1)).heap[c]?=some (.cells #[d1] T0 (0,0)):=setRow_heap _ _ _ _ _ _ hc1
  have o1':Own tU8 (w1.setRow c (#[dv].setIfInBounds 0 d1)) B d1 (xs ++ uvarint k):=own_row o1 n1
  generalize w1.setRow c (#[dv].setIfInBounds 0 d1)=w2 at t1 hr1 o1' ⊢
  refine oNi ?_
  simp only [Exit.then]
  have hc2:=hcell hr1
  have hcs2:c < w2.heap.size:=(Array.getElem?_eq_some_iff.1 hr1).1
  have hw32:IntKind.u32.wrap (bs.length:Int)=(bs.length:Int):=by
    rw [wrap_u32];omega
  refine SC.wp_seq (SC.wp_reg ?_)
  iterate 4 (apply ops_1;(focus (simp (disch:=(try simp only [sPu]);omega) [h0,k1,k2,hc2,hs0,h1k,h2k,hw32];try rfl)))
  refine ops_call (cU bs.length (by omega)).1 ((cU bs.length (by omega)).2 w2 B d1 (xs ++ uvarint k) o1' (by have:=t1.size;omega) (by rw [List.length_append];omega)) (by simp (disch:=(try simp only [sPu]);omega)) ?_
  rintro e w3 ⟨d3,rfl,o3,g3,hs3⟩
  refine ⟨_,rfl,?_⟩
  have n3:=ownNe g3 n1 hcs2
  have hc3:w3.heap[c]?=some (.cells #[d1] T0 (0,0)):=by rw [g3.2.1 c hcs2 fun e=>n1 e.symm];exact hr1
  refine ops_stR (b:=c) (i:=0) (cs:=#[d1]) (v:=d3) h0 (by simp (disch:=(try simp only [sPu]);omega) [k2]) (by simp (disch:=(try simp only [sPu]);omega)) (own_one o3) hc3 (by simp) ?_
  have t3:Turns c d1 d3 w2 (w3.setRow c (#[d1].setIfInBounds 0 d3)):=Turns.of g3
  have hr3:(w3.setRow c (#[d1].setIfInBounds 0 d3)).heap[c]?=some (.cells #[d3] T0 (0,0)):=setRow_heap _ _ _ _ _ _ hc3
  have o3':Own tU8 (w3.setRow c (#[d1].setIfInBounds 0 d3)) B d3 ((xs ++ uvarint k) ++ uvarint bs.length):=own_row o3 n3
  generalize w3.setRow c (#[d1].setIfInBounds 0 d3)=w4 at t3 hr3 o3' ⊢
  refine oNi ?_
  simp only [Exit.then]
  have t4:=t1.trans t3
  have hc4:=hcell hr3
  have hcs4:c < w4.heap.size:=(Array.getElem?_eq_some_iff.1 hr3).1
  have hbs4:BytesAt w4 (· < B) base bs:=bytesAt_turns hbs (by omega) hBc (fun b hb=>(own_ltB ho hb).1) t4
  obtain ⟨hu,i,hi,hz,hsz1,hby⟩:=u8s_of hT
  have hlim:lim=70368744177664:=rfl
  refine SC.wp_reg ?_
  iterate 2 (apply ops_1;(focus (simp (disch:=(try simp only [sPu]);omega) [h0,k1,k2,hc4];try rfl)))
  refine oNo rfl (opw_of fun o next Q hd2 hop hnn=>?_)
  obtain ⟨d5,w5,hrun,hown,hgr,hob⟩:=run_append_src2 (P:=P) w4 B T0 T0 o.type tU8 i (.int .u8 0) 1 1 hu hi hz hsz1 hby rfl (by decide) d3 _ (cellsOf ((xs ++ uvarint k) ++ uvarint bs.length)) o3' (.slice base bs.length cap) bs.length (cellsOf bs) (src_bytes hT hbs4 cap) (by simp only [maxLen,List.length_append];omega) (by simp only [List.length_append];omega) (by have:=t4.size;omega)
  have hop':o.op=.call ⟨.builtin .append,#[.tmp 13,.tmp 14],#[T0,T0]⟩:=stripOp_eq (by simp) hop
  have o5:Own tU8 w5 B d5 (((xs ++ uvarint k) ++ uvarint bs.length) ++ bs):=by
    unfold Own
    rw [cellsOf_append,List.length_append]
    exact hown
  have g5:BelG B d3 d5 w4 w5:=⟨(Below.refl B w4).grown hgr (by have:=t4.size;omega) (fun k hk=>own_u8 o3' k hk),hgr.block,hob⟩
  have hrun2:∀ av:Operand→Value,av (.tmp 13)=d3→av (.tmp 14)=.slice base bs.length cap→(execOp av o).run P w4=.ok (.value d5) w5:=by
    intro av e1 e2
    simp [execOp,hop',resolve,invoke,builtin,e1,e2,hrun]
  rw [hrun2 _ (by simp (disch:=(try simp only [sPu]);omega)) (by simp (disch:=(try simp only [sPu]);omega) [k1]),Oper.upon_value,hd2]
  refine hnn _ _ ?_
  have n5:=ownNe g5 n3 hcs4
  have hc5:w5.heap[c]?=some (.cells #[d3] T0 (0,0)):=by rw [g5.2.1 c hcs4 fun e=>n3 e.symm];exact hr3
  refine ops_stR (b:=c) (i:=0) (cs:=#[d3]) (v:=d5) h0 (by simp (disch:=(try simp only [sPu]);omega) [k2]) (by simp (disch:=(try simp only [sPu]);omega)) (own_one o5) hc5 (by simp) ?_
  have t5:Turns c d3 d5 w4 (w5.setRow c (#[d3].setIfInBounds 0 d5)):=Turns.of g5
  have hr5:(w5.setRow c (#[d3].setIfInBounds 0 d5)).heap[c]?=some (.cells #[d5] T0 (0,0)):=setRow_heap _ _ _ _ _ _ hc5
  have o5':Own tU8 (w5.setRow c (#[d3].setIfInBounds 0 d5)) B d5 (((xs ++ uvarint k) ++ uvarint bs.length) ++ bs):=own_row o5 n5
  refine oNi ?_
  refine bodyPost_end (v:=.tuple #[]) ?_ (by simp [dPu,hd]) ⟨rfl,d5,hr5,by simpa [List.append_assoc] using o5',n5,t4.trans t5⟩
  simp [results,hr]
variable {a:Act} {w:World} {K:Act→World→Prop} {d:Option Tmp} {g:Option (Nat × Bool)}
theorem opw_range {T r clock:Nat} {k e:TypeId} {x:Operand} {es:Array MapEntry} (hT:P.underlying T=some (.map k e)) (hx:a.eval x=.map (some r)) (hr:w.heap[r]?=some (.map es clock))
    (h:K (a.put d (.pointer (some ⟨w.heap.size,0,none⟩))) (w.alloc (.mapIter (some r) clock #[] clock))):opw P ⟨d,.range T x,g⟩ a w K :=
  oVa (by simp) (fun o ho=>by simp [execOp,ho,hx,run_range_map w T k e r es clock hT hr]) h
theorem opw_next {it r since c0 clock:Nat} {seen:Array Nat} {es:Array MapEntry} {x:Operand} (hx:a.eval x=.pointer (some ⟨it,0,none⟩)) (hi:w.heap[it]?=some (.mapIter (some r) since seen c0)) (hr:w.heap[r]?=some (.map es clock)) (hold:∀ x ∈ es.toList,x.born < since) (hsc:since≤c0)
    (h0:(leftOf es seen).size=0→K (a.put d (.tuple #[.bool false])) w)
    (h1:∀ e ∈ (leftOf es seen).toList,∀ w1:World,(w1=w∨w1=w.drew)→K (a.put d (.tuple #[.bool true,e.key,e.val])) (ChangeMaps.setBlock w1 it (.mapIter (some r) since (seen.push e.born) clock))):opw P ⟨d,.next x false,g⟩ a w K:=by
  refine opw_of fun o next Q hd hop hn=>?_
  have hop':=stripOp_eq (by simp) hop
  rcases run_next_at (P:=P) w o.type it r since c0 seen es clock hi hr hold hsc with ⟨h2,h3⟩ | ⟨e,he,w1,h2,h3⟩
  · rw [show (execOp a.eval o).run P w=.ok (.value (.tuple #[.bool false])) w by simp [execOp,hop',hx,h3],Oper.upon_value,hd]
    exact hn _ _ (h0 h2)
  · rw [show (execOp a.eval o).run P w=.ok (.value (.tuple #[.bool true,e.key,e.val])) (ChangeMaps.setBlock w1 it (.mapIter (some r) since (seen.push e.born) clock)) by simp [execOp,hop',hx,h3],Oper.upon_value,hd]
    exact hn _ _ (h1 e he w1 h2)
theorem opw_entry {it r since clock:Nat} {seen:Array Nat} {es:Array MapEntry} {e:MapEntry} {x:Operand} (hx:a.eval x=.pointer (some ⟨it,0,none⟩)) (hi:w.heap[it]?=some (.mapIter (some r) since (seen.push e.born) clock)) (hr:w.heap[r]?=some (.map es clock)) (he:e ∈ es.toList) (hnd:(es.toList.map (·.born)).Nodup)
    (h:K (a.put d (.tuple #[e.key,e.val])) w):opw P ⟨d,.entry x,g⟩ a w K :=
  oVa (by simp) (fun o ho=>by simp [execOp,ho,hx,run_entry_at w it r since seen es clock e hi hr he hnd]) h
theorem opw_callv {f : FuncId} {x : Operand} {args : Array Operand} {lb argsV : Array Value} {fn : Func} {R : Ending → World → Prop} (hx : a.eval x = .func (.func f) #[] lb) (hf : P.funcs[f]? = some fn) (hb : fn.body.isSome = true) (hnm : (fn.name == "runtime.NumGoroutine") = false)
    (hargs:args.map a.eval ++ lb=argsV) (hc:Calls P f argsV w R) (hR:∀ e w',R e w'→∃ v,e=.returned v∧K (a.put d v) w'):opw P ⟨d,.call ⟨.value x,args,#[]⟩,g⟩ a w K:=by
  refine opw_of fun o next Q hd ho hn=>?_
  have ho':∃ t,o.op=.call ⟨.value x,args,t⟩:=by
    unfold stripOp at ho
    split at ho
    · rename_i heq
      simp at ho
      obtain ⟨rfl,rfl⟩:=ho
      exact ⟨_,heq⟩
    · rename_i hne
      exact absurd ho (hne _ _ _)
  obtain ⟨t,ho'⟩:=ho'
  have hr:(execOp a.eval o).run P w=.ok (.enter f argsV) w:=by
    have h0:=run_callFunc (P:=P) (w:=w) (args:=argsV) hf hb hnm
    rw [← hargs] at h0 ⊢
    simp [execOp,ho',resolve,Deferred.ofValue,invoke,hx,h0]
  rw [hr,Oper.upon_enter]
  refine hc.mono ?_
  intro e w' hq
  obtain ⟨v,rfl,hk⟩:=hR e w' hq
  rw [hd]
  exact hn _ _ hk
theorem opw_lookup {T r k clock:Nat} {m x:Operand} {es:Array MapEntry} {F:Nat→Prop} {u:List (Nat × Bytes)} (hT:mapU P T=true) (hm:a.eval m=.map (some r)) (hx:a.eval x=.int .u32 (k:Int))
    (hr:w.heap[r]?=some (.map es clock)) (ht:TagsEs w F es clock u) {y:Nat × Bytes} (hy:y ∈ u) (hyk:y.1=k) (h:∀ base cap,BytesAt w F base y.2→K (a.put d (.slice base y.2.length cap)) w):opw P ⟨d,.lookup T m x false,g⟩ a w K:=by
  obtain ⟨-,kt,e,hu,hk⟩:=mapU_of hT
  have hik:MapKept.IsKey (.int .u32) (.int .u32 (k:Int)):=rfl
  have hks:∀ z ∈ es.toList,MapKept.IsKey (.int .u32) z.key:=fun z hz=>by
    have:z.key ∈ u.map fun x=>Value.int .u32 (x.1:Int):=ht.1.mem_iff.1 (List.mem_map_of_mem hz)
    obtain ⟨x,_,hxe⟩:=List.mem_map.1 this
    rw [← hxe]
    rfl
  rcases MapKept.findNow_spec hik es.toList 0 hks with ⟨h1,h2⟩ | ⟨j,e0,h1,h2,h3⟩
  · exfalso
    have:Value.int .u32 (y.1:Int) ∈ es.toList.map (·.key):=ht.1.mem_iff.2 (List.mem_map_of_mem (f:=fun x:Nat × Bytes=>Value.int .u32 (x.1:Int)) hy)
    obtain ⟨z,hz,hze⟩:=List.mem_map.1 this
    exact h2 z hz (by rw [hze,hyk])
  · have hj:es[j]?=some e0:=by simpa using h2
    have hmem:e0 ∈ es.toList:=Array.mem_toList_iff.2 (Array.mem_of_getElem? hj)
    obtain ⟨base,cap,hv,hb⟩:=ht.2.2 e0 hmem y hy (by rw [h3,hyk])
    refine oVa (v:=.slice base y.2.length cap) (by simp) (fun p hp=>?_) (h base cap hb)
    have hj':es.toList[j]?=some e0:=by simpa using hj
    simp [execOp,hp,hm,hx,Instr.lookup,run_underlying hu,MapKept.run_getObj_map hr,MapKept.run_checkKey hk hik,MapKept.run_findKey hk h1,Result.andThen,hj,hv]
end
end Go.Proofs.Ytjbbohfaihkolaa.K
