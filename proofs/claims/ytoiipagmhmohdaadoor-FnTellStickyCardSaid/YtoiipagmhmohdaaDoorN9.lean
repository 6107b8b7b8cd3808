/- Generic texts: R23 S18 R24 H1 Z3 H2 H3 H4 G1 G2. No condition. -/
import Derived.Test.YtoiipagmhmohdaaDoorN8
namespace Go.Proofs.YtoiipagmhmohdaaDoor.K
open Go Go.RowKit Go.Proofs.YtoiipagmhmohdaaDoor.T
attribute [local simp] eTm eCo pNo gTp gTn qv qcall vop iop
set_option linter.unusedVariables false
set_option linter.unusedSimpArgs false
set_option maxHeartbeats 2000000
section
variable {P:Program} {R:RTy} {f:FuncId} {fn:Func}
end
end Go.Proofs.YtoiipagmhmohdaaDoor.K
namespace Go.Proofs.YtoiipagmhmohdaaDoor.K
open Go Go.RowKit Go.Proofs.YtoiipagmhmohdaaDoor.T
attribute [local simp] eTm eCo pNo gTp gTn qv qcall vop iop
set_option linter.unusedSimpArgs false
set_option linter.unusedVariables false
set_option maxHeartbeats 4000000
section
variable {P:Program} {X:STy} {f:FuncId} {fn:Func}
end
end Go.Proofs.YtoiipagmhmohdaaDoor.K
namespace Go.Proofs.YtoiipagmhmohdaaDoor.K
open Go Go.RowKit Go.Proofs.YtoiipagmhmohdaaDoor.T
attribute [local simp] eTm eCo pNo gTp gTn qv qcall vop iop
set_option linter.unusedVariables false
set_option linter.unusedSimpArgs false
set_option maxHeartbeats 2000000
def sc_ReadFromW (F0:Nat):SC:=.seq (.reg [⟨some 4,.assign (.const .nilIface),none⟩]) (.seq (.reg [mv 5 0,mv 6 1,⟨some 7,.call ⟨.value (.func F0),#[(.tmp 5),(.tmp 6),(.const (.bool false))],#[]⟩,none⟩,asg 4 7]) (.ret))
section
variable {P:Program} {f:FuncId} {fn:Func}
theorem readFromW_ok {F0:Nat} (oF:FnOK P F0) (hf:P.funcs[f]?=some fn) (hb:fn.body.map strip=some (sc_ReadFromW F0)) (hn:fn.ntmps=8) (hr:fn.results=#[.tmp 4]) (w:World) (x y:Value) (R:Ending→World→Prop)
    (hc:Calls P F0 #[x,y,.bool false] w fun e w'=>∃ v,e=.returned v∧R e w'):Calls P f #[x,y] w R:=by
  refine fCa hf hb hn (by simp) fun a0 hs hd ha=>?_
  have h0:=ha 0 _ rfl
  have h1:=ha 1 _ rfl
  simp only [List.getElem_toArray,List.getElem_cons_zero,List.getElem_cons_succ] at h0 h1
  refine SC.wp_seq (SC.wp_reg ?_)
  repeat (apply ops_1;(focus (simp (disch:=(try simp only [sPu]);omega) ;try rfl)))
  refine oNi (SC.wp_seq (SC.wp_reg ?_))
  iterate 2 (apply ops_1;(focus (simp (disch:=(try simp only [sPu]);omega) [h0,h1];try rfl)))
  refine ops_call oF hc (by simp (disch:=(try simp only [sPu]);omega) [h0,h1]) ?_
  rintro e w1 ⟨v,rfl,hR⟩
  refine ⟨_,rfl,?_⟩
  repeat (apply ops_1;(focus (simp (disch:=(try simp only [sPu]);omega) ;try rfl)))
  refine oNi (SC.wp_ret (ret_tmp hr (by simp [dPu,hd]) ?_))
  simp (disch:=(try simp only [sPu]);omega)
  exact hR
def isErr:Value→Bool
  | .iface _ _=>true
  | _=>false
def ifaceT (P:Program) (T:Nat):Bool:=match P.underlying T with
  | some (.interface _)=>true
  | _=>false
theorem opw_isErr {a:Act} {w:World} {K:Act→World→Prop} {d:Option Tmp} {g:Option (Nat × Bool)} {T T':Nat} {x:Operand} {v:Value} (hT:ifaceT P T=true) (hx:a.eval x=v) (hv:v=.nilIface∨∃ t y,v=.iface t y) (h:K (a.put d (.bool (isErr v))) w) :
    opw P ⟨d,.binOp .neq T x (.const .nilIface) T',g⟩ a w K:=by
  unfold ifaceT at hT
  split at hT <;> try (simp at hT;done)
  rename_i ms hu
  refine oVa (v:=.bool (isErr v)) (by simp) (fun p hp=>?_) h
  have he:(Op.equal T v .nilIface).run P w=.ok (!isErr v) w:=by
    have hd:∀ d,(Op.equalIn (d+1) T v .nilIface).run P w=.ok (!isErr v) w:=fun d=>by
      rcases hv with rfl | ⟨t,y,rfl⟩ <;> simp [Op.equalIn,run_underlying hu,isErr]
    exact hd 9999
  rcases hv with rfl | ⟨t,y,rfl⟩ <;> simp [execOp,hp,hx,eCo,eqGuard,binOp,he,isErr]
theorem own_base {tU8:Nat} {w:World} {B B':Nat} {dv:Value} {xs:Bytes} (h:Own tU8 w B dv xs) (hB:B'≤B):Own tU8 w B' dv xs:=by
  obtain ⟨h1,h2 | ⟨g,cap,cur,e1,e2,e3⟩⟩:=h
  · exact ⟨h1,.inl h2⟩
  · exact ⟨h1,.inr ⟨g,cap,cur,e1,Nat.le_trans hB e2,e3⟩⟩
end
end Go.Proofs.YtoiipagmhmohdaaDoor.K
namespace Go.Proofs.YtoiipagmhmohdaaDoor.K
open Go Go.RowKit Go.Proofs.YtoiipagmhmohdaaDoor.T
attribute [local simp] eTm eCo pNo gTp gTn qv qcall vop iop
set_option linter.unusedSimpArgs false
set_option linter.unusedVariables false
set_option maxHeartbeats 4000000
def zz (x:Nat):Int:=if x % 2=0 then ((x / 2:Nat):Int) else -((x / 2:Nat):Int) - 1
section
variable {P:Program} {a:Act} {w:World} {K:Act→World→Prop} {d:Option Tmp} {g:Option (Nat × Bool)}
end
section
variable {P:Program} {R:RTy} {f:FuncId} {fn:Func}
end
end Go.Proofs.YtoiipagmhmohdaaDoor.K
namespace Go.Proofs.YtoiipagmhmohdaaDoor.K
open Go Go.RowKit Go.Proofs.YtoiipagmhmohdaaDoor.T
set_option linter.unusedSimpArgs false
set_option linter.unusedVariables false
section
variable {P:Program} {f:FuncId} {fn:Func}
theorem ops_callg {all:List SOp} {a:Act} {w:World} {t g j dj:Nat} {want:Bool} {args:Array Operand} {argsV:Array Value} {r:List SOp} {K:Act→World→Prop} {R:Ending→World→Prop} (hj:(all[j]?).bind (·.dst)=some dj) (hlt:dj < a.tmps.size) (hb:getT a dj=.bool want) (hf:FnOK P g) (hc:Calls P g argsV w R) (hargs:args.map a.eval=argsV)
    (hR:∀ e w',R e w'→∃ v,e=.returned v∧opsw P all r K (a.put (some t) v) w'):opsw P all (⟨some t,.call ⟨.value (.func g),args,#[]⟩,some (j,want)⟩ :: r) K a w:=by
  obtain ⟨fn,h1,h2,h3⟩:=hf
  refine ⟨dj,want,hj,hlt,.inl hb,?_⟩
  rw [if_pos rfl]
  exact opw_call (R:=R) h1 h2 h3 (by rw [hargs];exact hc) hR
theorem own_src {tU8:Nat} {w:World} {B:Nat} {dv:Value} {xs:Bytes} (h:Own tU8 w B dv xs):∃ S base cap,dv=.slice base xs.length cap∧SrcAt w S base xs∧∀ sb,S=some sb→B≤sb∧sb < w.heap.size:=by
  obtain ⟨ho1,⟨e1,e2⟩ | ⟨g,c3,cur,e1,e2,e3,e4,e5,e6,e7⟩⟩:=h
  · have hnil:xs=[]:=List.length_eq_zero_iff.1 e2
    subst hnil
    exact ⟨none,none,0,e1,⟨rfl,rfl⟩,fun sb h=>by cases h⟩
  · refine ⟨some g,some ⟨g,0,none⟩,c3,e1,⟨0,rfl,fun j u hu=>?_⟩,fun sb h=>by cases h;exact ⟨e2,(Array.getElem?_eq_some_iff.1 e3).1⟩⟩
    rw [cell_of_row _ _ _ _ _ _ e3,Nat.zero_add]
    have hj:(cellsOf xs)[j]?=some (cell u):=by simp [cellsOf,hu]
    rw [← e7,List.getElem?_take] at hj
    split at hj
    · rwa [Array.getElem?_toList] at hj
    · cases hj
end
end Go.Proofs.YtoiipagmhmohdaaDoor.K
namespace Go.Proofs.YtoiipagmhmohdaaDoor.K
open Go Go.RowKit Go.Proofs.YtoiipagmhmohdaaDoor.T
attribute [local simp] eTm eCo pNo gTp gTn qv qcall vop iop
set_option linter.unusedSimpArgs false
set_option linter.unusedVariables false
set_option maxHeartbeats 4000000
section
variable {P:Program} {f:FuncId} {fn:Func}
end
end Go.Proofs.YtoiipagmhmohdaaDoor.K
namespace Go.Proofs.YtoiipagmhmohdaaDoor.K
open Go Go.RowKit Go.Proofs.YtoiipagmhmohdaaDoor.T
attribute [local simp] eTm eCo pNo gTp gTn qv qcall vop iop
set_option linter.unusedSimpArgs false
set_option linter.unusedVariables false
set_option maxHeartbeats 4000000
section
variable {P:Program} {f:FuncId} {fn:Func}
end
end Go.Proofs.YtoiipagmhmohdaaDoor.K
namespace Go.Proofs.YtoiipagmhmohdaaDoor.K
open Go Go.RowKit Go.Proofs.YtoiipagmhmohdaaDoor.T
attribute [local simp] eTm eCo pNo gTp gTn qv qcall vop iop
set_option linter.unusedSimpArgs false
set_option linter.unusedVariables false
set_option maxHeartbeats 4000000
def sc_own (T0:Nat):SC:=.seq (.reg [⟨some 2,.assign (.const (.slice none 0 0)),none⟩]) (.seq (.reg [mv 3 0,⟨some 4,.call ⟨.builtin .append,#[(.const (.slice none 0 0)),(.tmp 3)],#[T0,T0]⟩,none⟩,asg 2 4]) (.ret))
section
variable {P:Program} {f:FuncId} {fn:Func}
theorem src_of {T tU8:Nat} {w:World} {S:Option Nat} {base:Option Addr} {src:Bytes} {cap:Nat} (hT:u8sB P T tU8=true) (hsr:SrcAt w S base src):Src P 1 T (.slice base src.length cap) src.length (cellsOf src) w:=by
  have hu8:=(u8s_of hT).1
  cases S with
  | none =>
    obtain ⟨rfl,rfl⟩:=hsr
    exact Src.ofNil w hu8 _
  | some sb =>
    obtain ⟨o,rfl,hc⟩:=hsr
    refine Src.ofSlice w hu8 ⟨sb,o,none⟩ src.length cap (cellsOf src) (by simp [cLen]) (fun j u hj=>?_) (fun u hu=>?_)
    · rw [add_none]
      simp only [cellsOf,List.getElem?_map,Option.map_eq_some_iff] at hj
      obtain ⟨u',hu',rfl⟩:=hj
      exact hc j u' hu'
    · simp only [cellsOf,List.mem_map] at hu
      obtain ⟨u',_,rfl⟩:=hu
      rfl
def OwnC (P:Program) (tU8:Nat) (F:FuncId):Prop:=FnOK P F∧∀ (w:World) (S:Option Nat) (base:Option Addr) (src:Bytes) (cap:Nat),SrcAt w S base src→src.length≤lim→Calls P F #[.slice base src.length cap] w (RetOwn tU8 w src)
theorem own_ok {T0 tU8 : Nat} (hT : u8sB P T0 tU8 = true) (hf : P.funcs[f]? = some fn) (hb : fn.body.map strip = some (sc_own T0)) (hnm : (fn.name == "runtime.NumGoroutine") = false) (hn : fn.ntmps = 5) (hr : fn.results = #[.tmp 2]) : OwnC P tU8 f := by
  refine ⟨fnOK_of hf hb hnm,fun w S base src cap hsr hlen=>?_⟩
  refine fCa hf hb hn (by simp) fun a0 hs hd ha=>?_
  have h0:=ha 0 _ rfl
  simp only [List.getElem_toArray,List.getElem_cons_zero,List.getElem_cons_succ] at h0
  refine SC.wp_seq (SC.wp_reg ?_)
  repeat (apply ops_1;(focus (simp (disch:=(try simp only [sPu]);omega) ;try rfl)))
  refine oNi (SC.wp_seq (SC.wp_reg ?_))
  iterate 1 (apply ops_1;(focus (simp (disch:=(try simp only [sPu]);omega) [h0];try rfl)))
  refine oNo rfl (opw_appendU8 (B:=w.heap.size) (xs:=[]) (bs:=src) (dv:=.slice none 0 0) (xv:=.slice base src.length cap) hT (eCo _ _) (by simp (disch:=(try simp only [sPu]);omega)) rfl (World.ownsRow_nil _ _ _ _) (Nat.le_refl _) (src_of hT hsr) (by simpa using hlen) fun dv w3 ho hb3 hbs3 _=>?_)
  rw [List.nil_append] at ho
  repeat (apply ops_1;(focus (simp (disch:=(try simp only [sPu]);omega) ;try rfl)))
  refine oNi (SC.wp_ret ?_)
  try simp only [Exit.then]
  exact ret_tmp hr (by simp [dPu,hd]) ⟨dv,by simp (disch:=(try simp only [sPu]);omega),ho,hb3⟩
end
end Go.Proofs.YtoiipagmhmohdaaDoor.K
namespace Go.Proofs.YtoiipagmhmohdaaDoor.K
open Go Go.RowKit Go.Proofs.YtoiipagmhmohdaaDoor.T
attribute [local simp] eTm eCo pNo gTp gTn qv qcall vop iop
set_option linter.unusedVariables false
set_option linter.unusedSimpArgs false
set_option maxHeartbeats 2000000
structure KTop where
  S:Nat
  size:Nat
  d:Nat
  t:Nat
  N:Nat
  fs:Fs
def KTop.chk (P:Program) (I:RIds) (M:KTop):Bool :=
  okRFs P I (rCtx none) M.S M.fs && layFs 1 M.size M.fs && decide (1≤M.size∧10+rVs M.fs≤M.t∧M.t+14+rFT (rCtx none) M.fs+1≤M.N) && fieldB P M.S 0 0 && intB P I.tI16 .i16 && oneB P I.tI16 && rdNew P I.tRd
section
variable {P:Program} {I:RIds} {M:KTop} {B:Nat} {G:List (Nat × Bytes)→Prop} {err:Value} {Gl:World→Prop} {gb:Nat} {f:FuncId} {fn:Func} {w0:World}
end
end Go.Proofs.YtoiipagmhmohdaaDoor.K
namespace Go.Proofs.YtoiipagmhmohdaaDoor.K
open Go Go.RowKit Go.Proofs.YtoiipagmhmohdaaDoor.T
attribute [local simp] eTm eCo pNo gTp gTn qv qcall vop iop
set_option linter.unusedVariables false
set_option linter.unusedSimpArgs false
set_option maxHeartbeats 4000000
section
variable {P:Program} {f:FuncId} {fn:Func}
end
end Go.Proofs.YtoiipagmhmohdaaDoor.K
