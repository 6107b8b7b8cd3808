/- Generic texts: H6 H5 H7 H8 H9 H10 H11 Y1. No condition. -/
import Derived.Test.YtcchakpiemhpeaaDoorN11
namespace Go.Proofs.YtcchakpiemhpeaaDoor.K
open Go Go.RowKit Go.Proofs.YtcchakpiemhpeaaDoor.T
attribute [local simp] eTm eCo pNo gTp gTn qv qcall vop iop
set_option linter.unusedSimpArgs false
set_option linter.unusedVariables false
set_option maxHeartbeats 4000000
section
variable {P:Program} {X:STy} {f:FuncId} {fn:Func}
end
end Go.Proofs.YtcchakpiemhpeaaDoor.K
namespace Go.Proofs.YtcchakpiemhpeaaDoor.K
open Go Go.RowKit Go.Proofs.YtcchakpiemhpeaaDoor.T
attribute [local simp] eTm eCo pNo gTp gTn qv qcall vop iop
set_option linter.unusedSimpArgs false
set_option linter.unusedVariables false
set_option maxHeartbeats 4000000
section
variable {P:Program} {f:FuncId} {fn:Func}
end
end Go.Proofs.YtcchakpiemhpeaaDoor.K
namespace Go.Proofs.YtcchakpiemhpeaaDoor.K
open Go Go.RowKit Go.Proofs.YtcchakpiemhpeaaDoor.T
attribute [local simp] eTm eCo pNo gTp gTn qv qcall vop iop
set_option linter.unusedSimpArgs false
set_option linter.unusedVariables false
set_option maxHeartbeats 4000000
section
variable {P:Program} {X:STy} {f:FuncId} {fn:Func}
end
end Go.Proofs.YtcchakpiemhpeaaDoor.K
namespace Go.Proofs.YtcchakpiemhpeaaDoor.K
open Go Go.RowKit Go.Proofs.YtcchakpiemhpeaaDoor.T
attribute [local simp] eTm eCo pNo gTp gTn qv qcall vop iop
set_option linter.unusedSimpArgs false
set_option linter.unusedVariables false
set_option maxHeartbeats 4000000
section
variable {P:Program} {a:Act} {w:World} {K:Act→World→Prop} {d:Option Tmp} {g:Option (Nat × Bool)}
end
section
variable {P:Program} {f:FuncId} {fn:Func}
end
end Go.Proofs.YtcchakpiemhpeaaDoor.K
namespace Go.Proofs.YtcchakpiemhpeaaDoor.K
open Go Go.RowKit Go.Proofs.YtcchakpiemhpeaaDoor.T
attribute [local simp] eTm eCo pNo gTp gTn qv qcall vop iop
set_option linter.unusedSimpArgs false
set_option linter.unusedVariables false
set_option maxHeartbeats 4000000
section
variable {P:Program} {f:FuncId} {fn:Func}
end
end Go.Proofs.YtcchakpiemhpeaaDoor.K
namespace Go.Proofs.YtcchakpiemhpeaaDoor.K
open Go Go.RowKit Go.Proofs.YtcchakpiemhpeaaDoor.T
attribute [local simp] eTm eCo pNo gTp gTn qv qcall vop iop
set_option linter.unusedSimpArgs false
set_option linter.unusedVariables false
set_option maxHeartbeats 4000000
section
variable {P:Program} {f:FuncId} {fn:Func}
end
end Go.Proofs.YtcchakpiemhpeaaDoor.K
namespace Go.Proofs.YtcchakpiemhpeaaDoor.K
open Go Go.RowKit Go.Proofs.YtcchakpiemhpeaaDoor.T
open Go.ChangeShapes Go.WideShapes Go.Deep
set_option linter.unusedSimpArgs false
set_option linter.unusedVariables false
theorem zero_sz {P:Program} {T n:Nat} (h:zeroB P T (fun l=>l.length == n)=true):∃ i z,P.info? T=some i∧i.zero=some z∧z.cells.size=n:=by
  obtain ⟨i,z,h1,h2,h3⟩:=zeroB_of h
  exact ⟨i,z,h1,h2,by simpa using h3⟩
theorem skip_ok {P:Program} {f:FuncId} {fn:Func} (hf:P.funcs[f]?=some fn) (hb:fn.body.map strip=some .skip) (hn:fn.ntmps=2) (hr:fn.results=#[]) (w:World) (v:Value):Calls P f #[v] w fun e w'=>e=.returned (.tuple #[])∧w'=w:=by
  refine fCa hf hb hn (by simp) fun a0 hs hd ha=>SC.wp_skip ?_
  exact ⟨by simp [hd],.tuple #[],by simp [results,hr],rfl,rfl⟩
end Go.Proofs.YtcchakpiemhpeaaDoor.K
namespace Go.Proofs.YtcchakpiemhpeaaDoor.K
open Go Go.RowKit Go.Proofs.YtcchakpiemhpeaaDoor.T
attribute [local simp] eTm eCo pNo gTp gTn qv qcall vop iop
set_option linter.unusedSimpArgs false
set_option linter.unusedVariables false
set_option maxHeartbeats 4000000
abbrev Ownd:=Bytes × List Int
def PartsAt (w:World) (F:Nat→Prop) (base:Option Addr) (xs:List Int):Prop:=xs=[]∨∃ b o,base=some ⟨b,o,none⟩∧F b∧∀ (j:Nat) (x:Int),xs[j]?=some x→w.cell? ⟨b,o+j,none⟩=some (.int .i32 x)
def OwndV (w:World) (F:Nat→Prop) (x:Ownd) (v1 v2:Value):Prop:=v1=.string ⟨x.1.toArray⟩∧∃ base cap,v2=.slice base x.2.length cap∧PartsAt w F base x.2
def ListAt (w:World) (F:Nat→Prop) (base:Option Addr) (l:List Ownd):Prop:=l=[]∨∃ b o,base=some ⟨b,o,none⟩∧F b∧∀ (j:Nat) (x:Ownd),l[j]?=some x→∃ v1 v2,w.cell? ⟨b,o+j * 2,none⟩=some v1∧w.cell? ⟨b,o+j * 2+1,none⟩=some v2∧OwndV w F x v1 v2
def StV (w:World) (F:Nat→Prop) (l:List Ownd) (g:Int) (v:Value):Prop:=∃ base cap,v=.agg #[.slice base l.length cap,.int .i32 g]∧ListAt w F base l
theorem PartsAt.mono {w w':World} {F F':Nat→Prop} {base:Option Addr} {xs:List Int} (h:PartsAt w F base xs) (hF:∀ k,F k→F' k) (hw:∀ k,F k→w'.heap[k]?=w.heap[k]?):PartsAt w' F' base xs:=by
  rcases h with h | ⟨b,o,rfl,hb,hc⟩
  · exact .inl h
  · exact .inr ⟨b,o,rfl,hF b hb,fun j x hx=>by rw [World.cell?_of_block (hw b hb)];exact hc j x hx⟩
theorem OwndV.mono {w w':World} {F F':Nat→Prop} {x:Ownd} {v1 v2:Value} (h:OwndV w F x v1 v2) (hF:∀ k,F k→F' k) (hw:∀ k,F k→w'.heap[k]?=w.heap[k]?):OwndV w' F' x v1 v2:=by
  obtain ⟨h1,base,cap,h2,h3⟩:=h
  exact ⟨h1,base,cap,h2,h3.mono hF hw⟩
theorem ListAt.mono {w w':World} {F F':Nat→Prop} {base:Option Addr} {l:List Ownd} (h:ListAt w F base l) (hF:∀ k,F k→F' k) (hw:∀ k,F k→w'.heap[k]?=w.heap[k]?):ListAt w' F' base l:=by
  rcases h with h | ⟨b,o,rfl,hb,hc⟩
  · exact .inl h
  · refine .inr ⟨b,o,rfl,hF b hb,fun j x hx=>?_⟩
    obtain ⟨v1,v2,c1,c2,hv⟩:=hc j x hx
    exact ⟨v1,v2,by rw [World.cell?_of_block (hw b hb)];exact c1,by rw [World.cell?_of_block (hw b hb)];exact c2,hv.mono hF hw⟩
theorem StV.mono {w w':World} {F F':Nat→Prop} {l:List Ownd} {g:Int} {v:Value} (h:StV w F l g v) (hF:∀ k,F k→F' k) (hw:∀ k,F k→w'.heap[k]?=w.heap[k]?):StV w' F' l g v:=by
  obtain ⟨base,cap,h1,h2⟩:=h
  exact ⟨base,cap,h1,h2.mono hF hw⟩
theorem StV.down {w w':World} {l:List Ownd} {g:Int} {v:Value} (h:StV w (· < w.heap.size) l g v) (hb:Below w.heap.size w w'):StV w' (· < w'.heap.size) l g v :=
  h.mono (fun k hk=>Nat.lt_of_lt_of_le hk hb.size) (fun k hk=>hb.block k hk)
section
variable {P:Program} {f:FuncId} {fn:Func}
end
end Go.Proofs.YtcchakpiemhpeaaDoor.K
