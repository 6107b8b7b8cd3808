/- Generic texts: R16 R17 R18 R19. No condition. -/
import Derived.Test.YtjbbohfaihkolaaN7
import Derived.ScopeJumps
import Derived.Laws.BytesArg
namespace Go.Proofs.Ytjbbohfaihkolaa.K
open Go Go.RowKit Go.Proofs.Ytjbbohfaihkolaa.T
attribute [local simp] eTm eCo pNo gTp gTn qv qcall vop iop
set_option linter.unusedSimpArgs false
set_option linter.unusedVariables false
set_option maxHeartbeats 2000000
section
variable {P:Program} {R:RTy} {f:FuncId} {fn:Func}
end
end Go.Proofs.Ytjbbohfaihkolaa.K
namespace Go.Proofs.Ytjbbohfaihkolaa.K
open Go Go.RowKit Go.Proofs.Ytjbbohfaihkolaa.T
attribute [local simp] eTm eCo pNo gTp gTn qv qcall vop iop
set_option linter.unusedSimpArgs false
set_option linter.unusedVariables false
set_option maxHeartbeats 2000000
section
variable {P:Program} {R:RTy} {f:FuncId} {fn:Func}
theorem SrcAt.take {w:World} {S:Option Nat} {base:Option Addr} {rest:Bytes} {n:Nat} (h:SrcAt w S base rest):SrcAt w S base (rest.take n):=by
  cases S with
  | none =>
    obtain ⟨rfl,rfl⟩:=h
    exact ⟨rfl,by simp⟩
  | some sb =>
    obtain ⟨o,rfl,h2⟩:=h
    refine ⟨o,rfl,fun j u hu=>h2 j u ?_⟩
    rw [List.getElem?_take] at hu
    split at hu
    · exact hu
    · simp at hu
theorem RC.ty {α:Type} {TR gb:Nat} {p:Rd α} {ty ty':Value→Prop} {ok:World→(Nat→Prop)→α→Value→Prop} (h:RC P TR gb f p ty ok) (hty:∀ v,ty v→ty' v):RC P TR gb f p ty' ok :=
  ⟨h.1,fun w S rb st h1 h2 h3=>(h.2 w S rb st h1 h2 h3).mono fun e w' ⟨v,q1,q2,q3,q4,q5⟩=>⟨v,q1,q2,q3,hty v q4,q5⟩⟩
end
end Go.Proofs.Ytjbbohfaihkolaa.K
namespace Go.Proofs.Ytjbbohfaihkolaa.K
open Go Go.RowKit Go.Proofs.Ytjbbohfaihkolaa.T
attribute [local simp] eTm eCo pNo gTp gTn qv qcall vop iop
set_option linter.unusedSimpArgs false
set_option linter.unusedVariables false
set_option maxHeartbeats 2000000
section
variable {P:Program} {a:Act} {w:World} {K:Act→World→Prop} {d:Option Tmp} {g:Option (Nat × Bool)}
end
section
variable {P:Program} {R:RTy} {f:FuncId} {fn:Func}
end
end Go.Proofs.Ytjbbohfaihkolaa.K
namespace Go.Proofs.Ytjbbohfaihkolaa.K
open Go Go.RowKit Go.Proofs.Ytjbbohfaihkolaa.T
attribute [local simp] eTm eCo pNo gTp gTn qv qcall vop iop
set_option linter.unusedSimpArgs false
set_option linter.unusedVariables false
set_option maxHeartbeats 2000000
section
variable {P:Program} {R:RTy} {f:FuncId} {fn:Func}
end
section
variable {P:Program} {TR gb:Nat} {f:FuncId}
end
end Go.Proofs.Ytjbbohfaihkolaa.K
