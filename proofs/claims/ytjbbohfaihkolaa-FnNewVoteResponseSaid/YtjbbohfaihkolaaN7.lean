/- Generic texts: R11 R12 R13 R14 R15. No condition. -/
import Derived.Test.YtjbbohfaihkolaaN6
namespace Go.Proofs.Ytjbbohfaihkolaa.K
open Go Go.RowKit Go.Proofs.Ytjbbohfaihkolaa.T
set_option linter.unusedVariables false
set_option linter.unusedSimpArgs false
section
variable {X:RX}
end
end Go.Proofs.Ytjbbohfaihkolaa.K
namespace Go.Proofs.Ytjbbohfaihkolaa.K
open Go Go.RowKit Go.Proofs.Ytjbbohfaihkolaa.T
attribute [local simp] eTm eCo pNo gTp gTn qv qcall vop iop
set_option linter.unusedSimpArgs false
set_option linter.unusedVariables false
set_option maxHeartbeats 1000000
structure RTy where
  TR:Nat
  TB:Nat
  U8:Nat
  I:Nat
  Bo:Nat
section
variable {P:Program} {R:RTy} {a:Act} {w:World} {K:Act→World→Prop} {d:Option Tmp} {g:Option (Nat × Bool)}
theorem ops_stR {all r:List SOp} {T b i:Nat} {x y:Operand} {v:Value} {cs:Array Value} {E:TypeId} (h1:oneB P T=true) (hx:a.eval x=.pointer (some ⟨b,i,none⟩)) (hy:a.eval y=v) (hv:v.oneCell'=true) (hrow:w.heap[b]?=some (.cells cs E (0,0))) (hi:i < cs.size)
    (hk:opsw P all r K a (w.setRow b (cs.setIfInBounds i v))):opsw P all (⟨none,.store T x y,none⟩ :: r) K a w:=by
  refine oNo rfl (opw_store_one (ad:=⟨b,i,none⟩) (v:=v) (v0:=cs[i]) h1 hx hy hv (by rw [cell_of_row _ _ _ _ _ _ hrow];exact Array.getElem?_eq_getElem hi) (by simp [World.frozen?,hrow]) ?_)
  rw [pNo,setCell_eq_setRow _ _ _ _ _ _ _ hrow]
  exact hk
end
def SrcAt (w:World) (S:Option Nat) (base:Option Addr) (rest:Bytes):Prop :=
  match S with
  | none=>base=none∧rest=[]
  | some sb=>∃ o,base=some ⟨sb,o,none⟩∧∀ j u,rest[j]?=some u→w.cell? ⟨sb,o+j,none⟩=some (cell u)
theorem SrcAt.frame {w w':World} {S:Option Nat} {base:Option Addr} {rest:Bytes} (h:SrcAt w S base rest) (hS:∀ sb,S=some sb→w'.heap[sb]?=w.heap[sb]?):SrcAt w' S base rest:=by
  cases S with
  | none=>exact h
  | some sb =>
    obtain ⟨o,h1,h2⟩:=h
    exact ⟨o,h1,fun j u hu=>by rw [World.cell?_of_block (hS sb rfl)];exact h2 j u hu⟩
theorem SrcAt.drop {w:World} {S:Option Nat} {base:Option Addr} {rest:Bytes} {cap n:Nat} (h:SrcAt w S base rest) (hn:n≤rest.length) (hc:rest.length≤cap):SrcAt w S (if cap=n then base else base.map (·.add n)) (rest.drop n):=by
  cases S with
  | none =>
    obtain ⟨rfl,rfl⟩:=h
    simp [SrcAt]
  | some sb =>
    obtain ⟨o,rfl,h2⟩:=h
    by_cases e:cap=n
    · rw [if_pos e]
      refine ⟨o,rfl,fun j u hu=>?_⟩
      rw [List.drop_of_length_le (by omega)] at hu
      simp at hu
    · rw [if_neg e]
      refine ⟨o+n,by simp [add_none],fun j u hu=>?_⟩
      rw [List.getElem?_drop] at hu
      rw [show o+n+j=o+(n+j) by omega]
      exact h2 _ u hu
section
variable {P:Program} {R:RTy} {f:FuncId} {fn:Func}
end
end Go.Proofs.Ytjbbohfaihkolaa.K
namespace Go.Proofs.Ytjbbohfaihkolaa.K
open Go Go.RowKit Go.Proofs.Ytjbbohfaihkolaa.T
attribute [local simp] eTm eCo pNo gTp gTn qv qcall vop iop
set_option linter.unusedSimpArgs false
set_option linter.unusedVariables false
set_option maxHeartbeats 2000000
end Go.Proofs.Ytjbbohfaihkolaa.K
namespace Go.Proofs.Ytjbbohfaihkolaa.K
open Go Go.RowKit Go.Proofs.Ytjbbohfaihkolaa.T
attribute [local simp] eTm eCo pNo gTp gTn qv qcall vop iop
set_option linter.unusedSimpArgs false
set_option linter.unusedVariables false
set_option maxHeartbeats 2000000
section
variable {P:Program} {R:RTy} {f:FuncId} {fn:Func}
theorem RC.map {α β:Type} {TR gb:Nat} {p:Rd α} {g:α→β} {ty ty':Value→Prop} {ok:World→(Nat→Prop)→α→Value→Prop} {ok':World→(Nat→Prop)→β→Value→Prop} (h:RC P TR gb f p ty ok) (hty:∀ v,ty v→ty' v) (hok:∀ w F x v,ok w F x v→ok' w F (g x) v) :
    RC P TR gb f (rThen p fun x=>rOk (g x)) ty' ok':=by
  refine ⟨h.1,fun w S rb st h1 h2 h3=>(h.2 w S rb st h1 h2 h3).mono ?_⟩
  rintro e w' ⟨v,rfl,q1,q2,q3,q4⟩
  have ea:after st (rThen p fun x=>rOk (g x))=after st p:=by
    cases st with
    | none=>rfl
    | some b =>
      cases hp:p b with
      | none=>simp [after,rThen,hp]
      | some z=>rw [after_then _ _ _ rfl hp,after_ok hp];exact after_rOk _ _
  refine ⟨v,rfl,by rw [ea];exact q1,q2,hty v q3,fun b x r hst hpx=>?_⟩
  obtain ⟨y,r1,k1,k2⟩:=rThen_some hpx
  obtain ⟨rfl,rfl⟩:=rOk_some k2
  exact hok _ _ _ _ (q4 b y _ hst k1)
end
end Go.Proofs.Ytjbbohfaihkolaa.K
namespace Go.Proofs.Ytjbbohfaihkolaa.K
open Go Go.RowKit Go.Proofs.Ytjbbohfaihkolaa.T
attribute [local simp] eTm eCo pNo gTp gTn qv qcall vop iop
set_option linter.unusedSimpArgs false
set_option linter.unusedVariables false
set_option maxHeartbeats 2000000
section
variable {P:Program} {R:RTy} {f:FuncId} {fn:Func}
end
end Go.Proofs.Ytjbbohfaihkolaa.K
