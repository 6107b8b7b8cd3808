/- Generic texts: R25 R26 R27 R28 S14 S15 R29. No condition. -/
import Derived.Test.YtoiipagmhmohdaaDoorN9
import Derived.Great.BuildSlice
import Derived.Great.FillDense
namespace Go.Proofs.YtoiipagmhmohdaaDoor.K
open Go Go.RowKit Go.Proofs.YtoiipagmhmohdaaDoor.T
set_option linter.unusedVariables false
set_option linter.unusedSimpArgs false
set_option maxHeartbeats 2000000
def cells2 (rows:List (Value × Value)):List Value:=rows.flatMap fun r=>[r.1,r.2]
theorem cells2_get:∀ (rows:List (Value × Value)) (j:Nat),(cells2 rows)[j]?=(rows[j / 2]?).map fun r=>if j % 2=0 then r.1 else r.2
  | [],j=>by simp [cells2]
  | r :: l,0=>by simp [cells2]
  | r :: l,1=>by simp [cells2]
  | r :: l,j+2=>by
    have ih:=cells2_get l j
    have:(cells2 (r :: l))[j+2]?=(cells2 l)[j]?:=by simp [cells2]
    rw [this,ih,show (j+2) / 2=j / 2+1 by omega,show (j+2) % 2=j % 2 by omega]
    simp
def Out2 (w:World) (B T:Nat) (v:Value) (rows:List (Value × Value)):Prop:=w.ownsRow B T 2 v rows.length (cells2 rows)
theorem Out2.nil (w:World) (B T:Nat):Out2 w B T (.slice none 0 0) []:=World.ownsRow_nil _ _ _ _
theorem Out2.at {w:World} {B T:Nat} {v:Value} {rows:List (Value × Value)} (h:Out2 w B T v rows):∃ base cap,v=.slice base rows.length cap∧rows.length≤cap ∧
    (rows=[]∨∃ g cur,base=some ⟨g,0,none⟩∧B≤g∧w.heap[g]?=some (.cells cur T (0,0))∧cur.size=cap * 2∧cur.toList.take (rows.length * 2)=cells2 rows):=by
  obtain ⟨h1,⟨rfl,h2⟩ | ⟨g,cap,cur,rfl,e2,e3,e4,e5,e6,e7⟩⟩:=h
  · refine ⟨none,0,by rw [h2],by omega,.inl (List.length_eq_zero_iff.1 h2)⟩
  · exact ⟨_,cap,rfl,e4,.inr ⟨g,cur,rfl,e2,e3,e6,e7⟩⟩
theorem Out2.read {w:World} {B T:Nat} {v:Value} {rows:List (Value × Value)} (h:Out2 w B T v rows) {k:Nat} {r:Value × Value} (hk:rows[k]?=some r):∃ g cap,v=.slice (some ⟨g,0,none⟩) rows.length cap∧B≤g∧w.cell? ⟨g,k * 2,none⟩=some r.1∧rangeV w g (k * 2) 2=some [r.1,r.2]:=by
  obtain ⟨base,cap,rfl,hc,h | ⟨g,cur,rfl,e2,e3,e4,e5⟩⟩:=h.at
  · subst h
    simp at hk
  · have hkl:k < rows.length:=(List.getElem?_eq_some_iff.1 hk).1
    have hget:∀ j,j < rows.length * 2→w.cell? ⟨g,j,none⟩=(cells2 rows)[j]?:=fun j hj=>by
      rw [cell_of_row _ _ _ _ _ _ e3,← e5,List.getElem?_take,if_pos hj,Array.getElem?_toList]
    have c1:w.cell? ⟨g,k * 2,none⟩=some r.1:=by
      rw [hget _ (by omega),cells2_get,show k * 2 / 2=k by omega,hk]
      simp
    have c2:w.cell? ⟨g,k * 2+1,none⟩=some r.2:=by
      rw [hget _ (by omega),cells2_get,show (k * 2+1) / 2=k by omega,hk]
      simp [show (k * 2+1) % 2=1 by omega]
    refine ⟨g,cap,rfl,e2,c1,?_⟩
    have:=rangeV_of (w:=w) (b:=g) [r.1,r.2] (k * 2) (fun j v hj=>by
      match j,hj with
      | 0,hj=>simp at hj;subst hj;simpa using c1
      | 1,hj=>simp at hj;subst hj;exact c2)
    exact this
section
variable {P:Program} {a:Act} {w:World} {K:Act→World→Prop} {d:Option Tmp} {g:Option (Nat × Bool)}
end
end Go.Proofs.YtoiipagmhmohdaaDoor.K
namespace Go.Proofs.YtoiipagmhmohdaaDoor.K
open Go Go.RowKit Go.Proofs.YtoiipagmhmohdaaDoor.T
set_option linter.unusedVariables false
set_option linter.unusedSimpArgs false
set_option maxHeartbeats 4000000
section
variable {P:Program} {X:STy} {f fKn:FuncId} {fn:Func}
end
end Go.Proofs.YtoiipagmhmohdaaDoor.K
namespace Go.Proofs.YtoiipagmhmohdaaDoor.K
open Go Go.RowKit Go.Proofs.YtoiipagmhmohdaaDoor.T
attribute [local simp] eTm eCo pNo gTp gTn qv qcall vop iop
set_option linter.unusedVariables false
set_option linter.unusedSimpArgs false
set_option maxHeartbeats 4000000
section
variable {P:Program} {X:STy} {f fKn:FuncId} {fn:Func}
theorem Out2.frame {w w':World} {B T:Nat} {v:Value} {rows:List (Value × Value)} (h:Out2 w B T v rows) (hb:∀ k,B≤k→k < w.heap.size→w'.heap[k]?=w.heap[k]?):Out2 w' B T v rows:=by
  refine ⟨h.1,h.2.imp id ?_⟩
  rintro ⟨g,cap,cur,q1,q2,q3,q4⟩
  exact ⟨g,cap,cur,q1,q2,by rw [hb g q2 (Array.getElem?_eq_some_iff.1 q3).1];exact q3,q4⟩
end
end Go.Proofs.YtoiipagmhmohdaaDoor.K
namespace Go.Proofs.YtoiipagmhmohdaaDoor.K
open Go Go.RowKit Go.Proofs.YtoiipagmhmohdaaDoor.T
attribute [local simp] eTm eCo pNo gTp gTn qv qcall vop iop
set_option linter.unusedVariables false
set_option linter.unusedSimpArgs false
set_option maxHeartbeats 4000000
section
variable {P:Program} {X:STy} {f:FuncId} {fn:Func}
end
end Go.Proofs.YtoiipagmhmohdaaDoor.K
namespace Go.Proofs.YtoiipagmhmohdaaDoor.K
open Go Go.RowKit Go.Proofs.YtoiipagmhmohdaaDoor.T
set_option linter.unusedSimpArgs false
set_option linter.unusedVariables false
set_option maxHeartbeats 4000000
section
variable {P:Program} {X:STy} {f:FuncId} {fn:Func}
def FsRows (w:World) (F:Nat→Prop):Fs→List (List Value)→Prop
  | .nil,rows=>rows=[]
  | .cons h ty r,rows=>∃ of_ sub rest,rows=[.int .i64 (kindOf ty),.int .i64 h.from_,.int .i64 h.to,.int .i64 h.null,.int .i64 (-1),.int .i64 h.dflt,.int .i64 of_,sub] :: rest∧sub.oneCell'=true∧ofOK of_ ty∧SubV w F ty sub∧FsRows w F r rest
theorem FsRows.mono {w0 w:World} {F F':Nat→Prop} (hF:∀ k,F k→F' k) (hw:∀ k,F k→w.heap[k]?=w0.heap[k]?):∀ (fs:Fs) (rows:List (List Value)),FsRows w0 F fs rows→FsRows w F' fs rows
  | .nil,_,h=>h
  | .cons h ty r,rows,hh=>by
    simp only [FsRows] at hh ⊢
    obtain ⟨of_,sub,rest,h1,h2,h3,h4,h5⟩:=hh
    exact ⟨of_,sub,rest,h1,h2,h3,SubV.mono hF hw ty sub h4,FsRows.mono hF hw r rest h5⟩
end
end Go.Proofs.YtoiipagmhmohdaaDoor.K
namespace Go.Proofs.YtoiipagmhmohdaaDoor.K
open Go Go.RowKit Go.Proofs.YtoiipagmhmohdaaDoor.T
set_option linter.unusedSimpArgs false
set_option linter.unusedVariables false
set_option maxHeartbeats 4000000
section
variable {P:Program} {X:STy} {f:FuncId} {fn:Func}
end
end Go.Proofs.YtoiipagmhmohdaaDoor.K
namespace Go.Proofs.YtoiipagmhmohdaaDoor.K
open Go Go.RowKit Go.Proofs.YtoiipagmhmohdaaDoor.T
attribute [local simp] eTm eCo pNo gTp gTn qv qcall vop iop
set_option linter.unusedVariables false
set_option linter.unusedSimpArgs false
set_option maxHeartbeats 4000000
section
variable {G:List (Nat × Bytes)→Prop} {P:Program} {X:STy} {f:FuncId} {fn:Func}
end
end Go.Proofs.YtoiipagmhmohdaaDoor.K
