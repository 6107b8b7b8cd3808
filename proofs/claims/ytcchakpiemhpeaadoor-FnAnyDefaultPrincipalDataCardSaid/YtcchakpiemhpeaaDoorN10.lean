/- Generic texts: R25 R26 R27 R28 S14 S15 Z6 Z4 H1. No condition. -/
import Derived.Test.YtcchakpiemhpeaaDoorN9
import Derived.Great.BuildSlice
import Derived.Great.FillDense
namespace Go.Proofs.YtcchakpiemhpeaaDoor.K
open Go Go.RowKit Go.Proofs.YtcchakpiemhpeaaDoor.T
set_option linter.unusedVariables false
set_option linter.unusedSimpArgs false
set_option maxHeartbeats 2000000
theorem ins_same {t:Nat × Bytes}:∀ {acc:List (Nat × Bytes)} {p:Nat} {x:Nat × Bytes},(∀ i x,i < p→acc[i]?=some x→x.1 < t.1)→acc[p]?=some x→x.1=t.1→insTag t acc=acc
  | [],p,x,_,h,_=>by simp at h
  | y :: r,0,x,_,h,e=>by
    simp at h
    subst h
    simp only [insTag]
    rw [if_neg (by omega),if_pos e]
  | y :: r,p+1,x,h1,h,e=>by
    have hy:=h1 0 y (by omega) rfl
    simp only [insTag]
    rw [if_pos hy,ins_same (acc:=r) (p:=p) (x:=x) (fun i z hi hz=>h1 (i+1) z (by omega) (by simpa using hz)) (by simpa using h) e]
theorem ins_new {t:Nat × Bytes}:∀ {acc:List (Nat × Bytes)} {p:Nat},p≤acc.length→(∀ i x,i < p→acc[i]?=some x→x.1 < t.1)→(∀ x,acc[p]?=some x→t.1 < x.1)→insTag t acc=acc.take p ++ t :: acc.drop p
  | [],p,hp,_,_=>by
    obtain rfl:p=0:=by simpa using hp
    rfl
  | y :: r,0,_,_,h2=>by
    have:=h2 y rfl
    simp only [insTag]
    rw [if_neg (by omega),if_neg (by omega)]
    rfl
  | y :: r,p+1,hp,h1,h2=>by
    have hy:=h1 0 y (by omega) rfl
    simp only [insTag]
    rw [if_pos hy,ins_new (acc:=r) (p:=p) (by simpa using hp) (fun i z hi hz=>h1 (i+1) z (by omega) (by simpa using hz)) (fun x hx=>h2 x (by simpa using hx))]
    rfl
def cells2 (rows:List (Value × Value)):List Value:=rows.flatMap fun r=>[r.1,r.2]
theorem cells2_length (rows:List (Value × Value)):(cells2 rows).length=rows.length * 2:=by
  induction rows with
  | nil=>rfl
  | cons r l ih=>simp only [cells2,List.flatMap_cons,List.length_append,List.length_cons,List.length_nil] at ih ⊢;omega
theorem cells2_get:∀ (rows:List (Value × Value)) (j:Nat),(cells2 rows)[j]?=(rows[j / 2]?).map fun r=>if j % 2=0 then r.1 else r.2
  | [],j=>by simp [cells2]
  | r :: l,0=>by simp [cells2]
  | r :: l,1=>by simp [cells2]
  | r :: l,j+2=>by
    have ih:=cells2_get l j
    have:(cells2 (r :: l))[j+2]?=(cells2 l)[j]?:=by simp [cells2]
    rw [this,ih,show (j+2) / 2=j / 2+1 by omega,show (j+2) % 2=j % 2 by omega]
    simp
theorem cells2_append (a b:List (Value × Value)):cells2 (a ++ b)=cells2 a ++ cells2 b:=by simp [cells2]
def Out2 (w:World) (B T:Nat) (v:Value) (rows:List (Value × Value)):Prop:=w.ownsRow B T 2 v rows.length (cells2 rows)
theorem Out2.nil (w:World) (B T:Nat):Out2 w B T (.slice none 0 0) []:=World.ownsRow_nil _ _ _ _
theorem Out2.at {w:World} {B T:Nat} {v:Value} {rows:List (Value × Value)} (h:Out2 w B T v rows):∃ base cap,v=.slice base rows.length cap∧rows.length≤cap ∧
    (rows=[]∨∃ g cur,base=some ⟨g,0,none⟩∧B≤g∧w.heap[g]?=some (.cells cur T (0,0))∧cur.size=cap * 2∧cur.toList.take (rows.length * 2)=cells2 rows):=by
  obtain ⟨h1,⟨rfl,h2⟩ | ⟨g,cap,cur,rfl,e2,e3,e4,e5,e6,e7⟩⟩:=h
  · refine ⟨none,0,by rw [h2],by omega,.inl (List.length_eq_zero_iff.1 h2)⟩
  · exact ⟨_,cap,rfl,e4,.inr ⟨g,cur,rfl,e2,e3,e6,e7⟩⟩
theorem Out2.read {w:World} {B T:Nat} {v:Value} {rows:List (Value × Value)} (h:Out2 w B T v rows) {k:Nat} {r:Value × Value} (hk:rows[k]?=some r):∃ g cap,v=.slice (some ⟨g,0,none⟩) rows.length cap∧B≤g∧w.cell? ⟨g,k * 2,none⟩=some r.1∧rangeV w g (k * 2) 2=some [r.1,r.2]:=by
  obtain ⟨base,cap,rfl,hc,h | ⟨g,cur,rfl,e2,e3,e4,e5⟩⟩:=h.at
  · subst h
    simp at hk
  · have hkl:k < rows.length:=(List.getElem?_eq_some_iff.1 hk).1
    have hget:∀ j,j < rows.length * 2→w.cell? ⟨g,j,none⟩=(cells2 rows)[j]?:=fun j hj=>by
      rw [cell_of_row _ _ _ _ _ _ e3,← e5,List.getElem?_take,if_pos hj,Array.getElem?_toList]
    have c1:w.cell? ⟨g,k * 2,none⟩=some r.1:=by
      rw [hget _ (by omega),cells2_get,show k * 2 / 2=k by omega,hk]
      simp
    have c2:w.cell? ⟨g,k * 2+1,none⟩=some r.2:=by
      rw [hget _ (by omega),cells2_get,show (k * 2+1) / 2=k by omega,hk]
      simp [show (k * 2+1) % 2=1 by omega]
    refine ⟨g,cap,rfl,e2,c1,?_⟩
    have:=rangeV_of (w:=w) (b:=g) [r.1,r.2] (k * 2) (fun j v hj=>by
      match j,hj with
      | 0,hj=>simp at hj;subst hj;simpa using c1
      | 1,hj=>simp at hj;subst hj;exact c2)
    exact this
section
variable {P:Program} {a:Act} {w:World} {K:Act→World→Prop} {d:Option Tmp} {g:Option (Nat × Bool)}
theorem opw_store2 {T E B k g0 cap:Nat} {x y:Operand} {rows:List (Value × Value)} {r:Value × Value} (hT:aggB P T 2=true) (ho:Out2 w B E (.slice (some ⟨g0,0,none⟩) rows.length cap) rows) (hk:k < rows.length) (hx:a.eval x=.pointer (some ⟨g0,k * 2,none⟩)) (hy:a.eval y=.agg #[r.1,r.2])
    (h1:r.1.oneCell'=true) (h2:r.2.oneCell'=true) (h:∀ w',Out2 w' B E (.slice (some ⟨g0,0,none⟩) rows.length cap) (rows.set k r)→w'.heap.size=w.heap.size→(∀ b,b ≠ g0→w'.heap[b]?=w.heap[b]?)→Below B w w'→K (a.put d undef) w'):opw P ⟨d,.store T x y,g⟩ a w K:=by
  obtain ⟨i,hi,hs,_⟩:=agg_of (w:=w) hT
  obtain ⟨q1,⟨q2,-⟩ | ⟨g',cap',cur,e1,e2,e3,e4,e5,e6,e7⟩⟩:=ho
  · cases q2
  cases e1
  have hst:=run_storeCells_at P g0 (k * 2) E [r.1,r.2] 0 cur w e3 (by simp;omega) (by intro v hv;simp at hv;rcases hv with rfl | rfl <;> assumption)
  simp only [Nat.add_zero] at hst
  refine opw_skip (w':=w.setRow g0 (cur.toList.take (k * 2) ++ [r.1,r.2] ++ cur.toList.drop (k * 2+2)).toArray) (by simp) (fun p hp=>?_) (h _ ?_ (by simp) (fun b hb=>setRow_other _ _ _ _ hb) ⟨rfl,rfl,rfl,by simp,fun b hb=>setRow_other _ _ _ _ (by omega)⟩)
  · simp only [execOp,hp,hx,hy,Instr.storeAt,Instr.sureAddr,storeVar,sizeOf,typeInfo,hi,hs,Value.cells]
    simp only [List.length_cons,List.length_nil] at hst
    simp [hst,hi,hs]
  · unfold Out2 World.ownsRow
    rw [List.length_set,cells2_length,List.length_set]
    have hcl:cur.toList.length=cap * 2:=by simpa using e6
    refine ⟨rfl,.inr ⟨g0,cap,_,rfl,e2,setRow_heap _ _ _ _ _ _ e3,e4,e5,by simp [hcl];omega,?_⟩⟩
    apply List.ext_getElem?
    intro j
    rw [cells2_get]
    simp only [List.toList_toArray]
    have hold:∀ j,j < rows.length * 2→cur.toList[j]?=(rows[j / 2]?).map fun r=>if j % 2=0 then r.1 else r.2:=fun j hj=>by
      rw [← cells2_get,← e7,List.getElem?_take,if_pos hj]
    by_cases hj:j < rows.length * 2
    · rw [List.getElem?_take,if_pos hj]
      by_cases hjk:j / 2=k
      · rw [hjk,List.getElem?_set_self hk]
        rw [List.append_assoc,List.getElem?_append_right (by simp;omega)]
        rw [List.getElem?_append_left (by simp;omega)]
        simp only [List.length_take,hcl,Nat.min_eq_left (show k * 2≤cap * 2 by omega)]
        rcases Nat.mod_two_eq_zero_or_one j with h0 | h0
        · rw [show j - k * 2=0 by omega,h0];rfl
        · rw [show j - k * 2=1 by omega,h0];rfl
      · rw [List.getElem?_set_ne (Ne.symm hjk),← hold j hj]
        rcases Nat.lt_or_ge j (k * 2) with hlt | hge
        · rw [List.append_assoc,List.getElem?_append_left (by simp;omega),List.getElem?_take,if_pos hlt]
        · rw [List.getElem?_append_right (by simp;omega),List.getElem?_drop]
          congr 1
          simp only [List.length_append,List.length_take,hcl,List.length_cons,List.length_nil,Nat.min_eq_left (show k * 2≤cap * 2 by omega)]
          omega
    · rw [List.getElem?_take,if_neg hj,List.getElem?_eq_none (by rw [List.length_set];omega)]
      rfl
end
end Go.Proofs.YtcchakpiemhpeaaDoor.K
namespace Go.Proofs.YtcchakpiemhpeaaDoor.K
open Go Go.RowKit Go.Proofs.YtcchakpiemhpeaaDoor.T
set_option linter.unusedVariables false
set_option linter.unusedSimpArgs false
set_option maxHeartbeats 4000000
structure TagT (P:Program) (X:STy):Prop where
  agg:aggB P X.Tg 2=true
  row:P.underlying X.Tgs=some (.slice X.Tg)
  info:∃ i z,P.info? X.Tg=some i∧i.zero=some z∧z.cells=#[.int .u32 0,.slice none 0 0]∧i.size=2∧i.bytes≤1000
  built:P.built X.Tg []=some #[.int .u32 0,.slice none 0 0]
section
variable {P:Program} {X:STy} {f fKn:FuncId} {fn:Func}
theorem opw_build2 (hT:TagT P X) {a:Act} {w:World} {K:Act→World→Prop} {d:Option Tmp} {g:Option (Nat × Bool)} {x:Operand} {r:Value × Value} (hx:a.eval x=.agg #[r.1,r.2]) (h1:r.1.oneCell'=true) (h2:r.2.oneCell'=true)
    (h:K (a.put d (.slice (some ⟨w.heap.size,0,none⟩) 1 1)) (w.alloc (.cells #[r.1,r.2] X.Tg))):opw P ⟨d,.buildSlice X.Tgs 1 #[(0,x)],g⟩ a w K:=by
  obtain ⟨i,z,hi,hz,hzc,hsz,_⟩:=hT.info
  refine oVa (v:=.slice (some ⟨w.heap.size,0,none⟩) 1 1) (w':=w.alloc (.cells #[r.1,r.2] X.Tg)) (by simp) (fun p hp=>?_) h
  have hr:=run_buildSlice (P:=P) w X.Tgs X.Tg 1 #[(0,.agg #[r.1,r.2])] #[r.1,r.2] i z hT.row hi hz (by rw [hsz];decide) (by rw [hsz];decide) (by
    rw [hsz]
    have hz5:∀ (zf:Nat→Value),(Array.range (1 * 2)).map zf=#[zf 0,zf 1]:=fun zf=>Array.ext' (by simp [Array.toList_map,Array.toList_range,List.range,List.range.loop])
    rw [hz5]
    simp [Instr.fill,Value.cells])
  simp only [execOp,hp]
  simp [hx,hr]
theorem opw_append2 (hT:TagT P X) {a:Act} {w:World} {K:Act→World→Prop} {d:Option Tmp} {g:Option (Nat × Bool)} {x y:Operand} {B:Nat} {lv:Value} {rows:List (Value × Value)} {r:Value × Value} {ad:Addr} {ts:Array TypeId} (hts:ts=#[X.Tgs,X.Tgs]) (hx:a.eval x=lv) (hy:a.eval y=.slice (some ad) 1 1) (ho:Out2 w B X.Tg lv rows) (hB:B≤w.heap.size) (hj:rows.length < 4294967296)
    (hrc:∀ i v,[r.1,r.2][i]?=some v→w.cell? (ad.add i)=some v) (h1:r.1.oneCell'=true) (h2:r.2.oneCell'=true)
    (h:∀ lv' w',Out2 w' B X.Tg lv' (rows ++ [r])→w.grownBy w' lv.ownBlock→(lv'.ownBlock=lv.ownBlock∨∃ b,lv'.ownBlock=some b∧w.heap.size≤b)→K (a.put d lv') w'):opw P ⟨d,.call ⟨.builtin .append,#[x,y],ts⟩,g⟩ a w K:=by
  subst hts
  obtain ⟨i,z,hi,hz,hzc,hsz,hby⟩:=hT.info
  have hb:(rows.length+1) * i.bytes≤140737488355328:=Nat.le_trans (Nat.mul_le_mul (show rows.length+1≤4294967296 by omega) hby) (by decide)
  refine opw_of fun o next Q hd hop hn=>?_
  obtain ⟨v',w',hr,h2,h3,h4⟩:=run_append_src2 (P:=P) w B X.Tgs X.Tgs o.type X.Tg i z 2 i.bytes hT.row hi hz hsz rfl (by rw [hzc];rfl) (by decide) lv rows.length (cells2 rows) ho (.slice (some ad) 1 1) 1 [r.1,r.2] (Src.ofSlice w hT.row ad 1 1 [r.1,r.2] rfl hrc (by intro v hv;simp at hv;rcases hv with rfl | rfl <;> assumption)) (by simp only [maxLen];omega) hb hB
  have hop':o.op=.call ⟨.builtin .append,#[x,y],#[X.Tgs,X.Tgs]⟩:=stripOp_eq (by simp) hop
  have hr':(execOp a.eval o).run P w=.ok (.value v') w':=by
    simp [execOp,hop',resolve,invoke,builtin,hx,hy,hr]
  rw [hr',Oper.upon_value,hd]
  refine hn _ _ (h v' w' ?_ h3 h4)
  unfold Out2
  rw [cells2_append,List.length_append]
  exact h2
def TRow (w0:World) (x:Nat × Bytes) (r:Value × Value):Prop:=r.1=.int .u32 (x.1:Int)∧x.1 < 4294967296∧∃ vb vc,r.2=.slice vb x.2.length vc∧BytesAt w0 (· < w0.heap.size) vb x.2∧x.2.length≤vc
def TRows (w0:World) (acc:List (Nat × Bytes)) (rows:List (Value × Value)):Prop:=acc.length=rows.length∧∀ (i:Nat) (x:Nat × Bytes) (r:Value × Value),acc[i]?=some x→rows[i]?=some r→TRow w0 x r
theorem TRows.ins {w0:World} {acc:List (Nat × Bytes)} {rows:List (Value × Value)} {x:Nat × Bytes} {r:Value × Value} (h:TRows w0 acc rows) (hr:TRow w0 x r) {p:Nat} (hp:p≤acc.length):TRows w0 (acc.take p ++ x :: acc.drop p) (rows.take p ++ r :: rows.drop p):=by
  have hl:=h.1
  refine ⟨by simp;omega,fun i y s hy hs=>?_⟩
  rcases Nat.lt_trichotomy i p with hi | hi | hi
  · rw [List.getElem?_append_left (by simp;omega),List.getElem?_take,if_pos hi] at hy hs
    exact h.2 i y s hy hs
  · subst hi
    rw [List.getElem?_append_right (by simp;omega),show i - (acc.take i).length=0 by simp;omega] at hy
    rw [List.getElem?_append_right (by simp;omega),show i - (rows.take i).length=0 by simp;omega] at hs
    simp at hy hs
    subst hy
    subst hs
    exact hr
  · rw [List.getElem?_append_right (by simp;omega),show i - (acc.take p).length=(i - 1 - p)+1 by simp;omega,List.getElem?_cons_succ,List.getElem?_drop,show p+(i - 1 - p)=i - 1 by omega] at hy
    rw [List.getElem?_append_right (by simp;omega),show i - (rows.take p).length=(i - 1 - p)+1 by simp;omega,List.getElem?_cons_succ,List.getElem?_drop,show p+(i - 1 - p)=i - 1 by omega] at hs
    exact h.2 (i - 1) y s hy hs
theorem last_set {rows:List (Value × Value)} {k:Nat} {z r:Value × Value} (hk:k≤rows.length):(rows.take k ++ z :: rows.drop k).set k r=rows.take k ++ r :: rows.drop k:=by
  rw [List.set_append_right _ _ (by simp;omega),show k - (rows.take k).length=0 by simp;omega,List.set_cons_zero]
theorem shift_set {rows:List (Value × Value)} {k:Nat} {z:Value × Value} (hk:k < rows.length):(rows.take (k+1) ++ z :: rows.drop (k+1)).set (k+1) rows[k]=rows.take k ++ rows[k] :: rows.drop k:=by
  have h1:rows.take (k+1)=rows.take k ++ [rows[k]]:=by rw [List.take_add_one,List.getElem?_eq_getElem hk];rfl
  have h2:rows.drop k=rows[k] :: rows.drop (k+1):=List.drop_eq_getElem_cons hk
  rw [last_set (by omega),h1,List.append_assoc]
  rw [h2]
  rfl
theorem hole_get {rows:List (Value × Value)} {k:Nat} {z:Value × Value} (hk:k < rows.length):(rows.take (k+1) ++ z :: rows.drop (k+1))[k]?=some rows[k]:=by
  rw [List.getElem?_append_left (by simp;omega),List.getElem?_take,if_pos (by omega),List.getElem?_eq_getElem hk]
end
end Go.Proofs.YtcchakpiemhpeaaDoor.K
namespace Go.Proofs.YtcchakpiemhpeaaDoor.K
open Go Go.RowKit Go.Proofs.YtcchakpiemhpeaaDoor.T
attribute [local simp] eTm eCo pNo gTp gTn qv qcall vop iop
set_option linter.unusedVariables false
set_option linter.unusedSimpArgs false
set_option maxHeartbeats 4000000
def sc_ubody (T0 T1 T2 T3:Nat):SC:=.seq (.reg [⟨some 21,.indexAddr T0 (.tmp 17) (.tmp 19),none⟩,ld 22 T2 21,⟨some 8,.alloc T2,none⟩,⟨none,.store T2 (.tmp 8) (.tmp 22),none⟩]) (.seq (.reg [⟨some 9,.assign (.const (.int .i64 0)),none⟩]) (.seq (.block 2 (.loop (.seq (.seq (.dreg [mv 23 9,mv 24 6,lenOp 25 T0 24,⟨some 26,.binOp .lss T1 (.tmp 23) (.tmp 25) T1,none⟩,mv 27 26,⟨some 28,.move (.tmp 6),some (4,true)⟩,⟨some 29,.move (.tmp 9),some (4,true)⟩,⟨some 30,.indexAddr T0 (.tmp 28) (.tmp 29),some (4,true)⟩,⟨some 31,.fieldAddr T2 (.tmp 30) 0,some (4,true)⟩,⟨some 32,.load T3 (.tmp 31),some (4,true)⟩,⟨some 33,.fieldAddr T2 (.tmp 8) 0,some (4,true)⟩,⟨some 34,.load T3 (.tmp 33),some (4,true)⟩,⟨some 35,.binOp .lss T3 (.tmp 32) (.tmp 34) T3,some (4,true)⟩,⟨some 36,.pick (.tmp 27) (.tmp 35) (.const (.bool false)),none⟩] [[],[],[1],[0,2],[3],[4],[4],[5,6,4],[7,4],[8,4],[4],[10,4],[9,11,4],[4,12]]) (.cond (.tmp 36) (.skip) (.exit 2))) (.block 3 (.reg [mv 37 9,⟨some 38,.binOp .add T1 (.tmp 37) (.const (.int .i64 1)) T1,none⟩,asg 9 38]))))) (.seq (.seq (.dreg [fa 39 T2 8 0,ld 40 T3 39,mv 41 5,⟨some 42,.binOp .lss T3 (.tmp 40) (.tmp 41) T3,none⟩,mv 43 42,⟨some 44,.move (.tmp 9),some (4,false)⟩,⟨some 45,.move (.tmp 6),some (4,false)⟩,⟨some 46,.call ⟨.builtin .len,#[(.tmp 45)],#[T0]⟩,some (4,false)⟩,⟨some 47,.binOp .lss T1 (.tmp 44) (.tmp 46) T1,some (4,false)⟩,⟨some 48,.move (.tmp 47),some (4,false)⟩,⟨some 49,.move (.tmp 6),some (9,true)⟩,⟨some 50,.move (.tmp 9),some (9,true)⟩,⟨some 51,.indexAddr T0 (.tmp 49) (.tmp 50),some (9,true)⟩,⟨some 52,.fieldAddr T2 (.tmp 51) 0,some (9,true)⟩,⟨some 53,.load T3 (.tmp 52),some (9,true)⟩,⟨some 54,.fieldAddr T2 (.tmp 8) 0,some (9,true)⟩,⟨some 55,.load T3 (.tmp 54),some (9,true)⟩,⟨some 56,.binOp .eql T3 (.tmp 53) (.tmp 55) T3,some (9,true)⟩,⟨some 57,.pick (.tmp 48) (.tmp 56) (.const (.bool false)),some (4,false)⟩,⟨some 58,.pick (.tmp 43) (.const (.bool true)) (.tmp 57),none⟩] [[],[0],[],[1,2],[3],[4],[4],[6,4],[5,7,4],[8,4,4],[9],[9],[10,11,9],[12,9],[13,9],[9],[15,9],[14,16,9],[9,17,4],[4,18]]) (.cond (.tmp 58) (.exit 1) (.skip))) (.seq (.reg [mv 59 6,⟨some 60,.build T2 #[],none⟩,⟨some 61,.buildSlice T0 1 #[(0,(.tmp 60))],none⟩,⟨some 62,.call ⟨.builtin .append,#[(.tmp 59),(.tmp 61)],#[T0,T0]⟩,none⟩,asg 6 62]) (.seq (.seq (.reg [mv 63 6,lenOp 64 T0 63,⟨some 65,.binOp .sub T1 (.tmp 64) (.const (.int .i64 1)) T1,none⟩,asg 10 65]) (.block 4 (.loop (.seq (.seq (.reg [mv 66 10,mv 67 9,⟨some 68,.binOp .gtr T1 (.tmp 66) (.tmp 67) T1,none⟩]) (.cond (.tmp 68) (.skip) (.exit 4))) (.seq (.block 5 (.reg [mv 71 6,mv 72 10,mv 73 6,mv 74 10,⟨some 75,.binOp .sub T1 (.tmp 74) (.const (.int .i64 1)) T1,none⟩,⟨some 76,.indexAddr T0 (.tmp 73) (.tmp 75),none⟩,ld 77 T2 76,⟨some 78,.indexAddr T0 (.tmp 71) (.tmp 72),none⟩,⟨none,.store T2 (.tmp 78) (.tmp 77),none⟩])) (.reg [mv 69 10,⟨some 70,.binOp .sub T1 (.tmp 69) (.const (.int .i64 1)) T1,none⟩,asg 10 70])))))) (.reg [mv 79 6,mv 80 9,ld 81 T2 8,⟨some 82,.indexAddr T0 (.tmp 79) (.tmp 80),none⟩,⟨none,.store T2 (.tmp 82) (.tmp 81),none⟩]))))))
def sc_utail (T0 T1 T2 T3:Nat):SC:=.seq (.seq (.dreg [fa 39 T2 8 0,ld 40 T3 39,mv 41 5,⟨some 42,.binOp .lss T3 (.tmp 40) (.tmp 41) T3,none⟩,mv 43 42,⟨some 44,.move (.tmp 9),some (4,false)⟩,⟨some 45,.move (.tmp 6),some (4,false)⟩,⟨some 46,.call ⟨.builtin .len,#[(.tmp 45)],#[T0]⟩,some (4,false)⟩,⟨some 47,.binOp .lss T1 (.tmp 44) (.tmp 46) T1,some (4,false)⟩,⟨some 48,.move (.tmp 47),some (4,false)⟩,⟨some 49,.move (.tmp 6),some (9,true)⟩,⟨some 50,.move (.tmp 9),some (9,true)⟩,⟨some 51,.indexAddr T0 (.tmp 49) (.tmp 50),some (9,true)⟩,⟨some 52,.fieldAddr T2 (.tmp 51) 0,some (9,true)⟩,⟨some 53,.load T3 (.tmp 52),some (9,true)⟩,⟨some 54,.fieldAddr T2 (.tmp 8) 0,some (9,true)⟩,⟨some 55,.load T3 (.tmp 54),some (9,true)⟩,⟨some 56,.binOp .eql T3 (.tmp 53) (.tmp 55) T3,some (9,true)⟩,⟨some 57,.pick (.tmp 48) (.tmp 56) (.const (.bool false)),some (4,false)⟩,⟨some 58,.pick (.tmp 43) (.const (.bool true)) (.tmp 57),none⟩] [[],[0],[],[1,2],[3],[4],[4],[6,4],[5,7,4],[8,4,4],[9],[9],[10,11,9],[12,9],[13,9],[9],[15,9],[14,16,9],[9,17,4],[4,18]]) (.cond (.tmp 58) (.exit 1) (.skip))) (.seq (.reg [mv 59 6,⟨some 60,.build T2 #[],none⟩,⟨some 61,.buildSlice T0 1 #[(0,(.tmp 60))],none⟩,⟨some 62,.call ⟨.builtin .append,#[(.tmp 59),(.tmp 61)],#[T0,T0]⟩,none⟩,asg 6 62]) (.seq (.seq (.reg [mv 63 6,lenOp 64 T0 63,⟨some 65,.binOp .sub T1 (.tmp 64) (.const (.int .i64 1)) T1,none⟩,asg 10 65]) (.block 4 (.loop (.seq (.seq (.reg [mv 66 10,mv 67 9,⟨some 68,.binOp .gtr T1 (.tmp 66) (.tmp 67) T1,none⟩]) (.cond (.tmp 68) (.skip) (.exit 4))) (.seq (.block 5 (.reg [mv 71 6,mv 72 10,mv 73 6,mv 74 10,⟨some 75,.binOp .sub T1 (.tmp 74) (.const (.int .i64 1)) T1,none⟩,⟨some 76,.indexAddr T0 (.tmp 73) (.tmp 75),none⟩,ld 77 T2 76,⟨some 78,.indexAddr T0 (.tmp 71) (.tmp 72),none⟩,⟨none,.store T2 (.tmp 78) (.tmp 77),none⟩])) (.reg [mv 69 10,⟨some 70,.binOp .sub T1 (.tmp 69) (.const (.int .i64 1)) T1,none⟩,asg 10 70])))))) (.reg [mv 79 6,mv 80 9,ld 81 T2 8,⟨some 82,.indexAddr T0 (.tmp 79) (.tmp 80),none⟩,⟨none,.store T2 (.tmp 82) (.tmp 81),none⟩])))
def sc_urest (T0 T1 T2 T3:Nat):SC:=.seq (.reg [mv 59 6,⟨some 60,.build T2 #[],none⟩,⟨some 61,.buildSlice T0 1 #[(0,(.tmp 60))],none⟩,⟨some 62,.call ⟨.builtin .append,#[(.tmp 59),(.tmp 61)],#[T0,T0]⟩,none⟩,asg 6 62]) (.seq (.seq (.reg [mv 63 6,lenOp 64 T0 63,⟨some 65,.binOp .sub T1 (.tmp 64) (.const (.int .i64 1)) T1,none⟩,asg 10 65]) (.block 4 (.loop (.seq (.seq (.reg [mv 66 10,mv 67 9,⟨some 68,.binOp .gtr T1 (.tmp 66) (.tmp 67) T1,none⟩]) (.cond (.tmp 68) (.skip) (.exit 4))) (.seq (.block 5 (.reg [mv 71 6,mv 72 10,mv 73 6,mv 74 10,⟨some 75,.binOp .sub T1 (.tmp 74) (.const (.int .i64 1)) T1,none⟩,⟨some 76,.indexAddr T0 (.tmp 73) (.tmp 75),none⟩,ld 77 T2 76,⟨some 78,.indexAddr T0 (.tmp 71) (.tmp 72),none⟩,⟨none,.store T2 (.tmp 78) (.tmp 77),none⟩])) (.reg [mv 69 10,⟨some 70,.binOp .sub T1 (.tmp 69) (.const (.int .i64 1)) T1,none⟩,asg 10 70])))))) (.reg [mv 79 6,mv 80 9,ld 81 T2 8,⟨some 82,.indexAddr T0 (.tmp 79) (.tmp 80),none⟩,⟨none,.store T2 (.tmp 82) (.tmp 81),none⟩]))
section
variable {P:Program} {X:STy} {f fKn:FuncId} {fn:Func}
theorem w64q {n:Int} (h1:-9223372036854775808≤n) (h2:n < 9223372036854775808):IntKind.i64.wrap n=n:=by
  simp only [IntKind.wrap,IntKind.bits,IntKind.signed]
  simp
  split <;> omega
structure UL (X:STy) (ub:Option Addr) (uc:Nat) (l:List (Nat × Bytes)) (w:World) (i:Nat) (acc:List (Nat × Bytes)) (rows:List (Value × Value)) (v:Value) (a:Act) (w':World):Prop where
  size:a.tmps.size=85
  defers:a.defers=[]
  s5:getT a 5=.int .u32 0
  s6:getT a 6=v
  s17:getT a 17=.slice ub l.length uc
  s18:getT a 18=.int .i64 (l.length:Int)
  s19:getT a 19=.int .i64 (i:Int)
  rws:TRows w acc rows
  out:Out2 w' w.heap.size X.Tg v rows
  below:Below w.heap.size w w'
theorem Out2.frame {w w':World} {B T:Nat} {v:Value} {rows:List (Value × Value)} (h:Out2 w B T v rows) (hb:∀ k,B≤k→k < w.heap.size→w'.heap[k]?=w.heap[k]?):Out2 w' B T v rows:=by
  refine ⟨h.1,h.2.imp id ?_⟩
  rintro ⟨g,cap,cur,q1,q2,q3,q4⟩
  exact ⟨g,cap,cur,q1,q2,by rw [hb g q2 (Array.getElem?_eq_some_iff.1 q3).1];exact q3,q4⟩
structure UT (X:STy) (bb:Option Addr) (uc:Nat) (l:List (Nat × Bytes)) (w:World) (i tb q:Nat) (x:Nat × Bytes) (r:Value × Value) (acc:List (Nat × Bytes)) (rows:List (Value × Value)) (v:Value) (a:Act) (w':World):Prop where
  size:a.tmps.size=85
  defers:a.defers=[]
  s5:getT a 5=.int .u32 0
  s6:getT a 6=v
  s8:getT a 8=.pointer (some ⟨tb,0,none⟩)
  s9:getT a 9=.int .i64 (q:Int)
  s17:getT a 17=.slice bb l.length uc
  s18:getT a 18=.int .i64 (l.length:Int)
  s19:getT a 19=.int .i64 (i:Int)
  hq:q≤acc.length
  less:∀ j y,j < q→acc[j]?=some y→y.1 < x.1
  ge:∀ y,acc[q]?=some y→¬ y.1 < x.1
  tbw:w.heap.size≤tb
  row:w'.heap[tb]?=some (.cells #[r.1,r.2] X.Tg (0,0))
  hr:TRow w x r
  rws:TRows w acc rows
  out:Out2 w' w.heap.size X.Tg v rows
  tbv:v.ownBlock ≠ some tb
  below:Below w.heap.size w w'
theorem unk_tail (hX:stOK P X=true) (hm:P.follows .mixedOrders=true) (hT:TagT P X) {ub:Option Addr} {uc i tb q:Nat} {l:List (Nat × Bytes)} {w w5:World} {acc:List (Nat × Bytes)} {rows:List (Value × Value)} {v:Value} {a:Act} {Q:Exit→Act→World→Prop} {x:Nat × Bytes} {r:Value × Value}
    (h:UT X ub uc l w i tb q x r acc rows v a w5) (hacc:acc.length≤32767)
    (hsame:∀ a' w',UL X ub uc l w i (insTag x acc) rows v a' w'→Q (.exit 1) a' w') (hnew:∀ a' w' rows' v',UL X ub uc l w i (insTag x acc) rows' v' a' w'→Q .normal a' w'):(sc_utail X.Tgs X.I X.Tg X.U32).wp P Q a w5:=by
  have hst:=st_facts hX
  obtain ⟨p,pd,p5,p6,p8,p9,p17,p18,p19,hq,hless,hge,htbw,hrow,hxr,hrows,hout,htbv,hbel⟩:=h
  have hlr:=hrows.1
  have htb:tb < w5.heap.size:=(Array.getElem?_eq_some_iff.1 hrow).1
  have hkey:w5.drew.cell? ⟨tb,0,none⟩=some (.int .u32 (x.1:Int)):=by
    have:w5.cell? ⟨tb,0,none⟩=some (.int .u32 (x.1:Int)):=by rw [cell_of_row _ _ _ _ _ _ hrow,← hxr.1];rfl
    exact this
  have hx0:decide ((x.1:Int) < 0)=false:=decide_eq_false (by omega)
  have hx00:¬ ((x.1:Int) < 0):=by omega
  obtain ⟨vbase,vcap,hv,hvc',hv2⟩:=hout.at
  have hout':Out2 w5.drew w.heap.size X.Tg v rows:=hout
  have go:∀ a:Act,a.tmps.size=85∧a.defers=[]∧getT a 5=.int .u32 0∧getT a 6=v∧getT a 8=.pointer (some ⟨tb,0,none⟩)∧getT a 9=.int .i64 (q:Int)∧getT a 17=.slice ub l.length uc∧getT a 18=.int .i64 (l.length:Int)∧getT a 19=.int .i64 (i:Int)→(∀ y,acc[q]?=some y→x.1 < y.1)→(sc_urest X.Tgs X.I X.Tg X.U32).wp P Q a w5.drew:=by
    clear p pd p5 p6 p8 p9 p17 p18 p19
    rintro a ⟨p,pd,p5,p6,p8,p9,p17,p18,p19⟩ hgt
    refine SC.wp_seq (SC.wp_reg ?_)
    iterate 1 (first | (apply ops_1;(focus (simp (disch:=(try simp only [sPu]);omega) [p6];try rfl))) | (apply ops_y;(focus rfl);(focus ((try simp only [sPu]);omega));(focus (simp (disch:=(try simp only [sPu]);omega) [p6];done));(focus (simp (disch:=(try simp only [sPu]);omega) [p6];try rfl))) | (apply ops_n;(focus rfl);(focus ((try simp only [sPu]);omega));(focus (first | (left;simp (disch:=(try simp only [sPu]);omega) [p6];done) | (right;simp (disch:=(try simp only [sPu]);omega);done)))))
    refine oNo rfl (opw_build (cs:=#[.int .u32 0,.slice none 0 0]) (by simpa using hT.built) ?_)
    refine oNo rfl (opw_build2 (r:=(.int .u32 0,.slice none 0 0)) hT (by simp (disch:=(try simp only [sPu]);omega)) rfl rfl ?_)
    change opsw P _ _ _ _ (w5.drew.alloc (.cells #[.int .u32 0,.slice none 0 0] X.Tg))
    have hnb:=heap_alloc_new w5.drew (.cells #[.int .u32 0,.slice none 0 0] X.Tg)
    have hds:w5.drew.heap.size=w5.heap.size:=rfl
    have hws5:w.heap.size≤w5.heap.size:=hbel.size
    have hsz6:(w5.drew.alloc (.cells #[.int .u32 0,.slice none 0 0] X.Tg)).heap.size=w5.heap.size+1:=by simp
    have hoth6:∀ k,k < w5.heap.size→(w5.drew.alloc (.cells #[.int .u32 0,.slice none 0 0] X.Tg)).heap[k]?=w5.heap[k]?:=fun k hk=>Below.heap_alloc _ _ _ hk
    have hbel6:Below w.heap.size w (w5.drew.alloc (.cells #[.int .u32 0,.slice none 0 0] X.Tg)):=hbel.drew.alloc hbel.size _
    have hnb':∀ (i:Nat) (u:Value),[(Value.int .u32 0),.slice none 0 0][i]?=some u→(w5.drew.alloc (.cells #[.int .u32 0,.slice none 0 0] X.Tg)).cell? ((⟨w5.drew.heap.size,0,none⟩:Addr).add i)=some u:=fun i u hi=>by
      rw [add_none,cell_of_row _ _ _ _ _ _ hnb]
      simpa using hi
    have hout6:Out2 (w5.drew.alloc (.cells #[.int .u32 0,.slice none 0 0] X.Tg)) w.heap.size X.Tg v rows:=hout.frame fun k h1 h2=>hoth6 k h2
    refine oNo rfl (opw_append2 (B:=w.heap.size) (lv:=v) (rows:=rows) (r:=(.int .u32 0,.slice none 0 0)) (ad:=⟨w5.drew.heap.size,0,none⟩) hT rfl (by simp (disch:=(try simp only [sPu]);omega) [p6]) (by simp (disch:=(try simp only [sPu]);omega)) hout6 (by omega) (by omega) hnb' rfl rfl fun v7 w7 hout7 hgr7 hown7=>?_)
    have hrow7:w7.heap[tb]?=some (.cells #[r.1,r.2] X.Tg (0,0)):=by
      rw [hgr7.block tb (by omega) (fun e=>htbv e.symm),hoth6 tb htb]
      exact hrow
    have htb7:v7.ownBlock ≠ some tb:=by
      rcases hown7 with e | ⟨bb,e,hb⟩
      · rw [e];exact htbv
      · rw [e];intro e2;cases e2;omega
    have hbel7:Below w.heap.size w w7:=hbel6.trans ⟨hgr7.os,hgr7.tape,hgr7.output,hgr7.size,fun k hk=>hgr7.block k (by have:=hbel6.size;omega) (fun e=>by have:=(World.ownsRow.lt hout6 k e.symm).1;omega)⟩
    repeat (first | (apply ops_1;(focus (simp (disch:=(try simp only [sPu]);omega) ;try rfl))) | (apply ops_y;(focus rfl);(focus ((try simp only [sPu]);omega));(focus (simp (disch:=(try simp only [sPu]);omega);done));(focus (simp (disch:=(try simp only [sPu]);omega) ;try rfl))) | (apply ops_n;(focus rfl);(focus ((try simp only [sPu]);omega));(focus (first | (left;simp (disch:=(try simp only [sPu]);omega);done) | (right;simp (disch:=(try simp only [sPu]);omega);done)))))
    refine oNi (SC.wp_seq (SC.wp_seq (SC.wp_reg ?_)))
    obtain ⟨vb7,vc7,hv7,hvc7,hv72⟩:=hout7.at
    have hl7:(rows ++ [((.int .u32 0,.slice none 0 0):Value × Value)]).length=rows.length+1:=by simp
    rw [hl7] at hv7
    have hwl:IntKind.i64.wrap (rows.length:Int)=(rows.length:Int):=w64q (by omega) (by omega)
    have p6v:=hv7
    repeat (first | (apply ops_1;(focus (simp (disch:=(try simp only [sPu]);omega) [hst,hv7,hwl];try rfl))) | (apply ops_y;(focus rfl);(focus ((try simp only [sPu]);omega));(focus (simp (disch:=(try simp only [sPu]);omega) [hst,hv7,hwl];done));(focus (simp (disch:=(try simp only [sPu]);omega) [hst,hv7,hwl];try rfl))) | (apply ops_n;(focus rfl);(focus ((try simp only [sPu]);omega));(focus (first | (left;simp (disch:=(try simp only [sPu]);omega) [hst,hv7,hwl];done) | (right;simp (disch:=(try simp only [sPu]);omega);done)))))
    refine oNi ?_
    simp only [Exit.then]
    have hins:insTag x acc=acc.take q ++ x :: acc.drop q:=ins_new hq hless hgt
    refine SC.wp_block (SC.wp_loop (fun a' w'=>∃ (k:Nat) (z:Value × Value),a'.tmps.size=85∧a'.defers=[]∧getT a' 5=.int .u32 0∧getT a' 6=.slice vb7 (rows.length+1) vc7∧getT a' 8=.pointer (some ⟨tb,0,none⟩)∧getT a' 9=.int .i64 (q:Int)∧getT a' 10=.int .i64 (k:Int)∧getT a' 17=.slice ub l.length uc∧getT a' 18=.int .i64 (l.length:Int)∧getT a' 19=.int .i64 (i:Int)∧q≤k∧k≤rows.length ∧
        Out2 w' w.heap.size X.Tg (.slice vb7 (rows.length+1) vc7) (rows.take k ++ z :: rows.drop k)∧w'.heap[tb]?=some (.cells #[r.1,r.2] X.Tg (0,0))∧Below w.heap.size w w')
      (fun a' _=>match getT a' 10 with | .int _ m=>m.toNat | _=>0) ⟨rows.length,(.int .u32 0,.slice none 0 0),by simp [sPu,p],by simp [dPu,pd],by simp (disch:=(try simp only [sPu]);omega) [p5],by simp (disch:=(try simp only [sPu]);omega) [hv7],by simp (disch:=(try simp only [sPu]);omega) [p8],by simp (disch:=(try simp only [sPu]);omega) [p9],by simp (disch:=(try simp only [sPu]);omega),by simp (disch:=(try simp only [sPu]);omega) [p17],by simp (disch:=(try simp only [sPu]);omega) [p18],by simp (disch:=(try simp only [sPu]);omega) [p19],by omega,Nat.le_refl _,by rw [List.take_length,List.drop_length,← hv7];exact hout7,hrow7,hbel7⟩ ?_)
    clear p pd p5 p6 p8 p9 p17 p18 p19 a
    rintro a w8 ⟨k,z,p,pd,p5,p6,p8,p9,p10,p17,p18,p19,hqk,hkr,hout8,hrow8,hbel8⟩
    refine SC.wp_seq (SC.wp_seq (SC.wp_reg ?_))
    repeat (first | (apply ops_1;(focus (simp (disch:=(try simp only [sPu]);omega) [p9,p10];try rfl))) | (apply ops_y;(focus rfl);(focus ((try simp only [sPu]);omega));(focus (simp (disch:=(try simp only [sPu]);omega) [p9,p10];done));(focus (simp (disch:=(try simp only [sPu]);omega) [p9,p10];try rfl))) | (apply ops_n;(focus rfl);(focus ((try simp only [sPu]);omega));(focus (first | (left;simp (disch:=(try simp only [sPu]);omega) [p9,p10];done) | (right;simp (disch:=(try simp only [sPu]);omega);done)))))
    refine oNi (SC.wp_cond (t:=decide ((k:Int) > (q:Int))) (by simp (disch:=(try simp only [sPu]);omega)) ?_)
    have hlen8:(rows.take k ++ z :: rows.drop k).length=rows.length+1:=by simp;omega
    by_cases hkq:k=q
    · subst hkq
      rw [if_neg (by simp)]
      refine SC.wp_exit ?_
      simp only [Exit.then,Exit.inBlock,if_true]
      have hkl:k < (rows.take k ++ z :: rows.drop k).length:=by omega
      obtain ⟨g8,cap8,hv8,hg8,-,-⟩:=hout8.read (List.getElem?_eq_getElem hkl)
      rw [hv8,hlen8] at p6
      rw [hv8] at hout8
      have hki:(0:Int)≤(k:Int)∧(k:Int) < ((rows.length+1:Nat):Int):=by omega
      have hki2:(k:Int) < (rows.length:Int)+1:=by omega
      have hrow8r:rangeV w8 tb 0 2=some [r.1,r.2]:=by
        have hc:∀ i,w8.cell? ⟨tb,i,none⟩=#[r.1,r.2][i]?:=fun i=>cell_of_row _ _ _ _ _ _ hrow8
        simp [rangeV,hc]
      refine SC.wp_reg ?_
      iterate 4 (first | (apply ops_1;(focus (simp (disch:=(try simp only [sPu]);omega) [hst,p6,p8,p9,hki,hki2,hrow8r];try rfl))) | (apply ops_y;(focus rfl);(focus ((try simp only [sPu]);omega));(focus (simp (disch:=(try simp only [sPu]);omega) [hst,p6,p8,p9,hki,hki2,hrow8r];done));(focus (simp (disch:=(try simp only [sPu]);omega) [hst,p6,p8,p9,hki,hki2,hrow8r];try rfl))) | (apply ops_n;(focus rfl);(focus ((try simp only [sPu]);omega));(focus (first | (left;simp (disch:=(try simp only [sPu]);omega) [hst,p6,p8,p9,hki,hki2,hrow8r];done) | (right;simp (disch:=(try simp only [sPu]);omega);done)))))
      obtain ⟨hxr1,hxr2,xvb,xvc,hxr3,hxr4,hxr5⟩:=hxr
      refine oNo rfl (opw_store2 (B:=w.heap.size) (k:=k) (g0:=g8) (cap:=cap8) (r:=r) (rows:=rows.take k ++ z :: rows.drop k) hT.agg (by rw [hlen8] at hout8 ⊢;exact hout8) hkl (by simp (disch:=(try simp only [sPu]);omega)) (by simp (disch:=(try simp only [sPu]);omega)) (by rw [hxr1];rfl) (by rw [hxr3];rfl) fun w9 hout9 hs9 hoth9 hb9=>oNi ?_)
      rw [last_set hkr] at hout9
      refine hnew _ w9 (rows.take k ++ r :: rows.drop k) (.slice (some ⟨g8,0,none⟩) (rows.take k ++ z :: rows.drop k).length cap8) ?_
      rw [hins]
      exact ⟨by simp [sPu,p],by simp [dPu,pd],by simp (disch:=(try simp only [sPu]);omega) [p5],by simp (disch:=(try simp only [sPu]);omega) [p6,hlen8],by simp (disch:=(try simp only [sPu]);omega) [p17],by simp (disch:=(try simp only [sPu]);omega) [p18],by simp (disch:=(try simp only [sPu]);omega) [p19],hrows.ins ⟨hxr1,hxr2,xvb,xvc,hxr3,hxr4,hxr5⟩ (by omega),hout9,hbel8.trans hb9⟩
    · rw [if_pos (by simp;omega)]
      refine SC.wp_skip ?_
      simp only [Exit.then]
      obtain ⟨k',rfl⟩:∃ k',k=k'+1:=⟨k - 1,by omega⟩
      have hkl:k' < rows.length:=by omega
      obtain ⟨g8,cap8,hv8,hg8,-,hrg8⟩:=hout8.read (hole_get (z:=z) hkl)
      rw [hlen8] at hv8
      cases hv8
      have hki:(0:Int)≤(k':Int)∧(k':Int) < ((rows.length+1:Nat):Int):=by omega
      have hki2:(k':Int) < (rows.length:Int)+1:=by omega
      have hki3:((k':Int)+1) < (rows.length:Int)+1:=by omega
      have hki4:(0:Int)≤(k':Int)+1:=by omega
      have hwk:IntKind.i64.wrap (k':Int)=(k':Int):=w64q (by omega) (by omega)
      have hrk:=hrows.2 k' acc[k'] rows[k'] (List.getElem?_eq_getElem (by omega)) (List.getElem?_eq_getElem hkl)
      obtain ⟨hk1,hk2,xvb,xvc,hk3,hk4,hk5⟩:=hrk
      refine SC.wp_seq (SC.wp_block (SC.wp_reg ?_))
      iterate 8 (first | (apply ops_1;(focus (simp (disch:=(try simp only [sPu]);omega) [hst,p6,p10,hki,hki2,hki3,hki4,hwk,hrg8];try rfl))) | (apply ops_y;(focus rfl);(focus ((try simp only [sPu]);omega));(focus (simp (disch:=(try simp only [sPu]);omega) [hst,p6,p10,hki,hki2,hki3,hki4,hwk,hrg8];done));(focus (simp (disch:=(try simp only [sPu]);omega) [hst,p6,p10,hki,hki2,hki3,hki4,hwk,hrg8];try rfl))) | (apply ops_n;(focus rfl);(focus ((try simp only [sPu]);omega));(focus (first | (left;simp (disch:=(try simp only [sPu]);omega) [hst,p6,p10,hki,hki2,hki3,hki4,hwk,hrg8];done) | (right;simp (disch:=(try simp only [sPu]);omega);done)))))
      refine oNo rfl (opw_store2 (B:=w.heap.size) (k:=k'+1) (g0:=g8) (cap:=vc7) (r:=rows[k']) (rows:=rows.take (k'+1) ++ z :: rows.drop (k'+1)) hT.agg (by rw [hlen8];exact hout8) (by omega) (by simp (disch:=(try simp only [sPu]);omega)) (by simp (disch:=(try simp only [sPu]);omega)) (by rw [hk1];rfl) (by rw [hk3];rfl) fun w9 hout9 hs9 hoth9 hb9=>oNi ?_)
      simp only [Exit.then,Exit.inBlock]
      refine SC.wp_reg ?_
      repeat (first | (apply ops_1;(focus (simp (disch:=(try simp only [sPu]);omega) [hst,p10,hwk];try rfl))) | (apply ops_y;(focus rfl);(focus ((try simp only [sPu]);omega));(focus (simp (disch:=(try simp only [sPu]);omega) [hst,p10,hwk];done));(focus (simp (disch:=(try simp only [sPu]);omega) [hst,p10,hwk];try rfl))) | (apply ops_n;(focus rfl);(focus ((try simp only [sPu]);omega));(focus (first | (left;simp (disch:=(try simp only [sPu]);omega) [hst,p10,hwk];done) | (right;simp (disch:=(try simp only [sPu]);omega);done)))))
      refine oNi ?_
      rw [shift_set hkl,hlen8] at hout9
      have htbg:tb ≠ g8:=fun e=>by
        rw [hv7] at htb7
        exact htb7 (by rw [e];rfl)
      refine ⟨⟨k',rows[k'],by simp [sPu,p],by simp [dPu,pd],by simp (disch:=(try simp only [sPu]);omega) [p5],by simp (disch:=(try simp only [sPu]);omega) [p6],by simp (disch:=(try simp only [sPu]);omega) [p8],by simp (disch:=(try simp only [sPu]);omega) [p9],by simp (disch:=(try simp only [sPu]);omega),by simp (disch:=(try simp only [sPu]);omega) [p17],by simp (disch:=(try simp only [sPu]);omega) [p18],by simp (disch:=(try simp only [sPu]);omega) [p19],by omega,by omega,hout9,by rw [hoth9 tb htbg];exact hrow8,hbel8.trans hb9⟩,?_⟩
      have e10:getT a 10=.int .i64 ((k':Int)+1):=by simpa using p10
      simp only [e10]
      simp (disch:=(try simp only [sPu]);omega)
  refine SC.wp_seq (SC.wp_seq (SC.wp_dreg hm (Below w5.heap.size w5.drew) [(0,true),(1,true),(2,true),(3,true),(4,true),(5,true),(6,true),(7,true),(8,true),(9,true),(10,true),(11,true),(12,true),(13,true),(14,true),(15,true),(16,true),(17,true),(18,true),(19,true)] (by rfl) (by rfl) (by decide) (Below.refl _ _) ?_))
  by_cases hql:q < rows.length
  · obtain ⟨g,cap,hvg,hgB,hcg,hrg⟩:=hout.read (List.getElem?_eq_getElem hql)
    have hgl:g < w5.heap.size:=by
      rcases Nat.lt_or_ge g w5.heap.size with h | h
      · exact h
      · simp [World.cell?,Array.getElem?_eq_none h] at hcg
    have hqa:q < acc.length:=by omega
    have htr:=hrows.2 q acc[q] rows[q] (List.getElem?_eq_getElem hqa) (List.getElem?_eq_getElem hql)
    rw [htr.1] at hcg
    have hcg':w5.drew.cell? ⟨g,q * 2,none⟩=some (.int .u32 (acc[q].1:Int)):=hcg
    have hqi:(0:Int)≤(q:Int)∧(q:Int) < (rows.length:Int):=by omega
    have p6':=p6
    rw [hvg] at p6'
    have hlt1:decide ((q:Int) < (rows.length:Int))=true:=decide_eq_true hqi.2
    repeat (first | (apply dr_1;(focus rfl);(focus (simp (disch:=(try simp only [sPu]);omega) [hst,p5,p6',p8,p9,hqi,hcg',hgl,htb,hkey,hlt1,hx0,hx00];try rfl))) | (apply dr_y;(focus rfl);(focus rfl);(focus ((try simp only [sPu]);omega));(focus (simp (disch:=(try simp only [sPu]);omega) [hst,p5,p6',p8,p9,hqi,hcg',hgl,htb,hkey,hlt1,hx0,hx00];done));(focus (simp (disch:=(try simp only [sPu]);omega) [hst,p5,p6',p8,p9,hqi,hcg',hgl,htb,hkey,hlt1,hx0,hx00];try rfl))) | (apply dr_n;(focus rfl);(focus rfl);(focus ((try simp only [sPu]);omega));(focus (first | (left;simp (disch:=(try simp only [sPu]);omega) [hst,p5,p6',p8,p9,hqi,hcg',hgl,htb,hkey,hlt1,hx0,hx00];done) | (right;simp (disch:=(try simp only [sPu]);omega);done)))))
    refine dreg_nil ?_
    simp only [Exit.then]
    refine SC.wp_cond (t:=((acc[q].1:Int) == (x.1:Int))) (by simp (disch:=(try simp only [sPu]);omega)) ?_
    by_cases he:acc[q].1=x.1
    · rw [if_pos (by rw [beq_iff_eq];omega)]
      refine SC.wp_exit ?_
      simp only [Exit.then]
      have hins:insTag x acc=acc:=ins_same hless (List.getElem?_eq_getElem hqa) he
      refine hsame _ _ (by
        rw [hins]
        exact ⟨by simp [sPu,p],by simp [dPu,pd],by simp (disch:=(try simp only [sPu]);omega) [p5],by simp (disch:=(try simp only [sPu]);omega) [p6],by simp (disch:=(try simp only [sPu]);omega) [p17],by simp (disch:=(try simp only [sPu]);omega) [p18],by simp (disch:=(try simp only [sPu]);omega) [p19],hrows,hout',hbel.drew⟩)
    · rw [if_neg (by simp;omega)]
      refine SC.wp_skip ?_
      simp only [Exit.then]
      refine go _ ⟨by simp [sPu,p],by simp [dPu,pd],by simp (disch:=(try simp only [sPu]);omega) [p5],by simp (disch:=(try simp only [sPu]);omega) [p6],by simp (disch:=(try simp only [sPu]);omega) [p8],by simp (disch:=(try simp only [sPu]);omega) [p9],by simp (disch:=(try simp only [sPu]);omega) [p17],by simp (disch:=(try simp only [sPu]);omega) [p18],by simp (disch:=(try simp only [sPu]);omega) [p19]⟩ fun y hy=>?_
      have:=hge y hy
      rw [List.getElem?_eq_getElem hqa] at hy
      cases hy
      omega
  · have hlt1:decide ((q:Int) < (rows.length:Int))=false:=decide_eq_false (by omega)
    have p6':=p6
    rw [hv] at p6'
    repeat (first | (apply dr_1;(focus rfl);(focus (simp (disch:=(try simp only [sPu]);omega) [hst,p5,p6',p8,p9,htb,hkey,hlt1,hql,hx0,hx00];try rfl))) | (apply dr_y;(focus rfl);(focus rfl);(focus ((try simp only [sPu]);omega));(focus (simp (disch:=(try simp only [sPu]);omega) [hst,p5,p6',p8,p9,htb,hkey,hlt1,hql,hx0,hx00];done));(focus (simp (disch:=(try simp only [sPu]);omega) [hst,p5,p6',p8,p9,htb,hkey,hlt1,hql,hx0,hx00];try rfl))) | (apply dr_n;(focus rfl);(focus rfl);(focus ((try simp only [sPu]);omega));(focus (first | (left;simp (disch:=(try simp only [sPu]);omega) [hst,p5,p6',p8,p9,htb,hkey,hlt1,hql,hx0,hx00];done) | (right;simp (disch:=(try simp only [sPu]);omega);done)))))
    refine dreg_nil ?_
    simp only [Exit.then]
    refine SC.wp_cond (t:=false) (by simp (disch:=(try simp only [sPu]);omega)) ?_
    rw [if_neg (by simp)]
    refine SC.wp_skip ?_
    simp only [Exit.then]
    refine go _ ⟨by simp [sPu,p],by simp [dPu,pd],by simp (disch:=(try simp only [sPu]);omega) [p5],by simp (disch:=(try simp only [sPu]);omega) [p6],by simp (disch:=(try simp only [sPu]);omega) [p8],by simp (disch:=(try simp only [sPu]);omega) [p9],by simp (disch:=(try simp only [sPu]);omega) [p17],by simp (disch:=(try simp only [sPu]);omega) [p18],by simp (disch:=(try simp only [sPu]);omega) [p19]⟩ fun y hy=>?_
    rw [List.getElem?_eq_none (by omega)] at hy
    cases hy
theorem unk_body (hX:stOK P X=true) (hm:P.follows .mixedOrders=true) (hT:TagT P X) {ub:Option Addr} {uc i:Nat} {l:List (Nat × Bytes)} {w w3:World} {acc:List (Nat × Bytes)} {rows:List (Value × Value)} {v:Value} {a:Act} {Q:Exit→Act→World→Prop} {x:Nat × Bytes} {b o:Nat}
    (h:UL X ub uc l w i acc rows v a w3) (hi:i < l.length) (hub:ub=some ⟨b,o,none⟩) (hbB:b < w.heap.size) (hx4:x.1 < 4294967296) {vb:Option Addr} {vc:Nat} (hrng:rangeV w b (o+i * 2) 2=some [.int .u32 (x.1:Int),.slice vb x.2.length vc]) (hbs:BytesAt w (· < w.heap.size) vb x.2) (hvc:x.2.length≤vc) (hacc:acc.length≤32767)
    (hQ:∀ a' w' rows' v',UL X ub uc l w i (insTag x acc) rows' v' a' w'→Q .normal a' w'):(SC.block 1 (sc_ubody X.Tgs X.I X.Tg X.U32)).wp P Q a w3:=by
  have hst:=st_facts hX
  obtain ⟨p,pd,p5,p6,p17,p18,p19,hrows,hout,hbel⟩:=h
  subst hub
  have hws:=hbel.size
  have hrng3:rangeV w3 b (o+i * 2) 2=some [.int .u32 (x.1:Int),.slice vb x.2.length vc]:=by rw [rangeV_mono (hbel.block b hbB)];exact hrng
  obtain ⟨iT,zT,hiT,hzT,hzTc,_,_⟩:=hT.info
  refine SC.wp_block ?_
  refine SC.wp_seq (SC.wp_reg ?_)
  have hii:(0:Int)≤(i:Int)∧(i:Int) < (l.length:Int):=by omega
  iterate 2 (first | (apply ops_1;(focus (simp (disch:=(try simp only [sPu]);omega) [hst,p17,p19,hii,hrng3];try rfl))) | (apply ops_y;(focus rfl);(focus ((try simp only [sPu]);omega));(focus (simp (disch:=(try simp only [sPu]);omega) [hst,p17,p19,hii,hrng3];done));(focus (simp (disch:=(try simp only [sPu]);omega) [hst,p17,p19,hii,hrng3];try rfl))) | (apply ops_n;(focus rfl);(focus ((try simp only [sPu]);omega));(focus (first | (left;simp (disch:=(try simp only [sPu]);omega) [hst,p17,p19,hii,hrng3];done) | (right;simp (disch:=(try simp only [sPu]);omega);done)))))
  refine oNo rfl (opw_alloc hiT hzT ?_)
  have hnew:=heap_alloc_new w3 (.cells zT.cells X.Tg)
  refine oNo rfl (opw_store_agg (cs:=[.int .u32 (x.1:Int),.slice vb x.2.length vc]) (cur:=zT.cells) (b:=w3.heap.size) (E:=X.Tg) hT.agg (by simp (disch:=(try simp only [sPu]);omega)) (by simp (disch:=(try simp only [sPu]);omega)) hnew (by rw [hzTc];rfl) (by intro v hv;simp at hv;rcases hv with rfl | rfl <;> rfl) (oNi ?_))
  rw [pNo]
  simp only [Exit.then]
  refine SC.wp_seq (SC.wp_reg ?_)
  repeat (first | (apply ops_1;(focus (simp (disch:=(try simp only [sPu]);omega) ;try rfl))) | (apply ops_y;(focus rfl);(focus ((try simp only [sPu]);omega));(focus (simp (disch:=(try simp only [sPu]);omega);done));(focus (simp (disch:=(try simp only [sPu]);omega) ;try rfl))) | (apply ops_n;(focus rfl);(focus ((try simp only [sPu]);omega));(focus (first | (left;simp (disch:=(try simp only [sPu]);omega);done) | (right;simp (disch:=(try simp only [sPu]);omega);done)))))
  refine oNi ?_
  simp only [Exit.then]
  obtain ⟨w4,hw4⟩:∃ w4,w4=(w3.alloc (.cells zT.cells X.Tg)).setRow w3.heap.size [Value.int .u32 (x.1:Int),.slice vb x.2.length vc].toArray:=⟨_,rfl⟩
  rw [← hw4]
  have hrow4:w4.heap[w3.heap.size]?=some (.cells #[.int .u32 (x.1:Int),.slice vb x.2.length vc] X.Tg (0,0)):=by rw [hw4];exact setRow_heap _ _ _ _ _ _ hnew
  have hoth4:∀ k,k < w3.heap.size→w4.heap[k]?=w3.heap[k]?:=fun k hk=>by
    rw [hw4,setRow_other _ _ _ _ (by omega)]
    exact Below.heap_alloc _ _ _ hk
  have hsz4:w4.heap.size=w3.heap.size+1:=by rw [hw4];simp
  have hbel4:Below w.heap.size w w4:=by
    rw [hw4]
    exact (hbel.alloc (by omega) _).trans ⟨rfl,rfl,rfl,by simp,fun k hk=>setRow_other _ _ _ _ (by omega)⟩
  have hout4:Out2 w4 w.heap.size X.Tg v rows:=hout.frame fun k h1 h2=>hoth4 k h2
  have hlr:=hrows.1
  have hxr:TRow w x (.int .u32 (x.1:Int),.slice vb x.2.length vc):=⟨rfl,hx4,vb,vc,rfl,hbs,hvc⟩
  have htv:v.ownBlock ≠ some w3.heap.size:=fun e=>by
    have:=(World.ownsRow.lt hout _ e).2
    omega
  have tail:∀ a w5 q,UT X (some ⟨b,o,none⟩) uc l w i w3.heap.size q x (.int .u32 (x.1:Int),.slice vb x.2.length vc) acc rows v a w5→(sc_utail X.Tgs X.I X.Tg X.U32).wp P (Exit.inBlock 1 Q) a w5:=fun a w5 q hu =>
    unk_tail hX hm hT hu hacc (fun a' w' hul=>by
      simp only [Exit.inBlock,if_true]
      exact hQ _ _ _ _ hul) (fun a' w' rows' v' hul=>by
      simp only [Exit.inBlock]
      exact hQ _ _ _ _ hul)
  refine SC.wp_seq (SC.wp_block (SC.wp_loop (fun a' w'=>∃ p:Nat,a'.tmps.size=85∧a'.defers=[]∧getT a' 5=.int .u32 0∧getT a' 6=v∧getT a' 8=.pointer (some ⟨w3.heap.size,0,none⟩)∧getT a' 9=.int .i64 (p:Int)∧getT a' 17=.slice (some ⟨b,o,none⟩) l.length uc∧getT a' 18=.int .i64 (l.length:Int)∧getT a' 19=.int .i64 (i:Int)∧p≤acc.length∧(∀ j y,j < p→acc[j]?=some y→y.1 < x.1)∧Below w4.heap.size w4 w')
    (fun a' _=>match getT a' 9 with | .int _ m=>(acc.length - m).toNat | _=>0) ⟨0,by simp [sPu,p],by simp [dPu,pd],by simp (disch:=(try simp only [sPu]);omega) [p5],by simp (disch:=(try simp only [sPu]);omega) [p6],by simp (disch:=(try simp only [sPu]);omega),by simp (disch:=(try simp only [sPu]);omega),by simp (disch:=(try simp only [sPu]);omega) [p17],by simp (disch:=(try simp only [sPu]);omega) [p18],by simp (disch:=(try simp only [sPu]);omega) [p19],by omega,fun j y hj=>by omega,Below.refl _ _⟩ ?_))
  clear p pd p5 p6 p17 p18 p19 a
  rintro a w5 ⟨q,p,pd,p5,p6,p8,p9,p17,p18,p19,hq,hless,hb5⟩
  have hs5:=hb5.size
  have hout5:Out2 w5 w.heap.size X.Tg v rows:=hout4.frame fun k h1 h2=>hb5.block k h2
  have hrow5:w5.heap[w3.heap.size]?=some (.cells #[.int .u32 (x.1:Int),.slice vb x.2.length vc] X.Tg (0,0)):=by rw [hb5.block _ (by omega)];exact hrow4
  have hkey5:w5.drew.cell? ⟨w3.heap.size,0,none⟩=some (.int .u32 (x.1:Int)):=by
    have:w5.cell? ⟨w3.heap.size,0,none⟩=some (.int .u32 (x.1:Int)):=by rw [cell_of_row _ _ _ _ _ _ hrow5];rfl
    exact this
  have htb5:w3.heap.size < w5.heap.size:=by omega
  have hb5w:Below w.heap.size w w5:=⟨hb5.os.trans hbel4.os,hb5.tape.trans hbel4.tape,hb5.output.trans hbel4.output,Nat.le_trans hbel4.size hb5.size,fun k hk=>(hb5.block k (by omega)).trans (hbel4.block k hk)⟩
  refine SC.wp_seq (SC.wp_seq (SC.wp_dreg hm (Below w5.heap.size w5.drew) [(0,true),(1,true),(2,true),(3,true),(4,true),(5,true),(6,true),(7,true),(8,true),(9,true),(10,true),(11,true),(12,true),(13,true)] (by rfl) (by rfl) (by decide) (Below.refl _ _) ?_))
  obtain ⟨vbase,vcap,hv,hvc',hv2⟩:=hout5.at
  by_cases hql:q < rows.length
  · obtain ⟨g,cap,hvg,hgB,hcg,hrg⟩:=hout5.read (List.getElem?_eq_getElem hql)
    have hgl:g < w5.heap.size:=by
      rcases Nat.lt_or_ge g w5.heap.size with h | h
      · exact h
      · simp [World.cell?,Array.getElem?_eq_none h] at hcg
    have hqa:q < acc.length:=by omega
    have htr:=hrows.2 q acc[q] rows[q] (List.getElem?_eq_getElem hqa) (List.getElem?_eq_getElem hql)
    rw [htr.1] at hcg
    have hcg':w5.drew.cell? ⟨g,q * 2,none⟩=some (.int .u32 (acc[q].1:Int)):=hcg
    have hqi:(0:Int)≤(q:Int)∧(q:Int) < (rows.length:Int):=by omega
    rw [hvg] at p6
    have hlt1:decide ((q:Int) < (rows.length:Int))=true:=decide_eq_true hqi.2
    repeat (first | (apply dr_1;(focus rfl);(focus (simp (disch:=(try simp only [sPu]);omega) [hst,p6,p8,p9,hqi,hcg',hgl,htb5,hkey5,hlt1];try rfl))) | (apply dr_y;(focus rfl);(focus rfl);(focus ((try simp only [sPu]);omega));(focus (simp (disch:=(try simp only [sPu]);omega) [hst,p6,p8,p9,hqi,hcg',hgl,htb5,hkey5,hlt1];done));(focus (simp (disch:=(try simp only [sPu]);omega) [hst,p6,p8,p9,hqi,hcg',hgl,htb5,hkey5,hlt1];try rfl))) | (apply dr_n;(focus rfl);(focus rfl);(focus ((try simp only [sPu]);omega));(focus (first | (left;simp (disch:=(try simp only [sPu]);omega) [hst,p6,p8,p9,hqi,hcg',hgl,htb5,hkey5,hlt1];done) | (right;simp (disch:=(try simp only [sPu]);omega);done)))))
    refine dreg_nil ?_
    simp only [Exit.then]
    refine SC.wp_cond (t:=decide ((acc[q].1:Int) < (x.1:Int))) (by simp (disch:=(try simp only [sPu]);omega)) ?_
    by_cases hlx:acc[q].1 < x.1
    · rw [if_pos (decide_eq_true (by omega))]
      refine SC.wp_skip ?_
      simp only [Exit.then]
      have hwq:IntKind.i64.wrap ((q:Int)+1)=(q:Int)+1:=w64q (by omega) (by omega)
      refine SC.wp_block (SC.wp_reg ?_)
      repeat (first | (apply ops_1;(focus (simp (disch:=(try simp only [sPu]);omega) [hst,p9,hwq];try rfl))) | (apply ops_y;(focus rfl);(focus ((try simp only [sPu]);omega));(focus (simp (disch:=(try simp only [sPu]);omega) [hst,p9,hwq];done));(focus (simp (disch:=(try simp only [sPu]);omega) [hst,p9,hwq];try rfl))) | (apply ops_n;(focus rfl);(focus ((try simp only [sPu]);omega));(focus (first | (left;simp (disch:=(try simp only [sPu]);omega) [hst,p9,hwq];done) | (right;simp (disch:=(try simp only [sPu]);omega);done)))))
      refine oNi ?_
      simp only [Exit.then,Exit.inBlock]
      refine ⟨⟨q+1,by simp [sPu,p],by simp [dPu,pd],by simp (disch:=(try simp only [sPu]);omega) [p5],by simp (disch:=(try simp only [sPu]);omega) [p6,hvg],by simp (disch:=(try simp only [sPu]);omega) [p8],by simp (disch:=(try simp only [sPu]);omega),by simp (disch:=(try simp only [sPu]);omega) [p17],by simp (disch:=(try simp only [sPu]);omega) [p18],by simp (disch:=(try simp only [sPu]);omega) [p19],by omega,fun j y hj hy=>?_,hb5.drew⟩,?_⟩
      · by_cases hjq:j=q
        · subst hjq
          rw [List.getElem?_eq_getElem hqa] at hy
          cases hy
          exact hlx
        · exact hless j y (by omega) hy
      · have e9:getT a 9=.int .i64 (q:Int):=p9
        simp only [e9]
        simp (disch:=(try simp only [sPu]);omega)
        omega
    · rw [if_neg (by rw [decide_eq_false (by omega)];simp)]
      refine SC.wp_exit ?_
      simp only [Exit.then,Exit.inBlock,if_true]
      refine tail _ w5.drew q ⟨by simp [sPu,p],by simp [dPu,pd],by simp (disch:=(try simp only [sPu]);omega) [p5],by simp (disch:=(try simp only [sPu]);omega) [p6,hvg],by simp (disch:=(try simp only [sPu]);omega) [p8],by simp (disch:=(try simp only [sPu]);omega) [p9],by simp (disch:=(try simp only [sPu]);omega) [p17],by simp (disch:=(try simp only [sPu]);omega) [p18],by simp (disch:=(try simp only [sPu]);omega) [p19],hq,hless,fun y hy=>?_,hws,hrow5,hxr,hrows,hout5,htv,hb5w.drew⟩
      rw [List.getElem?_eq_getElem hqa] at hy
      cases hy
      exact hlx
  · have hlt1:decide ((q:Int) < (rows.length:Int))=false:=decide_eq_false (by omega)
    rw [hv] at p6
    repeat (first | (apply dr_1;(focus rfl);(focus (simp (disch:=(try simp only [sPu]);omega) [hst,p6,p8,p9,hlt1,hql];try rfl))) | (apply dr_y;(focus rfl);(focus rfl);(focus ((try simp only [sPu]);omega));(focus (simp (disch:=(try simp only [sPu]);omega) [hst,p6,p8,p9,hlt1,hql];done));(focus (simp (disch:=(try simp only [sPu]);omega) [hst,p6,p8,p9,hlt1,hql];try rfl))) | (apply dr_n;(focus rfl);(focus rfl);(focus ((try simp only [sPu]);omega));(focus (first | (left;simp (disch:=(try simp only [sPu]);omega) [hst,p6,p8,p9,hlt1,hql];done) | (right;simp (disch:=(try simp only [sPu]);omega);done)))))
    refine dreg_nil ?_
    simp only [Exit.then]
    refine SC.wp_cond (t:=false) (by simp (disch:=(try simp only [sPu]);omega)) ?_
    rw [if_neg (by simp)]
    refine SC.wp_exit ?_
    simp only [Exit.then,Exit.inBlock,if_true]
    refine tail _ w5.drew q ⟨by simp [sPu,p],by simp [dPu,pd],by simp (disch:=(try simp only [sPu]);omega) [p5],by simp (disch:=(try simp only [sPu]);omega) [p6,hv],by simp (disch:=(try simp only [sPu]);omega) [p8],by simp (disch:=(try simp only [sPu]);omega) [p9],by simp (disch:=(try simp only [sPu]);omega) [p17],by simp (disch:=(try simp only [sPu]);omega) [p18],by simp (disch:=(try simp only [sPu]);omega) [p19],hq,hless,fun y hy=>?_,hws,hrow5,hxr,hrows,hout5,htv,hb5w.drew⟩
    rw [List.getElem?_eq_none (by omega)] at hy
    cases hy
theorem unk_ok (hX:stOK P X=true) (hm:P.follows .mixedOrders=true) (hT:TagT P X) (oK:FnOK P fKn) (cK:KnownC P fKn) (hf:P.funcs[f]?=some fn) (hb:fn.body.map strip=some (sc_unknown X.Tgs X.I X.Tg X.U32 fKn)) (hn:fn.ntmps=85) (hr:fn.results=#[.tmp 4]):UnkC (fun _=>True) P f:=by
  intro w fs fv ub u uc hfs hlen63 hG hu huc
  have hst:=st_facts hX
  refine fCa hf hb hn (by simp) fun a0 hs hd ha=>?_
  have h0:=ha 0 _ rfl
  have h1:=ha 1 _ rfl
  simp only [List.getElem_toArray,List.getElem_cons_zero,List.getElem_cons_succ] at h0 h1
  refine SC.wp_seq (SC.wp_reg ?_)
  repeat (first | (apply ops_1;(focus (simp (disch:=(try simp only [sPu]);omega) ;try rfl))) | (apply ops_y;(focus rfl);(focus ((try simp only [sPu]);omega));(focus (simp (disch:=(try simp only [sPu]);omega);done));(focus (simp (disch:=(try simp only [sPu]);omega) ;try rfl))) | (apply ops_n;(focus rfl);(focus ((try simp only [sPu]);omega));(focus (first | (left;simp (disch:=(try simp only [sPu]);omega);done) | (right;simp (disch:=(try simp only [sPu]);omega);done)))))
  refine oNi (SC.wp_seq (SC.wp_reg ?_))
  iterate 1 (first | (apply ops_1;(focus (simp (disch:=(try simp only [sPu]);omega) [h0];try rfl))) | (apply ops_y;(focus rfl);(focus ((try simp only [sPu]);omega));(focus (simp (disch:=(try simp only [sPu]);omega) [h0];done));(focus (simp (disch:=(try simp only [sPu]);omega) [h0];try rfl))) | (apply ops_n;(focus rfl);(focus ((try simp only [sPu]);omega));(focus (first | (left;simp (disch:=(try simp only [sPu]);omega) [h0];done) | (right;simp (disch:=(try simp only [sPu]);omega);done)))))
  refine ops_call oK (cK w fs fv hfs hlen63) (by simp (disch:=(try simp only [sPu]);omega)) ?_
  rintro e w2 ⟨rfl,hb2⟩
  refine ⟨_,rfl,?_⟩
  repeat (first | (apply ops_1;(focus (simp (disch:=(try simp only [sPu]);omega) ;try rfl))) | (apply ops_y;(focus rfl);(focus ((try simp only [sPu]);omega));(focus (simp (disch:=(try simp only [sPu]);omega);done));(focus (simp (disch:=(try simp only [sPu]);omega) ;try rfl))) | (apply ops_n;(focus rfl);(focus ((try simp only [sPu]);omega));(focus (first | (left;simp (disch:=(try simp only [sPu]);omega);done) | (right;simp (disch:=(try simp only [sPu]);omega);done)))))
  refine oNi (SC.wp_seq (SC.wp_reg ?_))
  repeat (first | (apply ops_1;(focus (simp (disch:=(try simp only [sPu]);omega) ;try rfl))) | (apply ops_y;(focus rfl);(focus ((try simp only [sPu]);omega));(focus (simp (disch:=(try simp only [sPu]);omega);done));(focus (simp (disch:=(try simp only [sPu]);omega) ;try rfl))) | (apply ops_n;(focus rfl);(focus ((try simp only [sPu]);omega));(focus (first | (left;simp (disch:=(try simp only [sPu]);omega);done) | (right;simp (disch:=(try simp only [sPu]);omega);done)))))
  refine oNi (SC.wp_seq (SC.wp_seq (SC.wp_reg ?_)))
  obtain ⟨l,hl⟩:∃ l,l=u.take most:=⟨_,rfl⟩
  have hll:l.length≤u.length:=by rw [hl,List.length_take];omega
  have hlm:l.length≤32767:=by rw [hl,List.length_take];exact Nat.min_le_left _ _
  have hmin:(if (32767:Int) < (u.length:Int) then (32767:Int) else (u.length:Int))=(l.length:Int):=by
    rw [hl,List.length_take,show most=32767 from rfl]
    split <;> omega
  have hmin2:(if (u.length:Int) < 32767 then (u.length:Int) else (32767:Int))=(l.length:Int):=by
    rw [hl,List.length_take,show most=32767 from rfl]
    split <;> omega
  have hlc:(l.length:Int)≤(uc:Int):=by omega
  repeat (first | (apply ops_1;(focus (simp (disch:=(try simp only [sPu]);omega) [hst,h1,hmin,hmin2,hlc];try rfl))) | (apply ops_y;(focus rfl);(focus ((try simp only [sPu]);omega));(focus (simp (disch:=(try simp only [sPu]);omega) [hst,h1,hmin,hmin2,hlc];done));(focus (simp (disch:=(try simp only [sPu]);omega) [hst,h1,hmin,hmin2,hlc];try rfl))) | (apply ops_n;(focus rfl);(focus ((try simp only [sPu]);omega));(focus (first | (left;simp (disch:=(try simp only [sPu]);omega) [hst,h1,hmin,hmin2,hlc];done) | (right;simp (disch:=(try simp only [sPu]);omega);done)))))
  refine oNi ?_
  simp only [Exit.then]
  refine gen_act (fun a6=>a6.tmps.size=85∧a6.defers=[]∧getT a6 5=.int .u32 0∧getT a6 6=.slice none 0 0∧getT a6 17=.slice ub l.length uc∧getT a6 18=.int .i64 (l.length:Int)∧getT a6 19=.int .i64 0)
    ⟨by simp [sPu,hs],by simp [dPu,hd],by simp (disch:=(try simp only [sPu]);omega),by simp (disch:=(try simp only [sPu]);omega),by simp (disch:=(try simp only [sPu]);omega),by simp (disch:=(try simp only [sPu]);omega),by simp (disch:=(try simp only [sPu]);omega)⟩ ?_
  rintro a6 ⟨p,pd,p5,p6,p17,p18,p19⟩
  refine SC.wp_block (SC.wp_loop (fun a' w'=>∃ (i:Nat) (acc:List (Nat × Bytes)) (rows:List (Value × Value)) (v:Value),UL X ub uc l w i acc rows v a' w'∧i≤l.length∧acc=(l.take i).foldl (fun acc t=>insTag t acc) [])
    (fun a' _=>match getT a' 19 with | .int _ m=>(l.length - m).toNat | _=>0) ⟨0,[],[],.slice none 0 0,⟨p,pd,p5,p6,p17,p18,p19,⟨rfl,fun i x r hx=>by simp at hx⟩,Out2.nil _ _ _,hb2⟩,Nat.zero_le _,rfl⟩ ?_)
  clear p pd p5 p6 p17 p18 p19 a6
  rintro a w3 ⟨i,acc,rows,v,hul,hil,hacc⟩
  have hul':=hul
  obtain ⟨p,pd,p5,p6,p17,p18,p19,hrows,hout,hbel⟩:=hul'
  refine SC.wp_seq (SC.wp_reg ?_)
  repeat (first | (apply ops_1;(focus (simp (disch:=(try simp only [sPu]);omega) [p18,p19];try rfl))) | (apply ops_y;(focus rfl);(focus ((try simp only [sPu]);omega));(focus (simp (disch:=(try simp only [sPu]);omega) [p18,p19];done));(focus (simp (disch:=(try simp only [sPu]);omega) [p18,p19];try rfl))) | (apply ops_n;(focus rfl);(focus ((try simp only [sPu]);omega));(focus (first | (left;simp (disch:=(try simp only [sPu]);omega) [p18,p19];done) | (right;simp (disch:=(try simp only [sPu]);omega);done)))))
  refine oNi ?_
  simp only [Exit.then]
  refine SC.wp_seq (SC.wp_cond (t:=decide ((i:Int) < (l.length:Int))) (by simp (disch:=(try simp only [sPu]);omega)) ?_)
  by_cases hlt:i < l.length
  · rw [if_pos (decide_eq_true (by omega))]
    refine SC.wp_skip ?_
    simp only [Exit.then]
    have hiu:u[i]?=some l[i]:=by
      have:(u.take most)[i]?=some l[i]:=by rw [← hl];exact List.getElem?_eq_getElem hlt
      rw [List.getElem?_take] at this
      split at this
      · exact this
      · cases this
    rcases hu with hu | ⟨b,o,hub,hbB,hall⟩
    · rw [hu] at hiu
      simp at hiu
    obtain ⟨hx4,vb,vc,hrng,hbs,hvc⟩:=hall i _ hiu
    have haccl:acc.length≤32767:=by
      rw [hacc]
      have:=foldl_ins_length (l.take i) []
      simp only [List.length_take,List.length_nil] at this
      omega
    refine SC.wp_seq (unk_body hX hm hT (ub:=ub) (uc:=uc) (l:=l) (w:=w) (i:=i) (acc:=acc) (rows:=rows) (v:=v) (b:=b) (o:=o) (x:=l[i]) ⟨by simpa [sPu] using p,by simpa [dPu] using pd,by simp (disch:=(try simp only [sPu]);omega) [p5],by simp (disch:=(try simp only [sPu]);omega) [p6],by simp (disch:=(try simp only [sPu]);omega) [p17],by simp (disch:=(try simp only [sPu]);omega) [p18],by simp (disch:=(try simp only [sPu]);omega) [p19],hrows,hout,hbel⟩ hlt hub hbB hx4 hrng hbs hvc haccl fun a' w' rows' v' hul2=>?_)
    obtain ⟨z,zd,z5,z6,z17,z18,z19,hrows2,hout2,hbel2⟩:=hul2
    simp only [Exit.then]
    have hwi:IntKind.i64.wrap ((i:Int)+1)=(i:Int)+1:=w64q (by omega) (by omega)
    refine SC.wp_reg ?_
    repeat (first | (apply ops_1;(focus (simp (disch:=(try simp only [sPu]);omega) [z19,hwi];try rfl))) | (apply ops_y;(focus rfl);(focus ((try simp only [sPu]);omega));(focus (simp (disch:=(try simp only [sPu]);omega) [z19,hwi];done));(focus (simp (disch:=(try simp only [sPu]);omega) [z19,hwi];try rfl))) | (apply ops_n;(focus rfl);(focus ((try simp only [sPu]);omega));(focus (first | (left;simp (disch:=(try simp only [sPu]);omega) [z19,hwi];done) | (right;simp (disch:=(try simp only [sPu]);omega);done)))))
    refine oNi ?_
    refine ⟨⟨i+1,insTag l[i] acc,rows',v',⟨by simp [sPu,z],by simp [dPu,zd],by simp (disch:=(try simp only [sPu]);omega) [z5],by simp (disch:=(try simp only [sPu]);omega) [z6],by simp (disch:=(try simp only [sPu]);omega) [z17],by simp (disch:=(try simp only [sPu]);omega) [z18],by simp (disch:=(try simp only [sPu]);omega),hrows2,hout2,hbel2⟩,by omega,?_⟩,?_⟩
    · rw [List.take_add_one,List.getElem?_eq_getElem hlt,Option.toList_some,List.foldl_append,← hacc]
      rfl
    · have e19:getT a 19=.int .i64 (i:Int):=p19
      simp only [e19]
      simp (disch:=(try simp only [sPu]);omega)
      omega
  · rw [if_neg (by rw [decide_eq_false (by omega)];simp)]
    refine SC.wp_exit ?_
    simp only [Exit.then,Exit.inBlock,if_true]
    refine SC.wp_seq (SC.wp_reg ?_)
    repeat (first | (apply ops_1;(focus (simp (disch:=(try simp only [sPu]);omega) [p6];try rfl))) | (apply ops_y;(focus rfl);(focus ((try simp only [sPu]);omega));(focus (simp (disch:=(try simp only [sPu]);omega) [p6];done));(focus (simp (disch:=(try simp only [sPu]);omega) [p6];try rfl))) | (apply ops_n;(focus rfl);(focus ((try simp only [sPu]);omega));(focus (first | (left;simp (disch:=(try simp only [sPu]);omega) [p6];done) | (right;simp (disch:=(try simp only [sPu]);omega);done)))))
    refine oNi (SC.wp_ret ?_)
    have hfin:acc=unknown u:=by
      rw [hacc,show i=l.length by omega,List.take_length,hl]
      rfl
    obtain ⟨base,cap,hv,hvc,hv2⟩:=hout.at
    rw [← hrows.1,hfin] at hv
    refine ret_tmp hr (by simp [dPu,pd]) ⟨base,cap,by rw [← hv];simp (disch:=(try simp only [sPu]);omega),?_,hbel⟩
    rcases hv2 with h0 | ⟨g,cur,rfl,h2,h3,h4,h5⟩
    · refine .inl (List.length_eq_zero_iff.1 ?_)
      rw [← hfin,hrows.1,h0]
      rfl
    · refine .inr ⟨g,0,rfl,(Array.getElem?_eq_some_iff.1 h3).1,fun j x hx=>?_⟩
      rw [← hfin] at hx
      have hjl:j < rows.length:=by rw [← hrows.1];exact (List.getElem?_eq_some_iff.1 hx).1
      obtain ⟨g',cap',hv',hg',hc',hr'⟩:=hout.read (List.getElem?_eq_getElem hjl)
      obtain ⟨t1,t2,vb,vc,t3,t4,t5⟩:=hrows.2 j x rows[j] hx (List.getElem?_eq_getElem hjl)
      rw [← hfin,hrows.1] at hv
      rw [hv] at hv'
      cases hv'
      refine ⟨t2,vb,vc,?_,?_,t5⟩
      · rw [Nat.zero_add,hr',t1,t3]
      · exact bytesAt_mono t4 (fun k hk=>Nat.lt_of_lt_of_le hk hbel.size) fun k hk=>hbel.block k hk
end
end Go.Proofs.YtcchakpiemhpeaaDoor.K
namespace Go.Proofs.YtcchakpiemhpeaaDoor.K
open Go Go.RowKit Go.Proofs.YtcchakpiemhpeaaDoor.T
attribute [local simp] eTm eCo pNo gTp gTn qv qcall vop iop
set_option linter.unusedVariables false
set_option linter.unusedSimpArgs false
set_option maxHeartbeats 4000000
section
variable {P:Program} {X:STy} {f:FuncId} {fn:Func}
end
end Go.Proofs.YtcchakpiemhpeaaDoor.K
namespace Go.Proofs.YtcchakpiemhpeaaDoor.K
open Go Go.RowKit Go.Proofs.YtcchakpiemhpeaaDoor.T
set_option linter.unusedSimpArgs false
set_option linter.unusedVariables false
set_option maxHeartbeats 4000000
def hasSub:Ty→Bool
  | .struct _ _ _ _ _=>true
  | .list _ _ _ of=>hasSub of
  | .prim _=>false
def ofPart:Ty→List (Nat × Int)
  | .list _ _ _ of=>[(6,kindOf of)]
  | _=>[]
def fldInts (h:Hd) (ty:Ty):List (Nat × Int) :=
  (0,kindOf ty) :: (if h.from_=0 then [] else [(1,h.from_)]) ++ [(2,h.to),(3,h.null),(4,-1)] ++ (if h.dflt=0 then [] else [(5,h.dflt)]) ++ ofPart ty
def fldParts (h:Hd) (ty:Ty) (sub:Option Nat):List (Nat × Operand) :=
  (fldInts h ty).map (fun x=>(x.1,.const (.int .i64 x.2))) ++ (match sub with | some t=>[(7,.tmp t)] | none=>[])
def bOps (F:Nat):Fs→List Nat→Nat→List SOp
  | .nil,_,_=>[]
  | .cons h ty r,subs,t =>
    if hasSub ty then cal t (subs.headD 0) [] :: ⟨some (t+1),.build F (fldParts h ty (some t)).toArray,none⟩ :: bOps F r subs.tail (t+2)
    else ⟨some t,.build F (fldParts h ty none).toArray,none⟩ :: bOps F r subs (t+1)
def bSlots:Fs→Nat→List Nat
  | .nil,_=>[]
  | .cons _ ty r,t=>if hasSub ty then (t+1) :: bSlots r (t+2) else t :: bSlots r (t+1)
def bEnd:Fs→Nat→Nat
  | .nil,t=>t
  | .cons _ ty r,t=>if hasSub ty then bEnd r (t+2) else bEnd r (t+1)
def bSlice (Fs_:Nat) (fs:Fs):SOp:=⟨some (bEnd fs 1),.buildSlice Fs_ (Fs.len fs) (((bSlots fs 1).zipIdx 0).map fun x=>(x.2,.tmp x.1)).toArray,none⟩
def sc_bTop (F Fs_ M:Nat) (fs:Fs) (flex:Int) (subs:List Nat):SC :=
  .seq (.reg [⟨some 0,.alloc M,none⟩]) (.seq (.reg (bOps F fs subs 1 ++ [bSlice Fs_ fs,⟨some (bEnd fs 1+1),.build M #[(1,.const (.int .i64 flex)),(0,.tmp (bEnd fs 1))],none⟩,⟨none,.store M (.tmp 0) (.tmp (bEnd fs 1+1)),none⟩])) .ret)
def zeroF:List Value:=[.int .i64 0,.int .i64 0,.int .i64 0,.int .i64 0,.int .i64 0,.int .i64 0,.int .i64 0,.slice none 0 0]
def fOK (P:Program) (F:Nat):Bool :=
  match P.info? F,P.underlying F with
  | some it,some (.struct fields) =>
    match it.zero,fields.toList.mapM (fun f=>(P.info? f.type).map fun i=>(f.offset,i.size)) with
    | some (.agg ⟨[.int .i64 0,.int .i64 0,.int .i64 0,.int .i64 0,.int .i64 0,.int .i64 0,.int .i64 0,.slice none 0 0]⟩),some [(0,1),(1,1),(2,1),(3,1),(4,1),(5,1),(6,1),(7,1)]=>true
    | _,_=>false
  | _,_=>false
def setAll:List (Nat × Value)→List Value→List Value
  | [],cs=>cs
  | (i,v) :: r,cs=>setAll r (cs.set i v)
section
variable {P:Program} {X:STy} {f:FuncId} {fn:Func}
theorem fill8:∀ (parts:List (Nat × Value)) (cs:List Value),cs.length=8→(∀ x ∈ parts,x.1 < 8∧x.2.cells=#[x.2]) →
    Instr.fill (fun x=>(#[(0,1),(1,1),(2,1),(3,1),(4,1),(5,1),(6,1),(7,1)]:Array (Nat × Nat))[x]?) cs.toArray parts=some (setAll parts cs).toArray
  | [],cs,_,_=>by simp [Instr.fill,setAll]
  | (i,v) :: r,cs,hl,h=>by
    obtain ⟨h1,h2⟩:=h (i,v) List.mem_cons_self
    have ih:=fill8 r (cs.set i v) (by simpa using hl) (fun x hx=>h x (List.mem_cons_of_mem _ hx))
    have hp:(#[(0,1),(1,1),(2,1),(3,1),(4,1),(5,1),(6,1),(7,1)]:Array (Nat × Nat))[i]?=some (i,1):=by
      have:i=0∨i=1∨i=2∨i=3∨i=4∨i=5∨i=6∨i=7:=by simp only at h1;omega
      rcases this with rfl | rfl | rfl | rfl | rfl | rfl | rfl | rfl <;> rfl
    simp only at h1 h2
    unfold Instr.fill
    rw [hp]
    simp only [h2,setAll]
    have hc:¬ (i+1 > cs.length):=by omega
    simp [hl,show ¬ (8 < i+1) by omega]
    simpa using ih
theorem built8 (h:fOK P X.F=true) (parts:List (Nat × Value)) (hp:∀ x ∈ parts,x.1 < 8∧x.2.cells=#[x.2]):P.built X.F parts=some (setAll parts zeroF).toArray:=by
  unfold fOK at h
  split at h <;> try (simp at h;done)
  rename_i it fields hi hu
  split at h <;> try (simp at h;done)
  rename_i hz hpl
  unfold Program.built
  simp only [hi,hu,hz,hpl]
  exact fill8 parts zeroF rfl hp
def ofOK2 (of_:Int):Ty→Prop
  | .list _ _ _ of=>of_=kindOf of
  | _=>True
theorem fldInts_set (h:Hd) (ty:Ty):∃ of_,ofOK2 of_ ty∧setAll ((fldInts h ty).map fun x=>(x.1,Value.int .i64 x.2)) zeroF=[.int .i64 (kindOf ty),.int .i64 h.from_,.int .i64 h.to,.int .i64 h.null,.int .i64 (-1),.int .i64 h.dflt,.int .i64 of_,.slice none 0 0]:=by
  have e:∀ (l:List (Nat × Int)) (of_:Int),ofPart ty=l→(l=[]∧of_=0∨l=[(6,of_)])→setAll ((fldInts h ty).map fun x=>(x.1,Value.int .i64 x.2)) zeroF=[.int .i64 (kindOf ty),.int .i64 h.from_,.int .i64 h.to,.int .i64 h.null,.int .i64 (-1),.int .i64 h.dflt,.int .i64 of_,.slice none 0 0]:=by
    intro l of_ hl ho
    unfold fldInts
    rw [hl]
    rcases ho with ⟨rfl,rfl⟩ | rfl <;> by_cases e1:h.from_=0 <;> by_cases e2:h.dflt=0 <;> simp [e1,e2,setAll,zeroF]
  cases ty with
  | prim k=>exact ⟨0,trivial,e [] 0 rfl (.inl ⟨rfl,rfl⟩)⟩
  | struct _ _ _ _ _=>exact ⟨0,trivial,e [] 0 rfl (.inl ⟨rfl,rfl⟩)⟩
  | list _ _ _ of=>exact ⟨kindOf of,rfl,e [(6,kindOf of)] _ rfl (.inr rfl)⟩
def SubFns (P:Program):Fs→List Nat→Prop
  | .nil,_=>True
  | .cons _ ty r,subs=>if hasSub ty then
      (FnOK P (subs.headD 0)∧∀ w:World,Calls P (subs.headD 0) #[] w fun e w'=>∃ v,e=.returned v∧v.oneCell'=true∧SubV w' (fun k=>w.heap.size≤k∧k < w'.heap.size) ty v∧Below w.heap.size w w')∧SubFns P r subs.tail
    else SubFns P r subs
def flatTy:Ty→Bool
  | .list _ _ _ of=>!isList of
  | _=>true
def flatFs:Fs→Bool
  | .nil=>true
  | .cons _ ty r=>flatTy ty && flatFs r
def FsRows (w:World) (F:Nat→Prop):Fs→List (List Value)→Prop
  | .nil,rows=>rows=[]
  | .cons h ty r,rows=>∃ of_ sub rest,rows=[.int .i64 (kindOf ty),.int .i64 h.from_,.int .i64 h.to,.int .i64 h.null,.int .i64 (-1),.int .i64 h.dflt,.int .i64 of_,sub] :: rest∧sub.oneCell'=true∧ofOK of_ ty∧SubV w F ty sub∧FsRows w F r rest
theorem FsRows.mono {w0 w:World} {F F':Nat→Prop} (hF:∀ k,F k→F' k) (hw:∀ k,F k→w.heap[k]?=w0.heap[k]?):∀ (fs:Fs) (rows:List (List Value)),FsRows w0 F fs rows→FsRows w F' fs rows
  | .nil,_,h=>h
  | .cons h ty r,rows,hh=>by
    simp only [FsRows] at hh ⊢
    obtain ⟨of_,sub,rest,h1,h2,h3,h4,h5⟩:=hh
    exact ⟨of_,sub,rest,h1,h2,h3,SubV.mono hF hw ty sub h4,FsRows.mono hF hw r rest h5⟩
theorem fsAt_rows {w:World} {F:Nat→Prop} {b:Nat}:∀ (fs:Fs) (rows:List (List Value)) (o:Nat),FsRows w F fs rows→(∀ i v,rows.flatten[i]?=some v→w.cell? ⟨b,o+i,none⟩=some v)→FsAt w F fs b o
  | .nil,_,_,_,_=>by simp [FsAt]
  | .cons h ty r,rows,o,hh,hc=>by
    simp only [FsRows] at hh
    obtain ⟨of_,sub,rest,rfl,h2,h3,h4,h5⟩:=hh
    simp only [FsAt]
    refine ⟨⟨of_,sub,?_,h2,h3,h4⟩,fsAt_rows r rest (o+8) h5 (fun i v hv=>?_)⟩
    · refine rangeV_of [.int .i64 (kindOf ty),.int .i64 h.from_,.int .i64 h.to,.int .i64 h.null,.int .i64 (-1),.int .i64 h.dflt,.int .i64 of_,sub] o (fun j v hv=>hc j v ?_)
      rw [List.flatten_cons,List.getElem?_append_left (by have:=(List.getElem?_eq_some_iff.1 hv).1;simpa using this)]
      exact hv
    · rw [show o+8+i=o+(i+8) by omega]
      refine hc (i+8) v ?_
      rw [List.flatten_cons,List.getElem?_append_right (by simp)]
      simpa using hv
theorem fsRows_len {w:World} {F:Nat→Prop}:∀ (fs:Fs) (rows:List (List Value)),FsRows w F fs rows→rows.length=Fs.len fs∧∀ r ∈ rows,r.length=8
  | .nil,rows,h=>by simp only [FsRows] at h;subst h;simp [Fs.len]
  | .cons h ty r,rows,hh=>by
    simp only [FsRows] at hh
    obtain ⟨of_,sub,rest,rfl,h2,h3,h4,h5⟩:=hh
    obtain ⟨q1,q2⟩:=fsRows_len r rest h5
    refine ⟨by simp [Fs.len,q1],fun x hx=>?_⟩
    rcases List.mem_cons.1 hx with rfl | hx
    · rfl
    · exact q2 x hx
theorem ofOK_of {of_:Int} {ty:Ty} (hfl:flatTy ty=true) (h:ofOK2 of_ ty):ofOK of_ ty:=by
  cases ty with
  | list _ _ _ of =>
    simp only [flatTy,Bool.not_eq_true'] at hfl
    exact ⟨h,hfl⟩
  | prim k=>exact trivial
  | struct _ _ _ _ _=>exact trivial
theorem fldInts_lt (h:Hd) (ty:Ty):∀ x ∈ fldInts h ty,x.1 < 7:=by
  intro x hx
  have a1:∀ (c:Prop) [Decidable c] (k:Nat) (v:Int),x ∈ (if c then [] else [(k,v)])→x.1=k:=by
    intro c _ k v hx
    split at hx
    · simp at hx
    · simp at hx;rw [hx]
  have a2:x ∈ ofPart ty→x.1=6:=by
    intro hx
    cases ty <;> simp [ofPart] at hx
    rw [hx]
  simp only [fldInts,List.mem_append,List.mem_cons,List.not_mem_nil,or_false] at hx
  rcases hx with (((hx | hx) | (hx | hx | hx)) | hx) | hx
  · rw [hx];simp
  · have:=a1 _ _ _ hx;omega
  · rw [hx];simp
  · rw [hx];simp
  · rw [hx];simp
  · have:=a1 _ _ _ hx;omega
  · have:=a2 hx;omega
theorem setAll_append:∀ (l l':List (Nat × Value)) (cs:List Value),setAll (l ++ l') cs=setAll l' (setAll l cs)
  | [],_,_=>rfl
  | (i,v) :: l,l',cs=>by simp only [List.cons_append,setAll,setAll_append l l']
theorem bEnd_ge:∀ (fs:Fs) (t:Nat),t≤bEnd fs t
  | .nil,t=>Nat.le_refl _
  | .cons _ ty r,t=>by
    simp only [bEnd]
    split
    · have:=bEnd_ge r (t+2);omega
    · have:=bEnd_ge r (t+1);omega
theorem subV_none {w:World} {F:Nat→Prop}:∀ (ty:Ty) (v:Value),hasSub ty=false→SubV w F ty v
  | .prim _,_,_=>by simp [SubV]
  | .struct _ _ _ _ _,_,h=>by simp [hasSub] at h
  | .list _ _ _ of,v,h=>by
    simp only [hasSub] at h
    simp only [SubV]
    exact subV_none of v h
theorem cells_one {v:Value} (h:v.oneCell'=true):v.cells=#[v]:=cells_oneCell h
theorem bOps_ok (hX:fOK P X.F=true):∀ (fs:Fs) (subs:List Nat) (t:Nat) (all r:List SOp) (K:Act→World→Prop) (a:Act) (w:World),flatFs fs=true→SubFns P fs subs→bEnd fs t≤a.tmps.size →
    (∀ (a':Act) (w':World) (rows:List (List Value)),a'.tmps.size=a.tmps.size→a'.defers=a.defers→(∀ s,s < t→getT a' s=getT a s)→FsRows w' (fun k=>w.heap.size≤k∧k < w'.heap.size) fs rows→((bSlots fs t).map (getT a'))=rows.map (fun r=>Value.agg r.toArray)→Below w.heap.size w w'→opsw P all r K a' w') →
    opsw P all (bOps X.F fs subs t ++ r) K a w
  | .nil,subs,t,all,r,K,a,w,_,_,_,h=>h a w [] rfl rfl (fun _ _=>rfl) rfl rfl (Below.refl _ _)
  | .cons hd ty rs,subs,t,all,r,K,a,w,hfl,hsf,hsz,h=>by
    simp only [flatFs,Bool.and_eq_true] at hfl
    obtain ⟨of_,hof,hset⟩:=fldInts_set hd ty
    have hints:∀ x ∈ (fldInts hd ty).map (fun x=>(x.1,Value.int .i64 x.2)),x.1 < 8∧x.2.cells=#[x.2]:=by
      intro x hx
      obtain ⟨y,hy,rfl⟩:=List.mem_map.1 hx
      have:=fldInts_lt hd ty y hy
      exact ⟨by simp only;omega,rfl⟩
    cases hs:hasSub ty
    · simp only [SubFns,hs,Bool.false_eq_true,if_false] at hsf
      simp only [bEnd,hs,Bool.false_eq_true,if_false] at hsz
      have hge:=bEnd_ge rs (t+1)
      simp only [bOps,bSlots,hs,Bool.false_eq_true,if_false,List.cons_append] at h ⊢
      refine oNo rfl (opw_build (cs:=#[.int .i64 (kindOf ty),.int .i64 hd.from_,.int .i64 hd.to,.int .i64 hd.null,.int .i64 (-1),.int .i64 hd.dflt,.int .i64 of_,.slice none 0 0]) ?_ ?_)
      · have:=built8 hX _ hints
        rw [hset] at this
        rw [← this]
        simp [fldParts]
        rfl
      refine bOps_ok hX rs subs (t+1) all r K _ w hfl.2 hsf (by rw [sPu];exact hsz) ?_
      intro a' w' rows q qd qs qr qm qb
      refine h a' w' ([.int .i64 (kindOf ty),.int .i64 hd.from_,.int .i64 hd.to,.int .i64 hd.null,.int .i64 (-1),.int .i64 hd.dflt,.int .i64 of_,.slice none 0 0] :: rows) (by rw [q,sPu]) (by rw [qd,dPu]) ?_ ?_ ?_ qb
      · intro s hs
        rw [qs s (by omega),gTn (by omega)]
      · simp only [FsRows]
        exact ⟨of_,_,rows,rfl,rfl,ofOK_of hfl.1 hof,subV_none ty _ hs,qr⟩
      · simp only [List.map_cons]
        rw [qm,qs t (by omega),gTp (by omega)]
    · simp only [SubFns,hs,if_true] at hsf
      obtain ⟨⟨oF,cF⟩,hsf⟩:=hsf
      simp only [bEnd,hs,if_true] at hsz
      have hge:=bEnd_ge rs (t+2)
      simp only [bOps,bSlots,hs,if_true,List.cons_append] at h ⊢
      refine ops_cal oF (R:=fun e w'=>∃ v,e=.returned v∧v.oneCell'=true∧SubV w' (fun k=>w.heap.size≤k∧k < w'.heap.size) ty v∧Below w.heap.size w w') (cF w) ?_
      rintro e w1 ⟨v,rfl,hv1,hsv,hb1⟩
      refine ⟨v,rfl,?_⟩
      have hs1:w.heap.size≤w1.heap.size:=hb1.size
      refine oNo rfl (opw_build (cs:=#[.int .i64 (kindOf ty),.int .i64 hd.from_,.int .i64 hd.to,.int .i64 hd.null,.int .i64 (-1),.int .i64 hd.dflt,.int .i64 of_,v]) ?_ ?_)
      · have:=built8 hX ((fldInts hd ty).map (fun x=>(x.1,Value.int .i64 x.2)) ++ [(7,v)]) (by
          intro x hx
          rcases List.mem_append.1 hx with hx | hx
          · exact hints x hx
          · simp at hx
            subst hx
            exact ⟨by simp,cells_one hv1⟩)
        rw [setAll_append,hset] at this
        simp only [setAll,List.set_cons_succ,List.set_cons_zero] at this
        rw [← this]
        have ht:getT (a.put (some t) v) t=v:=gTp (by omega)
        simp [fldParts,eTm,ht]
        rfl
      refine bOps_ok hX rs subs.tail (t+2) all r K _ w1 hfl.2 hsf (by rw [sPu,sPu];exact hsz) ?_
      intro a' w' rows q qd qs qr qm qb
      have hs2:w1.heap.size≤w'.heap.size:=qb.size
      refine h a' w' ([.int .i64 (kindOf ty),.int .i64 hd.from_,.int .i64 hd.to,.int .i64 hd.null,.int .i64 (-1),.int .i64 hd.dflt,.int .i64 of_,v] :: rows) (by rw [q,sPu,sPu]) (by rw [qd,dPu,dPu]) ?_ ?_ ?_ (hb1.trans (qb.mono hs1))
      · intro s hs
        rw [qs s (by omega),gTn (by omega),gTn (by omega)]
      · simp only [FsRows]
        refine ⟨of_,v,rows,rfl,hv1,ofOK_of hfl.1 hof,SubV.mono (fun k hk=>?_) (fun k hk=>qb.block k hk.2) ty v hsv,FsRows.mono (w0:=w') (fun k hk=>?_) (fun _ _=>rfl) rs rows qr⟩
        · omega
        · omega
      · simp only [List.map_cons]
        rw [qm,qs (t+1) (by omega),gTp (by rw [sPu];omega)]
theorem opw_buildFs (hX:fOK P X.F=true) (hS:P.underlying X.Fs=some (.slice X.F)) (hF8:∃ i,P.info? X.F=some i∧i.size=8) {a:Act} {w:World} {K:Act→World→Prop} {d:Option Tmp} {g:Option (Nat × Bool)} {n:Nat} {slots:List Nat} {rows:List (List Value)} (hn:n=rows.length) (hn0:0 < n) (hn1:n≤1000) (hm:slots.map (getT a)=rows.map (fun r=>Value.agg r.toArray)) (hr:∀ r ∈ rows,r.length=8)
    (h:K (a.put d (.slice (some ⟨w.heap.size,0,none⟩) n n)) (w.alloc (.cells rows.flatten.toArray X.F))):opw P ⟨d,.buildSlice X.Fs n (((slots.zipIdx 0).map fun x=>(x.2,Operand.tmp x.1)).toArray),g⟩ a w K:=by
  obtain ⟨i,hi,hs8⟩:=hF8
  have hz:∃ z,i.zero=some z:=by
    unfold fOK at hX
    rw [hi] at hX
    split at hX <;> try (simp at hX;done)
    rename_i it fields h1 h2
    split at hX <;> try (simp at hX;done)
    rename_i hz _
    cases h1
    exact ⟨_,hz⟩
  obtain ⟨z,hz⟩:=hz
  have hparts:((((slots.zipIdx 0).map fun x=>(x.2,Operand.tmp x.1)).toArray).map fun x=>(x.1,a.eval x.2)).toList=(((rows.map fun r=>Value.agg r.toArray).zipIdx 0).map fun x=>(x.2,x.1)):=by
    rw [← hm,List.zipIdx_map,List.map_map]
    simp [eTm,Function.comp_def]
  have hfill:=Go.Great.fill_whole (s:=8) (by decide) (rows.map fun r=>Value.agg r.toArray) ((Array.range (n * i.size)).map (z.cells[· % z.cells.size]!)) (by
    intro v hv
    obtain ⟨r,hr',rfl⟩:=List.mem_map.1 hv
    simpa [Value.cells] using hr r hr') (by rw [hs8];simp [hn])
  have hfl:(rows.map fun r=>Value.agg r.toArray).flatMap (fun v=>v.cells.toList)=rows.flatten:=by
    rw [List.flatMap_map]
    simp [Value.cells,List.flatMap_def]
  rw [hfl] at hfill
  refine oVa (v:=.slice (some ⟨w.heap.size,0,none⟩) n n) (w':=w.alloc (.cells rows.flatten.toArray X.F)) (by simp) (fun p hp=>?_) h
  have hrun:=run_buildSlice (P:=P) w X.Fs X.F n ((((slots.zipIdx 0).map fun x=>(x.2,Operand.tmp x.1)).toArray).map fun x=>(x.1,a.eval x.2)) rows.flatten.toArray i z hS hi hz (by rw [hs8];omega) (by rw [hs8];omega) (by rw [hparts,hs8] at *;exact hfill)
  simp only [execOp,hp]
  simp only [Sem.run_bind]
  rw [hrun]
  rfl
end
end Go.Proofs.YtcchakpiemhpeaaDoor.K
namespace Go.Proofs.YtcchakpiemhpeaaDoor.K
open Go Go.RowKit Go.Proofs.YtcchakpiemhpeaaDoor.T
set_option linter.unusedSimpArgs false
set_option linter.unusedVariables false
set_option maxHeartbeats 4000000
section
variable {P:Program} {X:STy} {f:FuncId} {fn:Func}
theorem bSlice_ok (hX:stOK P X=true) (hF:fOK P X.F=true) (hS:P.underlying X.Fs=some (.slice X.F)) (fs:Fs) (subs:List Nat) (hfl:flatFs fs=true) (hsf:SubFns P fs subs) (hlen:0 < Fs.len fs∧Fs.len fs≤1000) {all r:List SOp} {K:Act→World→Prop} {a:Act} {w:World} (hsz:bEnd fs 1 < a.tmps.size)
    (h:∀ (a':Act) (w':World) (v:Value),a'.tmps.size=a.tmps.size→a'.defers=a.defers→getT a' 0=getT a 0→getT a' (bEnd fs 1)=v→(∃ b l c,v=.slice b l c)→FsV w' (fun k=>w.heap.size≤k∧k < w'.heap.size) fs v→Below w.heap.size w w'→opsw P all r K a' w') :
    opsw P all (bOps X.F fs subs 1 ++ bSlice X.Fs fs :: r) K a w:=by
  have hst:=st_facts hX
  have hF8:∃ i,P.info? X.F=some i∧i.size=8:=by
    obtain ⟨i,hi,hs,_⟩:=agg_of (w:=w) (aggB_of hst.2.2.1.2.1)
    exact ⟨i,hi,hs⟩
  refine bOps_ok hF fs subs 1 all _ K a w hfl hsf (by omega) ?_
  intro a' w' rows q qd qs qr qm qb
  obtain ⟨hrl,hr8⟩:=fsRows_len fs rows qr
  have h1:=bEnd_ge fs 1
  refine oNo rfl (opw_buildFs hF hS hF8 hrl.symm hlen.1 hlen.2 qm hr8 ?_)
  have hnew:=heap_alloc_new w' (.cells rows.flatten.toArray X.F)
  have hbn:Below w'.heap.size w' (w'.alloc (.cells rows.flatten.toArray X.F)):=(Below.refl _ _).alloc (Nat.le_refl _) _
  have hsn:(w'.alloc (.cells rows.flatten.toArray X.F)).heap.size=w'.heap.size+1:=by simp
  have hsw:w.heap.size≤w'.heap.size:=qb.size
  generalize w'.alloc (.cells rows.flatten.toArray X.F)=w2 at *
  refine h _ w2 (.slice (some ⟨w'.heap.size,0,none⟩) (Fs.len fs) (Fs.len fs)) (by rw [sPu,q]) (by rw [dPu,qd]) (by rw [gTn (by omega),qs 0 (by omega)]) (by rw [gTp (by omega)]) ⟨_,_,_,rfl⟩ ⟨_,_,rfl,.inr ⟨w'.heap.size,0,rfl,⟨by omega,by omega⟩,?_⟩⟩ (qb.trans (hbn.mono hsw))
  refine fsAt_rows fs rows 0 (FsRows.mono (fun k hk=>⟨hk.1,by omega⟩) (fun k hk=>hbn.block k hk.2) fs rows qr) (fun i v hv=>?_)
  rw [cell_of_row _ _ _ _ _ _ hnew]
  simpa using hv
theorem bTop_ok (hX:stOK P X=true) (hF:fOK P X.F=true) (hS:P.underlying X.Fs=some (.slice X.F)) (hM:arrB P X.M 2=true) (hMb:∀ (n:Int) (b:Option Addr) (l c:Nat),P.built X.M [(1,.int .i64 n),(0,.slice b l c)]=some #[.slice b l c,.int .i64 n])
    (fs:Fs) (flex:Int) (subs:List Nat) (hfl:flatFs fs=true) (hsf:SubFns P fs subs) (hlen:0 < Fs.len fs∧Fs.len fs≤1000)
    (hf:P.funcs[f]?=some fn) (hb:fn.body.map strip=some (sc_bTop X.F X.Fs X.M fs flex subs)) (hn:fn.ntmps=bEnd fs 1+2) (hr:fn.results=#[.cell 0 X.M]) (w:World) :
    Calls P f #[] w fun e w'=>∃ v,e=.returned (msgV v flex)∧v.oneCell'=true∧FsV w' (fun k=>w.heap.size≤k∧k < w'.heap.size) fs v∧Below w.heap.size w w':=by
  have hst:=st_facts hX
  obtain ⟨hM1,iM,zM,hiM,hzM,hzMs⟩:=arr_of hM
  refine fCa hf hb hn (by simp) fun a0 hs hd ha=>?_
  refine SC.wp_seq (SC.wp_reg (oNo rfl (opw_alloc hiM hzM (oNi ?_))))
  have hnew:=heap_alloc_new w (.cells zM.cells X.M)
  have hbn:Below w.heap.size w (w.alloc (.cells zM.cells X.M)):=(Below.refl _ _).alloc (Nat.le_refl _) _
  have hsn:(w.alloc (.cells zM.cells X.M)).heap.size=w.heap.size+1:=by simp
  generalize w.alloc (.cells zM.cells X.M)=w1 at *
  refine SC.wp_seq (SC.wp_reg ?_)
  have hge:=bEnd_ge fs 1
  refine bSlice_ok hX hF hS fs subs hfl hsf hlen (by rw [sPu,hs];omega) ?_
  intro a' w' v q qd q0 qe hv qf qb
  rw [gTp (by omega)] at q0
  rw [sPu,hs] at q
  rw [dPu,hd] at qd
  obtain ⟨b,l,c,rfl⟩:=hv
  have hsw:w1.heap.size≤w'.heap.size:=qb.size
  refine oNo rfl (opw_build (cs:=#[.slice b l c,.int .i64 flex]) ?_ ?_)
  · rw [← hMb]
    congr 1
    simp [eCo,eTm,qe]
  have hn1:w'.heap[w.heap.size]?=_:=(qb.block w.heap.size (by omega)).trans hnew
  refine oNo rfl (opw_store_agg (b:=w.heap.size) (cs:=[.slice b l c,.int .i64 flex]) hM1 ?_ ?_ hn1 (by simp [hzMs]) (by simp [Value.oneCell']) (oNi (SC.wp_ret ?_)))
  · rw [eTm,gTn (by omega)];exact q0
  · rw [eTm,gTp (by omega)]
  have hnf:=setRow_heap w' w.heap.size _ #[Value.slice b l c,.int .i64 flex] _ _ hn1
  refine ret_cell hr (by simp [hst]) (b:=w.heap.size) ?_ hnf (by rw [pNo,dPu,qd]) ⟨.slice b l c,rfl,rfl,?_,below_setRow (hbn.trans (qb.mono (by omega))) (Nat.le_refl _) _⟩
  · rw [pNo,gTn (by omega)];exact q0
  · exact qf.mono (fun k hk=>⟨by omega,by simp;omega⟩) (fun k hk=>setRow_other _ _ _ _ (by omega))
end
end Go.Proofs.YtcchakpiemhpeaaDoor.K
namespace Go.Proofs.YtcchakpiemhpeaaDoor.K
open Go Go.RowKit Go.Proofs.YtcchakpiemhpeaaDoor.T
set_option linter.unusedVariables false
set_option linter.unusedSimpArgs false
def isZTag:List Value→Bool
  | [.int .u32 0,.slice none 0 0]=>true
  | _=>false
theorem tagT_of {P:Program} {X:STy} (h1:aggB P X.Tg 2=true) (h2:P.underlying X.Tgs=some (.slice X.Tg)) (h3:zeroB P X.Tg isZTag=true) (h4:(match P.info? X.Tg with | some i=>i.size == 2 && decide (i.bytes≤1000) | none=>false)=true)
    (h5:P.built X.Tg []=some #[.int .u32 0,.slice none 0 0]):TagT P X:=by
  refine ⟨h1,h2,?_,h5⟩
  obtain ⟨i,z,q1,q2,q3⟩:=zeroB_of h3
  rw [q1] at h4
  simp only [Bool.and_eq_true,beq_iff_eq,decide_eq_true_eq] at h4
  refine ⟨i,z,q1,q2,?_,h4.1,h4.2⟩
  unfold isZTag at q3
  split at q3
  · rename_i e
    rw [← Array.toArray_toList (xs:=z.cells),e]
  · cases q3
end Go.Proofs.YtcchakpiemhpeaaDoor.K
namespace Go.Proofs.YtcchakpiemhpeaaDoor.K
open Go Go.RowKit Go.Proofs.YtcchakpiemhpeaaDoor.T
open Go.ChangeShapes Go.WideShapes Go.Deep
set_option linter.unusedSimpArgs false
set_option linter.unusedVariables false
theorem open_data {H:Type} {enc:TypeId × Value→H} {P:Program} {w:World} {t b0 fuel:Nat} {v:Value} {x:DataW H × List MemPlace} {B:DataW H→Nat} (ht:sl8 P t=true) (hB:BulkC B) (hval:Value.okWide P w .any b0 t v)
    (h:DataW.trod enc P w 0 (fun _=>true) true fuel t v.cells.toList=some x) :
    ∃ (base:Option Addr) (cap:Nat) (data:Bytes) (S:Option Nat),v=.slice base data.length cap∧SrcAt w S base data∧∀ sb,S=some sb→sb < w.heap.size:=by
  obtain ⟨base,cap,bs,h1,hcap,_,h2⟩:=open_u8s ht h hB
  obtain ⟨e,hu,he,_⟩:=sl8_of ht
  have hv:v=.slice base bs.length cap:=by
    cases v <;> simp [Value.cells] at h1 ⊢
    case slice a b c=>exact h1
    case agg cs =>
      simp only [Value.okWide,hu] at hval
      unfold Cell.okWide at hval
      rw [hu] at hval
      simp [Cell.ok,hu] at hval
  subst hv
  cases base with
  | none =>
    rcases h2 with rfl | ⟨b,o,h3,_⟩
    · exact ⟨none,cap,[],none,rfl,⟨rfl,rfl⟩,fun sb h=>by cases h⟩
    · cases h3
  | some a =>
    have hok:Cell.ok P w .any b0 t (.slice (some a) bs.length cap):=by
      simp only [Value.okWide,hu] at hval
      unfold Cell.okWide at hval
      rw [hu] at hval
      exact hval
    simp only [Cell.ok,hu] at hok
    obtain ⟨_,_,_,hsp,row,cells,hsh,_⟩:=hok
    have hlt:a.block < w.heap.size:=by
      simp only [World.shape?] at hsh
      split at hsh
      · rename_i hb;exact (Array.getElem?_eq_some_iff.1 hb).1
      · cases hsh
    have ha:a=⟨a.block,a.off,none⟩:=by cases a;simp only at hsp;rw [hsp]
    refine ⟨some a,cap,bs,some a.block,rfl,⟨a.off,by rw [← ha],?_⟩,fun sb h=>by cases h;exact hlt⟩
    rcases h2 with rfl | ⟨b,o,h3,_,h4⟩
    · intro j u hj;simp at hj
    · cases h3;exact h4
end Go.Proofs.YtcchakpiemhpeaaDoor.K
namespace Go.Proofs.YtcchakpiemhpeaaDoor.K
open Go Go.RowKit Go.Proofs.YtcchakpiemhpeaaDoor.T
attribute [local simp] eTm eCo pNo gTp gTn qv qcall vop iop
set_option linter.unusedSimpArgs false
set_option linter.unusedVariables false
set_option maxHeartbeats 4000000
def zz (x:Nat):Int:=if x % 2=0 then ((x / 2:Nat):Int) else -((x / 2:Nat):Int) - 1
section
variable {P:Program} {a:Act} {w:World} {K:Act→World→Prop} {d:Option Tmp} {g:Option (Nat × Bool)}
end
section
variable {P:Program} {R:RTy} {f:FuncId} {fn:Func}
end
end Go.Proofs.YtcchakpiemhpeaaDoor.K
