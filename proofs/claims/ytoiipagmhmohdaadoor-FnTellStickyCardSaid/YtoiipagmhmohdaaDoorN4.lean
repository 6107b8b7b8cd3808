/- Generic texts: S11 S12 T2 T3 T4 T6. No condition. -/
import Derived.Test.YtoiipagmhmohdaaDoorN3
namespace Go.Proofs.YtoiipagmhmohdaaDoor.K
open Go Go.RowKit Go.Proofs.YtoiipagmhmohdaaDoor.T
attribute [local simp] eTm eCo pNo gTp gTn qv qcall vop iop
set_option linter.unusedSimpArgs false
set_option linter.unusedVariables false
set_option maxHeartbeats 4000000
section
variable {G:List (Nat × Bytes)→Prop} {P:Program} {X:STy} {f:FuncId} {fn:Func} {fW fTh fC fWi fF fU fHas fNull fAt fPart fVal fFld fKn fUs fUnk:FuncId}
end
end Go.Proofs.YtoiipagmhmohdaaDoor.K
namespace Go.Proofs.YtoiipagmhmohdaaDoor.K
open Go Go.RowKit Go.Proofs.YtoiipagmhmohdaaDoor.T
attribute [local simp] eTm eCo pNo gTp gTn qv qcall vop iop
set_option linter.unusedSimpArgs false
set_option linter.unusedVariables false
set_option maxHeartbeats 4000000
section
variable {G:List (Nat × Bytes)→Prop} {P:Program} {X:STy} {f:FuncId} {fn:Func} {fPart:FuncId}
def sOK (P:Program) (X:STy):Bool :=
  intK P X.I == some .i64 && intK P X.U8 == some .u8 && oneB P X.I && oneB P X.U8 && oneB P X.Bs && u8sB P X.Bs X.U8 && sliceN P X.Bs == some 1
theorem s_facts {P:Program} {X:STy} (h:sOK P X=true):(intK P X.I=some .i64∧intK P X.U8=some .u8)∧(oneB P X.I=true∧oneB P X.U8=true∧oneB P X.Bs=true)∧u8sB P X.Bs X.U8=true∧sliceN P X.Bs=some 1:=by
  simp only [sOK,Bool.and_eq_true,beq_iff_eq] at h
  simp only [h,and_self]
theorem same_ok (hX:sOK P X=true) (hm:P.follows .mixedOrders=true) (hf:P.funcs[f]?=some fn) (hb:fn.body.map strip=some (sc_Same X.Bs X.I X.U8)) (hn:fn.ntmps=26) (hr:fn.results=#[.tmp 4])
    (w:World) (xs:Bytes) (b1 b2:Option Addr) (c1 c2:Nat) (h1:BytesAt w (fun k=>k < w.heap.size) b1 xs) (h2:BytesAt w (fun k=>k < w.heap.size) b2 xs) (hl:xs.length≤lim) :
    Calls P f #[.slice b1 xs.length c1,.slice b2 xs.length c2] w fun e w'=>e=.returned (.bool true)∧Below w.heap.size w w':=by
  have hst:=s_facts hX
  have hlim:lim=70368744177664:=rfl
  refine fCa hf hb hn (by simp) fun a0 hs hd ha=>?_
  have k0:=ha 0 _ rfl
  have k1:=ha 1 _ rfl
  simp only [List.getElem_toArray,List.getElem_cons_zero,List.getElem_cons_succ] at k0 k1
  refine SC.wp_seq (SC.wp_reg ?_)
  repeat (apply ops_1;(focus (simp (disch:=(try simp only [sPu]);omega) ;try rfl)))
  refine oNi (SC.wp_seq (SC.wp_seq (SC.wp_reg ?_)))
  repeat (apply ops_1;(focus (simp (disch:=(try simp only [sPu]);omega) [hst,k0,k1];try rfl)))
  refine oNi (SC.wp_cond (t:=false) (by simp (disch:=(try simp only [sPu]);omega)) ?_)
  rw [if_neg (by simp)]
  refine SC.wp_skip ?_
  simp only [Exit.then]
  refine SC.wp_seq (SC.wp_seq (SC.wp_reg ?_))
  repeat (apply ops_1;(focus (simp (disch:=(try simp only [sPu]);omega) [hst,k0,k1];try rfl)))
  refine oNi ?_
  simp only [Exit.then]
  refine SC.wp_block (SC.wp_loop (fun a4 w5=>∃ (j:Nat),a4.tmps.size=26∧a4.defers=[]∧getT a4 0=.slice b1 xs.length c1∧getT a4 1=.slice b2 xs.length c2∧getT a4 12=.int .i64 (xs.length:Int)∧getT a4 13=.int .i64 (j:Int)∧j≤xs.length∧Below w.heap.size w w5)
    (fun a4 _=>match getT a4 13 with | .int _ m=>(xs.length - m).toNat | _=>0) ⟨0,by simp [sPu,hs],by simp [dPu,hd],by simp (disch:=(try simp only [sPu]);omega) [k0],by simp (disch:=(try simp only [sPu]);omega) [k1],by simp (disch:=(try simp only [sPu]);omega),by simp (disch:=(try simp only [sPu]);omega),by omega,Below.refl _ _⟩ ?_)
  rintro a4 w5 ⟨j,q,qd,q0,q1,q12,q13,hj,hb5⟩
  refine SC.wp_seq (SC.wp_reg ?_)
  repeat (apply ops_1;(focus (simp (disch:=(try simp only [sPu]);omega) [hst,q12,q13];try rfl)))
  refine oNi ?_
  simp only [Exit.then]
  refine SC.wp_seq (SC.wp_cond (t:=decide ((j:Int) < (xs.length:Int))) (by simp (disch:=(try simp only [sPu]);omega)) ?_)
  cases e1:decide ((j:Int) < (xs.length:Int))
  · rw [if_neg (by simp)]
    refine SC.wp_exit ?_
    simp only [Exit.then,Exit.inBlock,if_true]
    refine SC.wp_seq (SC.wp_reg ?_)
    repeat (apply ops_1;(focus (simp (disch:=(try simp only [sPu]);omega) ;try rfl)))
    refine oNi (SC.wp_ret (ret_tmp hr (by simp [dPu,qd]) ⟨?_,hb5⟩))
    simp (disch:=(try simp only [sPu]);omega)
  · have hjl:j < xs.length:=by simp at e1;omega
    rw [if_pos rfl]
    refine SC.wp_skip ?_
    simp only [Exit.then]
    rcases h1 with e | ⟨g1,o1,rfl,hg1,hc1⟩
    · subst e;simp at hjl
    rcases h2 with e | ⟨g2,o2,rfl,hg2,hc2⟩
    · subst e;simp at hjl
    have hx:=List.getElem?_eq_getElem hjl
    have hd1:w5.drew.cell? ⟨g1,o1+j,none⟩=some (cell xs[j]):=(World.cell?_of_block (w:=w) (w':=w5.drew) (a:=⟨g1,o1+j,none⟩) (hb5.block g1 hg1)).trans (hc1 j _ hx)
    have hd2:w5.drew.cell? ⟨g2,o2+j,none⟩=some (cell xs[j]):=(World.cell?_of_block (w:=w) (w':=w5.drew) (a:=⟨g2,o2+j,none⟩) (hb5.block g2 hg2)).trans (hc2 j _ hx)
    have ej:(0:Int)≤(j:Int)∧(j:Int) < (xs.length:Int):=by omega
    have hcell:cell xs[j]=.int .u8 (xs[j].toNat:Int):=rfl
    rw [hcell] at hd1 hd2
    generalize xs[j].toNat=cj at *
    refine SC.wp_seq (SC.wp_block (SC.wp_seq (SC.wp_reg ?_)))
    repeat (apply ops_1;(focus (simp (disch:=(try simp only [sPu]);omega) [q13];try rfl)))
    refine oNi ?_
    simp only [Exit.then]
    refine SC.wp_seq (SC.wp_dreg hm (Below w.heap.size w5.drew) [(0,true),(1,true),(2,true),(3,true),(4,true),(5,true),(6,true),(7,true),(8,true)] (by rfl) (by rfl) (by decide) (Below.refl _ _) ?_)
    repeat (apply dr_1;(focus rfl);(focus (simp (disch:=(try simp only [sPu]);omega) [hst,q0,q1,ej,hd1,hd2,hg1,hg2,hjl];try rfl)))
    refine dreg_nil ?_
    simp only [Exit.then]
    refine SC.wp_cond (t:=false) (by simp (disch:=(try simp only [sPu]);omega)) ?_
    rw [if_neg (by simp)]
    refine SC.wp_skip ?_
    simp only [Exit.inBlock,Exit.then]
    have ew:IntKind.i64.wrap ((j:Int)+1)=((j+1:Nat):Int):=by rw [wrap_i64'];split <;> omega
    refine SC.wp_reg ?_
    repeat (apply ops_1;(focus (simp (disch:=(try simp only [sPu]);omega) [q13,ew];try rfl)))
    refine oNi ?_
    refine ⟨⟨j+1,by simp [sPu,q],by simp [dPu,qd],by simp (disch:=(try simp only [sPu]);omega) [q0],by simp (disch:=(try simp only [sPu]);omega) [q1],by simp (disch:=(try simp only [sPu]);omega) [q12],by simp (disch:=(try simp only [sPu]);omega),by omega,hb5.drew⟩,?_⟩
    rw [q13]
    simp (disch:=(try simp only [sPu]);omega);omega
theorem opw_rem {a:Act} {w:World} {K:Act→World→Prop} {d:Option Tmp} {g:Option (Nat × Bool)} {T T':TypeId} {x y:Operand} {m n:Nat} (hx:a.eval x=.int .i64 (m:Int)) (hy:a.eval y=.int .i64 (n:Int)) (hn:0 < n) (h:K (a.put d (.int .i64 ((m % n:Nat):Int))) w) :
    opw P ⟨d,.binOp .rem T x y T',g⟩ a w K:=by
  refine oVa (by simp) (fun p hp=>?_) h
  have hne:¬ n=0:=by omega
  simp [execOp,hp,hx,hy,run_eqGuard_int,binOp,Op.intDiv,hne]
  exact Int.tmod_eq_emod_of_nonneg (by omega)
end
end Go.Proofs.YtoiipagmhmohdaaDoor.K
namespace Go.Proofs.YtoiipagmhmohdaaDoor.T
set_option linter.unusedVariables false
set_option linter.unusedSimpArgs false
abbrev Rd (α:Type):=Bytes→Option (α × Bytes)
def rOk {α:Type} (x:α):Rd α:=fun b=>some (x,b)
def rThen {α β:Type} (p:Rd α) (f:α→Rd β):Rd β:=fun b=>(p b).bind fun x=>f x.1 x.2
def unfix:Bytes→Nat
  | []=>0
  | u :: r=>u.toNat * 256 ^ r.length+unfix r
def sgn (k n:Nat):Int:=if n < 256 ^ k / 2 then (n:Int) else (n:Int) - (256 ^ k:Nat)
def pFix (k:Nat):Rd Nat:=fun b=>if b.length < k then none else some (unfix (b.take k),b.drop k)
def pInt (k:Nat):Rd Int:=rThen (pFix k) fun n=>rOk (sgn k n)
def pSpan (l:Int):Rd Bytes:=fun b=>if (b.length:Int) < l∨l < 0 then none else some (b.take l.toNat,b.drop l.toNat)
def pUvGo:Nat→Nat→Rd Nat
  | _,_,[]=>none
  | 0,m,u :: r=>if u.toNat≤15 then some (u.toNat * m,r) else none
  | k+1,m,u :: r=>if u.toNat < 128 then some (u.toNat * m,r) else (pUvGo k (m * 128) r).map fun x=>(u.toNat % 128 * m+x.1,x.2)
def pUv:Rd Nat:=pUvGo 4 1
def pLen (flex:Bool):Rd Int :=
  rThen (if flex then rThen pUv fun n=>rOk (if n=2147483648 then 2147483647 else (if n < 2147483648 then (n:Int) else (n:Int) - 4294967296) - 1) else pInt 4)
    fun l b=>if (b.length:Int) < l then none else some (l,b)
def tN (n:Int):Tree:=.mk n [] false [] []
def tS (s:Bytes):Tree:=.mk 0 s false [] []
def tNull:Tree:=.mk 0 [] true [] []
def pCount (flex:Bool) (size:Nat):Rd Int:=if flex then rThen pUv fun n=>rOk ((n:Int) - 1) else pInt size
def pPrim (flex nul:Bool):PK→Rd Tree
  | .bool=>rThen (pFix 1) fun n=>rOk (tN (if n=0 then 0 else 1))
  | .u16=>rThen (pFix 2) fun n=>rOk (tN n)
  | .uuid=>rThen (pSpan 16) fun s=>rOk (tS s)
  | .str=>rThen (pCount flex 2) fun l=>if nul && decide (l < 0) then rOk tNull else rThen (pSpan l) fun s=>rOk (tS s)
  | .bytes=>rThen (pCount flex 4) fun l=>if nul && decide (l < 0) then rOk tNull else if !nul && decide (l=-1) then rOk (tS []) else rThen (pSpan l) fun s=>rOk (tS s)
  | k=>rThen (pInt k.width) fun n=>rOk (tN n)
def pMany {α:Type} (p:Rd α):Nat→Rd (List α)
  | 0=>rOk []
  | n+1=>rThen p fun x=>rThen (pMany p n) fun xs=>rOk (x :: xs)
def setTag (t:Nat × Bytes):List (Nat × Bytes)→List (Nat × Bytes)
  | []=>[t]
  | x :: r=>if x.1 < t.1 then x :: setTag t r else if x.1=t.1 then t :: r else t :: x :: r
def pTagN:Nat→List (Nat × Bytes)→Rd (List (Nat × Bytes))
  | 0,acc=>rOk acc
  | n+1,acc=>rThen pUv fun k=>rThen pUv fun s=>rThen (pSpan s) fun v=>pTagN n (setTag (k,v) acc)
def pTags (flex:Bool):Rd (List (Nat × Bytes)):=if flex then rThen pUv fun n=>pTagN n [] else rOk []
def Ext {α:Type} (p:Rd α):Prop:=∀ b x r c,p b=some (x,r)→p (b ++ c)=some (x,r ++ c)
section
variable {α β:Type}
theorem rThen_some {p:Rd α} {f:α→Rd β} {b r:Bytes} {y:β} (h:rThen p f b=some (y,r)):∃ x r1,p b=some (x,r1)∧f x r1=some (y,r):=by
  unfold rThen at h
  cases hp:p b with
  | none=>rw [hp] at h;simp at h
  | some z=>rw [hp] at h;exact ⟨z.1,z.2,rfl,h⟩
theorem rThen_of {p:Rd α} {f:α→Rd β} {b r1:Bytes} {x:α} (h:p b=some (x,r1)):rThen p f b=f x r1:=by simp [rThen,h]
theorem Ext.ok (x:α):Ext (rOk x):=fun b y r c h=>by simp only [rOk,Option.some.injEq,Prod.mk.injEq] at h ⊢;obtain ⟨rfl,rfl⟩:=h;simp
theorem Ext.then {p:Rd α} {f:α→Rd β} (hp:Ext p) (hf:∀ x,Ext (f x)):Ext (rThen p f):=by
  intro b y r c h
  obtain ⟨x,r1,h1,h2⟩:=rThen_some h
  rw [rThen_of (hp _ _ _ _ h1)]
  exact hf x _ _ _ _ h2
theorem ext_fix (k:Nat):Ext (pFix k):=by
  intro b x r c h
  unfold pFix at h ⊢
  split at h
  · simp at h
  · rename_i hl
    simp only [Option.some.injEq,Prod.mk.injEq] at h
    obtain ⟨rfl,rfl⟩:=h
    rw [if_neg (by simp;omega),List.take_append_of_le_length (by omega),List.drop_append_of_le_length (by omega)]
theorem ext_int (k:Nat):Ext (pInt k):=(ext_fix k).then fun _=>Ext.ok _
theorem ext_span (l:Int):Ext (pSpan l):=by
  intro b x r c h
  unfold pSpan at h ⊢
  split at h
  · simp at h
  · rename_i hl
    simp only [Option.some.injEq,Prod.mk.injEq] at h
    obtain ⟨rfl,rfl⟩:=h
    rw [if_neg (by simp;omega),List.take_append_of_le_length (by omega),List.drop_append_of_le_length (by omega)]
theorem ext_uvGo:∀ k m,Ext (pUvGo k m)
  | k,m,[],x,r,c,h=>by simp [pUvGo] at h
  | 0,m,u :: b,x,r,c,h=>by
    simp only [pUvGo,List.cons_append] at h ⊢
    split at h
    · rename_i hu
      simp only [Option.some.injEq,Prod.mk.injEq] at h
      rw [if_pos hu,h.1,h.2]
    · simp at h
  | k+1,m,u :: b,x,r,c,h=>by
    simp only [pUvGo,List.cons_append] at h ⊢
    split at h
    · rename_i hu
      simp only [Option.some.injEq,Prod.mk.injEq] at h
      rw [if_pos hu,h.1,h.2]
    · rename_i hu
      rw [if_neg hu]
      cases hp:pUvGo k (m * 128) b with
      | none=>rw [hp] at h;simp at h
      | some z =>
        rw [hp] at h
        rw [ext_uvGo k (m * 128) b z.1 z.2 c hp]
        simp at h ⊢
        exact ⟨h.1,by rw [h.2]⟩
theorem ext_uv:Ext pUv:=ext_uvGo 4 1
theorem ext_len (flex:Bool):Ext (pLen flex):=by
  unfold pLen
  refine Ext.then ?_ ?_
  · cases flex
    · exact ext_int 4
    · rw [if_pos rfl]
      exact ext_uv.then fun _=>Ext.ok _
  · intro l b x r c h
    simp only at h ⊢
    split at h
    · simp at h
    · rename_i hl
      simp only [Option.some.injEq,Prod.mk.injEq] at h
      obtain ⟨rfl,rfl⟩:=h
      rw [if_neg (by simp;omega)]
theorem ext_count (flex:Bool) (k:Nat):Ext (pCount flex k):=by
  unfold pCount
  cases flex
  · exact ext_int k
  · rw [if_pos rfl]
    exact ext_uv.then fun _=>Ext.ok _
theorem ext_prim (flex nul:Bool) (k:PK):Ext (pPrim flex nul k):=by
  cases k <;> simp only [pPrim]
  case bool=>exact (ext_fix 1).then fun _=>Ext.ok _
  case u16=>exact (ext_fix 2).then fun _=>Ext.ok _
  case uuid=>exact (ext_span _).then fun _=>Ext.ok _
  case str =>
    refine (ext_count flex 2).then fun l=>?_
    split
    · exact Ext.ok _
    · exact (ext_span _).then fun _=>Ext.ok _
  case bytes =>
    refine (ext_count flex 4).then fun l=>?_
    split
    · exact Ext.ok _
    · split
      · exact Ext.ok _
      · exact (ext_span _).then fun _=>Ext.ok _
  all_goals exact (ext_int _).then fun _=>Ext.ok _
theorem ext_many {p:Rd α} (hp:Ext p):∀ n,Ext (pMany p n)
  | 0=>Ext.ok _
  | n+1=>hp.then fun _=>(ext_many hp n).then fun _=>Ext.ok _
end
end Go.Proofs.YtoiipagmhmohdaaDoor.T
namespace Go.Proofs.YtoiipagmhmohdaaDoor.T
set_option linter.unusedVariables false
set_option linter.unusedSimpArgs false
theorem fixed_length (n:Int):∀ k,(fixed n k).length=k
  | 0=>rfl
  | k+1=>by simp [fixed,fixed_length n k]
theorem byteOf_nat (n:Int):(byteOf n).toNat=(n % 256).toNat:=by
  have h0:0≤n % 256:=Int.emod_nonneg _ (by decide)
  have h1:n % 256 < 256:=Int.emod_lt_of_pos _ (by decide)
  simp [byteOf]
  omega
theorem pow_pos256 (k:Nat):0 < (256:Int) ^ k:=Int.pow_pos (by decide)
theorem div_mod_pow (n:Int) (k:Nat):n / 256 ^ k % 256=n % 256 ^ (k+1) / 256 ^ k:=by
  have hp:=pow_pos256 k
  have e:(256:Int) ^ (k+1)=256 ^ k * 256:=Int.pow_succ _ _
  have h1:n % 256 ^ (k+1)=n+256 ^ k * (-(256 * (n / 256 ^ (k+1)))):=by
    have:=Int.mul_ediv_add_emod n (256 ^ (k+1))
    rw [e] at this ⊢
    have e2:(256:Int) ^ k * -(256 * (n / (256 ^ k * 256)))=-(256 ^ k * 256 * (n / (256 ^ k * 256))):=by
      rw [Int.mul_neg,Int.mul_assoc]
    omega
  rw [h1,Int.add_mul_ediv_left _ _ (by omega)]
  have h2:n / 256 ^ (k+1)=n / 256 ^ k / 256:=by rw [e,Int.ediv_ediv_of_nonneg (by omega)]
  rw [h2]
  omega
theorem unfix_fixed (n:Int):∀ k,((unfix (fixed n k):Nat):Int)=n % 256 ^ k
  | 0=>by simp [fixed,unfix,Int.emod_one]
  | k+1=>by
    have hp:=pow_pos256 k
    have h0:0≤n / 256 ^ k % 256:=Int.emod_nonneg _ (by decide)
    simp only [fixed,unfix,fixed_length,byteOf_nat]
    rw [Int.natCast_add,Int.natCast_mul,unfix_fixed n k,Int.toNat_of_nonneg h0,div_mod_pow]
    have e:(256:Int) ^ (k+1)=256 ^ k * 256:=Int.pow_succ _ _
    have d:(256:Int) ^ k ∣ 256 ^ (k+1):=⟨256,e⟩
    rw [← Int.emod_emod_of_dvd n d]
    have:=Int.mul_ediv_add_emod (n % 256 ^ (k+1)) (256 ^ k)
    have ec:((256 ^ k:Nat):Int)=(256:Int) ^ k:=by rw [Int.natCast_pow];rfl
    rw [ec,Int.mul_comm]
    exact this
theorem pFix_fixed (n:Int) (k:Nat) (rest:Bytes):pFix k (fixed n k ++ rest)=some ((n % 256 ^ k).toNat,rest):=by
  have hl:=fixed_length n k
  unfold pFix
  rw [if_neg (by rw [List.length_append];omega),List.take_append_of_le_length (by omega),List.drop_append_of_le_length (by omega)]
  have h:=unfix_fixed n k
  have e1:(fixed n k).take k=fixed n k:=List.take_of_length_le (by omega)
  have e2:(fixed n k).drop k=[]:=List.drop_of_length_le (by omega)
  rw [e1,e2,← h]
  simp
theorem pInt_fixed (n:Int) (k:Nat) (rest:Bytes):pInt k (fixed n k ++ rest)=some (sgn k (n % 256 ^ k).toNat,rest):=by
  unfold pInt
  rw [rThen_of (pFix_fixed n k rest)]
  rfl
theorem pInt_small {n:Nat} (k:Nat) (h:n < 256 ^ k / 2) (rest:Bytes):pInt k (fixed n k ++ rest)=some ((n:Int),rest):=by
  rw [pInt_fixed]
  have h2:(n:Int) % 256 ^ k=n:=by
    refine Int.emod_eq_of_lt (by omega) ?_
    have:((256 ^ k:Nat):Int)=(256:Int) ^ k:=by simp
    rw [← this]
    omega
  rw [h2]
  simp only [Int.toNat_natCast,sgn,if_pos h]
theorem pSpan_append (s rest:Bytes):pSpan (s.length:Int) (s ++ rest)=some (s,rest):=by
  unfold pSpan
  rw [if_neg (by simp;omega)]
  simp
end Go.Proofs.YtoiipagmhmohdaaDoor.T
namespace Go.Proofs.YtoiipagmhmohdaaDoor.T
set_option linter.unusedVariables false
set_option linter.unusedSimpArgs false
theorem pUvGo_facts:∀ (k m:Nat) (b r:Bytes) (n:Nat),0 < m→pUvGo k m b=some (n,r)→n < 16 * 128 ^ k * m∧r.length+1≤b.length
  | k,m,[],r,n,_,h=>by simp [pUvGo] at h
  | 0,m,u :: b,r,n,hm,h=>by
    simp only [pUvGo] at h
    split at h
    · simp only [Option.some.injEq,Prod.mk.injEq] at h
      obtain ⟨rfl,rfl⟩:=h
      refine ⟨?_,by simp⟩
      have:u.toNat * m≤15 * m:=Nat.mul_le_mul_right _ (by assumption)
      simp only [Nat.pow_zero,Nat.mul_one]
      omega
    · simp at h
  | k+1,m,u :: b,r,n,hm,h=>by
    have h128:1≤128 ^ k:=Nat.pow_pos (by decide)
    have e:16 * 128 ^ (k+1) * m=128 * (16 * 128 ^ k * m):=by
      rw [Nat.pow_succ]
      simp only [Nat.mul_comm,Nat.mul_left_comm]
    have hge:16 * m≤16 * 128 ^ k * m:=Nat.mul_le_mul_right _ (by omega)
    simp only [pUvGo] at h
    split at h
    · simp only [Option.some.injEq,Prod.mk.injEq] at h
      obtain ⟨rfl,rfl⟩:=h
      refine ⟨?_,by simp⟩
      have:u.toNat * m≤127 * m:=Nat.mul_le_mul_right _ (by omega)
      omega
    · cases hp:pUvGo k (m * 128) b with
      | none=>rw [hp] at h;simp at h
      | some z =>
        rw [hp] at h
        simp only [Option.map_some,Option.some.injEq,Prod.mk.injEq] at h
        obtain ⟨h1,h2⟩:=pUvGo_facts k (m * 128) b z.2 z.1 (by omega) hp
        obtain ⟨rfl,rfl⟩:=h
        refine ⟨?_,by simp;omega⟩
        have hd:=pUvGo_dvd k (m * 128) b z.2 z.1 hp
        obtain ⟨q,hq⟩:=hd
        have hq1:q < 16 * 128 ^ k:=by
          rw [hq,Nat.mul_comm (16 * 128 ^ k)] at h1
          exact Nat.lt_of_mul_lt_mul_left h1
        have hu:u.toNat % 128 * m≤127 * m:=Nat.mul_le_mul_right _ (by omega)
        have hq2:m * 128 * q≤m * 128 * (16 * 128 ^ k - 1):=Nat.mul_le_mul_left _ (by omega)
        have e2:m * 128 * (16 * 128 ^ k - 1)+m * 128=128 * (16 * 128 ^ k * m):=by
          rw [← Nat.mul_succ,Nat.succ_eq_add_one,Nat.sub_add_cancel (by omega)]
          simp only [Nat.mul_assoc,Nat.mul_comm,Nat.mul_left_comm]
        rw [e,hq]
        omega
where pUvGo_dvd:∀ (k m:Nat) (b r:Bytes) (n:Nat),pUvGo k m b=some (n,r)→m ∣ n
  | k,m,[],r,n,h=>by simp [pUvGo] at h
  | 0,m,u :: b,r,n,h=>by
    simp only [pUvGo] at h
    split at h
    · simp only [Option.some.injEq,Prod.mk.injEq] at h
      rw [← h.1]
      exact Nat.dvd_mul_left _ _
    · simp at h
  | k+1,m,u :: b,r,n,h=>by
    simp only [pUvGo] at h
    split at h
    · simp only [Option.some.injEq,Prod.mk.injEq] at h
      rw [← h.1]
      exact Nat.dvd_mul_left _ _
    · cases hp:pUvGo k (m * 128) b with
      | none=>rw [hp] at h;simp at h
      | some z =>
        rw [hp] at h
        simp only [Option.map_some,Option.some.injEq,Prod.mk.injEq] at h
        rw [← h.1]
        exact Nat.dvd_add (Nat.dvd_mul_left _ _) (Nat.dvd_trans (Nat.dvd_mul_right m 128) (pUvGo_dvd k (m * 128) b z.2 z.1 hp))
theorem pUv_facts {b r:Bytes} {n:Nat} (h:pUv b=some (n,r)):n < 4294967296∧r.length+1≤b.length:=by
  have:=pUvGo_facts 4 1 b r n (by decide) h
  simpa using this
theorem pSpan_facts {l:Int} {b r s:Bytes} (h:pSpan l b=some (s,r)):0≤l∧(s.length:Int)=l∧s.length+r.length=b.length∧b=s ++ r:=by
  unfold pSpan at h
  split at h
  · simp at h
  · simp only [Option.some.injEq,Prod.mk.injEq] at h
    obtain ⟨rfl,rfl⟩:=h
    refine ⟨by omega,by simp;omega,by simp;omega,by simp⟩
theorem pFix_facts {k n:Nat} {b r:Bytes} (h:pFix k b=some (n,r)):r.length+k=b.length∧n=unfix (b.take k)∧r=b.drop k:=by
  unfold pFix at h
  split at h
  · simp at h
  · simp only [Option.some.injEq,Prod.mk.injEq] at h
    obtain ⟨rfl,rfl⟩:=h
    exact ⟨by simp;omega,rfl,rfl⟩
theorem pInt_facts {k:Nat} {n:Int} {b r:Bytes} (h:pInt k b=some (n,r)):r.length+k=b.length:=by
  obtain ⟨x,r1,h1,h2⟩:=rThen_some h
  simp only [rOk,Option.some.injEq,Prod.mk.injEq] at h2
  rw [← h2.2]
  exact (pFix_facts h1).1
theorem pLen_facts {flex:Bool} {l:Int} {b r:Bytes} (h:pLen flex b=some (l,r)):r.length≤b.length∧l≤r.length:=by
  obtain ⟨x,r1,h1,h2⟩:=rThen_some h
  split at h2
  · simp at h2
  · simp only [Option.some.injEq,Prod.mk.injEq] at h2
    obtain ⟨rfl,rfl⟩:=h2
    refine ⟨?_,by omega⟩
    cases flex
    · have:=pInt_facts h1
      omega
    · rw [if_pos rfl] at h1
      obtain ⟨y,r2,q1,q2⟩:=rThen_some h1
      simp only [rOk,Option.some.injEq,Prod.mk.injEq] at q2
      have:=(pUv_facts q1).2
      rw [← q2.2]
      omega
theorem rOk_some {α:Type} {x y:α} {b r:Bytes} (h:rOk x b=some (y,r)):x=y∧b=r:=by simpa [rOk] using h
end Go.Proofs.YtoiipagmhmohdaaDoor.T
namespace Go.Proofs.YtoiipagmhmohdaaDoor.T
set_option linter.unusedVariables false
set_option linter.unusedSimpArgs false
inductive KAll:Tree→Prop where
  | mk (n:Int) (s:Bytes) (null:Bool) (l:List Tree) (u:List (Nat × Bytes)) (hl:∀ (i:Nat) (x:Tree),l[i]?=some x→KAll x) (hu:∀ x ∈ u,x.1 < 4294967296):KAll (.mk n s null l u)
theorem KAll.l {t:Tree} (h:KAll t):∀ x ∈ t.l,KAll x:=by
  cases h with
  | mk n s null l u hl hu =>
    intro x hx
    obtain ⟨i,hi⟩:=List.getElem?_of_mem hx
    exact hl i x hi
theorem KAll.u {t:Tree} (h:KAll t):∀ x ∈ t.u,x.1 < 4294967296:=by
  cases h with
  | mk n s null l u hl hu=>exact hu
theorem KAll.zero:KAll Tree.zero:=.mk _ _ _ _ _ (fun i x h=>by simp at h) (fun x h=>by cases h)
end Go.Proofs.YtoiipagmhmohdaaDoor.T
