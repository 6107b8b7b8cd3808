/- Generic texts: P7 P8 P9 P10 P11. No condition. -/
import Derived.Test.YtecdefhecaeclaaDoorN9
import Derived.Great.BuildSlice
import Derived.Great.FillDense
import Derived.Lib.ConvBytes
import Derived.Shelf.Strings.TrimSpace
import Derived.Shelf.Strings.OnBuilder
import Derived.Lib.LaidTab
import Derived.Stop.LaidErr
namespace Go.Proofs.YtecdefhecaeclaaDoor.K
open Go Go.RowKit Go.Proofs.YtecdefhecaeclaaDoor.T
attribute [local simp] eTm eCo pNo gTp gTn qv qcall vop iop
set_option linter.unusedSimpArgs false
set_option linter.unusedVariables false
set_option maxHeartbeats 2000000
def sc_plain (T0 T1 T2 F0:Nat):SC:=.seq (.reg [⟨some 2,.assign (.const (.bool false)),none⟩]) (.seq (.seq (.reg [mv 4 0,lenOp 5 T0 4,⟨some 6,.binOp .gtr T1 (.tmp 5) (.const (.int .i64 200)) T1,none⟩,mv 7 6,⟨some 8,.move (.tmp 0),some (3,false)⟩,⟨some 9,.call ⟨.value (.func F0),#[(.tmp 8)],#[]⟩,some (3,false)⟩,⟨some 10,.binOp .eql T0 (.tmp 9) (.const (.string ⟨#[117,110,107,110,111,119,110]⟩)) T0,some (3,false)⟩,⟨some 11,.pick (.tmp 7) (.const (.bool true)) (.tmp 10),none⟩]) (.cond (.tmp 11) (.seq (.reg [⟨some 2,.assign (.const (.bool false)),none⟩]) (.ret)) (.skip))) (.seq (.seq (.reg [⟨some 3,.assign (.const (.int .i64 0)),none⟩]) (.block 0 (.loop (.seq (.seq (.reg [mv 12 3,mv 13 0,lenOp 14 T0 13,⟨some 15,.binOp .lss T1 (.tmp 12) (.tmp 14) T1,none⟩]) (.cond (.tmp 15) (.skip) (.exit 0))) (.seq (.block 1 (.seq (.reg [mv 18 0,mv 19 3,⟨some 20,.index T0 (.tmp 18) (.tmp 19),none⟩,⟨some 21,.binOp .gtr T2 (.tmp 20) (.const (.int .u8 127)) T2,none⟩]) (.cond (.tmp 21) (.seq (.reg [⟨some 2,.assign (.const (.bool false)),none⟩]) (.ret)) (.skip)))) (.reg [mv 16 3,⟨some 17,.binOp .add T1 (.tmp 16) (.const (.int .i64 1)) T1,none⟩,asg 3 17])))))) (.seq (.reg [⟨some 2,.assign (.const (.bool true)),none⟩]) (.ret))))
def sc_strnorm (F0 F1 F2:Nat):SC:=.seq (.reg [⟨some 2,.assign (.const (.string ⟨#[]⟩)),none⟩]) (.seq (.reg [mv 3 0,⟨some 4,.call ⟨.value (.func F0),#[(.tmp 3),(.const (.string ⟨#[46]⟩)),(.const (.string ⟨#[]⟩))],#[]⟩,none⟩,asg 0 4]) (.seq (.reg [mv 5 0,⟨some 6,.call ⟨.value (.func F0),#[(.tmp 5),(.const (.string ⟨#[95]⟩)),(.const (.string ⟨#[]⟩))],#[]⟩,none⟩,asg 0 6]) (.seq (.reg [mv 7 0,⟨some 8,.call ⟨.value (.func F0),#[(.tmp 7),(.const (.string ⟨#[45]⟩)),(.const (.string ⟨#[]⟩))],#[]⟩,none⟩,asg 0 8]) (.seq (.reg [mv 9 0,cal 10 F1 [9],asg 0 10]) (.seq (.reg [mv 11 0,cal 12 F2 [11],asg 0 12]) (.seq (.reg [mv 13 0,asg 2 13]) (.ret)))))))
def sc_errNew (T0 T1:Nat):SC:=.seq (.reg [⟨some 2,.assign (.const .nilIface),none⟩]) (.seq (.reg [mv 3 0,⟨some 4,.build T0 #[(0,(.tmp 3))],none⟩,⟨some 5,.box T0 (.tmp 4),none⟩,⟨some 6,.makeInterface T1 (.tmp 5),none⟩,asg 2 6]) (.ret))
def unk:Bytes:=[117,110,107,110,111,119,110]
def Plain (l:Bytes):Prop:=l.length≤200∧∀ c ∈ l,c.toNat < 128
def NormC (P:Program) (F:FuncId):Prop:=FnOK P F∧∀ (w:World) (l:Bytes),l.length≤1048576→Calls P F #[.string ⟨l.toArray⟩] w fun e w'=>e=.returned (.string ⟨(normal l).toArray⟩)∧Below w.heap.size w w'
def ReplC (P:Program) (F:FuncId):Prop:=FnOK P F∧∀ (w:World) (l:Bytes) (c:UInt8),l.length≤1048576→Calls P F #[.string ⟨l.toArray⟩,.string ⟨#[c]⟩,.string ⟨#[]⟩] w fun e w'=>e=.returned (.string ⟨(without c l).toArray⟩)∧Below w.heap.size w w'
def Holds (G:World→Prop):Prop:=∀ w w',G w→Below w.heap.size w w'→G w'
def TrimC (P:Program) (G:World→Prop) (F:FuncId):Prop:=FnOK P F∧∀ (w:World) (l:Bytes),G w→Plain l→Calls P F #[.string ⟨l.toArray⟩] w fun e w'=>e=.returned (.string ⟨(Lib.trimSpace l).toArray⟩)∧Below w.heap.size w w'
def LowC (P:Program) (F:FuncId):Prop:=FnOK P F∧∀ (w:World) (l:Bytes),Plain l→Calls P F #[.string ⟨l.toArray⟩] w fun e w'=>e=.returned (.string ⟨(Lib.toLowerA l).toArray⟩)∧Below w.heap.size w w'
def StrC (P:Program) (G:World→Prop) (F:FuncId):Prop:=FnOK P F∧∀ (w:World) (l:Bytes),G w→Plain l→Calls P F #[.string ⟨l.toArray⟩] w fun e w'=>e=.returned (.string ⟨(normal l).toArray⟩)∧Below w.heap.size w w'
theorem keep_lower (c:UInt8):keepB (Lib.lowerB c)=keepB c:=by
  have h:∀ i:Fin 256,keepB (Lib.lowerB (UInt8.ofNat i.val))=keepB (UInt8.ofNat i.val):=by decide +kernel
  have:=h ⟨c.toNat,c.toNat_lt⟩
  simpa using this
theorem sp_lower (c:UInt8):Lib.isSp (Lib.lowerB c)=Lib.isSp c:=by
  have h:∀ i:Fin 256,Lib.isSp (Lib.lowerB (UInt8.ofNat i.val))=Lib.isSp (UInt8.ofNat i.val):=by decide +kernel
  have:=h ⟨c.toNat,c.toNat_lt⟩
  simpa using this
theorem withouts (l:Bytes):without 45 (without 95 (without 46 l))=l.filter keepB:=by
  unfold without
  rw [List.filter_filter,List.filter_filter]
  congr 1
  funext c
  show _=(!(c == 46) && (!(c == 95) && !(c == 45)))
  cases c == 46 <;> cases c == 95 <;> cases c == 45 <;> rfl
theorem trim_map (m:Bytes):Lib.trimSpace (m.map Lib.lowerB)=(Lib.trimSpace m).map Lib.lowerB:=by
  have e:Lib.isSp ∘ Lib.lowerB=Lib.isSp:=by funext c;exact sp_lower c
  unfold Lib.trimSpace
  rw [List.dropWhile_map,e,← List.map_reverse,List.dropWhile_map,e,← List.map_reverse]
theorem strn_normal (l:Bytes):Lib.toLowerA (Lib.trimSpace (without 45 (without 95 (without 46 l))))=normal l:=by
  have e:keepB ∘ Lib.lowerB=keepB:=by funext c;exact keep_lower c
  rw [withouts]
  unfold normal squeeze Lib.toLowerA
  rw [List.filter_map,e,trim_map]
theorem Plain.without {l:Bytes} (h:Plain l) (c:UInt8):Plain (without c l):=by
  unfold K.without
  exact ⟨Nat.le_trans (List.length_filter_le _ _) h.1,fun u hu=>h.2 u (List.mem_filter.1 hu).1⟩
theorem trim_sub (l:Bytes):(Lib.trimSpace l).Sublist l:=by
  unfold Lib.trimSpace
  have h1:=List.dropWhile_sublist Lib.isSp (l:=l)
  have h2:=(List.dropWhile_sublist Lib.isSp (l:=(l.dropWhile Lib.isSp).reverse)).reverse
  rw [List.reverse_reverse] at h2
  exact h2.trans h1
theorem Plain.trim {l:Bytes} (h:Plain l):Plain (Lib.trimSpace l) :=
  ⟨Nat.le_trans (trim_sub l).length_le h.1,fun u hu=>h.2 u ((trim_sub l).subset hu)⟩
section
variable {P:Program} {f:FuncId} {fn:Func}
theorem plain_ok {T0 T1 T2 F0:Nat} (hst:strB P T0=true) (cN:NormC P F0) (hf:P.funcs[f]?=some fn) (hb:fn.body.map strip=some (sc_plain T0 T1 T2 F0)) (hn:fn.ntmps=22) (hr:fn.results=#[.tmp 2]) (w:World) (l:Bytes) :
    Calls P f #[.string ⟨l.toArray⟩] w fun e w'=>(∃ b,e=.returned (.bool b)∧(b=true→Plain l))∧Below w.heap.size w w':=by
  refine fCa hf hb hn (by simp) fun a0 hs hd ha=>?_
  have u0:=ha 0 _ rfl
  simp only [List.getElem_toArray,List.getElem_cons_zero,List.getElem_cons_succ] at u0
  refine SC.wp_seq (SC.wp_reg ?_)
  repeat (first | (apply ops_1;(focus (simp (disch:=(try simp only [sPu]);omega) ;try rfl))) | (apply ops_y;(focus rfl);(focus ((try simp only [sPu]);omega));(focus (simp (disch:=(try simp only [sPu]);omega);done));(focus (simp (disch:=(try simp only [sPu]);omega) ;try rfl))) | (apply ops_n;(focus rfl);(focus ((try simp only [sPu]);omega));(focus (first | (left;simp (disch:=(try simp only [sPu]);omega);done) | (right;simp (disch:=(try simp only [sPu]);omega);done)))))
  refine oNi (SC.wp_seq (SC.wp_seq (SC.wp_reg ?_)))
  by_cases h200:l.length≤200
  · have i2:¬ (200:Int) < (l.length:Int):=by omega
    have i3:¬ 200 < l.length:=by omega
    iterate 5 (first | (apply ops_1;(focus (simp (disch:=(try simp only [sPu]);omega) [u0,hst,i2,i3];try rfl))) | (apply ops_y;(focus rfl);(focus ((try simp only [sPu]);omega));(focus (simp (disch:=(try simp only [sPu]);omega) [u0,hst,i2,i3];done));(focus (simp (disch:=(try simp only [sPu]);omega) [u0,hst,i2,i3];try rfl))) | (apply ops_n;(focus rfl);(focus ((try simp only [sPu]);omega));(focus (first | (left;simp (disch:=(try simp only [sPu]);omega) [u0,hst,i2,i3];done) | (right;simp (disch:=(try simp only [sPu]);omega);done)))))
    refine ops_callg (dj:=7) rfl (by (try simp only [sPu]);omega) (by simp (disch:=(try simp only [sPu]);omega)) cN.1 (cN.2 w l (by omega)) (by simp (disch:=(try simp only [sPu]);omega) [u0]) ?_
    rintro e w1 ⟨rfl,hb1⟩
    refine ⟨_,rfl,?_⟩
    refine opsw_yes (dj:=7) rfl rfl (by (try simp only [sPu]);omega) (by simp (disch:=(try simp only [sPu]);omega)) (opw_streq (l:=normal l) (m:=unk) (by simp (disch:=(try simp only [sPu]);omega)) (by simp (disch:=(try simp only [sPu]);omega);rfl) ?_)
    repeat (first | (apply ops_1;(focus (simp (disch:=(try simp only [sPu]);omega) ;try rfl))) | (apply ops_y;(focus rfl);(focus ((try simp only [sPu]);omega));(focus (simp (disch:=(try simp only [sPu]);omega);done));(focus (simp (disch:=(try simp only [sPu]);omega) ;try rfl))) | (apply ops_n;(focus rfl);(focus ((try simp only [sPu]);omega));(focus (first | (left;simp (disch:=(try simp only [sPu]);omega);done) | (right;simp (disch:=(try simp only [sPu]);omega);done)))))
    refine oNi (SC.wp_cond (t:=decide (normal l=unk)) (by simp (disch:=(try simp only [sPu]);omega)) ?_)
    cases decide (normal l=unk)
    · rw [if_neg (by simp)]
      refine SC.wp_skip ?_
      simp only [Exit.then]
      refine SC.wp_seq (SC.wp_seq (SC.wp_reg ?_))
      repeat (first | (apply ops_1;(focus (simp (disch:=(try simp only [sPu]);omega) ;try rfl))) | (apply ops_y;(focus rfl);(focus ((try simp only [sPu]);omega));(focus (simp (disch:=(try simp only [sPu]);omega);done));(focus (simp (disch:=(try simp only [sPu]);omega) ;try rfl))) | (apply ops_n;(focus rfl);(focus ((try simp only [sPu]);omega));(focus (first | (left;simp (disch:=(try simp only [sPu]);omega);done) | (right;simp (disch:=(try simp only [sPu]);omega);done)))))
      refine oNi ?_
      simp only [Exit.then]
      refine SC.wp_block (SC.wp_loop (fun a4 w5=>∃ (j:Nat),a4.tmps.size=22∧a4.defers=[]∧getT a4 0=.string ⟨l.toArray⟩∧getT a4 3=.int .i64 (j:Int)∧j≤l.length∧(∀ c ∈ l.take j,c.toNat < 128)∧w5=w1)
        (fun a4 _=>match getT a4 3 with | .int _ m=>(l.length - m).toNat | _=>0) ⟨0,by simp [sPu,hs],by simp [dPu,hd],by simp (disch:=(try simp only [sPu]);omega) [u0],by simp (disch:=(try simp only [sPu]);omega),by omega,by simp,rfl⟩ ?_)
      rintro a4 w5 ⟨j,q,qd,q0,q3,hj,hlt,rfl⟩
      have ew:IntKind.i64.wrap ((j:Int)+1)=((j:Int)+1):=by rw [wrap_i64'];split <;> omega
      refine SC.wp_seq (SC.wp_seq (SC.wp_reg ?_))
      repeat (first | (apply ops_1;(focus (simp (disch:=(try simp only [sPu]);omega) [q0,q3,hst];try rfl))) | (apply ops_y;(focus rfl);(focus ((try simp only [sPu]);omega));(focus (simp (disch:=(try simp only [sPu]);omega) [q0,q3,hst];done));(focus (simp (disch:=(try simp only [sPu]);omega) [q0,q3,hst];try rfl))) | (apply ops_n;(focus rfl);(focus ((try simp only [sPu]);omega));(focus (first | (left;simp (disch:=(try simp only [sPu]);omega) [q0,q3,hst];done) | (right;simp (disch:=(try simp only [sPu]);omega);done)))))
      refine oNi (SC.wp_cond (t:=decide ((j:Int) < (l.length:Int))) (by simp (disch:=(try simp only [sPu]);omega)) ?_)
      by_cases hjl:j < l.length
      · have e1:decide ((j:Int) < (l.length:Int))=true:=by simp;omega
        rw [e1,if_pos rfl]
        refine SC.wp_skip ?_
        simp only [Exit.then]
        refine SC.wp_seq (SC.wp_block (SC.wp_seq (SC.wp_reg ?_)))
        iterate 2 (first | (apply ops_1;(focus (simp (disch:=(try simp only [sPu]);omega) [q0,q3];try rfl))) | (apply ops_y;(focus rfl);(focus ((try simp only [sPu]);omega));(focus (simp (disch:=(try simp only [sPu]);omega) [q0,q3];done));(focus (simp (disch:=(try simp only [sPu]);omega) [q0,q3];try rfl))) | (apply ops_n;(focus rfl);(focus ((try simp only [sPu]);omega));(focus (first | (left;simp (disch:=(try simp only [sPu]);omega) [q0,q3];done) | (right;simp (disch:=(try simp only [sPu]);omega);done)))))
        refine oNo rfl (opw_sidx (l:=l) (j:=j) (k:=.i64) hst (by simp (disch:=(try simp only [sPu]);omega) [q0]) (by simp (disch:=(try simp only [sPu]);omega) [q3]) (List.getElem?_eq_getElem hjl) ?_)
        repeat (first | (apply ops_1;(focus (simp (disch:=(try simp only [sPu]);omega) ;try rfl))) | (apply ops_y;(focus rfl);(focus ((try simp only [sPu]);omega));(focus (simp (disch:=(try simp only [sPu]);omega);done));(focus (simp (disch:=(try simp only [sPu]);omega) ;try rfl))) | (apply ops_n;(focus rfl);(focus ((try simp only [sPu]);omega));(focus (first | (left;simp (disch:=(try simp only [sPu]);omega);done) | (right;simp (disch:=(try simp only [sPu]);omega);done)))))
        refine oNi (SC.wp_cond (t:=decide ((127:Int) < ((l[j]).toNat:Int))) (by simp (disch:=(try simp only [sPu]);omega)) ?_)
        by_cases h127:127 < (l[j]).toNat
        · have e2:decide ((127:Int) < ((l[j]).toNat:Int))=true:=by simp;omega
          rw [e2,if_pos rfl]
          refine SC.wp_seq (SC.wp_reg ?_)
          repeat (first | (apply ops_1;(focus (simp (disch:=(try simp only [sPu]);omega) ;try rfl))) | (apply ops_y;(focus rfl);(focus ((try simp only [sPu]);omega));(focus (simp (disch:=(try simp only [sPu]);omega);done));(focus (simp (disch:=(try simp only [sPu]);omega) ;try rfl))) | (apply ops_n;(focus rfl);(focus ((try simp only [sPu]);omega));(focus (first | (left;simp (disch:=(try simp only [sPu]);omega);done) | (right;simp (disch:=(try simp only [sPu]);omega);done)))))
          refine oNi (SC.wp_ret ?_)
          simp only [Exit.then,Exit.inBlock]
          exact ret_tmp hr (by simp [dPu,qd]) ⟨⟨false,by simp (disch:=(try simp only [sPu]);omega),fun h=>by cases h⟩,hb1⟩
        · have e2:decide ((127:Int) < ((l[j]).toNat:Int))=false:=by simp;omega
          rw [e2,if_neg (by simp)]
          refine SC.wp_skip ?_
          simp only [Exit.inBlock,Exit.then]
          refine SC.wp_reg ?_
          repeat (first | (apply ops_1;(focus (simp (disch:=(try simp only [sPu]);omega) [q3,ew];try rfl))) | (apply ops_y;(focus rfl);(focus ((try simp only [sPu]);omega));(focus (simp (disch:=(try simp only [sPu]);omega) [q3,ew];done));(focus (simp (disch:=(try simp only [sPu]);omega) [q3,ew];try rfl))) | (apply ops_n;(focus rfl);(focus ((try simp only [sPu]);omega));(focus (first | (left;simp (disch:=(try simp only [sPu]);omega) [q3,ew];done) | (right;simp (disch:=(try simp only [sPu]);omega);done)))))
          refine oNi ?_
          refine ⟨⟨j+1,by simp [sPu,q],by simp [dPu,qd],by simp (disch:=(try simp only [sPu]);omega) [q0],by simp (disch:=(try simp only [sPu]);omega),by omega,?_,rfl⟩,?_⟩
          · intro c hc
            rw [List.take_add_one,List.getElem?_eq_getElem hjl,List.mem_append] at hc
            rcases hc with hc | hc
            · exact hlt c hc
            · rw [Option.toList_some,List.mem_singleton] at hc
              rw [hc]
              omega
          · rw [q3]
            simp (disch:=(try simp only [sPu]);omega)
            omega
      · have e1:decide ((j:Int) < (l.length:Int))=false:=by simp;omega
        rw [e1,if_neg (by simp)]
        refine SC.wp_exit ?_
        simp only [Exit.then,Exit.inBlock,if_true]
        refine SC.wp_seq (SC.wp_reg ?_)
        repeat (first | (apply ops_1;(focus (simp (disch:=(try simp only [sPu]);omega) ;try rfl))) | (apply ops_y;(focus rfl);(focus ((try simp only [sPu]);omega));(focus (simp (disch:=(try simp only [sPu]);omega);done));(focus (simp (disch:=(try simp only [sPu]);omega) ;try rfl))) | (apply ops_n;(focus rfl);(focus ((try simp only [sPu]);omega));(focus (first | (left;simp (disch:=(try simp only [sPu]);omega);done) | (right;simp (disch:=(try simp only [sPu]);omega);done)))))
        refine oNi (SC.wp_ret ?_)
        try simp only [Exit.then]
        have:j=l.length:=by omega
        subst this
        rw [List.take_length] at hlt
        exact ret_tmp hr (by simp [dPu,qd]) ⟨⟨true,by simp (disch:=(try simp only [sPu]);omega),fun _=>⟨h200,hlt⟩⟩,hb1⟩
    · rw [if_pos rfl]
      refine SC.wp_seq (SC.wp_reg ?_)
      repeat (first | (apply ops_1;(focus (simp (disch:=(try simp only [sPu]);omega) ;try rfl))) | (apply ops_y;(focus rfl);(focus ((try simp only [sPu]);omega));(focus (simp (disch:=(try simp only [sPu]);omega);done));(focus (simp (disch:=(try simp only [sPu]);omega) ;try rfl))) | (apply ops_n;(focus rfl);(focus ((try simp only [sPu]);omega));(focus (first | (left;simp (disch:=(try simp only [sPu]);omega);done) | (right;simp (disch:=(try simp only [sPu]);omega);done)))))
      refine oNi (SC.wp_ret ?_)
      try simp only [Exit.then]
      exact ret_tmp hr (by simp [dPu,hd]) ⟨⟨false,by simp (disch:=(try simp only [sPu]);omega),fun h=>by cases h⟩,hb1⟩
  · have i2:(200:Int) < (l.length:Int):=by omega
    have i3:200 < l.length:=by omega
    repeat (first | (apply ops_1;(focus (simp (disch:=(try simp only [sPu]);omega) [u0,hst,i2,i3];try rfl))) | (apply ops_y;(focus rfl);(focus ((try simp only [sPu]);omega));(focus (simp (disch:=(try simp only [sPu]);omega) [u0,hst,i2,i3];done));(focus (simp (disch:=(try simp only [sPu]);omega) [u0,hst,i2,i3];try rfl))) | (apply ops_n;(focus rfl);(focus ((try simp only [sPu]);omega));(focus (first | (left;simp (disch:=(try simp only [sPu]);omega) [u0,hst,i2,i3];done) | (right;simp (disch:=(try simp only [sPu]);omega);done)))))
    refine oNi (SC.wp_cond (t:=true) (by simp (disch:=(try simp only [sPu]);omega)) ?_)
    rw [if_pos rfl]
    refine SC.wp_seq (SC.wp_reg ?_)
    repeat (first | (apply ops_1;(focus (simp (disch:=(try simp only [sPu]);omega) ;try rfl))) | (apply ops_y;(focus rfl);(focus ((try simp only [sPu]);omega));(focus (simp (disch:=(try simp only [sPu]);omega);done));(focus (simp (disch:=(try simp only [sPu]);omega) ;try rfl))) | (apply ops_n;(focus rfl);(focus ((try simp only [sPu]);omega));(focus (first | (left;simp (disch:=(try simp only [sPu]);omega);done) | (right;simp (disch:=(try simp only [sPu]);omega);done)))))
    refine oNi (SC.wp_ret ?_)
    try simp only [Exit.then]
    exact ret_tmp hr (by simp [dPu,hd]) ⟨⟨false,by simp (disch:=(try simp only [sPu]);omega),fun h=>by cases h⟩,Below.refl _ _⟩
theorem strnorm_ok {G:World→Prop} {F0 F1 F2:Nat} (hG:Holds G) (cR:ReplC P F0) (cT:TrimC P G F1) (cL:LowC P F2) (hf:P.funcs[f]?=some fn) (hb:fn.body.map strip=some (sc_strnorm F0 F1 F2)) (hn:fn.ntmps=14) (hr:fn.results=#[.tmp 2]) (w:World) (l:Bytes) (hg:G w) (hl:Plain l) :
    Calls P f #[.string ⟨l.toArray⟩] w fun e w'=>e=.returned (.string ⟨(normal l).toArray⟩)∧Below w.heap.size w w':=by
  refine fCa hf hb hn (by simp) fun a0 hs hd ha=>?_
  have u0:=ha 0 _ rfl
  simp only [List.getElem_toArray,List.getElem_cons_zero,List.getElem_cons_succ] at u0
  have p1:=hl.without 46
  have p2:=p1.without 95
  have p3:=p2.without 45
  have n0:=hl.1
  have n1:=p1.1
  have n2:=p2.1
  refine SC.wp_seq (SC.wp_reg ?_)
  repeat (apply ops_1;(focus (simp (disch:=(try simp only [sPu]);omega) ;try rfl)))
  refine oNi (SC.wp_seq (SC.wp_reg ?_))
  iterate 1 (apply ops_1;(focus (simp (disch:=(try simp only [sPu]);omega) [u0];try rfl)))
  refine ops_call cR.1 (cR.2 w l 46 (by omega)) (by simp (disch:=(try simp only [sPu]);omega) [u0]) ?_
  rintro e w1 ⟨rfl,hb1⟩
  refine ⟨_,rfl,?_⟩
  repeat (apply ops_1;(focus (simp (disch:=(try simp only [sPu]);omega) ;try rfl)))
  refine oNi (SC.wp_seq (SC.wp_reg ?_))
  iterate 1 (apply ops_1;(focus (simp (disch:=(try simp only [sPu]);omega) ;try rfl)))
  refine ops_call cR.1 (cR.2 w1 (without 46 l) 95 (by omega)) (by simp (disch:=(try simp only [sPu]);omega)) ?_
  rintro e w2 ⟨rfl,hb2⟩
  refine ⟨_,rfl,?_⟩
  repeat (apply ops_1;(focus (simp (disch:=(try simp only [sPu]);omega) ;try rfl)))
  refine oNi (SC.wp_seq (SC.wp_reg ?_))
  iterate 1 (apply ops_1;(focus (simp (disch:=(try simp only [sPu]);omega) ;try rfl)))
  refine ops_call cR.1 (cR.2 w2 (without 95 (without 46 l)) 45 (by omega)) (by simp (disch:=(try simp only [sPu]);omega)) ?_
  rintro e w3 ⟨rfl,hb3⟩
  refine ⟨_,rfl,?_⟩
  have hb2':=hb1.trans (hb2.mono hb1.size)
  have hb3':=hb2'.trans (hb3.mono hb2'.size)
  repeat (apply ops_1;(focus (simp (disch:=(try simp only [sPu]);omega) ;try rfl)))
  refine oNi (SC.wp_seq (SC.wp_reg ?_))
  iterate 1 (apply ops_1;(focus (simp (disch:=(try simp only [sPu]);omega) ;try rfl)))
  refine ops_call cT.1 (cT.2 w3 (without 45 (without 95 (without 46 l))) (hG _ _ hg hb3') p3) (by simp (disch:=(try simp only [sPu]);omega)) ?_
  rintro e w4 ⟨rfl,hb4⟩
  refine ⟨_,rfl,?_⟩
  have hb4':=hb3'.trans (hb4.mono hb3'.size)
  repeat (apply ops_1;(focus (simp (disch:=(try simp only [sPu]);omega) ;try rfl)))
  refine oNi (SC.wp_seq (SC.wp_reg ?_))
  iterate 1 (apply ops_1;(focus (simp (disch:=(try simp only [sPu]);omega) ;try rfl)))
  refine ops_call cL.1 (cL.2 w4 (Lib.trimSpace (without 45 (without 95 (without 46 l)))) p3.trim) (by simp (disch:=(try simp only [sPu]);omega)) ?_
  rintro e w5 ⟨rfl,hb5⟩
  refine ⟨_,rfl,?_⟩
  have hb5':=hb4'.trans (hb5.mono hb4'.size)
  repeat (apply ops_1;(focus (simp (disch:=(try simp only [sPu]);omega) ;try rfl)))
  refine oNi (SC.wp_seq (SC.wp_reg ?_))
  repeat (apply ops_1;(focus (simp (disch:=(try simp only [sPu]);omega) ;try rfl)))
  refine oNi (SC.wp_ret ?_)
  try simp only [Exit.then]
  refine ret_tmp hr (by simp [dPu,hd]) ⟨?_,hb5'⟩
  rw [← strn_normal]
  simp (disch:=(try simp only [sPu]);omega)
def ErrC (P:Program) (tx:Bytes) (F:FuncId):Prop:=FnOK P F∧∀ w:World,Calls P F #[.string ⟨tx.toArray⟩] w fun e w'=>(∃ t v,e=.returned (.iface t v))∧Below w.heap.size w w'
theorem opw_mkptr {a:Act} {w:World} {K:Act→World→Prop} {d:Option Tmp} {g:Option (Nat × Bool)} {T E:Nat} {x:Operand} {v:Value} (hT:P.underlying T=some (.pointer E)) (hx:a.eval x=v) (h:K (a.put d (.iface T v)) w):opw P ⟨d,.makeInterface T x,g⟩ a w K :=
  oVa (by simp) (fun o ho=>by simp [execOp,ho,hx,Instr.makeInterface,run_underlying hT]) h
theorem errNew_ok {T0 T1:Nat} {tx:Bytes} (hB:P.built T0 [(0,.string ⟨tx.toArray⟩)]=some #[.string ⟨tx.toArray⟩]) (hT:P.underlying T1=some (.pointer T0)) (hf:P.funcs[f]?=some fn) (hb:fn.body.map strip=some (sc_errNew T0 T1)) (hn:fn.ntmps=7) (hr:fn.results=#[.tmp 2]) (w:World) :
    Calls P f #[.string ⟨tx.toArray⟩] w fun e w'=>(∃ t v,e=.returned (.iface t v))∧Below w.heap.size w w':=by
  refine fCa hf hb hn (by simp) fun a0 hs hd ha=>?_
  have u0:=ha 0 _ rfl
  simp only [List.getElem_toArray,List.getElem_cons_zero,List.getElem_cons_succ] at u0
  refine SC.wp_seq (SC.wp_reg ?_)
  repeat (apply ops_1;(focus (simp (disch:=(try simp only [sPu]);omega) ;try rfl)))
  refine oNi (SC.wp_seq (SC.wp_reg ?_))
  iterate 1 (apply ops_1;(focus (simp (disch:=(try simp only [sPu]);omega) [u0];try rfl)))
  refine oNo rfl (opw_build (cs:=#[.string ⟨tx.toArray⟩]) (by simp (disch:=(try simp only [sPu]);omega) [u0];exact hB) ?_)
  refine oNo rfl (opw_box (v:=.agg #[.string ⟨tx.toArray⟩]) (by simp (disch:=(try simp only [sPu]);omega)) ?_)
  refine oNo rfl (opw_mkptr (v:=.pointer (some ⟨w.heap.size,0,none⟩)) hT (by simp (disch:=(try simp only [sPu]);omega)) ?_)
  repeat (apply ops_1;(focus (simp (disch:=(try simp only [sPu]);omega) ;try rfl)))
  refine oNi (SC.wp_ret ?_)
  try simp only [Exit.then]
  exact ret_tmp hr (by simp [dPu,hd]) ⟨⟨_,_,by simp (disch:=(try simp only [sPu]);omega);exact ⟨rfl,rfl⟩⟩,(Below.refl _ _).alloc (Nat.le_refl _) _⟩
end
end Go.Proofs.YtecdefhecaeclaaDoor.K
namespace Go.Proofs.YtecdefhecaeclaaDoor.K
open Go Go.RowKit Go.Proofs.YtecdefhecaeclaaDoor.T
attribute [local simp] eTm eCo pNo gTp gTn qv qcall vop iop
set_option linter.unusedSimpArgs false
set_option linter.unusedVariables false
set_option maxHeartbeats 2000000
def kTab:List (Bytes × Int):=[([97,110,121],1),([97,108,108],2),([114,101,97,100],3),([119,114,105,116,101],4),([99,114,101,97,116,101],5),([100,101,108,101,116,101],6),([97,108,116,101,114],7),([100,101,115,99,114,105,98,101],8),([99,108,117,115,116,101,114,97,99,116,105,111,110],9),([100,101,115,99,114,105,98,101,99,111,110,102,105,103,115],10),([97,108,116,101,114,99,111,110,102,105,103,115],11),([105,100,101,109,112,111,116,101,110,116,119,114,105,116,101],12),([99,114,101,97,116,101,116,111,107,101,110,115],13),([100,101,115,99,114,105,98,101,116,111,107,101,110,115],14)]
def nTab:List (Int × Bytes):=[(1,[65,78,89]),(2,[65,76,76]),(3,[82,69,65,68]),(4,[87,82,73,84,69]),(5,[67,82,69,65,84,69]),(6,[68,69,76,69,84,69]),(7,[65,76,84,69,82]),(8,[68,69,83,67,82,73,66,69]),(9,[67,76,85,83,84,69,82,95,65,67,84,73,79,78]),(10,[68,69,83,67,82,73,66,69,95,67,79,78,70,73,71,83]),(11,[65,76,84,69,82,95,67,79,78,70,73,71,83]),(12,[73,68,69,77,80,79,84,69,78,84,95,87,82,73,84,69]),(13,[67,82,69,65,84,69,95,84,79,75,69,78,83]),(14,[68,69,83,67,82,73,66,69,95,84,79,75,69,78,83])]
def etx:Bytes:=[65,67,76,79,112,101,114,97,116,105,111,110,58,32,117,110,97,98,108,101,32,116,111,32,112,97,114,115,101]
def opOf:List (Bytes × Int)→Bytes→Option Int
  | [],_=>none
  | (k,n) :: r,m=>if m=k then some n else opOf r m
theorem opOf_mem:∀ {t:List (Bytes × Int)} {m:Bytes} {n:Int},opOf t m=some n→(m,n) ∈ t
  | [],_,_,h=>by simp [opOf] at h
  | (k,n) :: r,m,n',h=>by
    unfold opOf at h
    split at h
    · rename_i e
      cases h
      rw [e]
      exact .head _
    · exact .tail _ (opOf_mem h)
theorem opOf_range {m:Bytes} {n:Int} (h:opOf kTab m=some n):0≤n∧n≤14:=by
  have h1:∀ x ∈ kTab,0≤x.2∧x.2≤14:=by decide
  exact h1 _ (opOf_mem h)
def resN (m:Bytes):Int:=(opOf kTab m).getD 0
def resB (m:Bytes):Bool:=(opOf kTab m).isSome
theorem resN_range (m:Bytes):0≤resN m∧resN m≤14:=by
  unfold resN
  cases h:opOf kTab m with
  | none=>simp
  | some n=>simpa using opOf_range h
def kChain (T0:Nat):Nat→List (Bytes × Int)→SC→SC
  | _,[],e=>e
  | s,(k,n) :: r,e=>.seq (.reg [⟨some (s+1),.binOp .eql T0 (.tmp 5) (.const (.string ⟨k.toArray⟩)) T0,none⟩,asg s (s+1)]) (.cond (.tmp s) (.seq (.reg [⟨some 2,.assign (.const (.int .i8 n)),none⟩,⟨some 3,.assign (.const .nilIface),none⟩]) (.ret)) (kChain T0 (s+2) r e))
def sc_kParse (T0 F0 F1:Nat):SC:=.seq (.reg [⟨some 2,.assign (.const (.int .i8 0)),none⟩,⟨some 3,.assign (.const .nilIface),none⟩]) (.seq (.reg [mv 4 0,cal 5 F0 [4]]) (.block 0 (kChain T0 7 kTab (.seq (.reg [⟨some 6,.call ⟨.value (.func F1),#[(.const (.string ⟨etx.toArray⟩))],#[]⟩,none⟩,⟨some 2,.assign (.const (.int .i8 0)),none⟩,asg 3 6]) (.ret)))))
def sc_iParse (T0 T1 T2 F0:Nat):SC:=.seq (.reg [⟨some 2,.assign (.const (.int .i64 0)),none⟩,⟨some 3,.assign (.const (.bool false)),none⟩]) (.seq (.reg [mv 7 0,cal 8 F0 [7],mv 6 8,⟨some 9,.extract (.tmp 6) 0,none⟩,⟨some 10,.extract (.tmp 6) 1,none⟩,asg 4 9,asg 5 10]) (.seq (.seq (.reg [mv 11 5,⟨some 12,.binOp .neq T0 (.tmp 11) (.const .nilIface) T0,none⟩]) (.cond (.tmp 12) (.seq (.reg [⟨some 2,.assign (.const (.int .i64 0)),none⟩,⟨some 3,.assign (.const (.bool false)),none⟩]) (.ret)) (.skip))) (.seq (.reg [mv 13 4,⟨some 14,.convert T1 T2 (.tmp 13),none⟩,asg 2 14,⟨some 3,.assign (.const (.bool true)),none⟩]) (.ret))))
def sc_kUnm (T0 T1 T2 F0:Nat):SC:=.seq (.reg [⟨some 4,.assign (.const .nilIface),none⟩]) (.seq (.reg [mv 8 1,⟨some 9,.convert T0 T1 (.tmp 8),none⟩,cal 10 F0 [9],mv 7 10,⟨some 11,.extract (.tmp 7) 0,none⟩,⟨some 12,.extract (.tmp 7) 1,none⟩,asg 5 11,asg 6 12]) (.seq (.reg [mv 13 0,mv 14 5,nilc 15 13,⟨none,.store T2 (.tmp 15) (.tmp 14),none⟩]) (.seq (.reg [mv 16 6,asg 4 16]) (.ret))))
def sc_iOfText (T0 T1 T2 T3 F0:Nat):SC:=.seq (.reg [⟨some 2,.assign (.const (.int .i64 0)),none⟩,⟨some 3,.assign (.const (.bool false)),none⟩]) (.seq (.reg [⟨some 4,.alloc T0,none⟩]) (.seq (.reg [mv 6 0,⟨some 7,.call ⟨.builtin .append,#[(.const (.slice none 0 0)),(.tmp 6)],#[T1,T1]⟩,none⟩,cal 8 F0 [4,7],asg 5 8]) (.seq (.seq (.reg [mv 9 5,⟨some 10,.binOp .neq T2 (.tmp 9) (.const .nilIface) T2,none⟩]) (.cond (.tmp 10) (.seq (.reg [⟨some 2,.assign (.const (.int .i64 0)),none⟩,⟨some 3,.assign (.const (.bool false)),none⟩]) (.ret)) (.skip))) (.seq (.reg [ld 11 T0 4,⟨some 12,.convert T0 T3 (.tmp 11),none⟩,asg 2 12,⟨some 3,.assign (.const (.bool true)),none⟩]) (.ret)))))
def OpV (m:Bytes) (v:Value):Prop:=(resB m=true∧v=.nilIface)∨(resB m=false∧∃ t y,v=.iface t y)
theorem OpV.isErr {m:Bytes} {v:Value} (h:OpV m v):isErr v=!resB m∧(v=.nilIface∨∃ t y,v=.iface t y):=by
  rcases h with ⟨h,rfl⟩ | ⟨h,t,y,rfl⟩
  · exact ⟨by rw [h];rfl,.inl rfl⟩
  · exact ⟨by rw [h];rfl,.inr ⟨t,y,rfl⟩⟩
def KParC (P:Program) (G:World→Prop) (F:FuncId):Prop:=FnOK P F∧∀ (w:World) (l:Bytes),G w→Plain l→Calls P F #[.string ⟨l.toArray⟩] w fun e w'=>(∃ v,e=.returned (.tuple #[.int .i8 (resN (normal l)),v])∧OpV (normal l) v)∧Below w.heap.size w w'
def IParC (P:Program) (G:World→Prop) (F:FuncId):Prop:=FnOK P F∧∀ (w:World) (l:Bytes),G w→Plain l→Calls P F #[.string ⟨l.toArray⟩] w fun e w'=>e=.returned (.tuple #[.int .i64 (resN (normal l)),.bool (resB (normal l))])∧Below w.heap.size w w'
def UnmC (P:Program) (G:World→Prop) (T:Nat) (F:FuncId):Prop:=FnOK P F∧∀ (w:World) (l:Bytes) (S:Option Nat) (base:Option Addr) (cap b:Nat) (v0:Value),G w→Plain l→SrcAt w S base l→w.heap[b]?=some (.cells #[v0] T (0,0)) →
  Calls P F #[.pointer (some ⟨b,0,none⟩),.slice base l.length cap] w fun e w'=>(∃ v,e=.returned v∧OpV (normal l) v)∧∃ w1,Below w.heap.size w w1∧w'=w1.setRow b #[.int .i8 (resN (normal l))]
def OfTC (P:Program) (G:World→Prop) (F:FuncId):Prop:=FnOK P F∧∀ (w:World) (l:Bytes) (S:Option Nat) (base:Option Addr) (cap:Nat),G w→Plain l→SrcAt w S base l →
  Calls P F #[.slice base l.length cap] w fun e w'=>e=.returned (.tuple #[.int .i64 (resN (normal l)),.bool (resB (normal l))])∧Below w.heap.size w w'
section
variable {P:Program} {f:FuncId} {fn:Func}
theorem src_at {T tU8:Nat} {w:World} {S:Option Nat} {base:Option Addr} {src:Bytes} {cap:Nat} (hT:u8sB P T tU8=true) (hsr:SrcAt w S base src):Src P 1 T (.slice base src.length cap) src.length (cellsOf src) w:=by
  have hu8:=(u8s_of hT).1
  cases S with
  | none =>
    obtain ⟨rfl,rfl⟩:=hsr
    exact Src.ofNil w hu8 _
  | some sb =>
    obtain ⟨o,rfl,hc⟩:=hsr
    refine Src.ofSlice w hu8 ⟨sb,o,none⟩ src.length cap (cellsOf src) (by simp [cLen]) (fun j u hj=>?_) (fun u hu=>?_)
    · rw [add_none]
      simp only [cellsOf,List.getElem?_map,Option.map_eq_some_iff] at hj
      obtain ⟨u',hu',rfl⟩:=hj
      exact hc j u' hu'
    · simp only [cellsOf,List.mem_map] at hu
      obtain ⟨u',_,rfl⟩:=hu
      rfl
theorem kChain_ok {T0:Nat} {e:SC} {w:World} {Q:Exit→Act→World→Prop} {m:Bytes}:∀ (tab:List (Bytes × Int)) (s:Nat) (a:Act),5 < s→s+2 * tab.length≤a.tmps.size→getT a 5=.string ⟨m.toArray⟩ →
    (∀ n a',opOf tab m=some n→a'.defers=a.defers→getT a' 2=.int .i8 n→getT a' 3=.nilIface→Q .ret a' w) →
    (∀ a',opOf tab m=none→a'.tmps.size=a.tmps.size→a'.defers=a.defers→e.wp P Q a' w)→(kChain T0 s tab e).wp P Q a w
  | [],s,a,_,_,_,_,h2=>h2 a rfl rfl rfl
  | (k,n) :: r,s,a,hs,hl,h5,h1,h2=>by
    rw [List.length_cons] at hl
    unfold kChain
    refine SC.wp_seq (SC.wp_reg ?_)
    refine oNo rfl (opw_streq (l:=m) (m:=k) (by rw [eTm];exact h5) (by rw [eCo]) (ops_asg (oNi ?_)))
    rw [gTp (by omega)]
    simp only [Exit.then]
    refine SC.wp_cond (t:=decide (m=k)) (by rw [eTm,gTp (by rw [sPu];omega)]) ?_
    by_cases hmk:m=k
    · rw [if_pos (by simp [hmk])]
      refine SC.wp_seq (SC.wp_reg (oNo rfl (opw_assign (oNo rfl (opw_assign (oNi ?_))))))
      simp only [Exit.then]
      refine SC.wp_ret (h1 n _ (by unfold opOf;rw [if_pos hmk]) (by simp [dPu]) ?_ ?_)
      · rw [gTn (by omega),gTp (by simp only [sPu];omega),eCo]
      · rw [gTp (by simp only [sPu];omega),eCo]
    · rw [if_neg (by simp [hmk])]
      refine kChain_ok r (s+2) _ (by omega) (by simp only [sPu];omega) (by rw [gTn (by omega),gTn (by omega)];exact h5) ?_ ?_
      · intro n' a' h hd
        exact h1 n' a' (by unfold opOf;rw [if_neg hmk];exact h) (by rw [hd];simp [dPu])
      · intro a' h hz hd
        exact h2 a' (by unfold opOf;rw [if_neg hmk];exact h) (by rw [hz];simp [sPu]) (by rw [hd];simp [dPu])
theorem kParse_ok {G:World→Prop} {T0 F0 F1:Nat} (hG:Holds G) (cS:StrC P G F0) (cE:ErrC P etx F1) (hf:P.funcs[f]?=some fn) (hb:fn.body.map strip=some (sc_kParse T0 F0 F1)) (hn:fn.ntmps=35) (hr:fn.results=#[.tmp 2,.tmp 3]) (w:World) (l:Bytes) (hg:G w) (hl:Plain l) :
    Calls P f #[.string ⟨l.toArray⟩] w fun e w'=>(∃ v,e=.returned (.tuple #[.int .i8 (resN (normal l)),v])∧OpV (normal l) v)∧Below w.heap.size w w':=by
  refine fCa hf hb hn (by simp) fun a0 hs hd ha=>?_
  have u0:=ha 0 _ rfl
  simp only [List.getElem_toArray,List.getElem_cons_zero,List.getElem_cons_succ] at u0
  refine SC.wp_seq (SC.wp_reg ?_)
  repeat (apply ops_1;(focus (simp (disch:=(try simp only [sPu]);omega) ;try rfl)))
  refine oNi (SC.wp_seq (SC.wp_reg ?_))
  iterate 1 (apply ops_1;(focus (simp (disch:=(try simp only [sPu]);omega) [u0];try rfl)))
  refine ops_call cS.1 (cS.2 w l hg hl) (by simp (disch:=(try simp only [sPu]);omega) [u0]) ?_
  rintro e w1 ⟨rfl,hb1⟩
  refine ⟨_,rfl,oNi ?_⟩
  simp only [Exit.then]
  refine SC.wp_block (kChain_ok (m:=normal l) kTab 7 _ (by decide) (by simp [sPu,hs,kTab]) (by simp (disch:=(try simp only [sPu]);omega)) ?_ ?_)
  · intro n a' h hd' g2 g3
    simp only [Exit.inBlock]
    have e1:resN (normal l)=n:=by unfold resN;rw [h];rfl
    have e2:resB (normal l)=true:=by unfold resB;rw [h];rfl
    refine bodyPost_ret_by (res2 hr g2 g3) (by rw [hd'];simp [dPu,hd]) ⟨⟨_,by rw [e1],.inl ⟨e2,rfl⟩⟩,hb1⟩
  · intro a' h hz hd'
    have hz':a'.tmps.size=35:=by rw [hz];simp [sPu,hs]
    have e1:resN (normal l)=0:=by unfold resN;rw [h];rfl
    have e2:resB (normal l)=false:=by unfold resB;rw [h];rfl
    refine SC.wp_seq (SC.wp_reg ?_)
    refine ops_call cE.1 (cE.2 w1) (by simp (disch:=(try simp only [sPu]);omega)) ?_
    rintro e w2 ⟨⟨t,v,rfl⟩,hb2⟩
    refine ⟨_,rfl,?_⟩
    repeat (apply ops_1;(focus (simp (disch:=(try simp only [sPu]);omega) ;try rfl)))
    refine oNi (SC.wp_ret ?_)
    simp only [Exit.then,Exit.inBlock]
    rw [e1]
    exact bodyPost_ret_by (res2 hr (v1:=.int .i8 0) (v2:=.iface t v) (by simp (disch:=(try simp only [sPu]);omega)) (by simp (disch:=(try simp only [sPu]);omega))) (by simp [dPu,hd',hd]) ⟨⟨_,rfl,.inr ⟨e2,t,v,rfl⟩⟩,hb1.trans (hb2.mono hb1.size)⟩
theorem iParse_ok {G:World→Prop} {T0 T1 T2 F0:Nat} (hT:ifaceT P T0=true) (h8:intK P T1=some .i8) (hI:intK P T2=some .i64) (cK:KParC P G F0) (hf:P.funcs[f]?=some fn) (hb:fn.body.map strip=some (sc_iParse T0 T1 T2 F0)) (hn:fn.ntmps=15) (hr:fn.results=#[.tmp 2,.tmp 3]) (w:World) (l:Bytes) (hg:G w) (hl:Plain l) :
    Calls P f #[.string ⟨l.toArray⟩] w fun e w'=>e=.returned (.tuple #[.int .i64 (resN (normal l)),.bool (resB (normal l))])∧Below w.heap.size w w':=by
  refine fCa hf hb hn (by simp) fun a0 hs hd ha=>?_
  have u0:=ha 0 _ rfl
  simp only [List.getElem_toArray,List.getElem_cons_zero,List.getElem_cons_succ] at u0
  have hrg:=resN_range (normal l)
  refine SC.wp_seq (SC.wp_reg ?_)
  repeat (apply ops_1;(focus (simp (disch:=(try simp only [sPu]);omega) ;try rfl)))
  refine oNi (SC.wp_seq (SC.wp_reg ?_))
  iterate 1 (apply ops_1;(focus (simp (disch:=(try simp only [sPu]);omega) [u0];try rfl)))
  refine ops_call cK.1 (cK.2 w l hg hl) (by simp (disch:=(try simp only [sPu]);omega) [u0]) ?_
  rintro e w1 ⟨⟨v,rfl,hv⟩,hb1⟩
  refine ⟨_,rfl,?_⟩
  have hve:=hv.isErr
  iterate 1 (apply ops_1;(focus (simp (disch:=(try simp only [sPu]);omega) ;try rfl)))
  refine oNo rfl (opw_extract (v:=.int .i8 (resN (normal l))) (vs:=#[.int .i8 (resN (normal l)),v]) (by simp (disch:=(try simp only [sPu]);omega)) rfl ?_)
  refine oNo rfl (opw_extract (v:=v) (vs:=#[.int .i8 (resN (normal l)),v]) (by simp (disch:=(try simp only [sPu]);omega)) rfl ?_)
  repeat (apply ops_1;(focus (simp (disch:=(try simp only [sPu]);omega) ;try rfl)))
  refine oNi (SC.wp_seq (SC.wp_seq (SC.wp_reg ?_)))
  iterate 1 (apply ops_1;(focus (simp (disch:=(try simp only [sPu]);omega) ;try rfl)))
  refine oNo rfl (opw_isErr (v:=v) hT (by simp (disch:=(try simp only [sPu]);omega)) hve.2 (oNi ?_))
  rw [hve.1]
  simp only [Exit.then]
  refine SC.wp_cond (t:=!resB (normal l)) (by simp (disch:=(try simp only [sPu]);omega)) ?_
  cases hrb:resB (normal l)
  · rw [if_pos (by simp)]
    have e1:resN (normal l)=0:=by
      unfold resB at hrb
      unfold resN
      cases h:opOf kTab (normal l) with
      | none=>rfl
      | some n=>rw [h] at hrb;cases hrb
    refine SC.wp_seq (SC.wp_reg ?_)
    repeat (apply ops_1;(focus (simp (disch:=(try simp only [sPu]);omega) ;try rfl)))
    refine oNi (SC.wp_ret ?_)
    try simp only [Exit.then]
    rw [e1]
    exact bodyPost_ret_by (res2 hr (v1:=.int .i64 0) (v2:=.bool false) (by simp (disch:=(try simp only [sPu]);omega)) (by simp (disch:=(try simp only [sPu]);omega))) (by simp [dPu,hd]) ⟨rfl,hb1⟩
  · rw [if_neg (by simp)]
    refine SC.wp_skip ?_
    simp only [Exit.then]
    generalize resN (normal l)=n at *
    have ew:IntKind.i64.wrap n=n:=by rw [wrap_i64'];split <;> omega
    refine SC.wp_seq (SC.wp_reg ?_)
    repeat (apply ops_1;(focus (simp (disch:=(try simp only [sPu]);omega) [h8,hI,ew];try rfl)))
    refine oNi (SC.wp_ret ?_)
    try simp only [Exit.then]
    exact bodyPost_ret_by (res2 hr (v1:=.int .i64 n) (v2:=.bool true) (by simp (disch:=(try simp only [sPu]);omega)) (by simp (disch:=(try simp only [sPu]);omega))) (by simp [dPu,hd]) ⟨rfl,hb1⟩
theorem kUnm_ok {G:World→Prop} {T0 T1 T2 F0:Nat} (hbs:bstrB P T0 T1=true) (h2:oneB P T2=true) (cK:KParC P G F0) (hf:P.funcs[f]?=some fn) (hb:fn.body.map strip=some (sc_kUnm T0 T1 T2 F0)) (hn:fn.ntmps=17) (hr:fn.results=#[.tmp 4]) (w:World) (l:Bytes) (S:Option Nat) (base:Option Addr) (cap b:Nat) (v0:Value) (hg:G w) (hl:Plain l) (hsr:SrcAt w S base l) (hrow:w.heap[b]?=some (.cells #[v0] T2 (0,0))) :
    Calls P f #[.pointer (some ⟨b,0,none⟩),.slice base l.length cap] w fun e w'=>(∃ v,e=.returned v∧OpV (normal l) v)∧∃ w1,Below w.heap.size w w1∧w'=w1.setRow b #[.int .i8 (resN (normal l))]:=by
  refine fCa hf hb hn (by simp) fun a0 hs hd ha=>?_
  have u0:=ha 0 _ rfl
  have u1:=ha 1 _ rfl
  simp only [List.getElem_toArray,List.getElem_cons_zero,List.getElem_cons_succ] at u0 u1
  have hbl:b < w.heap.size:=(Array.getElem?_eq_some_iff.1 hrow).1
  refine SC.wp_seq (SC.wp_reg ?_)
  repeat (apply ops_1;(focus (simp (disch:=(try simp only [sPu]);omega) ;try rfl)))
  refine oNi (SC.wp_seq (SC.wp_reg ?_))
  iterate 1 (apply ops_1;(focus (simp (disch:=(try simp only [sPu]);omega) [u1];try rfl)))
  refine oNo rfl (opw_str (bs:=l) (cap:=cap) (S:=S) hbs (by simp (disch:=(try simp only [sPu]);omega) [u1]) hsr ?_)
  refine ops_call cK.1 (cK.2 w l hg hl) (by simp (disch:=(try simp only [sPu]);omega)) ?_
  rintro e w1 ⟨⟨v,rfl,hv⟩,hb1⟩
  refine ⟨_,rfl,?_⟩
  iterate 1 (apply ops_1;(focus (simp (disch:=(try simp only [sPu]);omega) ;try rfl)))
  refine oNo rfl (opw_extract (v:=.int .i8 (resN (normal l))) (vs:=#[.int .i8 (resN (normal l)),v]) (by simp (disch:=(try simp only [sPu]);omega)) rfl ?_)
  refine oNo rfl (opw_extract (v:=v) (vs:=#[.int .i8 (resN (normal l)),v]) (by simp (disch:=(try simp only [sPu]);omega)) rfl ?_)
  repeat (apply ops_1;(focus (simp (disch:=(try simp only [sPu]);omega) ;try rfl)))
  refine oNi (SC.wp_seq (SC.wp_reg ?_))
  iterate 3 (apply ops_1;(focus (simp (disch:=(try simp only [sPu]);omega) [u0];try rfl)))
  have hrow1:w1.heap[b]?=some (.cells #[v0] T2 (0,0)):=by rw [hb1.block b hbl];exact hrow
  refine ops_stR (b:=b) (i:=0) (v:=.int .i8 (resN (normal l))) h2 (by simp (disch:=(try simp only [sPu]);omega)) (by simp (disch:=(try simp only [sPu]);omega)) rfl hrow1 (by simp) (oNi ?_)
  simp only [Exit.then]
  refine SC.wp_seq (SC.wp_reg ?_)
  repeat (apply ops_1;(focus (simp (disch:=(try simp only [sPu]);omega) ;try rfl)))
  refine oNi (SC.wp_ret ?_)
  try simp only [Exit.then]
  exact ret_tmp hr (by simp [dPu,hd]) ⟨⟨v,by simp (disch:=(try simp only [sPu]);omega),hv⟩,w1,hb1,by simp⟩
theorem iOfText_ok {G:World→Prop} {T0 T1 T2 T3 F0 tU8:Nat} (hG:Holds G) (hz0:(P.info? T0).bind (·.zero)=some (.int .i8 0)) (h1:oneB P T0=true) (hu8:u8sB P T1 tU8=true) (hT:ifaceT P T2=true) (h8:intK P T0=some .i8) (hI:intK P T3=some .i64) (cU:UnmC P G T0 F0)
    (hf:P.funcs[f]?=some fn) (hb:fn.body.map strip=some (sc_iOfText T0 T1 T2 T3 F0)) (hn:fn.ntmps=13) (hr:fn.results=#[.tmp 2,.tmp 3]) (w:World) (l:Bytes) (S:Option Nat) (base:Option Addr) (cap:Nat) (hg:G w) (hl:Plain l) (hsr:SrcAt w S base l) (hS:∀ sb,S=some sb→sb < w.heap.size) :
    Calls P f #[.slice base l.length cap] w fun e w'=>e=.returned (.tuple #[.int .i64 (resN (normal l)),.bool (resB (normal l))])∧Below w.heap.size w w':=by
  have hlim:lim=70368744177664:=rfl
  have hl200:=hl.1
  refine fCa hf hb hn (by simp) fun a0 hs hd ha=>?_
  have u0:=ha 0 _ rfl
  simp only [List.getElem_toArray,List.getElem_cons_zero,List.getElem_cons_succ] at u0
  have hrg:=resN_range (normal l)
  obtain ⟨i0,hi0,hz0'⟩:=Option.bind_eq_some_iff.1 hz0
  refine SC.wp_seq (SC.wp_reg ?_)
  repeat (apply ops_1;(focus (simp (disch:=(try simp only [sPu]);omega) ;try rfl)))
  refine oNi (SC.wp_seq (SC.wp_reg (oNo rfl (opw_alloc hi0 hz0' (oNi ?_)))))
  simp only [Exit.then]
  have hba:Below w.heap.size w (w.alloc (.cells (Value.cells (.int .i8 0)) T0)):=(Below.refl _ _).alloc (Nat.le_refl _) _
  have hrow:=heap_alloc_new w (.cells (Value.cells (.int .i8 0)) T0)
  have hsz:(w.alloc (.cells (Value.cells (.int .i8 0)) T0)).heap.size=w.heap.size+1:=by simp
  generalize w.alloc (.cells (Value.cells (.int .i8 0)) T0)=wa at *
  have hsra:SrcAt wa S base l:=hsr.frame fun sb hsb=>hba.block sb (hS sb hsb)
  refine SC.wp_seq (SC.wp_reg ?_)
  iterate 1 (apply ops_1;(focus (simp (disch:=(try simp only [sPu]);omega) [u0];try rfl)))
  refine oNo rfl (opw_appendU8 (B:=w.heap.size+1) (xs:=[]) (bs:=l) (dv:=.slice none 0 0) (xv:=.slice base l.length cap) hu8 (by simp (disch:=(try simp only [sPu]);omega)) (by simp (disch:=(try simp only [sPu]);omega) [u0]) rfl (own_nil _ _ _) (by omega) (src_at hu8 hsra) (by simp;omega) fun dv7 w7 ho7 hb7 hs7 _=>?_)
  rw [List.nil_append] at ho7
  obtain ⟨S7,base7,cap7,rfl,hsr7,hS7⟩:=own_src ho7
  have hrow7:w7.heap[w.heap.size]?=some (.cells #[.int .i8 0] T0 (0,0)):=by rw [hb7.block _ (by omega)];exact hrow
  have hb7':Below w.heap.size w w7:=hba.trans (hb7.mono (by omega))
  refine ops_call cU.1 (cU.2 w7 l S7 base7 cap7 w.heap.size (.int .i8 0) (hG _ _ hg hb7') hl hsr7 hrow7) (by simp (disch:=(try simp only [sPu]);omega)) ?_
  rintro e w8 ⟨⟨v,rfl,hv⟩,w1,hb1,rfl⟩
  refine ⟨_,rfl,?_⟩
  have hve:=hv.isErr
  have hrow1:w1.heap[w.heap.size]?=some (.cells #[.int .i8 0] T0 (0,0)):=by rw [hb1.block _ (by omega)];exact hrow7
  have hrow8:=setRow_heap w1 w.heap.size _ #[.int .i8 (resN (normal l))] _ _ hrow1
  have hb8:Below w.heap.size w (w1.setRow w.heap.size #[.int .i8 (resN (normal l))]):=below_setRow (hb7'.trans (hb1.mono (by omega))) (Nat.le_refl _) _
  have hc8:(w1.setRow w.heap.size #[.int .i8 (resN (normal l))]).cell? ⟨w.heap.size,0,none⟩=some (.int .i8 (resN (normal l))):=by rw [cell_of_row _ _ _ _ _ _ hrow8];rfl
  generalize w1.setRow w.heap.size #[.int .i8 (resN (normal l))]=w8 at *
  repeat (apply ops_1;(focus (simp (disch:=(try simp only [sPu]);omega) ;try rfl)))
  refine oNi (SC.wp_seq (SC.wp_seq (SC.wp_reg ?_)))
  iterate 1 (apply ops_1;(focus (simp (disch:=(try simp only [sPu]);omega) ;try rfl)))
  refine oNo rfl (opw_isErr (v:=v) hT (by simp (disch:=(try simp only [sPu]);omega)) hve.2 (oNi ?_))
  rw [hve.1]
  simp only [Exit.then]
  refine SC.wp_cond (t:=!resB (normal l)) (by simp (disch:=(try simp only [sPu]);omega)) ?_
  cases hrb:resB (normal l)
  · rw [if_pos (by simp)]
    have e1:resN (normal l)=0:=by
      unfold resB at hrb
      unfold resN
      cases h:opOf kTab (normal l) with
      | none=>rfl
      | some n=>rw [h] at hrb;cases hrb
    refine SC.wp_seq (SC.wp_reg ?_)
    repeat (apply ops_1;(focus (simp (disch:=(try simp only [sPu]);omega) ;try rfl)))
    refine oNi (SC.wp_ret ?_)
    try simp only [Exit.then]
    rw [e1]
    exact bodyPost_ret_by (res2 hr (v1:=.int .i64 0) (v2:=.bool false) (by simp (disch:=(try simp only [sPu]);omega)) (by simp (disch:=(try simp only [sPu]);omega))) (by simp [dPu,hd]) ⟨rfl,hb8⟩
  · rw [if_neg (by simp)]
    refine SC.wp_skip ?_
    simp only [Exit.then]
    generalize resN (normal l)=n at *
    have ew:IntKind.i64.wrap n=n:=by rw [wrap_i64'];split <;> omega
    refine SC.wp_seq (SC.wp_reg ?_)
    repeat (apply ops_1;(focus (simp (disch:=(try simp only [sPu]);omega) [h8,hI,ew,h1,hc8];try rfl)))
    refine oNi (SC.wp_ret ?_)
    try simp only [Exit.then]
    exact bodyPost_ret_by (res2 hr (v1:=.int .i64 n) (v2:=.bool true) (by simp (disch:=(try simp only [sPu]);omega)) (by simp (disch:=(try simp only [sPu]);omega))) (by simp [dPu,hd]) ⟨rfl,hb8⟩
end
end Go.Proofs.YtecdefhecaeclaaDoor.K
namespace Go.Proofs.YtecdefhecaeclaaDoor.K
open Go Go.RowKit Go.Proofs.YtecdefhecaeclaaDoor.T
attribute [local simp] eTm eCo pNo gTp gTn qv qcall vop iop
set_option linter.unusedSimpArgs false
set_option linter.unusedVariables false
set_option maxHeartbeats 2000000
def bldOps (T0:Nat):Nat→List (Int × Bytes)→List SOp→List SOp
  | _,[],r=>r
  | s,(n,k) :: t,r=>⟨some s,.build T0 #[(0,(.const (.int .i64 n))),(1,(.const (.string ⟨k.toArray⟩)))],none⟩ :: bldOps T0 (s+1) t r
def sc_names (T0 T1:Nat):SC:=.seq (.reg [⟨some 0,.assign (.const (.slice none 0 0)),none⟩]) (.seq (.reg (bldOps T0 1 nTab [⟨some 15,.buildSlice T1 14 ((((List.range' 1 14).zipIdx 0).map fun x=>(x.2,Operand.tmp x.1)).toArray),none⟩,asg 0 15])) (.ret))
def sc_Parsed (T0 T1 T2 T3 F0:Nat):SC:=.seq (.reg [⟨some 4,.assign (.const (.int .i64 0)),none⟩,⟨some 5,.assign (.const (.bool false)),none⟩]) (.seq (.seq (.reg [mv 8 0,lenOp 9 T0 8,⟨some 10,.move (.const (.int .i64 0)),none⟩]) (.block 0 (.loop (.seq (.reg [⟨some 11,.binOp .lss T1 (.tmp 10) (.tmp 9) T1,none⟩]) (.seq (.cond (.tmp 11) (.skip) (.exit 0)) (.seq (.block 1 (.seq (.reg [⟨some 12,.indexAddr T0 (.tmp 8) (.tmp 10),none⟩,ld 13 T2 12,⟨some 7,.alloc T2,none⟩,⟨none,.store T2 (.tmp 7) (.tmp 13),none⟩]) (.seq (.reg [fa 14 T2 7 1,ld 15 T3 14,cal 16 F0 [15],mv 17 1,cal 18 F0 [17],⟨some 19,.binOp .eql T3 (.tmp 16) (.tmp 18) T3,none⟩]) (.cond (.tmp 19) (.seq (.reg [fa 20 T2 7 0,ld 21 T1 20,asg 4 21,⟨some 5,.assign (.const (.bool true)),none⟩]) (.ret)) (.skip))))) (.reg [⟨some 22,.binOp .add T1 (.tmp 10) (.const (.int .i64 1)) T1,none⟩,mv 10 22]))))))) (.seq (.reg [⟨some 4,.assign (.const (.int .i64 0)),none⟩,⟨some 5,.assign (.const (.bool false)),none⟩]) (.ret)))
def sc_parsed (T0 T1 F0:Nat):SC:=.seq (.reg [⟨some 8,.assign (.const (.bool false)),none⟩]) (.seq (.reg [mv 12 0,mv 13 1,cal 14 F0 [12,13],mv 11 14,⟨some 15,.extract (.tmp 11) 0,none⟩,⟨some 16,.extract (.tmp 11) 1,none⟩,asg 9 15,asg 10 16]) (.seq (.reg [mv 17 3,mv 18 10,⟨some 19,.binOp .eql T0 (.tmp 17) (.tmp 18) T0,none⟩,mv 20 19,⟨some 21,.move (.tmp 3),some (3,true)⟩,⟨some 22,.unOp .not T0 (.tmp 21),some (3,true)⟩,⟨some 23,.move (.tmp 22),some (3,true)⟩,⟨some 24,.move (.tmp 2),some (6,false)⟩,⟨some 25,.move (.tmp 9),some (6,false)⟩,⟨some 26,.binOp .eql T1 (.tmp 24) (.tmp 25) T1,some (6,false)⟩,⟨some 27,.pick (.tmp 23) (.const (.bool true)) (.tmp 26),some (3,true)⟩,⟨some 28,.pick (.tmp 20) (.tmp 27) (.const (.bool false)),none⟩,asg 8 28]) (.ret)))
def sc_LawParse (T0 T1 T2 T3 F0 F1 F2 F3 F4:Nat):SC:=.seq (.reg [⟨some 2,.assign (.const (.bool false)),none⟩]) (.seq (.seq (.reg [mv 7 0,lenOp 8 T0 7,⟨some 9,.binOp .gtr T1 (.tmp 8) (.const (.int .i64 2147483647)) T1,none⟩]) (.cond (.tmp 9) (.seq (.reg [⟨some 2,.assign (.const (.bool true)),none⟩]) (.ret)) (.skip))) (.seq (.seq (.reg [mv 10 0,cal 11 F0 [10],⟨some 12,.unOp .not T2 (.tmp 11),none⟩]) (.cond (.tmp 12) (.seq (.reg [⟨some 2,.assign (.const (.bool true)),none⟩]) (.ret)) (.skip))) (.seq (.reg [mv 14 0,cal 15 F1 [14],mv 13 15,⟨some 16,.extract (.tmp 13) 0,none⟩,⟨some 17,.extract (.tmp 13) 1,none⟩,asg 3 16,asg 4 17]) (.seq (.reg [mv 19 0,⟨some 20,.convert T0 T3 (.tmp 19),none⟩,cal 21 F2 [20],mv 18 21,⟨some 22,.extract (.tmp 18) 0,none⟩,⟨some 23,.extract (.tmp 18) 1,none⟩,asg 5 22,asg 6 23]) (.seq (.reg [cal 24 F3 [],mv 25 0,mv 26 3,mv 27 4,cal 28 F4 [24,25,26,27],mv 29 28,⟨some 30,.call ⟨.value (.func F3),#[],#[]⟩,some (5,true)⟩,⟨some 31,.move (.tmp 0),some (5,true)⟩,⟨some 32,.move (.tmp 5),some (5,true)⟩,⟨some 33,.move (.tmp 6),some (5,true)⟩,⟨some 34,.call ⟨.value (.func F4),#[(.tmp 30),(.tmp 31),(.tmp 32),(.tmp 33)],#[]⟩,some (5,true)⟩,⟨some 35,.pick (.tmp 29) (.tmp 34) (.const (.bool false)),none⟩,asg 2 35]) (.ret))))))
def nRow (x:Int × Bytes):List Value:=[.int .i64 x.1,.string ⟨x.2.toArray⟩]
def NamesAt (w:World) (T b:Nat) (tab:List (Int × Bytes)):Prop:=w.heap[b]?=some (.cells (tab.map nRow).flatten.toArray T (0,0))
theorem flat_get {α:Type} {n:Nat}:∀ {rows:List (List α)} {j k:Nat} {r:List α} {v:α},(∀ r ∈ rows,r.length=n)→rows[j]?=some r→r[k]?=some v→rows.flatten[j * n+k]?=some v
  | [],j,k,r,v,_,h,_=>by simp at h
  | x :: rs,0,k,r,v,hr,h,hk=>by
    simp only [List.getElem?_cons_zero,Option.some.injEq] at h
    subst h
    rw [List.flatten_cons,Nat.zero_mul,Nat.zero_add,List.getElem?_append_left (by exact (List.getElem?_eq_some_iff.1 hk).1)]
    exact hk
  | x :: rs,j+1,k,r,v,hr,h,hk=>by
    have hx:=hr x (by simp)
    rw [List.flatten_cons,List.getElem?_append_right (by rw [hx,Nat.succ_mul];omega),hx,show (j+1) * n+k - n=j * n+k by rw [Nat.succ_mul];omega]
    exact flat_get (fun r hr'=>hr r (by simp [hr'])) (by simpa using h) hk
theorem NamesAt.cells {w:World} {T b:Nat} {tab:List (Int × Bytes)} (h:NamesAt w T b tab) {j:Nat} {x:Int × Bytes} (hx:tab[j]?=some x):w.cell? ⟨b,j * 2,none⟩=some (.int .i64 x.1)∧w.cell? ⟨b,j * 2+1,none⟩=some (.string ⟨x.2.toArray⟩):=by
  have hl:∀ r ∈ tab.map nRow,r.length=2:=by
    intro r hr
    obtain ⟨y,_,rfl⟩:=List.mem_map.1 hr
    rfl
  have hj:(tab.map nRow)[j]?=some (nRow x):=by rw [List.getElem?_map,hx];rfl
  constructor
  · rw [cell_of_row _ _ _ _ _ _ h]
    simpa using flat_get (k:=0) hl hj rfl
  · rw [cell_of_row _ _ _ _ _ _ h]
    simpa using flat_get (k:=1) hl hj rfl
def keyed (tab:List (Int × Bytes)):List (Bytes × Int):=tab.map fun x=>(normal x.2,x.1)
theorem keyed_nTab:keyed nTab=kTab:=by decide +kernel
def NamesC (P:Program) (T:Nat) (F:FuncId):Prop:=FnOK P F∧∀ w:World,Calls P F #[] w fun e w'=>e=.returned (.slice (some ⟨w.heap.size,0,none⟩) 14 14)∧w'=w.alloc (.cells (nTab.map nRow).flatten.toArray T)
def ParsedC (P:Program) (T:Nat) (F:FuncId):Prop:=FnOK P F∧∀ (w:World) (b:Nat) (l:Bytes),NamesAt w T b nTab→l.length≤200→Calls P F #[.slice (some ⟨b,0,none⟩) 14 14,.string ⟨l.toArray⟩] w fun e w'=>e=.returned (.tuple #[.int .i64 (resN (normal l)),.bool (resB (normal l))])∧Below w.heap.size w w'
def parsedC (P:Program) (T:Nat) (F:FuncId):Prop:=FnOK P F∧∀ (w:World) (b:Nat) (l:Bytes),NamesAt w T b nTab→l.length≤200→Calls P F #[.slice (some ⟨b,0,none⟩) 14 14,.string ⟨l.toArray⟩,.int .i64 (resN (normal l)),.bool (resB (normal l))] w fun e w'=>e=.returned (.bool true)∧Below w.heap.size w w'
section
variable {P:Program} {f:FuncId} {fn:Func}
theorem blds_ok {T0:Nat} {all:List SOp} {r:List SOp} {w:World} {K:Act→World→Prop} (hB:∀ (n:Int) (s:ByteArray),P.built T0 [(0,.int .i64 n),(1,.string s)]=some #[.int .i64 n,.string s]):∀ (tab:List (Int × Bytes)) (s:Nat) (a:Act),s+tab.length≤a.tmps.size →
    (∀ a':Act,a'.tmps.size=a.tmps.size→a'.defers=a.defers→(∀ t,t < s→getT a' t=getT a t)→(List.range' s tab.length).map (getT a')=tab.map (fun x=>Value.agg (nRow x).toArray)→opsw P all r K a' w)→opsw P all (bldOps T0 s tab r) K a w
  | [],s,a,_,h=>h a rfl rfl (fun _ _=>rfl) rfl
  | (n,k) :: t,s,a,hl,h=>by
    rw [List.length_cons] at hl
    unfold bldOps
    refine oNo rfl (opw_build (cs:=#[.int .i64 n,.string ⟨k.toArray⟩]) (by simpa [eCo] using hB n ⟨k.toArray⟩) ?_)
    refine blds_ok hB t (s+1) _ (by rw [sPu];omega) ?_
    intro a' hz hd hk hm
    refine h a' (by rw [hz,sPu]) (by rw [hd];simp [dPu]) (fun u hu=>by rw [hk u (by omega),gTn (by omega)]) ?_
    rw [List.length_cons,List.range'_succ,List.map_cons,List.map_cons,hm,hk s (by omega),gTp (by omega)]
    rfl
theorem opw_buildRows {T Ts sz:Nat} (hS:P.underlying Ts=some (.slice T)) (hi:∃ i z,P.info? T=some i∧i.zero=some z∧i.size=sz) (hs0:0 < sz) (hs1:sz≤1000) {a:Act} {w:World} {K:Act→World→Prop} {d:Option Tmp} {g:Option (Nat × Bool)} {n:Nat} {slots:List Nat} {rows:List (List Value)} (hn:n=rows.length) (hn0:0 < n) (hn1:n≤1000) (hm:slots.map (getT a)=rows.map (fun r=>Value.agg r.toArray)) (hr:∀ r ∈ rows,r.length=sz)
    (h:K (a.put d (.slice (some ⟨w.heap.size,0,none⟩) n n)) (w.alloc (.cells rows.flatten.toArray T))):opw P ⟨d,.buildSlice Ts n (((slots.zipIdx 0).map fun x=>(x.2,Operand.tmp x.1)).toArray),g⟩ a w K:=by
  obtain ⟨i,z,hi,hz,hs8⟩:=hi
  have hparts:((((slots.zipIdx 0).map fun x=>(x.2,Operand.tmp x.1)).toArray).map fun x=>(x.1,a.eval x.2)).toList=(((rows.map fun r=>Value.agg r.toArray).zipIdx 0).map fun x=>(x.2,x.1)):=by
    rw [← hm,List.zipIdx_map,List.map_map]
    simp [eTm,Function.comp_def]
  have hfill:=Go.Great.fill_whole (s:=sz) hs0 (rows.map fun r=>Value.agg r.toArray) ((Array.range (n * i.size)).map (z.cells[· % z.cells.size]!)) (by
    intro v hv
    obtain ⟨r,hr',rfl⟩:=List.mem_map.1 hv
    simpa [Value.cells] using hr r hr') (by rw [hs8];simp [hn])
  have hfl:(rows.map fun r=>Value.agg r.toArray).flatMap (fun v=>v.cells.toList)=rows.flatten:=by
    rw [List.flatMap_map]
    simp [Value.cells,List.flatMap_def]
  rw [hfl] at hfill
  refine oVa (v:=.slice (some ⟨w.heap.size,0,none⟩) n n) (w':=w.alloc (.cells rows.flatten.toArray T)) (by simp) (fun p hp=>?_) h
  have hle:n * sz≤1000 * 1000:=Nat.mul_le_mul hn1 hs1
  have hpos:0 < n * sz:=Nat.mul_pos hn0 hs0
  have hrun:=run_buildSlice (P:=P) w Ts T n ((((slots.zipIdx 0).map fun x=>(x.2,Operand.tmp x.1)).toArray).map fun x=>(x.1,a.eval x.2)) rows.flatten.toArray i z hS hi hz (by rw [hs8];omega) (by rw [hs8];omega) (by rw [hparts,hs8] at *;exact hfill)
  simp only [execOp,hp]
  simp only [Sem.run_bind]
  rw [hrun]
  rfl
theorem names_ok {T0 T1:Nat} (hB:∀ (n:Int) (s:ByteArray),P.built T0 [(0,.int .i64 n),(1,.string s)]=some #[.int .i64 n,.string s]) (hS:P.underlying T1=some (.slice T0)) (hi:∃ i z,P.info? T0=some i∧i.zero=some z∧i.size=2) (hf:P.funcs[f]?=some fn) (hb:fn.body.map strip=some (sc_names T0 T1)) (hn:fn.ntmps=16) (hr:fn.results=#[.tmp 0]) (w:World) :
    Calls P f #[] w fun e w'=>e=.returned (.slice (some ⟨w.heap.size,0,none⟩) 14 14)∧w'=w.alloc (.cells (nTab.map nRow).flatten.toArray T0):=by
  refine fCa hf hb hn (by simp) fun a0 hs hd ha=>?_
  refine SC.wp_seq (SC.wp_reg ?_)
  repeat (apply ops_1;(focus (simp (disch:=(try simp only [sPu]);omega) ;try rfl)))
  refine oNi (SC.wp_seq (SC.wp_reg ?_))
  refine blds_ok hB nTab 1 _ (by simp [sPu,hs,nTab]) fun a' hz hd' hk hm=>?_
  have hz':a'.tmps.size=16:=by rw [hz];simp [sPu,hs]
  refine oNo rfl (opw_buildRows (rows:=nTab.map nRow) (slots:=List.range' 1 14) hS hi (by decide) (by decide) (by decide) (by decide) (by decide) (by rw [List.map_map];exact hm) (by
    intro r hr
    obtain ⟨y,_,rfl⟩:=List.mem_map.1 hr
    rfl) ?_)
  repeat (apply ops_1;(focus (simp (disch:=(try simp only [sPu]);omega) ;try rfl)))
  refine oNi (SC.wp_ret ?_)
  try simp only [Exit.then]
  exact ret_tmp hr (by simp [dPu,hd',hd]) ⟨by simp (disch:=(try simp only [sPu]);omega),rfl⟩
theorem opOf_skip {tab:List (Bytes × Int)} {j:Nat} {x:Bytes × Int} {m:Bytes} (hx:tab[j]?=some x) (hm:m ≠ x.1):opOf (tab.drop j) m=opOf (tab.drop (j+1)) m:=by
  obtain ⟨hj,hx⟩:=List.getElem?_eq_some_iff.1 hx
  rw [List.drop_eq_getElem_cons hj,hx]
  obtain ⟨k,n⟩:=x
  rw [opOf,if_neg hm]
theorem opOf_hit {tab:List (Bytes × Int)} {j:Nat} {x:Bytes × Int} {m:Bytes} (hx:tab[j]?=some x) (hm:m=x.1):opOf (tab.drop j) m=some x.2:=by
  obtain ⟨hj,hx⟩:=List.getElem?_eq_some_iff.1 hx
  rw [List.drop_eq_getElem_cons hj,hx]
  obtain ⟨k,n⟩:=x
  rw [opOf,if_pos hm]
theorem Parsed_ok {T0 T1 T2 T3 F0:Nat} (hN:sliceN P T0=some 2) (h2o:oneB P T2=false) (h2a:aggN P T2=some 2) (h2b:aggB P T2 2=true) (hi:∃ i z,P.info? T2=some i∧i.zero=some z∧z.cells.size=2) (hf0:fieldOff P T2 0=some 0) (hf1:fieldOff P T2 1=some 1) (h3:oneB P T3=true) (h1:oneB P T1=true) (cN:NormC P F0)
    (hf:P.funcs[f]?=some fn) (hb:fn.body.map strip=some (sc_Parsed T0 T1 T2 T3 F0)) (hn:fn.ntmps=23) (hr:fn.results=#[.tmp 4,.tmp 5]) (w:World) (b:Nat) (l:Bytes) (hnm:NamesAt w T2 b nTab) (hl:l.length≤200) :
    Calls P f #[.slice (some ⟨b,0,none⟩) 14 14,.string ⟨l.toArray⟩] w fun e w'=>e=.returned (.tuple #[.int .i64 (resN (normal l)),.bool (resB (normal l))])∧Below w.heap.size w w':=by
  obtain ⟨i0,z0,hi0,hz0,hzs⟩:=hi
  have hbl:b < w.heap.size:=(Array.getElem?_eq_some_iff.1 hnm).1
  refine fCa hf hb hn (by simp) fun a0 hs hd ha=>?_
  have u0:=ha 0 _ rfl
  have u1:=ha 1 _ rfl
  simp only [List.getElem_toArray,List.getElem_cons_zero,List.getElem_cons_succ] at u0 u1
  refine SC.wp_seq (SC.wp_reg ?_)
  repeat (apply ops_1;(focus (simp (disch:=(try simp only [sPu]);omega) ;try rfl)))
  refine oNi (SC.wp_seq (SC.wp_seq (SC.wp_reg ?_)))
  repeat (apply ops_1;(focus (simp (disch:=(try simp only [sPu]);omega) [u0,hN];try rfl)))
  refine oNi ?_
  simp only [Exit.then]
  refine SC.wp_block (SC.wp_loop (fun a4 w5=>∃ j:Nat,a4.tmps.size=23∧a4.defers=[]∧getT a4 1=.string ⟨l.toArray⟩∧getT a4 8=.slice (some ⟨b,0,none⟩) 14 14∧getT a4 9=.int .i64 14∧getT a4 10=.int .i64 (j:Int)∧j≤14∧opOf ((keyed nTab).drop j) (normal l)=opOf kTab (normal l)∧Below w.heap.size w w5)
    (fun a4 _=>match getT a4 10 with | .int _ m=>(14 - m).toNat | _=>0) ⟨0,by simp [sPu,hs],by simp [dPu,hd],by simp (disch:=(try simp only [sPu]);omega) [u1],by simp (disch:=(try simp only [sPu]);omega),by simp (disch:=(try simp only [sPu]);omega),by simp (disch:=(try simp only [sPu]);omega),by omega,by rw [List.drop_zero,keyed_nTab],Below.refl _ _⟩ ?_)
  rintro a4 w5 ⟨j,q,qd,q1,q8,q9,q10,hj,ho,hb5⟩
  have hs5:=hb5.size
  refine SC.wp_seq (SC.wp_reg ?_)
  repeat (apply ops_1;(focus (simp (disch:=(try simp only [sPu]);omega) [q9,q10];try rfl)))
  refine oNi ?_
  simp only [Exit.then]
  refine SC.wp_seq (SC.wp_cond (t:=decide ((j:Int) < 14)) (by simp (disch:=(try simp only [sPu]);omega)) ?_)
  by_cases hj14:j < 14
  · have e1:decide ((j:Int) < 14)=true:=by simp;omega
    rw [e1,if_pos rfl]
    refine SC.wp_skip ?_
    simp only [Exit.then]
    have hjl:j < nTab.length:=hj14
    obtain ⟨x,hx⟩:∃ x,nTab[j]?=some x:=⟨_,List.getElem?_eq_getElem hjl⟩
    have hkx:(keyed nTab)[j]?=some (normal x.2,x.1):=by unfold keyed;rw [List.getElem?_map,hx];rfl
    have hxlen:x.2.length≤200:=by
      have h1:∀ y ∈ nTab,y.2.length≤200:=by decide
      exact h1 x (List.mem_of_getElem? hx)
    have hnm5:NamesAt w5 T2 b nTab:=by
      unfold NamesAt
      rw [hb5.block b hbl]
      exact hnm
    obtain ⟨c0,c1⟩:=hnm5.cells hx
    have i14:(j:Int) < 14:=by omega
    refine SC.wp_seq (SC.wp_block (SC.wp_seq (SC.wp_reg ?_)))
    iterate 2 (apply ops_1;(focus (simp (disch:=(try simp only [sPu]);omega) [q8,q10,hN,i14,hj14,h2o,h2a,rangeV,c0,c1];try rfl)))
    refine oNo rfl (opw_alloc hi0 hz0 ?_)
    have hb6:Below w.heap.size w (w5.alloc (.cells z0.cells T2)):=hb5.alloc hs5 _
    have hrow6:=heap_alloc_new w5 (.cells z0.cells T2)
    have hsz6:(w5.alloc (.cells z0.cells T2)).heap.size=w5.heap.size+1:=by simp
    generalize w5.alloc (.cells z0.cells T2)=w6 at *
    refine oNo rfl (opw_store_agg (b:=w5.heap.size) (cs:=[.int .i64 x.1,.string ⟨x.2.toArray⟩]) (cur:=z0.cells) h2b (by simp (disch:=(try simp only [sPu]);omega)) (by simp (disch:=(try simp only [sPu]);omega)) hrow6 hzs (by simp [Value.oneCell']) (oNi ?_))
    simp only [Exit.then]
    have hrow7:=setRow_heap w6 w5.heap.size _ #[.int .i64 x.1,.string ⟨x.2.toArray⟩] _ _ hrow6
    have hb7:Below w.heap.size w (w6.setRow w5.heap.size #[.int .i64 x.1,.string ⟨x.2.toArray⟩]):=below_setRow hb6 hs5 _
    have hsz7:(w6.setRow w5.heap.size #[.int .i64 x.1,.string ⟨x.2.toArray⟩]).heap.size=w5.heap.size+1:=by rw [← hsz6];simp [World.setRow]
    have d0:(w6.setRow w5.heap.size #[.int .i64 x.1,.string ⟨x.2.toArray⟩]).cell? ⟨w5.heap.size,0,none⟩=some (.int .i64 x.1):=by rw [cell_of_row _ _ _ _ _ _ hrow7];rfl
    have d1:(w6.setRow w5.heap.size #[.int .i64 x.1,.string ⟨x.2.toArray⟩]).cell? ⟨w5.heap.size,1,none⟩=some (.string ⟨x.2.toArray⟩):=by rw [cell_of_row _ _ _ _ _ _ hrow7];rfl
    simp only [List.toArray] at *
    generalize w6.setRow w5.heap.size #[.int .i64 x.1,.string ⟨x.2.toArray⟩]=w7 at *
    refine SC.wp_seq (SC.wp_reg ?_)
    iterate 2 (apply ops_1;(focus (simp (disch:=(try simp only [sPu]);omega) [hf0,hf1,h3,d1];try rfl)))
    refine ops_call cN.1 (cN.2 w7 x.2 (by omega)) (by simp (disch:=(try simp only [sPu]);omega)) ?_
    rintro e w8 ⟨rfl,hb8⟩
    refine ⟨_,rfl,?_⟩
    iterate 1 (apply ops_1;(focus (simp (disch:=(try simp only [sPu]);omega) [q1];try rfl)))
    refine ops_call cN.1 (cN.2 w8 l (by omega)) (by simp (disch:=(try simp only [sPu]);omega) [q1]) ?_
    rintro e w9 ⟨rfl,hb9⟩
    refine ⟨_,rfl,?_⟩
    have hb8':Below w.heap.size w w8:=hb7.trans (hb8.mono (by omega))
    have hs8:=hb8.size
    have hb9':Below w.heap.size w w9:=hb8'.trans (hb9.mono (by omega))
    have d9:w9.cell? ⟨w5.heap.size,0,none⟩=some (.int .i64 x.1):=by rw [hb9.cell (p:=⟨w5.heap.size,0,none⟩) (by show w5.heap.size < _;omega),hb8.cell (p:=⟨w5.heap.size,0,none⟩) (by show w5.heap.size < _;omega)];exact d0
    refine oNo rfl (opw_streq (l:=normal x.2) (m:=normal l) (by simp (disch:=(try simp only [sPu]);omega)) (by simp (disch:=(try simp only [sPu]);omega)) (oNi ?_))
    simp only [Exit.then]
    refine SC.wp_cond (t:=decide (normal x.2=normal l)) (by simp (disch:=(try simp only [sPu]);omega)) ?_
    by_cases hc:normal x.2=normal l
    · have e2:decide (normal x.2=normal l)=true:=by simp [hc]
      rw [e2,if_pos rfl]
      have hop:opOf kTab (normal l)=some x.1:=by rw [← ho];exact opOf_hit hkx hc.symm
      have r1:resN (normal l)=x.1:=by unfold resN;rw [hop];rfl
      have r2:resB (normal l)=true:=by unfold resB;rw [hop];rfl
      refine SC.wp_seq (SC.wp_reg ?_)
      repeat (apply ops_1;(focus (simp (disch:=(try simp only [sPu]);omega) [hf0,hf1,h1,d9];try rfl)))
      refine oNi (SC.wp_ret ?_)
      simp only [Exit.then,Exit.inBlock]
      exact bodyPost_ret_by (res2 hr (v1:=.int .i64 (resN (normal l))) (v2:=.bool (resB (normal l))) (by rw [r1];simp (disch:=(try simp only [sPu]);omega)) (by rw [r2];simp (disch:=(try simp only [sPu]);omega))) (by simp [dPu,qd]) ⟨rfl,hb9'⟩
    · have e2:decide (normal x.2=normal l)=false:=by simp [hc]
      rw [e2,if_neg (by simp)]
      refine SC.wp_skip ?_
      simp only [Exit.inBlock,Exit.then]
      have ew:IntKind.i64.wrap ((j:Int)+1)=((j:Int)+1):=by rw [wrap_i64'];split <;> omega
      refine SC.wp_reg ?_
      repeat (apply ops_1;(focus (simp (disch:=(try simp only [sPu]);omega) [q10,ew];try rfl)))
      refine oNi ?_
      refine ⟨⟨j+1,by simp [sPu,q],by simp [dPu,qd],by simp (disch:=(try simp only [sPu]);omega) [q1],by simp (disch:=(try simp only [sPu]);omega) [q8],by simp (disch:=(try simp only [sPu]);omega) [q9],by simp (disch:=(try simp only [sPu]);omega),by omega,?_,hb9'⟩,?_⟩
      · rw [← opOf_skip hkx (fun h=>hc h.symm)]
        exact ho
      · rw [q10]
        simp (disch:=(try simp only [sPu]);omega)
        omega
  · have e1:decide ((j:Int) < 14)=false:=by simp;omega
    rw [e1,if_neg (by simp)]
    refine SC.wp_exit ?_
    simp only [Exit.then,Exit.inBlock,if_true]
    have hj':j=14:=by omega
    subst hj'
    have hop:opOf kTab (normal l)=none:=by rw [← ho];rfl
    have r1:resN (normal l)=0:=by unfold resN;rw [hop];rfl
    have r2:resB (normal l)=false:=by unfold resB;rw [hop];rfl
    refine SC.wp_seq (SC.wp_reg ?_)
    repeat (apply ops_1;(focus (simp (disch:=(try simp only [sPu]);omega) ;try rfl)))
    refine oNi (SC.wp_ret ?_)
    try simp only [Exit.then]
    exact bodyPost_ret_by (res2 hr (v1:=.int .i64 (resN (normal l))) (v2:=.bool (resB (normal l))) (by rw [r1];simp (disch:=(try simp only [sPu]);omega)) (by rw [r2];simp (disch:=(try simp only [sPu]);omega))) (by simp [dPu,qd]) ⟨rfl,hb5⟩
end
end Go.Proofs.YtecdefhecaeclaaDoor.K
namespace Go.Proofs.YtecdefhecaeclaaDoor.K
open Go Go.RowKit Go.Proofs.YtecdefhecaeclaaDoor.T
attribute [local simp] eTm eCo pNo gTp gTn qv qcall vop iop
set_option linter.unusedSimpArgs false
set_option linter.unusedVariables false
set_option maxHeartbeats 2000000
section
variable {P:Program} {a:Act} {w:World} {K:Act→World→Prop} {d:Option Tmp} {g:Option (Nat × Bool)}
def boolB (P:Program) (T:Nat):Bool:=match P.underlying T with | some .bool=>true | _=>false
theorem opw_eqb {T T':TypeId} {x y:Operand} {m n:Bool} (hT:boolB P T=true) (hx:a.eval x=.bool m) (hy:a.eval y=.bool n) (h:K (a.put d (.bool (m == n))) w):opw P ⟨d,.binOp .eql T x y T',g⟩ a w K:=by
  unfold boolB at hT
  split at hT <;> try (simp at hT;done)
  rename_i hu
  refine oVa (by simp) (fun p hp=>?_) h
  have e:(eqGuard .eql T x y (.bool m) (.bool n)).run P w=.ok () w:=by unfold eqGuard;split <;> rfl
  have hr:(Op.equal T (.bool m) (.bool n)).run P w=.ok (m == n) w:=by
    have key:∀ dd,(Op.equalIn (dd+1) T (.bool m) (.bool n)).run P w=.ok (m == n) w:=by
      intro dd
      simp [Op.equalIn,run_underlying hu]
    exact key 9999
  simp [execOp,hp,hx,hy,e,binOp,hr]
theorem bytesW_below (w:World) (e:TypeId) (s:ByteArray):Below w.heap.size w (Lib.bytesWorld w e s) :=
  ⟨rfl,rfl,rfl,by rw [Lib.bytesWorld_size];omega,fun k hk=>Lib.bytesWorld_at_old w e s k hk⟩
theorem opw_toBytes {T0 T3 E:Nat} {x:Operand} {l:Bytes} (hst:strB P T0=true) (h3:P.underlying T3=some (.slice E)) (hE:P.underlying E=some (.int .u8)) (hx:a.eval x=.string ⟨l.toArray⟩)
    (h:∀ (cap:Nat) (w':World),SrcAt w' (some w.heap.size) (some ⟨w.heap.size,0,none⟩) l→Below w.heap.size w w'→w.heap.size < w'.heap.size→K (a.put d (.slice (some ⟨w.heap.size,0,none⟩) l.length cap)) w'):opw P ⟨d,.convert T0 T3 x,g⟩ a w K:=by
  have hr:=Lib.run_convert_string_bytes (P:=P) w T0 T3 E ⟨l.toArray⟩ (str_of hst) h3 hE
  have hsz:(⟨l.toArray⟩:ByteArray).size=l.length:=by show l.toArray.size=_;simp
  rw [hsz] at hr
  refine oVa (v:=.slice (some ⟨w.heap.size,0,none⟩) l.length (grownCap w l.length 0 E)) (w':=Lib.bytesWorld w E ⟨l.toArray⟩) (by simp) (fun p hp=>by simp [execOp,hp,hx,hr]) (h _ _ ?_ (bytesW_below w E _) (by rw [Lib.bytesWorld_size];omega))
  refine ⟨0,rfl,fun j u hu=>?_⟩
  have hj:=(List.getElem?_eq_some_iff.1 hu).1
  rw [Nat.zero_add,Lib.bytesWorld_cell w E ⟨l.toArray⟩ j (by rw [hsz];exact hj)]
  simp only [List.getD,hu,Option.getD_some]
  rfl
end
section
variable {P:Program} {f:FuncId} {fn:Func}
theorem resN_none {m:Bytes} (h:resB m=false):resN m=0:=by
  unfold resB at h
  unfold resN
  cases h2:opOf kTab m with
  | none=>rfl
  | some n=>rw [h2] at h;cases h
theorem parsed_ok {T0 T1 T2 F0:Nat} (hbo:boolB P T0=true) (cP:ParsedC P T2 F0) (hf:P.funcs[f]?=some fn) (hb:fn.body.map strip=some (sc_parsed T0 T1 F0)) (hn:fn.ntmps=29) (hr:fn.results=#[.tmp 8]) (w:World) (b:Nat) (l:Bytes) (hnm:NamesAt w T2 b nTab) (hl:l.length≤200) :
    Calls P f #[.slice (some ⟨b,0,none⟩) 14 14,.string ⟨l.toArray⟩,.int .i64 (resN (normal l)),.bool (resB (normal l))] w fun e w'=>e=.returned (.bool true)∧Below w.heap.size w w':=by
  refine fCa hf hb hn (by simp) fun a0 hs hd ha=>?_
  have u0:=ha 0 _ rfl
  have u1:=ha 1 _ rfl
  have u2:=ha 2 _ rfl
  have u3:=ha 3 _ rfl
  simp only [List.getElem_toArray,List.getElem_cons_zero,List.getElem_cons_succ] at u0 u1 u2 u3
  refine SC.wp_seq (SC.wp_reg ?_)
  repeat (first | (apply ops_1;(focus (simp (disch:=(try simp only [sPu]);omega) ;try rfl))) | (apply ops_y;(focus rfl);(focus ((try simp only [sPu]);omega));(focus (simp (disch:=(try simp only [sPu]);omega);done));(focus (simp (disch:=(try simp only [sPu]);omega) ;try rfl))) | (apply ops_n;(focus rfl);(focus ((try simp only [sPu]);omega));(focus (first | (left;simp (disch:=(try simp only [sPu]);omega);done) | (right;simp (disch:=(try simp only [sPu]);omega);done)))))
  refine oNi (SC.wp_seq (SC.wp_reg ?_))
  iterate 2 (first | (apply ops_1;(focus (simp (disch:=(try simp only [sPu]);omega) [u0,u1];try rfl))) | (apply ops_y;(focus rfl);(focus ((try simp only [sPu]);omega));(focus (simp (disch:=(try simp only [sPu]);omega) [u0,u1];done));(focus (simp (disch:=(try simp only [sPu]);omega) [u0,u1];try rfl))) | (apply ops_n;(focus rfl);(focus ((try simp only [sPu]);omega));(focus (first | (left;simp (disch:=(try simp only [sPu]);omega) [u0,u1];done) | (right;simp (disch:=(try simp only [sPu]);omega);done)))))
  refine ops_call cP.1 (cP.2 w b l hnm hl) (by simp (disch:=(try simp only [sPu]);omega) [u0,u1]) ?_
  rintro e w1 ⟨rfl,hb1⟩
  refine ⟨_,rfl,?_⟩
  iterate 1 (first | (apply ops_1;(focus (simp (disch:=(try simp only [sPu]);omega) ;try rfl))) | (apply ops_y;(focus rfl);(focus ((try simp only [sPu]);omega));(focus (simp (disch:=(try simp only [sPu]);omega);done));(focus (simp (disch:=(try simp only [sPu]);omega) ;try rfl))) | (apply ops_n;(focus rfl);(focus ((try simp only [sPu]);omega));(focus (first | (left;simp (disch:=(try simp only [sPu]);omega);done) | (right;simp (disch:=(try simp only [sPu]);omega);done)))))
  refine oNo rfl (opw_extract (v:=.int .i64 (resN (normal l))) (vs:=#[.int .i64 (resN (normal l)),.bool (resB (normal l))]) (by simp (disch:=(try simp only [sPu]);omega)) rfl ?_)
  refine oNo rfl (opw_extract (v:=.bool (resB (normal l))) (vs:=#[.int .i64 (resN (normal l)),.bool (resB (normal l))]) (by simp (disch:=(try simp only [sPu]);omega)) rfl ?_)
  repeat (first | (apply ops_1;(focus (simp (disch:=(try simp only [sPu]);omega) ;try rfl))) | (apply ops_y;(focus rfl);(focus ((try simp only [sPu]);omega));(focus (simp (disch:=(try simp only [sPu]);omega);done));(focus (simp (disch:=(try simp only [sPu]);omega) ;try rfl))) | (apply ops_n;(focus rfl);(focus ((try simp only [sPu]);omega));(focus (first | (left;simp (disch:=(try simp only [sPu]);omega);done) | (right;simp (disch:=(try simp only [sPu]);omega);done)))))
  refine oNi (SC.wp_seq (SC.wp_reg ?_))
  iterate 2 (first | (apply ops_1;(focus (simp (disch:=(try simp only [sPu]);omega) [u3];try rfl))) | (apply ops_y;(focus rfl);(focus ((try simp only [sPu]);omega));(focus (simp (disch:=(try simp only [sPu]);omega) [u3];done));(focus (simp (disch:=(try simp only [sPu]);omega) [u3];try rfl))) | (apply ops_n;(focus rfl);(focus ((try simp only [sPu]);omega));(focus (first | (left;simp (disch:=(try simp only [sPu]);omega) [u3];done) | (right;simp (disch:=(try simp only [sPu]);omega);done)))))
  refine oNo rfl (opw_eqb (m:=resB (normal l)) (n:=resB (normal l)) hbo (by simp (disch:=(try simp only [sPu]);omega)) (by simp (disch:=(try simp only [sPu]);omega)) ?_)
  rw [show ((resB (normal l) == resB (normal l)):Bool)=true by simp]
  generalize resN (normal l)=n at *
  generalize resB (normal l)=ok at *
  cases ok
  · repeat (first | (apply ops_1;(focus (simp (disch:=(try simp only [sPu]);omega) [u2,u3];try rfl))) | (apply ops_y;(focus rfl);(focus ((try simp only [sPu]);omega));(focus (simp (disch:=(try simp only [sPu]);omega) [u2,u3];done));(focus (simp (disch:=(try simp only [sPu]);omega) [u2,u3];try rfl))) | (apply ops_n;(focus rfl);(focus ((try simp only [sPu]);omega));(focus (first | (left;simp (disch:=(try simp only [sPu]);omega) [u2,u3];done) | (right;simp (disch:=(try simp only [sPu]);omega);done)))))
    refine oNi (SC.wp_ret ?_)
    try simp only [Exit.then]
    exact ret_tmp hr (by simp [dPu,hd]) ⟨by simp (disch:=(try simp only [sPu]);omega),hb1⟩
  · have en:((n == n):Bool)=true:=by simp
    repeat (first | (apply ops_1;(focus (simp (disch:=(try simp only [sPu]);omega) [u2,u3,en];try rfl))) | (apply ops_y;(focus rfl);(focus ((try simp only [sPu]);omega));(focus (simp (disch:=(try simp only [sPu]);omega) [u2,u3,en];done));(focus (simp (disch:=(try simp only [sPu]);omega) [u2,u3,en];try rfl))) | (apply ops_n;(focus rfl);(focus ((try simp only [sPu]);omega));(focus (first | (left;simp (disch:=(try simp only [sPu]);omega) [u2,u3,en];done) | (right;simp (disch:=(try simp only [sPu]);omega);done)))))
    refine oNi (SC.wp_ret ?_)
    try simp only [Exit.then]
    exact ret_tmp hr (by simp [dPu,hd]) ⟨by simp (disch:=(try simp only [sPu]);omega),hb1⟩
def PlainC (P:Program) (F:FuncId):Prop:=FnOK P F∧∀ (w:World) (l:Bytes),Calls P F #[.string ⟨l.toArray⟩] w fun e w'=>(∃ b,e=.returned (.bool b)∧(b=true→Plain l))∧Below w.heap.size w w'
def OfTC2 (P:Program) (G:World→Prop) (F:FuncId):Prop:=FnOK P F∧∀ (w:World) (l:Bytes) (S:Option Nat) (base:Option Addr) (cap:Nat),G w→Plain l→SrcAt w S base l→(∀ sb,S=some sb→sb < w.heap.size) →
  Calls P F #[.slice base l.length cap] w fun e w'=>e=.returned (.tuple #[.int .i64 (resN (normal l)),.bool (resB (normal l))])∧Below w.heap.size w w'
theorem lawParse_ok {G:World→Prop} {T0 T1 T2 T3 T40 E F0 F1 F2 F3 F4:Nat} (hG:Holds G) (hst:strB P T0=true) (h3:P.underlying T3=some (.slice E)) (hE:P.underlying E=some (.int .u8)) (c0:PlainC P F0) (c1:IParC P G F1) (c2:OfTC2 P G F2) (c3:NamesC P T40 F3) (c4:parsedC P T40 F4)
    (hf:P.funcs[f]?=some fn) (hb:fn.body.map strip=some (sc_LawParse T0 T1 T2 T3 F0 F1 F2 F3 F4)) (hn:fn.ntmps=36) (hr:fn.results=#[.tmp 2]) (w:World) (l:Bytes) (hg:G w) :
    Calls P f #[.string ⟨l.toArray⟩] w fun e w'=>e=.returned (.bool true)∧Below w.heap.size w w':=by
  refine fCa hf hb hn (by simp) fun a0 hs hd ha=>?_
  have u0:=ha 0 _ rfl
  simp only [List.getElem_toArray,List.getElem_cons_zero,List.getElem_cons_succ] at u0
  refine SC.wp_seq (SC.wp_reg ?_)
  repeat (first | (apply ops_1;(focus (simp (disch:=(try simp only [sPu]);omega) ;try rfl))) | (apply ops_y;(focus rfl);(focus ((try simp only [sPu]);omega));(focus (simp (disch:=(try simp only [sPu]);omega);done));(focus (simp (disch:=(try simp only [sPu]);omega) ;try rfl))) | (apply ops_n;(focus rfl);(focus ((try simp only [sPu]);omega));(focus (first | (left;simp (disch:=(try simp only [sPu]);omega);done) | (right;simp (disch:=(try simp only [sPu]);omega);done)))))
  refine oNi (SC.wp_seq (SC.wp_seq (SC.wp_reg ?_)))
  repeat (first | (apply ops_1;(focus (simp (disch:=(try simp only [sPu]);omega) [u0,hst];try rfl))) | (apply ops_y;(focus rfl);(focus ((try simp only [sPu]);omega));(focus (simp (disch:=(try simp only [sPu]);omega) [u0,hst];done));(focus (simp (disch:=(try simp only [sPu]);omega) [u0,hst];try rfl))) | (apply ops_n;(focus rfl);(focus ((try simp only [sPu]);omega));(focus (first | (left;simp (disch:=(try simp only [sPu]);omega) [u0,hst];done) | (right;simp (disch:=(try simp only [sPu]);omega);done)))))
  refine oNi ?_
  simp only [Exit.then]
  refine SC.wp_cond (t:=decide ((2147483647:Int) < (l.length:Int))) (by simp (disch:=(try simp only [sPu]);omega)) ?_
  cases hbig:decide ((2147483647:Int) < (l.length:Int))
  · rw [if_neg (by simp)]
    refine SC.wp_skip ?_
    simp only [Exit.then]
    refine SC.wp_seq (SC.wp_seq (SC.wp_reg ?_))
    iterate 1 (first | (apply ops_1;(focus (simp (disch:=(try simp only [sPu]);omega) [u0];try rfl))) | (apply ops_y;(focus rfl);(focus ((try simp only [sPu]);omega));(focus (simp (disch:=(try simp only [sPu]);omega) [u0];done));(focus (simp (disch:=(try simp only [sPu]);omega) [u0];try rfl))) | (apply ops_n;(focus rfl);(focus ((try simp only [sPu]);omega));(focus (first | (left;simp (disch:=(try simp only [sPu]);omega) [u0];done) | (right;simp (disch:=(try simp only [sPu]);omega);done)))))
    refine ops_call c0.1 (c0.2 w l) (by simp (disch:=(try simp only [sPu]);omega) [u0]) ?_
    rintro e w1 ⟨⟨b,rfl,hpl⟩,hb1⟩
    refine ⟨_,rfl,?_⟩
    repeat (first | (apply ops_1;(focus (simp (disch:=(try simp only [sPu]);omega) ;try rfl))) | (apply ops_y;(focus rfl);(focus ((try simp only [sPu]);omega));(focus (simp (disch:=(try simp only [sPu]);omega);done));(focus (simp (disch:=(try simp only [sPu]);omega) ;try rfl))) | (apply ops_n;(focus rfl);(focus ((try simp only [sPu]);omega));(focus (first | (left;simp (disch:=(try simp only [sPu]);omega);done) | (right;simp (disch:=(try simp only [sPu]);omega);done)))))
    refine oNi ?_
    simp only [Exit.then]
    refine SC.wp_cond (t:=!b) (by simp (disch:=(try simp only [sPu]);omega)) ?_
    cases b
    · rw [if_pos (by simp)]
      refine SC.wp_seq (SC.wp_reg ?_)
      repeat (first | (apply ops_1;(focus (simp (disch:=(try simp only [sPu]);omega) ;try rfl))) | (apply ops_y;(focus rfl);(focus ((try simp only [sPu]);omega));(focus (simp (disch:=(try simp only [sPu]);omega);done));(focus (simp (disch:=(try simp only [sPu]);omega) ;try rfl))) | (apply ops_n;(focus rfl);(focus ((try simp only [sPu]);omega));(focus (first | (left;simp (disch:=(try simp only [sPu]);omega);done) | (right;simp (disch:=(try simp only [sPu]);omega);done)))))
      refine oNi (SC.wp_ret ?_)
      try simp only [Exit.then]
      exact ret_tmp hr (by simp [dPu,hd]) ⟨by simp (disch:=(try simp only [sPu]);omega),hb1⟩
    · rw [if_neg (by simp)]
      refine SC.wp_skip ?_
      simp only [Exit.then]
      have hp:=hpl rfl
      have hp1:=hp.1
      refine SC.wp_seq (SC.wp_reg ?_)
      iterate 1 (first | (apply ops_1;(focus (simp (disch:=(try simp only [sPu]);omega) [u0];try rfl))) | (apply ops_y;(focus rfl);(focus ((try simp only [sPu]);omega));(focus (simp (disch:=(try simp only [sPu]);omega) [u0];done));(focus (simp (disch:=(try simp only [sPu]);omega) [u0];try rfl))) | (apply ops_n;(focus rfl);(focus ((try simp only [sPu]);omega));(focus (first | (left;simp (disch:=(try simp only [sPu]);omega) [u0];done) | (right;simp (disch:=(try simp only [sPu]);omega);done)))))
      refine ops_call c1.1 (c1.2 w1 l (hG _ _ hg hb1) hp) (by simp (disch:=(try simp only [sPu]);omega) [u0]) ?_
      rintro e w2 ⟨rfl,hb2⟩
      refine ⟨_,rfl,?_⟩
      have hb2':=hb1.trans (hb2.mono hb1.size)
      generalize hN:resN (normal l)=n at *
      generalize hB:resB (normal l)=ok at *
      iterate 1 (first | (apply ops_1;(focus (simp (disch:=(try simp only [sPu]);omega) ;try rfl))) | (apply ops_y;(focus rfl);(focus ((try simp only [sPu]);omega));(focus (simp (disch:=(try simp only [sPu]);omega);done));(focus (simp (disch:=(try simp only [sPu]);omega) ;try rfl))) | (apply ops_n;(focus rfl);(focus ((try simp only [sPu]);omega));(focus (first | (left;simp (disch:=(try simp only [sPu]);omega);done) | (right;simp (disch:=(try simp only [sPu]);omega);done)))))
      refine oNo rfl (opw_extract (v:=.int .i64 n) (vs:=#[.int .i64 n,.bool ok]) (by simp (disch:=(try simp only [sPu]);omega)) rfl ?_)
      refine oNo rfl (opw_extract (v:=.bool ok) (vs:=#[.int .i64 n,.bool ok]) (by simp (disch:=(try simp only [sPu]);omega)) rfl ?_)
      repeat (first | (apply ops_1;(focus (simp (disch:=(try simp only [sPu]);omega) ;try rfl))) | (apply ops_y;(focus rfl);(focus ((try simp only [sPu]);omega));(focus (simp (disch:=(try simp only [sPu]);omega);done));(focus (simp (disch:=(try simp only [sPu]);omega) ;try rfl))) | (apply ops_n;(focus rfl);(focus ((try simp only [sPu]);omega));(focus (first | (left;simp (disch:=(try simp only [sPu]);omega);done) | (right;simp (disch:=(try simp only [sPu]);omega);done)))))
      refine oNi (SC.wp_seq (SC.wp_reg ?_))
      iterate 1 (first | (apply ops_1;(focus (simp (disch:=(try simp only [sPu]);omega) [u0];try rfl))) | (apply ops_y;(focus rfl);(focus ((try simp only [sPu]);omega));(focus (simp (disch:=(try simp only [sPu]);omega) [u0];done));(focus (simp (disch:=(try simp only [sPu]);omega) [u0];try rfl))) | (apply ops_n;(focus rfl);(focus ((try simp only [sPu]);omega));(focus (first | (left;simp (disch:=(try simp only [sPu]);omega) [u0];done) | (right;simp (disch:=(try simp only [sPu]);omega);done)))))
      refine oNo rfl (opw_toBytes (l:=l) hst h3 hE (by simp (disch:=(try simp only [sPu]);omega) [u0]) fun cap w3 hsr hb3 hs3=>?_)
      have hb3':=hb2'.trans (hb3.mono hb2'.size)
      have hc2:=c2.2 w3 l (some w2.heap.size) (some ⟨w2.heap.size,0,none⟩) cap (hG _ _ hg hb3') hp hsr (fun sb h=>by cases h;exact hs3)
      rw [hN,hB] at hc2
      refine ops_call c2.1 hc2 (by simp (disch:=(try simp only [sPu]);omega)) ?_
      rintro e w4 ⟨rfl,hb4⟩
      refine ⟨_,rfl,?_⟩
      have hb4':=hb3'.trans (hb4.mono hb3'.size)
      iterate 1 (first | (apply ops_1;(focus (simp (disch:=(try simp only [sPu]);omega) ;try rfl))) | (apply ops_y;(focus rfl);(focus ((try simp only [sPu]);omega));(focus (simp (disch:=(try simp only [sPu]);omega);done));(focus (simp (disch:=(try simp only [sPu]);omega) ;try rfl))) | (apply ops_n;(focus rfl);(focus ((try simp only [sPu]);omega));(focus (first | (left;simp (disch:=(try simp only [sPu]);omega);done) | (right;simp (disch:=(try simp only [sPu]);omega);done)))))
      refine oNo rfl (opw_extract (v:=.int .i64 n) (vs:=#[.int .i64 n,.bool ok]) (by simp (disch:=(try simp only [sPu]);omega)) rfl ?_)
      refine oNo rfl (opw_extract (v:=.bool ok) (vs:=#[.int .i64 n,.bool ok]) (by simp (disch:=(try simp only [sPu]);omega)) rfl ?_)
      repeat (first | (apply ops_1;(focus (simp (disch:=(try simp only [sPu]);omega) ;try rfl))) | (apply ops_y;(focus rfl);(focus ((try simp only [sPu]);omega));(focus (simp (disch:=(try simp only [sPu]);omega);done));(focus (simp (disch:=(try simp only [sPu]);omega) ;try rfl))) | (apply ops_n;(focus rfl);(focus ((try simp only [sPu]);omega));(focus (first | (left;simp (disch:=(try simp only [sPu]);omega);done) | (right;simp (disch:=(try simp only [sPu]);omega);done)))))
      refine oNi (SC.wp_seq (SC.wp_reg ?_))
      refine ops_call c3.1 (c3.2 w4) (by simp (disch:=(try simp only [sPu]);omega)) ?_
      rintro e w5 ⟨rfl,rfl⟩
      refine ⟨_,rfl,?_⟩
      have hb5':Below w.heap.size w (w4.alloc (.cells (nTab.map nRow).flatten.toArray T40)):=hb4'.alloc hb4'.size _
      have hnm5:NamesAt (w4.alloc (.cells (nTab.map nRow).flatten.toArray T40)) T40 w4.heap.size nTab:=heap_alloc_new w4 _
      generalize w4.alloc (.cells (nTab.map nRow).flatten.toArray T40)=w5 at *
      iterate 3 (first | (apply ops_1;(focus (simp (disch:=(try simp only [sPu]);omega) [u0];try rfl))) | (apply ops_y;(focus rfl);(focus ((try simp only [sPu]);omega));(focus (simp (disch:=(try simp only [sPu]);omega) [u0];done));(focus (simp (disch:=(try simp only [sPu]);omega) [u0];try rfl))) | (apply ops_n;(focus rfl);(focus ((try simp only [sPu]);omega));(focus (first | (left;simp (disch:=(try simp only [sPu]);omega) [u0];done) | (right;simp (disch:=(try simp only [sPu]);omega);done)))))
      have hc4:=c4.2 w5 w4.heap.size l hnm5 hp1
      rw [hN,hB] at hc4
      refine ops_call c4.1 hc4 (by simp (disch:=(try simp only [sPu]);omega) [u0]) ?_
      rintro e w6 ⟨rfl,hb6⟩
      refine ⟨_,rfl,?_⟩
      have hb6':=hb5'.trans (hb6.mono hb5'.size)
      iterate 1 (first | (apply ops_1;(focus (simp (disch:=(try simp only [sPu]);omega) ;try rfl))) | (apply ops_y;(focus rfl);(focus ((try simp only [sPu]);omega));(focus (simp (disch:=(try simp only [sPu]);omega);done));(focus (simp (disch:=(try simp only [sPu]);omega) ;try rfl))) | (apply ops_n;(focus rfl);(focus ((try simp only [sPu]);omega));(focus (first | (left;simp (disch:=(try simp only [sPu]);omega);done) | (right;simp (disch:=(try simp only [sPu]);omega);done)))))
      refine ops_callg (dj:=29) rfl (by (try simp only [sPu]);omega) (by simp (disch:=(try simp only [sPu]);omega)) c3.1 (c3.2 w6) (by simp (disch:=(try simp only [sPu]);omega)) ?_
      rintro e w7 ⟨rfl,rfl⟩
      refine ⟨_,rfl,?_⟩
      have hb7':Below w.heap.size w (w6.alloc (.cells (nTab.map nRow).flatten.toArray T40)):=hb6'.alloc hb6'.size _
      have hnm7:NamesAt (w6.alloc (.cells (nTab.map nRow).flatten.toArray T40)) T40 w6.heap.size nTab:=heap_alloc_new w6 _
      generalize w6.alloc (.cells (nTab.map nRow).flatten.toArray T40)=w7 at *
      iterate 3 (first | (apply ops_1;(focus (simp (disch:=(try simp only [sPu]);omega) [u0];try rfl))) | (apply ops_y;(focus rfl);(focus ((try simp only [sPu]);omega));(focus (simp (disch:=(try simp only [sPu]);omega) [u0];done));(focus (simp (disch:=(try simp only [sPu]);omega) [u0];try rfl))) | (apply ops_n;(focus rfl);(focus ((try simp only [sPu]);omega));(focus (first | (left;simp (disch:=(try simp only [sPu]);omega) [u0];done) | (right;simp (disch:=(try simp only [sPu]);omega);done)))))
      have hc5:=c4.2 w7 w6.heap.size l hnm7 hp1
      rw [hN,hB] at hc5
      refine ops_callg (dj:=29) rfl (by (try simp only [sPu]);omega) (by simp (disch:=(try simp only [sPu]);omega)) c4.1 hc5 (by simp (disch:=(try simp only [sPu]);omega) [u0]) ?_
      rintro e w8 ⟨rfl,hb8⟩
      refine ⟨_,rfl,?_⟩
      have hb8':=hb7'.trans (hb8.mono hb7'.size)
      repeat (first | (apply ops_1;(focus (simp (disch:=(try simp only [sPu]);omega) ;try rfl))) | (apply ops_y;(focus rfl);(focus ((try simp only [sPu]);omega));(focus (simp (disch:=(try simp only [sPu]);omega);done));(focus (simp (disch:=(try simp only [sPu]);omega) ;try rfl))) | (apply ops_n;(focus rfl);(focus ((try simp only [sPu]);omega));(focus (first | (left;simp (disch:=(try simp only [sPu]);omega);done) | (right;simp (disch:=(try simp only [sPu]);omega);done)))))
      refine oNi (SC.wp_ret ?_)
      try simp only [Exit.then]
      exact ret_tmp hr (by simp [dPu,hd]) ⟨by simp (disch:=(try simp only [sPu]);omega),hb8'⟩
  · rw [if_pos rfl]
    refine SC.wp_seq (SC.wp_reg ?_)
    repeat (first | (apply ops_1;(focus (simp (disch:=(try simp only [sPu]);omega) ;try rfl))) | (apply ops_y;(focus rfl);(focus ((try simp only [sPu]);omega));(focus (simp (disch:=(try simp only [sPu]);omega);done));(focus (simp (disch:=(try simp only [sPu]);omega) ;try rfl))) | (apply ops_n;(focus rfl);(focus ((try simp only [sPu]);omega));(focus (first | (left;simp (disch:=(try simp only [sPu]);omega);done) | (right;simp (disch:=(try simp only [sPu]);omega);done)))))
    refine oNi (SC.wp_ret ?_)
    try simp only [Exit.then]
    exact ret_tmp hr (by simp [dPu,hd]) ⟨by simp (disch:=(try simp only [sPu]);omega),Below.refl _ _⟩
end
end Go.Proofs.YtecdefhecaeclaaDoor.K
namespace Go.Proofs.YtecdefhecaeclaaDoor.K
open Go Go.RowKit Go.Proofs Go.Shelf Go.Proofs.YtecdefhecaeclaaDoor.T
set_option linter.unusedSimpArgs false
set_option linter.unusedVariables false
def AsciiTab (P : Program) (w : World) : Prop := Lib.TabIs P w "strings.asciiSpace" .u8 Lib.asciiSpaceTab
theorem var_below {P:Program} {w w':World} {n:String} {cs:Array Value} (h:w.var? P n=some cs) (hb:Below w.heap.size w w'):w'.var? P n=some cs:=by
  unfold World.var? at h ⊢
  cases hg:P.globalNamed n with
  | none=>simp [hg] at h
  | some g =>
    simp only [hg,Option.bind_some] at h ⊢
    have hlt:g < w.heap.size:=by
      rcases Nat.lt_or_ge g w.heap.size with h' | h'
      · exact h'
      · simp [Array.getElem?_eq_none h'] at h
    rw [hb.block g hlt]
    exact h
theorem asciiTab_holds (P:Program):Holds (AsciiTab P):=fun w w' h hb=>var_below h hb
section
variable {P:Program} {ρ:Ren}
theorem plain_ascii {l:Bytes} (h:Plain l):∀ (j:Nat) (b:UInt8),(⟨l.toArray⟩:ByteArray).data.toList[j]?=some b→b.toNat < 128 :=
  fun j b hb=>h.2 b (List.mem_of_getElem? (by simpa using hb))
theorem plain_size {l:Bytes} (h:Plain l):(⟨l.toArray⟩:ByteArray).size≤200:=by
  show l.toArray.size≤200
  simpa using h.1
theorem trimC_of {F:Nat} (L:Lays.n163 P ρ) (XS:Space.Extra P ρ) (hF:ρ.f 163=F) (ok:FnOK P F):TrimC P (AsciiTab P) F :=
  ⟨ok,fun w l hg hp=>by
    have h:=Any.strings_TrimSpace L XS ⟨l.toArray⟩ w (by have:=plain_size hp;omega) (plain_ascii hp) hg
    rw [hF] at h
    refine h.mono fun e w' ⟨he,hw⟩=>⟨?_,?_⟩
    · rw [he]
    · rw [hw]
      exact bytesW_below w _ _⟩
theorem lowC_of {F:Nat} (L:Lays.n159 P ρ) (X:Builder.Extra P ρ) (hF:ρ.f 159=F) (ok:FnOK P F):LowC P F :=
  ⟨ok,fun w l hp=>by
    have h:=Any.strings_ToLower_ascii L X ⟨l.toArray⟩ w (by have:=plain_size hp;omega) (plain_ascii hp)
    rw [hF] at h
    refine h.mono fun e w' ⟨he,hw⟩=>⟨?_,hw⟩
    rw [he]⟩
end
end Go.Proofs.YtecdefhecaeclaaDoor.K
